import PyProof.Rows.All
import Wide.All
import OpenK.AllK
import Wide.FinOn
import KE.KIntText
import KE.KxDecode
import KE.BytesMake
import KE.KSetIn
import PyProof.ListCopy
import OpenK.KMeth
import OpenK.KOps
import KE.KOpsOwn
import KE.KOwnIter
import KE.KDictList
import KE.KDictIter
import PyProof.JoinWalk
import KE.KDictAny
import OpenK.KDict
import KE.KItemsList
import KE.KEqDict
import KE.BytesK
import PyProof.Rows.StrPartPair
import PySem.Challenge.RW_fi0022_01
set_option Elab.async false
set_option maxRecDepth 100000
set_option linter.unusedVariables false
section
open PySem PySem.W PyProof.Rows
namespace Mine
section
local macro_rules | `(tactic| o_head $_h) => `(tactic| assumption)
set_option maxRecDepth 100000 in
set_option maxHeartbeats 0 in
theorem hd (hh : PySem.W.OpenRow.Holds PySem.Challenge.rw_fi0022_01.row) : PySem.W.OpenRow.Holds PySem.Challenge.rw_fi0022_01.row := by
  w_on
  km_head
end
end Mine
end
section
open PySem
namespace Mine
theorem Runs.size_le {M : Model} {Γ : Ctx} {p : Pos} {t : Sem Fin} {fs : List PySem.Frame} {s s' : Shared} {e : End} (h : Runs M Γ p t fs s e s') : s.heap.objs.size ≤ s'.heap.objs.size := by
  induction h <;> (try dsimp only [Shared.setGen] at *) <;> (try simp only [Heap.size_push, Heap.size_after_update] at *) <;> omega

theorem Returns.size_le {M : Model} {Γ : Ctx} {p : Pos} {s s' : Shared} {r : Result} (h : Returns M Γ p s r s') : s.heap.objs.size ≤ s'.heap.objs.size := Runs.size_le h
theorem Wakes.size_le {M : Model} {Γ : Ctx} {p : Pos} {g : Nat} {r : Resume} {s s' : Shared} {res : GenResult} (h : Wakes M Γ p g r s res s') : s.heap.objs.size ≤ s'.heap.objs.size := by
  unfold Wakes at h
  split at h
  · exact h.elim
  · split at h
    · obtain ⟨e₁, s₁, hr, _, _, rfl⟩ := h; exact (Runs.size_le hr : (s.setGen g .running).heap.objs.size ≤ s₁.heap.objs.size)
    · rw [h.2]; exact Nat.le_refl _
    · rw [h.2]; exact Nat.le_refl _
  · obtain ⟨e₁, s₁, hr, _, _, rfl⟩ := h; exact (Runs.size_le hr : (s.setGen g .running).heap.objs.size ≤ s₁.heap.objs.size)
  · rw [h.2]; exact Nat.le_refl _
  · rw [h.2]; exact Nat.le_refl _
theorem wp_size {α : Type} (M : Model) (Γ : Ctx) (n : Nat) (t : Sem α) : ∀ (Q : α → Pos → Shared → Prop) (E : Value → Pos → Shared → Prop) (p : Pos) (s : Shared), n ≤ s.heap.objs.size → Sem.wp M Γ t Q E p s →
    Sem.wp M Γ t (fun a p' s' => n ≤ s'.heap.objs.size ∧ Q a p' s') (fun e p' s' => n ≤ s'.heap.objs.size ∧ E e p' s') p s := by
  induction t with
  | pure a => intro Q E p s hn h; exact ⟨hn, h⟩
  | raise e => intro Q E p s hn h; exact ⟨hn, h⟩
  | unsupported _ => intro Q E p s _ h; exact h
  | finish _ => intro Q E p s _ h; exact h
  | rule _ k ih => intro Q E p s hn h; exact ih () Q E p s hn h
  | «at» p' k ih => intro Q E p s hn h; exact ih () Q E p' s hn h
  | load a _ k ih => intro Q E p s hn h; obtain ⟨o, ho, h⟩ := h; exact ⟨o, ho, ih o Q E p s hn h⟩
  | update a _ f k ih => intro Q E p s hn h; exact ⟨h.1, ih () Q E p _ (by dsimp only; rw [Heap.size_after_update]; exact hn) h.2⟩
  | loadIfAlive a k ih => intro Q E p s hn h; exact ih _ Q E p s hn h
  | point _ k ih => intro Q E p s hn h; exact ih () Q E p s hn h
  | register _ _ => intro Q E p s _ h; exact h
  | alloc o k ih => intro Q E p s hn h; exact ih _ Q E p _ (by dsimp only; rw [Heap.size_push]; exact Nat.le_succ_of_le hn) h
  | fresh k ih => intro Q E p s hn h; exact ih _ Q E p _ hn h
  | ask k ih => intro Q E p s hn h; exact ih _ Q E p s hn h
  | choose src m k ih => intro Q E p s hn h; exact ⟨h.1, ih _ Q E p _ hn h.2⟩
  | os q _ k ih => intro Q E p s hn h; exact ih _ Q E p _ hn h
  | call c hd _ _ k ih => intro Q E p s hn h; obtain ⟨r, s', hr, h⟩ := h; exact ⟨r, s', hr, ih r Q E p s' (Nat.le_trans hn (Returns.size_le hr)) h⟩
  | handled own k ih => intro Q E p s hn h; exact ih _ Q E p s hn h
  | genState g k ih => intro Q E p s hn h; obtain ⟨st, hs, h⟩ := h; exact ⟨st, hs, ih _ Q E p s hn h⟩
  | newGen c k ih => intro Q E p s hn h; exact ih _ Q E p _ hn h
  | resume g r _ k ih => intro Q E p s hn h; obtain ⟨res, s', hw, h⟩ := h; exact ⟨res, s', hw, ih res Q E p s' (Nat.le_trans hn (Wakes.size_le hw)) h⟩
  | yield _ _ _ _ => intro Q E p s _ h; exact h
  | stack k ih => intro Q E p s hn h; exact ih _ Q E p s hn h
  | fork _ _ => intro Q E p s _ h; exact h
  | thread k ih => intro Q E p s hn h; exact ih _ Q E p s hn h
  | await _ _ _ _ _ => intro Q E p s _ h; exact h
theorem wpAny_size_of {α : Type} {M : Model} {A : Around} {s : Shared} {t : Sem α} {Q : α → Shared → Prop} {E : Value → Shared → Prop} {n : Nat} (hn : n ≤ s.heap.objs.size) (h : wpAny M A t Q E s) :
    wpAny M A t (fun a s' => n ≤ s'.heap.objs.size ∧ Q a s') (fun e s' => n ≤ s'.heap.objs.size ∧ E e s') s :=
  fun Γ p hΓ => wp_size M Γ n t _ _ p s hn (h Γ p hΓ)
end Mine
end
section
open PySem PySem.W PyProof.Rows PySem.Calls PySem.Spec
namespace Mine
abbrev Led := List (Addr × Obj)
abbrev prog : Program := PySem.Challenge.pw_fi0022_01
noncomputable abbrev KF (w : World) : Frag := Mine.hd.heap_1 w.params

structure St where
  m : List (Str × Value)
  news : Led

def look (m : List (Str × Value)) : Str → Option Value := fun x => m.lookup x
def put (x : Str) (v : Value) : List (Str × Value) → List (Str × Value)
  | [] => [(x, v)]
  | p :: r => if x == p.1 then (x, v) :: r else p :: put x v r
theorem look_put (x : Str) (v : Value) (m : List (Str × Value)) : look (put x v m) = fun y => if y = x then some v else look m y := by
  funext y
  unfold look
  induction m with
  | nil =>
    simp only [put, List.lookup_cons, List.lookup_nil]
    by_cases h : y = x
    · subst h; simp
    · simp [h, beq_eq_false_iff_ne.mpr h]
  | cons p r ih =>
    obtain ⟨k, u⟩ := p
    simp only [put]
    by_cases hk : x = k
    · subst hk
      simp only [beq_self_eq_true, if_true, List.lookup_cons]
      by_cases h : y = x
      · subst h; simp
      · simp [h, beq_eq_false_iff_ne.mpr h]
    · simp only [beq_eq_false_iff_ne.mpr hk, Bool.false_eq_true, if_false, List.lookup_cons, ih]
      by_cases h : y = k
      · subst h
        have : ¬ y = x := fun e => hk e.symm
        simp [this]
      · simp [beq_eq_false_iff_ne.mpr h]

/-- what is known of the base heap -/
structure Bs (w : World) (mg mb : Str → Option Value) (h : Heap) : Prop where
  X : (KF w).In h
  g : h.Ns mainGlobals mg
  b : h.Ns builtinsNs mb
  nolimit : h.NoLimit
  builtins : ∀ x : Str, x ≠ "__name__" → mb x = bootBuiltins x
  bmain : ∃ bm ob, mg "__builtins__" = some (.ref bm) ∧ bm ≠ builtinsNs ∧ h.get? bm = some ob ∧ ob.cls = .type "module" ∧ ob.dict = some builtinsNs ∧ ob.data = .plain
theorem Bs.keeps {w : World} {mg mb : Str → Option Value} {h h' : Heap} (T : Bs w mg mb h) (hk : ∀ b o, h.get? b = some o → h'.get? b = some o) : Bs w mg mb h' :=
  ⟨T.X.keeps hk, T.g.keeps hk, T.b.keeps hk, T.nolimit.keeps hk, T.builtins, let ⟨bm, ob, a, b, c, d⟩ := T.bmain; ⟨bm, ob, a, b, hk _ _ c, d⟩⟩

/-- an activation: where the walk stands -/
structure Cx where
  w : World
  mg : Str → Option Value
  mb : Str → Option Value
  A₀ : Around
  A : Around
  base : Heap
  outer : List Env
  h₀ : Heap
  L : Addr
  env : Env
  os : OsState
  gb : Array GenState
  u0 : Option (Addr × Obj)
  sb : Nat
  room : Nat
  B : Below A₀ base outer h₀
  T : Bs w mg mb h₀
  Tg : Bs w mg mb base
  kd : KtsDicts (outer.filterMap (·.frame)) h₀
  fr : A.frames = some (env :: outer)
  ef : env.frame = some L
  el : env.locals = L
  eg : env.globals = mainGlobals
  eb : env.builtins = builtinsNs
  ek : env.scope.kind = .function
  hh : A.handled = none
  gd : A.guards = some []
  dp : A.depth + room < recursionLimit
  un : A.units + 8 * room + 8 < cLine

/-- the three tables of codes that grow at run time: each empty, or with its one entry -/
structure Tb where
  q : Option Value
  p : Option Value
  u : Option (Addr × Obj)
def tabG (l c : Nat) : Option Value → Obj
  | none => tabObj #[]
  | some v => tabObj #[rawInt l, rawInt c, v]
def tabU : Option (Addr × Obj) → Led
  | none => [(60, tabObj #[])]
  | some q => [(60, tabObj #[rawInt (39 : Nat), rawInt (31 : Nat), .ref q.1]), q]
def tabsOf (δ : Tb) : Led := (48, tabG 32 15 δ.q) :: (72, tabG 81 51 δ.p) :: tabU δ.u
def okU : Option (Addr × Obj) → Prop
  | none => True
  | some q => ∃ vs t, q.2.data = .fields vs ∧ vs[1]? = some (.str "unquote_header_value.<locals>.<lambda>" t)
structure HeldD (C : Cx) (δ : Tb) (st : St) (s : Shared) : Prop where
  F : Fr C.h₀ C.L s.heap (look st.m)
  N : News C.h₀ C.L s.heap (st.news ++ tabsOf δ)
  nd : ((st.news ++ tabsOf δ).map (·.1)).Nodup
  ok : okU δ.u
  os : s.os = C.os
  gens : AllBare s.gens
  gp : ∀ k, k < C.gb.size → s.gens[k]? = C.gb[k]?
  us : ∀ q, δ.u = some q → C.u0 = some q ∨ C.sb ≤ q.1
  uk : ∀ q, C.u0 = some q → δ.u = some q
structure Held (C : Cx) (st : St) (s : Shared) : Prop where
  ex : ∃ δ, HeldD C δ st s
structure Holds (C : Cx) (st : St) (s : Shared) : Prop extends Held C st s where
  tp : 0 < s.toks
  sz : C.sb ≤ s.heap.objs.size
section
variable {C : Cx} {st : St} {s : Shared}
noncomputable def Held.δ (H : Held C st s) : Tb := H.ex.choose
theorem Held.d (H : Held C st s) : HeldD C H.δ st s := H.ex.choose_spec
theorem Held.F (H : Held C st s) : Fr C.h₀ C.L s.heap (look st.m) := H.d.F
theorem Held.N (H : Held C st s) : News C.h₀ C.L s.heap (st.news ++ tabsOf H.δ) := H.d.N
theorem Held.nd (H : Held C st s) : ((st.news ++ tabsOf H.δ).map (·.1)).Nodup := H.d.nd
theorem Held.ok (H : Held C st s) : okU H.δ.u := H.d.ok
theorem Held.os (H : Held C st s) : s.os = C.os := H.d.os
theorem Held.gens (H : Held C st s) : AllBare s.gens := H.d.gens
theorem Held.gp (H : Held C st s) : ∀ k, k < C.gb.size → s.gens[k]? = C.gb[k]? := H.d.gp
theorem Held.us (H : Held C st s) : ∀ q, H.δ.u = some q → C.u0 = some q ∨ C.sb ≤ q.1 := H.d.us
theorem Held.uk (H : Held C st s) : ∀ q, C.u0 = some q → H.δ.u = some q := H.d.uk
theorem Held.at (H : Held C st s) {p : Addr × Obj} (hm : p ∈ st.news) : s.heap.get? p.1 = some p.2 ∧ p.1 ≠ C.L ∧ C.h₀.get? p.1 = none := H.N p (List.mem_append_left _ hm)
theorem Held.get (H : Held C st s) {a : Addr} {o : Obj} (hm : (a, o) ∈ st.news) : s.heap.get? a = some o := (H.at hm).1
end

/-- the tree ends well from every state that st tells of -/
def Ev {α : Type} (C : Cx) (E : Value → Shared → Prop) (t : Sem α) (st : St) (Q : α → St → Prop) : Prop :=
  ∀ s, Holds C st s → wpAny (model prog C.w) C.A t (fun v s' => ∃ st', Held C st' s' ∧ Q v st') E s

section
variable {α β : Type} {C : Cx} {E : Value → Shared → Prop} {st : St}

theorem Held.upd {s : Shared} {h' : Heap} {tk : Nat} {st' : St} (H : Held C st s) (F : Fr C.h₀ C.L h' (look st'.m)) (N : News C.h₀ C.L h' (st'.news ++ tabsOf H.δ)) (nd : ((st'.news ++ tabsOf H.δ).map (·.1)).Nodup) :
    Held C st' { s with heap := h', toks := tk } := ⟨H.δ, F, N, nd, H.ok, H.os, H.gens, H.gp, H.us, H.uk⟩
theorem Held.tok {s : Shared} {tk : Nat} (H : Held C st s) : Held C st { s with toks := tk } := ⟨H.δ, H.F, H.N, H.nd, H.ok, H.os, H.gens, H.gp, H.us, H.uk⟩

abbrev Post (C : Cx) (Q : α → St → Prop) : α → Shared → Prop := fun v s' => ∃ st', Held C st' s' ∧ Q v st'
theorem L1q {t : Sem α} {Q : α → St → Prop} {R : α → Shared → Prop} (h : Ev C E t st Q) (k : ∀ a st' s', Holds C st' s' → Q a st' → R a s') {s : Shared} (H : Holds C st s) :
    wpAny (model prog C.w) C.A t R E s :=
  wpAny_mono (wpAny_size_of H.sz (wpAny_toks_of H.tp (h s H))) (fun a s₁ ⟨hz, hp, st₁, H₁, h₁⟩ => k _ _ _ ⟨H₁, hp, hz⟩ h₁) fun _ _ e => e.2.2
theorem L1 {t : Sem α} {k : α → Sem β} {Q : β → St → Prop} (h : Ev C E t st fun a st₁ => Ev C E (k a) st₁ Q) {s : Shared} (H : Holds C st s) :
    wpAny (model prog C.w) C.A t (fun a s₁ => wpAny (model prog C.w) C.A (k a) (Post C Q) E s₁) E s :=
  L1q h (fun a st₁ s₁ H₁ h₁ => h₁ s₁ H₁) H

theorem Ev.pure {a : α} {Q : α → St → Prop} (h : Q a st) : Ev C E (pure a) st Q := fun s H => wpAny_pure ⟨st, H.toHeld, h⟩
theorem Ev.mono {t : Sem α} {Q Q' : α → St → Prop} (h : Ev C E t st Q) (k : ∀ a st', Q a st' → Q' a st') : Ev C E t st Q' :=
  fun s H => wpAny_mono (h s H) (fun a s' ⟨st', H', q⟩ => ⟨st', H', k _ _ q⟩) fun _ _ e => e
theorem Ev.bind {m : Sem α} {f : α → Sem β} {Q : β → St → Prop} (h : Ev C E m st fun a st' => Ev C E (f a) st' Q) : Ev C E (m >>= f) st Q :=
  fun s H => wpAny_bind (L1 h H)

-- names and literals
theorem e_local {env : Env} {x : Str} {pos : Pos} {v : Value} {Q : Value → St → Prop} (h : Q v st) (hv : look st.m x = some v) (hL : env.locals = C.L) (hl : env.kindOf x = some .local) (hk : env.scope.kind = .function)
    (hd : (x == ("__debug__" : Str)) = false) : Ev C E (eval (.Name x pos) env) st Q := fun s H =>
  wpAny_Name (wpAny_loadName_local hk hl (hL ▸ H.F.ns) hv ⟨st, H.toHeld, h⟩) hd
theorem e_global {env : Env} {x : Str} {pos : Pos} {v : Value} {Q : Value → St → Prop} (h : Q v st) (hv : nsIn (KF C.w) mainGlobals x = some (some v)) (hg : env.globals = mainGlobals) (hl : env.kindOf x = some .globalImplicit) (hk : env.scope.kind = .function)
    (hd : (x == ("__debug__" : Str)) = false) : Ev C E (eval (.Name x pos) env) st Q := fun s H =>
  Name_function_global hk hl (loadGlobal_global (env := env) (by rw [hg]; exact C.T.g.keeps H.F.keep) (mg_of C.T.X C.T.g hv) ⟨st, H.toHeld, h⟩) hd
theorem e_builtin {env : Env} {x : Str} {pos : Pos} {v : Value} {Q : Value → St → Prop} (h : Q v st) (hv : nsIn (KF C.w) mainGlobals x = some none) (hb : bootBuiltins x = some v) (hn : x ≠ "__name__") (hg : env.globals = mainGlobals) (heb : env.builtins = builtinsNs)
    (hl : env.kindOf x = some .globalImplicit) (hk : env.scope.kind = .function) (hd : (x == ("__debug__" : Str)) = false) : Ev C E (eval (.Name x pos) env) st Q := fun s H =>
  Name_function_global hk hl (loadGlobal_builtin (env := env) (by rw [hg]; exact C.T.g.keeps H.F.keep) (mg_none_of C.T.X C.T.g hv) (by rw [heb]; exact C.T.b.keeps H.F.keep) ((C.T.builtins x hn).trans hb) ⟨st, H.toHeld, h⟩) hd
theorem e_cell {env : Env} {x : Str} {pos : Pos} {c : Addr} {o : Obj} {v : Value} {Q : Value → St → Prop} (h : Q v st) (hc : env.cells.lookup x = some c) (hm : (c, o) ∈ st.news) (ho : o.data = .cell (some v)) (hl : env.kindOf x = some .cell) (hk : env.scope.kind = .function)
    (hd : (x == ("__debug__" : Str)) = false) : Ev C E (eval (.Name x pos) env) st Q := fun s H =>
  wpAny_Name (wpAny_loadName_cell hk hl hc ⟨o, H.get hm, ho⟩ ⟨st, H.toHeld, h⟩) hd
theorem e_int {env : Env} {i : Int} {k : Nat} {pos : Pos} {Q : Value → St → Prop} (h : ∀ t, Q (.int i t) st) : Ev C E (eval (.Constant (.int i) k pos) env) st Q := fun s H => wpAny_Constant_int ⟨st, H.tok, h _⟩
theorem e_str {env : Env} {x : Str} {k : Nat} {pos : Pos} {Q : Value → St → Prop} (h : ∀ t, Q (.str x t) st) : Ev C E (eval (.Constant (.str x) k pos) env) st Q := fun s H => wpAny_Constant_str ⟨st, H.tok, h _⟩
theorem e_none {env : Env} {k : Nat} {pos : Pos} {Q : Value → St → Prop} (h : Q .none st) : Ev C E (eval (.Constant .none k pos) env) st Q := fun s H => wpAny_Constant_none ⟨st, H.toHeld, h⟩
theorem e_bool {env : Env} {b : Bool} {k : Nat} {pos : Pos} {Q : Value → St → Prop} (h : Q (.bool b) st) : Ev C E (eval (.Constant (.bool b) k pos) env) st Q := fun s H => wpAny_Constant_bool ⟨st, H.toHeld, h⟩

-- expressions
theorem e_binop {env : Env} {l op r pos} {Q : Value → St → Prop} (h : Ev C E (eval l env) st fun a st₁ => Ev C E (eval r env) st₁ fun b st₂ => Ev C E (binaryOp op a b) st₂ Q) : Ev C E (eval (.BinOp l op r pos) env) st Q :=
  fun s H => wpAny_BinOp (L1q h (fun a st₁ s₁ H₁ h₁ => L1 h₁ H₁) H)
theorem e_compare {env : Env} {l op r pos} {Q : Value → St → Prop} (h : Ev C E (eval l env) st fun a st₁ => Ev C E (eval r env) st₁ fun b st₂ => Ev C E (compareOp op a b) st₂ Q) (hm : behindInMarks op r = false) : Ev C E (eval (.Compare l [op] [r] pos) env) st Q :=
  fun s H => wpAny_Compare1 (L1q h (fun a st₁ s₁ H₁ h₁ => L1 h₁ H₁) H) hm
theorem t_compare {env : Env} {l op r pos whole} {Q : Bool → St → Prop} (h : Ev C E (eval l env) st fun a st₁ => Ev C E (eval r env) st₁ fun b st₂ => Ev C E (compareOp op a b) st₂ fun c st₃ => Ev C E (truthy c) st₃ Q) (hm : behindInMarks op r = false) : Ev C E (isTrue (.Compare l [op] [r] pos) env whole) st Q :=
  fun s H => wpAny_isTrue_Compare1 (L1q h (fun a st₁ s₁ H₁ h₁ => L1q h₁ (fun b st₂ s₂ H₂ h₂ => L1 h₂ H₂) H₁) H) hm
theorem e_unary {env : Env} {op x pos} {Q : Value → St → Prop} (h : Ev C E (eval x env) st fun a st₁ => Ev C E (unaryOp op a) st₁ Q) : Ev C E (eval (.UnaryOp op x pos) env) st Q := fun s H => UnaryOp_ (L1 h H)
theorem e_ifexp {env : Env} {test body orelse pos} {Q : Value → St → Prop} (h : Ev C E (isTrue test env (eval test env)) st fun c st₁ => if c then Ev C E (eval body env) st₁ Q else Ev C E (eval orelse env) st₁ Q) : Ev C E (eval (.IfExp test body orelse pos) env) st Q :=
  fun s H => IfExp_ (L1q h (fun c st₁ s₁ H₁ h₁ => by cases c <;> exact h₁ s₁ H₁) H)
theorem e_bool1 {env : Env} {op e pos} {Q : Value → St → Prop} (h : Ev C E (eval e env) st Q) : Ev C E (eval (.BoolOp op [e] pos) env) st Q := h
theorem e_and {env : Env} {e₁ e₂ rest pos} {Q : Value → St → Prop} (h : Ev C E (eval e₁ env) st fun v st₁ => Ev C E (truthy v) st₁ fun c st₂ => if c then Ev C E (eval (.BoolOp .And (e₂ :: rest) pos) env) st₂ Q else Q v st₂) : Ev C E (eval (.BoolOp .And (e₁ :: e₂ :: rest) pos) env) st Q :=
  fun s H => BoolOp_and (L1q h (fun v st₁ s₁ H₁ h₁ => L1q h₁ (fun c st₂ s₂ H₂ h₂ => by cases c; exact ⟨_, H₂.toHeld, h₂⟩; exact h₂ s₂ H₂) H₁) H)
theorem e_or {env : Env} {e₁ e₂ rest pos} {Q : Value → St → Prop} (h : Ev C E (eval e₁ env) st fun v st₁ => Ev C E (truthy v) st₁ fun c st₂ => if c then Q v st₂ else Ev C E (eval (.BoolOp .Or (e₂ :: rest) pos) env) st₂ Q) : Ev C E (eval (.BoolOp .Or (e₁ :: e₂ :: rest) pos) env) st Q :=
  fun s H => BoolOp_or (L1q h (fun v st₁ s₁ H₁ h₁ => L1q h₁ (fun c st₂ s₂ H₂ h₂ => by cases c; exact h₂ s₂ H₂; exact ⟨_, H₂.toHeld, h₂⟩) H₁) H)
theorem t_not {env : Env} {x pos whole} {Q : Bool → St → Prop} (h : Ev C E (isTrue x env (eval x env)) st fun c st' => Q (!c) st') : Ev C E (isTrue (.UnaryOp .Not x pos) env whole) st Q := fun s H => isTrue_not (h s H)
theorem t_and0 {env : Env} {pos whole} {Q : Bool → St → Prop} (h : Q true st) : Ev C E (isTrue (.BoolOp .And [] pos) env whole) st Q := fun s H => isTrue_and_nil ⟨_, H.toHeld, h⟩
theorem t_or0 {env : Env} {pos whole} {Q : Bool → St → Prop} (h : Q false st) : Ev C E (isTrue (.BoolOp .Or [] pos) env whole) st Q := fun s H => isTrue_or_nil ⟨_, H.toHeld, h⟩
theorem t_and {env : Env} {x rest pos whole} {Q : Bool → St → Prop} (h : Ev C E (isTrue x env (eval x env)) st fun c st' => if c then Ev C E (isTrue (.BoolOp .And rest pos) env whole) st' Q else Q false st') : Ev C E (isTrue (.BoolOp .And (x :: rest) pos) env whole) st Q :=
  fun s H => isTrue_and (L1q h (fun c st₁ s₁ H₁ h₁ => by cases c; exact ⟨_, H₁.toHeld, h₁⟩; exact h₁ s₁ H₁) H)
theorem t_or {env : Env} {x rest pos whole} {Q : Bool → St → Prop} (h : Ev C E (isTrue x env (eval x env)) st fun c st' => if c then Q true st' else Ev C E (isTrue (.BoolOp .Or rest pos) env whole) st' Q) : Ev C E (isTrue (.BoolOp .Or (x :: rest) pos) env whole) st Q :=
  fun s H => isTrue_or (L1q h (fun c st₁ s₁ H₁ h₁ => by cases c; exact h₁ s₁ H₁; exact ⟨_, H₁.toHeld, h₁⟩) H)
def plainTest : Expr → Bool
  | .UnaryOp .Not _ _ | .BoolOp .. | .IfExp .. | .Compare .. => false
  | _ => true
theorem t_plain {env : Env} {e whole} {Q : Bool → St → Prop} (h : Ev C E whole st fun v st₁ => Ev C E (truthy v) st₁ Q) (he : plainTest e = true) : Ev C E (isTrue e env whole) st Q := fun s H => isTrue_plain (L1 h H) (by
  cases e with
  | UnaryOp op _ _ => cases op <;> first | rfl | cases he
  | _ => first | rfl | cases he)
theorem e_sub {env : Env} {value slice pos} {Q : Value → St → Prop} (h : Ev C E (eval value env) st fun o st₁ => Ev C E (eval slice env) st₁ fun i st₂ => Ev C E (subscriptTail value slice o i) st₂ Q) : Ev C E (eval (.Subscript value slice pos) env) st Q :=
  fun s H => Subscript_ (L1q h (fun a st₁ s₁ H₁ h₁ => L1 h₁ H₁) H)
theorem sp_nil {env : Env} {pos : Pos} {Q : List Value → St → Prop} (h : Q [] st) : Ev C E (spliced (backTo pos (starEach [] env))) st Q := fun s H => Calls.spliced_nil ⟨_, H.toHeld, h⟩
def noStar : List Expr → Bool
  | [] => true
  | .Starred .. :: _ => false
  | _ :: r => noStar r
theorem starEach_cons {e : Expr} {rest : List Expr} (env : Env) (h : noStar (e :: rest) = true) : starEach (e :: rest) env = (false, eval e env) :: starEach rest env := by
  cases e <;> first | rfl | cases h
theorem noStar_tail {e : Expr} {rest : List Expr} (h : noStar (e :: rest) = true) : noStar rest = true := by
  cases e <;> first | exact h | cases h
theorem starEach_plain : ∀ {es : List Expr} (env : Env), noStar es = true → (starEach es env).any (·.1) = false
  | [], _, _ => rfl
  | e :: rest, env, h => by rw [starEach_cons env h, List.any_cons, starEach_plain env (noStar_tail h)]; rfl
theorem backTo_any (pos : Pos) : ∀ l : List (Bool × Sem Value), (backTo pos l).any (·.1) = l.any (·.1) := by
  intro l
  unfold backTo
  induction l with
  | nil => rfl
  | cons x r ih => first | (simp only [List.map_cons, List.any_cons]; rw [ih]) | (simp [ih])
theorem backTo_plain {es : List Expr} (pos : Pos) (env : Env) (h : noStar es = true) : (backTo pos (starEach es env)).any (·.1) = false := by rw [backTo_any]; exact starEach_plain env h
theorem sp_cons {env : Env} {e : Expr} {rest : List Expr} {pos : Pos} {Q : List Value → St → Prop} (h : Ev C E (eval e env) st fun v st₁ => Ev C E (spliced (backTo pos (starEach rest env))) st₁ fun vs st₂ => Q (v :: vs) st₂)
    (he : noStar (e :: rest) = true) : Ev C E (spliced (backTo pos (starEach (e :: rest) env))) st Q :=
  fun s H => spliced_more (L1q h (fun v st₁ s₁ H₁ h₁ => h₁ s₁ H₁) H) (starEach_cons env he)
def notAttr : Expr → Bool
  | .Attribute .. => false
  | _ => true
theorem e_call {env : Env} {func : Expr} {args : List Expr} {pos : Pos} {Q : Value → St → Prop} (h : Ev C E (eval func env) st fun f st₁ => Ev C E (callWith pos f [] (backTo pos (starEach args env)) []) st₁ Q)
    (he : notAttr func = true) : Ev C E (eval (.Call func args [] pos) env) st Q := fun s H => Call_ (L1 h H) (by cases func <;> first | rfl | cases he)
def plainBase : Expr → Bool
  | .Call (.Name ..) [] [] _ => false
  | _ => true
theorem attributeBase_plain {o : Expr} {name : Str} {env : Env} {t : Sem Value} (h : plainBase o = true) : attributeBase o name env t = t := by
  cases o with
  | Call f as ks p =>
    cases f with
    | Name id np => cases as <;> cases ks <;> first | rfl | cases h
    | _ => rfl
  | _ => rfl
theorem e_method {env : Env} {o : Expr} {name : Str} {apos pos : Pos} {args : List Expr} {Q : Value → St → Prop}
    (h : Ev C E (eval o env) st fun ov st₁ => ∀ pl : Sem Bool, Ev C E (getMethod ov name pl) st₁ fun fx st₂ => Ev C E (callWith pos fx.1 fx.2 (backTo pos (starEach args env)) []) st₂ Q)
    (he : (plainBase o && noStar args && decide (args.length < 30) && (apos.endLine == pos.line)) = true) : Ev C E (eval (.Call (.Attribute o name apos) args [] pos) env) st Q := by
  simp only [Bool.and_eq_true, decide_eq_true_eq] at he
  obtain ⟨⟨⟨h1, h2⟩, h3⟩, h4⟩ := he
  intro s H
  refine MethodCall_ (pl := do return (← importBound o env).getD true) (L1q h (fun ov st₁ s₁ H₁ h₁ => L1q (h₁ _) (fun fx st₂ s₂ H₂ h₂ => h₂ s₂ H₂) H₁) H) ?_
  show (do
    let ov ← attributeBase o name env (eval o env)
    standAt apos.atName
    methodCall o name apos pos env ov (args.length + ([] : List Keyword).length) (backTo pos (starEach args env)) (backToKw pos (keywordEach [] env))) = _
  have hf : methodCallForm (args.length + ([] : List Keyword).length) (backTo pos (starEach args env)) (backToKw pos (keywordEach [] env)) = true := by
    have hp := backTo_plain pos env h2
    rw [List.any_eq_false] at hp
    unfold methodCallForm
    have hall : (backTo pos (starEach args env)).all (!·.1) = true := by rw [List.all_eq_true]; intro x hx; simpa using hp x hx
    rw [hall]
    have e0 : backToKw pos (keywordEach [] env) = [] := rfl
    rw [e0]
    simpa using h3
  rw [attributeBase_plain h1]
  unfold methodCall
  rw [hf]
  unfold methodCallPos calleeOf
  simp only [h4, Bool.not_true, Bool.false_or, if_true, pure_bind]
  rfl
theorem e_attr {env : Env} {value : Expr} {attr : Str} {pos : Pos} {Q : Value → St → Prop} (h : Ev C E (eval value env) st fun o st₁ => Ev C E (getAttr o attr true) st₁ Q)
    (he : plainBase value = true) : Ev C E (eval (.Attribute value attr pos) env) st Q := fun s H => Attribute_any_ (L1 h H) (by
      show (do
        let o ← attributeBase value attr env (eval value env)
        standAt pos.atName
        let r ← holding [o] (getAttr o attr true)
        letTemporaryGo value o r
        pure r) = _
      rw [attributeBase_plain he])
theorem cw_builtin {env : Env} {pos : Pos} {id : String} {first : List Value} {e : Expr} {rest : List Expr} {Q : Value → St → Prop} (h : Ev C E (spliced (backTo pos (starEach (e :: rest) env))) st fun vs st₁ => Ev C E (call (.builtin id) (first ++ vs)) st₁ Q)
    (he : noStar (e :: rest) = true) : Ev C E (callWith pos (.builtin id) first (backTo pos (starEach (e :: rest) env)) []) st Q := fun s H => callWith_method1 (L1 h H) (starEach_cons env he) (backTo_plain pos env (noStar_tail he))
theorem cw_builtin0 {env : Env} {pos : Pos} {id : String} {first : List Value} {Q : Value → St → Prop} (h : Ev C E (call (.builtin id) first) st Q) : Ev C E (callWith pos (.builtin id) first (backTo pos (starEach [] env)) []) st Q := fun s H => callWith_method0 (h s H)
theorem cw_type {env : Env} {pos : Pos} {T : String} {e : Expr} {rest : List Expr} {Q : Value → St → Prop} (h : Ev C E (spliced (backTo pos (starEach (e :: rest) env))) st fun vs st₁ => Ev C E (call (.type T) vs) st₁ Q)
    (he : noStar (e :: rest) = true) : Ev C E (callWith pos (.type T) [] (backTo pos (starEach (e :: rest) env)) []) st Q := fun s H => PyProof.Rows.callWith_type1 (L1 h H) (starEach_cons env he) (backTo_plain pos env (noStar_tail he))

-- statements
theorem x_nil {env : Env} {Q : Flow → St → Prop} (h : Q .next st) : Ev C E (execs [] env) st Q := fun s H => wpAny_execs_nil ⟨_, H.toHeld, h⟩
theorem x_cons {env : Env} {x rest} {Q : Flow → St → Prop} (h : Ev C E (exec x env) st fun f st' => match f with | .next => Ev C E (execs rest env) st' Q | f => Q f st') : Ev C E (execs (x :: rest) env) st Q :=
  fun s H => wpAny_execs_cons (L1q h (fun f st₁ s₁ H₁ h₁ => by cases f <;> first | exact h₁ s₁ H₁ | exact ⟨_, H₁.toHeld, h₁⟩) H)
theorem x_pass {env : Env} {pos} {Q : Flow → St → Prop} (h : Q .next st) : Ev C E (exec (.Pass pos) env) st Q := fun s H => wpAny_Pass ⟨_, H.toHeld, h⟩
theorem x_break {env : Env} {pos} {Q : Flow → St → Prop} (h : Q .brk st) : Ev C E (exec (.Break pos) env) st Q := fun s H => wpAny_Break ⟨_, H.toHeld, h⟩
theorem x_continue {env : Env} {pos} {Q : Flow → St → Prop} (h : Q .cont st) : Ev C E (exec (.Continue pos) env) st Q := fun s H => wpAny_Continue ⟨_, H.toHeld, h⟩
theorem x_expr {env : Env} {e pos} {Q : Flow → St → Prop} (h : Ev C E (eval e env) st fun _ st' => Q .next st') (hi : interactive env = false) (hs : swapsWith e none pos.line env = pure false) : Ev C E (exec (.Expr e pos) env) st Q := fun s H => wpAny_Expr_any (L1q h (fun _ _ _ H' h' => ⟨_, H'.toHeld, h'⟩) H) hi hs
theorem x_return {env : Env} {e pos} {Q : Flow → St → Prop} (h : Ev C E (eval e env) st fun v st' => Q (.ret v) st') : Ev C E (exec (.Return (some e) pos) env) st Q := fun s H => wpAny_Return_some (h s H)
theorem x_return0 {env : Env} {pos} {Q : Flow → St → Prop} (h : Q (.ret .none) st) : Ev C E (exec (.Return none pos) env) st Q := fun s H => wpAny_Return_none ⟨_, H.toHeld, h⟩
theorem x_if {env : Env} {test body orelse pos} {Q : Flow → St → Prop} (h : Ev C E (isTrue test env (eval test env)) st fun b st' => if b then Ev C E (execs body env) st' Q else Ev C E (execs orelse env) st' Q) : Ev C E (exec (.If test body orelse pos) env) st Q :=
  fun s H => wpAny_If (L1q h (fun c st₁ s₁ H₁ h₁ => by cases c <;> exact h₁ s₁ H₁) H)
theorem storeName_local' {env : Env} {x : Str} {v : Value} {Q : Unit → St → Prop} (h : Q () ⟨put x v st.m, st.news⟩) (hL : env.locals = C.L) (hl : env.kindOf x = some .local) (hk : env.scope.kind = .function) : Ev C E (storeName env x v) st Q := fun s H =>
  wpAny_storeName_local hl (hL ▸ H.F.ns) (fun h' hn hs => ⟨⟨put x v st.m, st.news⟩, H.upd (by rw [look_put]; exact H.F.set (hL ▸ hn) (hL ▸ hs)) (H.N.set (hL ▸ hs)) H.nd, h⟩)
    (by rw [hk]; rfl)
theorem x_assign {env : Env} {x : Str} {pos' value pos} {Q : Flow → St → Prop} (h : Ev C E (eval value env) st fun v st' => Q .next ⟨put x v st'.m, st'.news⟩) (hs : swapsWith value (some (.Name x pos')) pos.line env = pure false) (hL : env.locals = C.L) (hl : env.kindOf x = some .local)
    (hk : env.scope.kind = .function) : Ev C E (exec (.Assign [.Name x pos'] value pos) env) st Q := fun s H =>
  wpAny_Assign_Name (L1q h (fun v st₁ s₁ H₁ h₁ => storeName_local' (Q := fun _ st' => Q .next st') h₁ hL hl hk s₁ H₁) H) hs
theorem x_augassign {env : Env} {x : Str} {pos' op value pos} {Q : Flow → St → Prop} {old : Value} (hv : look st.m x = some old) (h : Ev C E (eval value env) st fun v st' => Ev C E (inplaceOp op old v) st' fun r st'' => Q .next ⟨put x r st''.m, st''.news⟩)
    (hL : env.locals = C.L) (hl : env.kindOf x = some .local) (hk : env.scope.kind = .function) : Ev C E (exec (.AugAssign (.Name x pos') op value pos) env) st Q := fun s H =>
  wpAny_AugAssign_Name (wpAny_loadName_local hk hl (hL ▸ H.F.ns) hv (L1q h (fun v st₁ s₁ H₁ h₁ => L1q h₁ (fun r st₂ s₂ H₂ h₂ => storeName_local' (Q := fun _ st' => Q .next st') h₂ hL hl hk s₂ H₂) H₁) H))
end
end Mine
end
section
open PySem PySem.W PyProof.Rows PySem.Calls PySem.Spec
namespace Mine
section
variable {α β : Type} {C : Cx} {E : Value → Shared → Prop} {st : St}

theorem Ev.monoE {E' : Value → Shared → Prop} {t : Sem α} {Q : α → St → Prop} (h : Ev C E t st Q) (k : ∀ e s, E e s → E' e s) : Ev C E' t st Q :=
  fun s H => wpAny_mono (h s H) (fun _ _ q => q) k
abbrev NoE : Value → Shared → Prop := fun _ _ => False
theorem Ev.any {t : Sem α} {Q : α → St → Prop} (h : Ev C NoE t st Q) : Ev C E t st Q := h.monoE fun _ _ q => q.elim

def retOf : Flow → Value
  | .ret v => v
  | _ => .none
/-- what becomes of an exception that leaves the frame -/
def Leaving (C : Cx) (E : Value → Shared → Prop) (e : Value) (s' : Shared) : Prop :=
  wpAny (model prog C.w) C.A (leaving C.env e) (fun _ s'' => E e s'') E s'

theorem lookup_rev {m : List (Str × Value)} (h : (m.map (·.1)).Nodup) : (fun y => m.reverse.lookup y) = look m := by
  funext y
  unfold look
  induction m with
  | nil => rfl
  | cons p r ih =>
    obtain ⟨k, v⟩ := p
    simp only [List.map_cons, List.nodup_cons] at h
    rw [List.reverse_cons, List.lookup_append, ih h.2]
    simp only [List.lookup_cons, List.lookup_nil]
    cases hy : y == k with
    | false => cases List.lookup y r <;> rfl
    | true =>
      have e : y = k := eq_of_beq hy
      subst e
      cases hl : List.lookup y r with
      | none => rfl
      | some u =>
        exact absurd (List.mem_map.mpr ⟨(y, u), by
          clear ih h hy
          induction r with
          | nil => cases hl
          | cons q r ih =>
            obtain ⟨a, b⟩ := q
            rw [List.lookup_cons] at hl
            cases hya : y == a with
            | true => rw [hya] at hl; cases hl; rw [eq_of_beq hya]; exact .head _
            | false => rw [hya] at hl; exact .tail _ (ih hl), rfl⟩) h.1

/-- a part of the ledger, in any order -/
def Sub (a b : Led) : Prop := ∃ l : Led, List.Perm l a ∧ List.Sublist l b
theorem Sub.refl (a : Led) : Sub a a := ⟨a, .rfl, List.Sublist.refl _⟩
theorem Sub.of {a b : Led} (h : List.Sublist a b) : Sub a b := ⟨a, .rfl, h⟩
theorem Sub.perm {a b : Led} (h : List.Perm a b) : Sub a b := ⟨b, h.symm, List.Sublist.refl _⟩
theorem Sub.cons {a b : Led} (p : Addr × Obj) (h : Sub a b) : Sub a (p :: b) := let ⟨l, x, y⟩ := h; ⟨l, x, y.cons p⟩
theorem Sub.cons₂ {a b : Led} (p : Addr × Obj) (h : Sub a b) : Sub (p :: a) (p :: b) := let ⟨l, x, y⟩ := h; ⟨p :: l, x.cons p, y.cons_cons p⟩
theorem Sub.trans {a b c : Led} (h : Sub a b) (k : Sub b c) : Sub a c := by
  obtain ⟨l, x, y⟩ := h
  obtain ⟨l', x', y'⟩ := k
  obtain ⟨l'', p, q⟩ := List.exists_perm_sublist y x'.symm
  exact ⟨l'', p.trans x, q.trans y'⟩
theorem Sub.mem {a b : Led} (h : Sub a b) : ∀ p ∈ a, p ∈ b := fun p hp => let ⟨_, x, y⟩ := h; y.subset (x.mem_iff.mpr hp)
theorem Sub.nodup {a b : Led} (h : Sub a b) (n : (b.map (·.1)).Nodup) : (a.map (·.1)).Nodup := let ⟨_, x, y⟩ := h; (x.map _).nodup_iff.mp (n.sublist (y.map _))
theorem Sub.app {a b : Led} (t : Led) (h : Sub a b) : Sub (a ++ t) (b ++ t) := let ⟨l, x, y⟩ := h; ⟨l ++ t, x.append_right t, y.append_right t⟩
theorem Held.sub {s : Shared} {m : List (Str × Value)} {news news' : Led} (H : Held C ⟨m, news⟩ s) (h : Sub news' news) : Held C ⟨m, news'⟩ s :=
  ⟨H.δ, H.F, fun p hp => H.N p ((h.app _).mem p hp), (h.app _).nodup H.nd, H.ok, H.os, H.gens, H.gp, H.us, H.uk⟩
theorem Ev.weak {t : Sem α} {Q : α → St → Prop} {m : List (Str × Value)} {news news' : Led} (h : Sub news' news) (k : Ev C E t ⟨m, news'⟩ Q) : Ev C E t ⟨m, news⟩ Q := fun s H => k s ⟨H.toHeld.sub h, H.tp, H.sz⟩
/-- less of the ledger behind the tree -/
def Less (Q : α → St → Prop) (v : α) (st' : St) : Prop := ∃ news', Sub news' st'.news ∧ Q v ⟨st'.m, news'⟩
theorem Ev.less {t : Sem α} {Q : α → St → Prop} (h : Ev C E t st (Less Q)) : Ev C E t st Q := fun s H =>
  wpAny_mono (h s H) (fun v s' ⟨st', H', news', hs, q⟩ => ⟨⟨st'.m, news'⟩, H'.sub hs, q⟩) fun _ _ e => e

theorem gp_trans {a b c : Array GenState} (x : ∀ k, k < a.size → b[k]? = a[k]?) (y : ∀ k, k < b.size → c[k]? = b[k]?) : ∀ k, k < a.size → c[k]? = a[k]? := fun k hk => by
  have e := x k hk
  rw [Array.getElem?_eq_getElem hk] at e
  rw [y k (Array.getElem?_eq_some_iff.mp e).1, x k hk]

theorem us_trans {C : Cx} {u u' : Option (Addr × Obj)} {n : Nat} (x : ∀ q, u = some q → C.u0 = some q ∨ C.sb ≤ q.1) (z : C.sb ≤ n) (y : ∀ q, u' = some q → u = some q ∨ n ≤ q.1) : ∀ q, u' = some q → C.u0 = some q ∨ C.sb ≤ q.1 := fun q e =>
  (y q e).elim (x q) fun h => .inr (Nat.le_trans z h)
theorem wpAny_with_size {α : Type} {M : Model} {A : Around} {s : Shared} {t : Sem α} {Q : α → Shared → Prop} {E : Value → Shared → Prop} {n : Nat} (hn : n ≤ s.heap.objs.size)
    (h : wpAny M A t (fun a s' => n ≤ s'.heap.objs.size → Q a s') (fun e s' => n ≤ s'.heap.objs.size → E e s') s) : wpAny M A t Q E s :=
  wpAny_mono (wpAny_size_of hn h) (fun _ _ x => x.2 x.1) (fun _ _ x => x.2 x.1)

theorem kd_enter {s : Shared} {L : Addr} {h₀ : Heap} {outer : List Env} {env : Env} {m : Str → Option Value} {news : Led} (F : Fr h₀ L s.heap m) (N : News h₀ L s.heap news) (kd : KtsDicts (outer.filterMap (·.frame)) h₀) (ef : env.frame = some L) :
    KtsDicts ((env :: outer).filterMap (·.frame)) (hideAll s.heap (news.map (·.1))) := by
  intro b hb
  obtain ⟨e, he, hf⟩ := List.mem_filterMap.mp hb
  rcases List.mem_cons.mp he with rfl | he
  · rw [ef] at hf
    cases hf
    obtain ⟨o, es, n, ho, hd, _⟩ := F.ns
    refine ⟨o, es, n, hideAll_get _ ho fun hm => ?_, hd⟩
    obtain ⟨p, hp, e'⟩ := List.mem_map.mp hm
    exact (N p hp).2.1 e'
  · obtain ⟨o, es, n, ho, hd⟩ := kd b (List.mem_filterMap.mpr ⟨e, he, hf⟩)
    refine ⟨o, es, n, hideAll_get _ (F.keep b o ho) fun hm => ?_, hd⟩
    obtain ⟨p, hp, e'⟩ := List.mem_map.mp hm
    have := (N p hp).2.2
    rw [e', ho] at this; cases this
theorem code_defE {name qual : Str} {params : Arguments} {body : List Stmt} {scope : Scope} {dV kV doc pm cdv ct oc : Value} {an od : Option Addr} {osl : Array (Option Value)} {f : Addr} {pos : List Value} {kw : List (Str × Value)} {binds : List (Str × Value)} {Q : Value → St → Prop}
    (ho : (KF C.w).lookup f = some ⟨oc, od, .func (fnOf name qual params body scope dV kV doc pm an cdv ct), osl⟩) (hcd : codeIn (KF C.w) cdv qual = true) (hroom : 0 < C.room)
    (hbind : ∀ S, peek (KF C.w) S (bindArgs (fnOf name qual params body scope dV kV doc pm an cdv ct) ⟨pos, kw⟩) = some binds)
    (hloc : (binds.all fun y => decide (scope.names.lookup y.1 = some .local)) = true) (hnd : decide ((binds.map (·.1)).Nodup) = true) (hcell : (scope.names.all fun x => decide (x.2 ≠ .cell)) = true)
    (hco : scope.isCoroutine = false) (hgen : scope.isGenerator = false) (hk : scope.kind = .function)
    (h : ∀ C' : Cx, C'.w = C.w → C'.room + 1 = C.room → C'.env = envOf qual scope C'.L f cdv → C'.A = C.A.deeper C'.env → C'.A₀ = C.A → Ev C' (Leaving C' E) (execs body (envOf qual scope C'.L f cdv)) ⟨binds, st.news⟩ fun fl st' => ∃ news', Sub news' st'.news ∧ Q (retOf fl) ⟨st.m, news'⟩) :
    ∀ s, Holds C st s → codeAny (model prog C.w) C.A (.call (.ref f) ⟨pos, kw⟩) (fun r s' => match r with | .ok (.ret v) => Post C Q v s' | .ok _ => False | .error e => E e s') s := by
  intro s H
  have hX := C.T.X.keeps H.F.keep
  obtain ⟨FG, BG, stay, lv⟩ := groundX (R := fun r s' => match r with | .ok (.ret v) => Post C Q v s' | .error e => E e s' | _ => False) C.B H.F H.N C.fr C.ef C.ek
  refine codeAny_call_def (fd := fnOf name qual params body scope dV kV doc pm an cdv ct) (body := body) (binds := binds) (by have := C.dp; omega) (hX _ _ ho) rfl (C.T.nolimit.keeps H.F.keep) (codeRec_of hX hcd) rfl (kp_binds hX hbind)
    (fun x hx => of_decide_eq_true (List.all_eq_true.mp hcell x hx)) (fun y hy => of_decide_eq_true (List.all_eq_true.mp hloc y hy)) (fun h₁ hns hk₁ => ?_) hco hgen hk
  rw [lookup_rev (of_decide_eq_true hnd)] at hns
  have lt : ∀ p ∈ st.news ++ tabsOf H.δ, p.1 < s.heap.objs.size := fun p hp => Heap.lt_size (H.N p hp).1
  let C' : Cx := { C with
    A₀ := C.A, A := C.A.deeper (envOf qual scope s.heap.objs.size f cdv), outer := C.env :: C.outer, h₀ := hideAll s.heap ((st.news ++ tabsOf H.δ).map (·.1)), L := s.heap.objs.size, env := envOf qual scope s.heap.objs.size f cdv, room := C.room - 1, gb := s.gens, u0 := H.δ.u, sb := s.heap.objs.size
    B := BG, T := C.T.keeps stay, kd := kd_enter H.F H.N C.kd C.ef, fr := by show C.A.frames.map _ = _; rw [C.fr]; rfl
    ef := rfl, el := rfl, eg := rfl, eb := rfl, ek := hk, hh := C.hh, gd := C.gd
    dp := by show C.A.depth + 1 + (C.room - 1) < recursionLimit; have := C.dp; omega
    un := by show C.A.units + 3 + 8 * (C.room - 1) + 8 < cLine; have := C.un; omega }
  refine wpAny_mono (h C' rfl (by show C.room - 1 + 1 = C.room; omega) rfl rfl rfl _ ⟨⟨H.δ, ⟨hns, fun b o e => hk₁ b o (of_hideAll _ e), Nat.le_of_eq (hideAll_size _ _)⟩,
    fun p hp => ⟨hk₁ _ _ (H.N p hp).1, Nat.ne_of_lt (lt p hp), hideAll_none _ (List.mem_map_of_mem hp)⟩, H.nd, H.ok, H.os, H.gens, fun _ _ => rfl, fun _ e => .inl e, fun _ e => e⟩, Nat.lt_of_lt_of_le H.tp (Nat.le_add_right _ _), Nat.le_of_lt hns.lt⟩) (fun fl s' hq => ?_) (fun e s' hq => ?_)
  · obtain ⟨st', H', news', hs, q⟩ := hq
    refine lv _ _ (leaveK_ H'.F H'.N fun F₂ N₂ => ?_)
    have H₂ : Held C ⟨st.m, st'.news⟩ s' := ⟨H'.δ, F₂, N₂, H'.nd, H'.ok, H'.os, H'.gens, gp_trans H.gp H'.gp, us_trans H.us H.sz H'.us, fun q e => H'.uk q (H.uk q e)⟩
    cases fl <;> exact ⟨⟨st.m, news'⟩, H₂.sub hs, q⟩
  · exact hq

theorem call_defE {name qual : Str} {params : Arguments} {body : List Stmt} {scope : Scope} {dV kV doc pm cdv ct oc : Value} {an od : Option Addr} {osl : Array (Option Value)} {f : Addr} {pos : List Value} {kw : List (Str × Value)} {binds : List (Str × Value)} {Q : Value → St → Prop}
    (ho : (KF C.w).lookup f = some ⟨oc, od, .func (fnOf name qual params body scope dV kV doc pm an cdv ct), osl⟩) (hcd : codeIn (KF C.w) cdv qual = true) (hroom : 0 < C.room)
    (hbind : ∀ S, peek (KF C.w) S (bindArgs (fnOf name qual params body scope dV kV doc pm an cdv ct) ⟨pos, kw⟩) = some binds)
    (hloc : (binds.all fun y => decide (scope.names.lookup y.1 = some .local)) = true) (hnd : decide ((binds.map (·.1)).Nodup) = true) (hcell : (scope.names.all fun x => decide (x.2 ≠ .cell)) = true)
    (hco : scope.isCoroutine = false) (hgen : scope.isGenerator = false) (hk : scope.kind = .function)
    (h : ∀ C' : Cx, C'.w = C.w → C'.room + 1 = C.room → C'.env = envOf qual scope C'.L f cdv → C'.A = C.A.deeper C'.env → C'.A₀ = C.A → Ev C' (Leaving C' E) (execs body (envOf qual scope C'.L f cdv)) ⟨binds, st.news⟩ fun fl st' => ∃ news', Sub news' st'.news ∧ Q (retOf fl) ⟨st.m, news'⟩) :
    Ev C E (call (.ref f) pos kw) st Q := fun s H => wpAny_call (code_defE ho hcd hroom hbind hloc hnd hcell hco hgen hk h s H)
theorem code_def {name qual : Str} {params : Arguments} {body : List Stmt} {scope : Scope} {dV kV doc pm cdv ct oc : Value} {an od : Option Addr} {osl : Array (Option Value)} {f : Addr} {pos : List Value} {kw : List (Str × Value)} {binds : List (Str × Value)} {Q : Value → St → Prop}
    (ho : (KF C.w).lookup f = some ⟨oc, od, .func (fnOf name qual params body scope dV kV doc pm an cdv ct), osl⟩) (hcd : codeIn (KF C.w) cdv qual = true) (hroom : 0 < C.room)
    (hbind : ∀ S, peek (KF C.w) S (bindArgs (fnOf name qual params body scope dV kV doc pm an cdv ct) ⟨pos, kw⟩) = some binds)
    (hloc : (binds.all fun y => decide (scope.names.lookup y.1 = some .local)) = true) (hnd : decide ((binds.map (·.1)).Nodup) = true) (hcell : (scope.names.all fun x => decide (x.2 ≠ .cell)) = true)
    (hco : scope.isCoroutine = false) (hgen : scope.isGenerator = false) (hk : scope.kind = .function)
    (h : ∀ C' : Cx, C'.w = C.w → C'.room + 1 = C.room → C'.env = envOf qual scope C'.L f cdv → Ev C' NoE (execs body (envOf qual scope C'.L f cdv)) ⟨binds, st.news⟩ fun fl st' => ∃ news', Sub news' st'.news ∧ Q (retOf fl) ⟨st.m, news'⟩) :
    ∀ s, Holds C st s → codeAny (model prog C.w) C.A (.call (.ref f) ⟨pos, kw⟩) (fun r s' => match r with | .ok (.ret v) => Post C Q v s' | .ok _ => False | .error e => E e s') s :=
  code_defE ho hcd hroom hbind hloc hnd hcell hco hgen hk fun C' h1 h2 h3 _ _ => (h C' h1 h2 h3).any
theorem call_def {name qual : Str} {params : Arguments} {body : List Stmt} {scope : Scope} {dV kV doc pm cdv ct oc : Value} {an od : Option Addr} {osl : Array (Option Value)} {f : Addr} {pos : List Value} {kw : List (Str × Value)} {binds : List (Str × Value)} {Q : Value → St → Prop}
    (ho : (KF C.w).lookup f = some ⟨oc, od, .func (fnOf name qual params body scope dV kV doc pm an cdv ct), osl⟩) (hcd : codeIn (KF C.w) cdv qual = true) (hroom : 0 < C.room)
    (hbind : ∀ S, peek (KF C.w) S (bindArgs (fnOf name qual params body scope dV kV doc pm an cdv ct) ⟨pos, kw⟩) = some binds)
    (hloc : (binds.all fun y => decide (scope.names.lookup y.1 = some .local)) = true) (hnd : decide ((binds.map (·.1)).Nodup) = true) (hcell : (scope.names.all fun x => decide (x.2 ≠ .cell)) = true)
    (hco : scope.isCoroutine = false) (hgen : scope.isGenerator = false) (hk : scope.kind = .function)
    (h : ∀ C' : Cx, C'.w = C.w → C'.room + 1 = C.room → C'.env = envOf qual scope C'.L f cdv → Ev C' NoE (execs body (envOf qual scope C'.L f cdv)) ⟨binds, st.news⟩ fun fl st' => ∃ news', Sub news' st'.news ∧ Q (retOf fl) ⟨st.m, news'⟩) :
    Ev C E (call (.ref f) pos kw) st Q :=
  call_defE ho hcd hroom hbind hloc hnd hcell hco hgen hk fun C' h1 h2 h3 _ _ => (h C' h1 h2 h3).any

theorem cw_def {env : Env} {pos : Pos} {f : Value} {first : List Value} {e : Expr} {rest : List Expr} {Q : Value → St → Prop} (hk : keepIn (KF C.w) f = true) (h : Ev C E (spliced (backTo pos (starEach (e :: rest) env))) st fun vs st₁ => Ev C E (call f (first ++ vs)) st₁ Q)
    (he : noStar (e :: rest) = true) : Ev C E (callWith pos f first (backTo pos (starEach (e :: rest) env)) []) st Q := fun s H =>
  callWith_K C.T.X hk (L1q h (fun vs st₁ s₁ H₁ h₁ => ⟨C.T.X.keeps H₁.F.keep, h₁ s₁ H₁⟩) H) (starEach_cons env he) (backTo_plain pos env (noStar_tail he))
theorem cw_def0 {env : Env} {pos : Pos} {f : Value} {first : List Value} {Q : Value → St → Prop} (hk : keepIn (KF C.w) f = true) (h : Ev C E (call f (first ++ [])) st Q) : Ev C E (callWith pos f first (backTo pos (starEach [] env)) []) st Q := fun s H =>
  callWith_K0 (C.T.X.keeps H.F.keep) hk (h s H)
end
theorem look_same {x : Str} {v : Value} {m : List (Str × Value)} : look (put x v m) x = some v := by rw [look_put]; simp
theorem look_hd {x : Str} {v : Value} {m : List (Str × Value)} : look ((x, v) :: m) x = some v := by unfold look; rw [List.lookup_cons, beq_self_eq_true]
theorem look_tl {x y : Str} {v : Value} {r : Option Value} {m : List (Str × Value)} (h : (y == x) = false) (e : look m y = r) : look ((x, v) :: m) y = r := by unfold look at e ⊢; rw [List.lookup_cons, h]; exact e
theorem look_other {x y : Str} {v : Value} {r : Option Value} {m : List (Str × Value)} (h : (y == x) = false) (e : look m y = r) : look (put x v m) y = r := by
  rw [look_put]
  have : ¬ y = x := beq_eq_false_iff_ne.mp h
  simp [this, e]
section
variable {C : Cx} {E : Value → Shared → Prop} {st : St}

/-- what a turn of a loop hands on: the state st' without the iterator -/
def Turn (I : Addr) (oI : Obj) (J : St → Prop) (Q : Flow → St → Prop) (f : Flow) (st₂ : St) : Prop := match f with
  | .ret v => Q (.ret v) st₂
  | .brk => Q .next st₂
  | _ => ∃ news, Sub ((I, oI) :: news) st₂.news ∧ J ⟨st₂.m, news⟩

theorem Fr.alloc {h₀ h : Heap} {L : Addr} {m : Str → Option Value} (F : Fr h₀ L h m) (o : Obj) : Fr h₀ L (h.push o) m := F.push o
theorem fresh_key {h₀ h : Heap} {L : Addr} {news : Led} (N : News h₀ L h news) : h.objs.size ∉ news.map (·.1) := fun hm => by
  obtain ⟨p, hp, e⟩ := List.mem_map.mp hm
  have := Heap.lt_size (N p hp).1
  rw [e] at this
  exact Nat.lt_irrefl _ this
theorem Held.alloc {s : Shared} {tk : Nat} {st : St} {o : Obj} (H : Held C st s) (hf : o.isFreed = false) : Held C ⟨st.m, (s.heap.objs.size, o) :: st.news⟩ { s with heap := s.heap.push o, toks := tk } :=
  H.upd (H.F.push o) (H.N.push H.F o hf) (by show (((s.heap.objs.size, o) :: (st.news ++ tabsOf H.δ)).map (·.1)).Nodup; rw [List.map_cons, List.nodup_cons]; exact ⟨fresh_key H.N, H.nd⟩)

theorem Holds.alloc {s : Shared} {st : St} {o : Obj} (H : Holds C st s) (hf : o.isFreed = false) : Holds C ⟨st.m, (s.heap.objs.size, o) :: st.news⟩ { s with heap := s.heap.push o } :=
  ⟨H.toHeld.alloc (tk := s.toks) hf, H.tp, by dsimp only; rw [Heap.size_push]; exact Nat.le_succ_of_le H.sz⟩
theorem Holds.sub {s : Shared} {m : List (Str × Value)} {news news' : Led} (H : Holds C ⟨m, news⟩ s) (h : Sub news' news) : Holds C ⟨m, news'⟩ s := ⟨H.toHeld.sub h, H.tp, H.sz⟩
/-- a loop over an iterator that stands in the ledger -/
theorem for_walk {x : Str} {px : Pos} {body : List Stmt} {env : Env} {I : Addr} {fp : List Addr} {n : Nat} {P : Nat → Value → Prop} {St' : Nat → Heap → Prop} {Q : Flow → St → Prop} {m₀ : List (Str × Value)} {news₀ : Led} {o₀ : Obj}
    (W : ∀ A' : Around, A'.handled = none → Walks prog C.w A' I fp [I] n P St')
    (hIo : ∀ i h, St' i h → ∃ o, h.get? I = some o)
    (Inv : Nat → St → Prop) (srcs : Led) (hsrc : ∀ i st₁, Inv i st₁ → ∀ p ∈ srcs, p ∈ st₁.news) (hfp : ∀ b ∈ fp, b = I ∨ (∃ o, (b, o) ∈ srcs) ∨ ∃ o, C.h₀.get? b = some o)
    (h0 : Inv 0 ⟨m₀, news₀⟩)
    (turn : ∀ i v st₁ oI, i < n → P i v → Inv i st₁ → Ev C NoE (execs body env) ⟨put x v st₁.m, (I, oI) :: st₁.news⟩ (Turn I oI (Inv (i + 1)) Q))
    (done : ∀ st₁, Inv n st₁ → Q .next st₁)
    (hL : env.locals = C.L) (hl : env.kindOf x = some .local) (hk : env.scope.kind = .function)
    {s : Shared} (H : Holds C ⟨m₀, (I, o₀) :: news₀⟩ s) (hst : St' 0 s.heap) :
    codeAny (model prog C.w) C.A (.forLoop (.Name x px) (.ref I) body [] env) (fun r s' => match r with | .ok f => Post C Q f s' | .error e => cameBackBy (model prog C.w) C.A env E e s') s := by
  refine codeAny_forLoop_any (fun k s' => ∃ i st₁ oI, k = n + 1 - i ∧ i ≤ n ∧ Inv i st₁ ∧ Holds C ⟨st₁.m, (I, oI) :: st₁.news⟩ s' ∧ St' i s'.heap) ?_ (n + 1) ⟨0, ⟨m₀, news₀⟩, o₀, rfl, Nat.zero_le _, h0, H, hst⟩
  rintro k s₁ ⟨i, st₁, oI, rfl, hi, hI, H₁, hst₁⟩
  have hIL : C.L ≠ I := ((H₁.at (p := (I, oI)) (.head _)).2.1).symm
  have hI0 : C.h₀.get? I = none := (H₁.at (p := (I, oI)) (.head _)).2.2
  obtain ⟨δ₁, D₁⟩ := H₁.ex
  have nd := D₁.nd
  simp only [List.cons_append, List.map_cons, List.nodup_cons] at nd
  have step : ∀ (h' : Heap), (∀ b o, b ∉ [I] → s₁.heap.get? b = some o → h'.get? b = some o) → Fr C.h₀ C.L h' (look st₁.m) ∧ News C.h₀ C.L h' (st₁.news ++ tabsOf δ₁) := fun h' hk' =>
    ⟨LCg.fr_but D₁.F hk' hIL hI0, LCg.news_but (fun p hp => D₁.N p (.tail _ hp)) hk' fun p hp e => nd.1 (e ▸ List.mem_map_of_mem hp)⟩
  by_cases hlt : i < n
  · refine wpAny_with_size H₁.sz (wpAny_with_toks H₁.tp ((W _ C.hh).item i _ _ _ hlt hst₁ fun v h₂ tk₂ hP hst₂ hk₂ hp₂ hz₂ => ?_))
    obtain ⟨F₂, N₂⟩ := step h₂ hk₂
    obtain ⟨oI', hoI'⟩ := hIo _ _ hst₂
    have H₂ : Holds C ⟨st₁.m, (I, oI') :: st₁.news⟩ { s₁ with heap := h₂, toks := tk₂ } := ⟨⟨δ₁, F₂, fun p hp => by
      rcases List.mem_cons.mp hp with rfl | hp
      · exact ⟨hoI', hIL.symm, hI0⟩
      · exact N₂ p hp, D₁.nd, D₁.ok, D₁.os, D₁.gens, D₁.gp, D₁.us, D₁.uk⟩, hp₂, hz₂⟩
    show wpAny _ _ (letOwnedTupleGo (.Name x px) (.ref I) v) _ _ _
    refine wpAny_pure ?_
    refine wpAny_assign_Name ?_
    refine wpAny_mono (L1q (R := fun _ s₃ => Holds C ⟨put x v st₁.m, (I, oI') :: st₁.news⟩ s₃) (storeName_local' (C := C) (E := NoE) (Q := fun _ st' => st' = ⟨put x v st₁.m, (I, oI') :: st₁.news⟩) rfl hL hl hk) (fun _ _ _ H q => q ▸ H) H₂) (fun _ s₃ H₃ => ?_) (fun _ _ q => q.elim)
    have same : ∀ (h' : Heap) (m' : List (Str × Value)) (news' : Led), Fr C.h₀ C.L h' (look m') → News C.h₀ C.L h' ((I, oI') :: news') → (∀ p ∈ srcs, p ∈ news') → ∀ b ∈ fp, ∀ o, h₂.get? b = some o → h'.get? b = some o := by
      intro h' m' news' F' N' hs b hb o e
      rcases hfp b hb with hbI | ⟨o', ho'⟩ | ⟨o', ho'⟩
      · rw [hbI] at e ⊢
        rw [← e, hoI']; exact (N' (I, oI') (.head _)).1
      · have e' := (N₂ _ (List.mem_append_left _ (hsrc _ _ hI _ ho'))).1
        rw [← e, e']
        exact (N' (b, o') (.tail _ (hs _ ho'))).1
      · have e' := F₂.keep _ _ ho'
        rw [← e, e']
        exact F'.keep _ _ ho'
    refine wpAny_mono (wpAny_size_of H₃.sz (wpAny_toks_of H₃.tp (turn i v st₁ oI' hlt hP hI s₃ H₃))) (fun f s₄ h₄ => ?_) (fun _ _ q => q.2.2.elim)
    obtain ⟨hz₄, hp₄, st₄, H₄, q⟩ := h₄
    have fin : (∃ news, Sub ((I, oI') :: news) st₄.news ∧ Inv (i + 1) ⟨st₄.m, news⟩) → ∃ k' < n + 1 - i, ∃ i' st₁ oI, k' = n + 1 - i' ∧ i' ≤ n ∧ Inv i' st₁ ∧ Holds C ⟨st₁.m, (I, oI) :: st₁.news⟩ s₄ ∧ St' i' s₄.heap := by
      rintro ⟨news, hs, hJ⟩
      refine ⟨n + 1 - (i + 1), by omega, i + 1, ⟨st₄.m, news⟩, oI', rfl, hlt, hJ, ⟨H₄.sub hs, hp₄, hz₄⟩, ?_⟩
      exact (W _ C.hh).frame _ _ _ hst₂ (same _ _ _ H₄.F (fun p hp => H₄.at (hs.mem p hp)) (hsrc _ _ hJ))
    cases f with
    | ret v => exact ⟨st₄, H₄, q⟩
    | brk => exact ⟨st₄, H₄, q⟩
    | next => exact fin q
    | cont => exact fin q
  · obtain rfl : i = n := Nat.le_antisymm hi (Nat.not_lt.mp hlt)
    refine (W _ C.hh).done _ _ _ hst₁ fun h₂ tk₂ hk₂ => ?_
    obtain ⟨F₂, N₂⟩ := step h₂ hk₂
    exact wpAny_execs_nil ⟨st₁, ⟨δ₁, F₂, N₂, nd.2, D₁.ok, D₁.os, D₁.gens, D₁.gp, D₁.us, D₁.uk⟩, done _ hI⟩
end
end Mine
end
section
open PySem PySem.W PyProof.Rows PySem.Calls PySem.Spec
namespace Mine
section
variable {C : Cx} {E : Value → Shared → Prop} {st : St}

abbrev lst (vs : List Value) (n : Nat) : Obj := { cls := .type "list", data := .seq vs.toArray n }
abbrev tup (vs : List Value) (n : Nat) : Obj := { cls := .type "tuple", data := .seq vs.toArray n }
abbrev rng (a b c : Int) (t u v : Tok) : Obj := { cls := .type "range", data := .fields #[.int a t, .int b u, .int c v] }

theorem isList_of {h : Heap} {l : Addr} {vs : List Value} {n : Nat} (e : h.get? l = some (lst vs n)) : h.IsList l vs.toArray := ⟨_, e, rfl, _, rfl⟩

/-- what a loop's writer says: the word between the turns, its start, its turn, its end -/
structure LoopL (C : Cx) (env : Env) (x : Str) (body : List Stmt) (Q : Flow → St → Prop) (items : Nat → Value → Prop) (n : Nat) (srcs : Led) (st₁ : St) (Inv : Nat → St → Prop) : Prop where
  src : ∀ i st, Inv i st → ∀ p ∈ srcs, p ∈ st.news
  start : ∃ news, Sub news st₁.news ∧ Inv 0 ⟨st₁.m, news⟩
  turn : ∀ i v st₂ I oI, i < n → items i v → Inv i st₂ → Ev C NoE (execs body env) ⟨put x v st₂.m, (I, oI) :: st₂.news⟩ (Turn I oI (Inv (i + 1)) Q)
  done : ∀ st₂, Inv n st₂ → Q .next st₂

theorem x_for_list {x : Str} {px pos : Pos} {iter : Expr} {body : List Stmt} {env : Env} {Q : Flow → St → Prop}
    (h : Ev C E (eval iter env) st fun v st₁ => ∃ l vs k Inv, v = .ref l ∧ (l, lst vs k) ∈ st₁.news ∧ LoopL C env x body Q (fun i v => vs[i]? = some v) vs.length [(l, lst vs k)] st₁ Inv)
    (hs : ∀ x, foldedSetIterable iter env x = pure x) (hL : env.locals = C.L) (hl : env.kindOf x = some .local) (hk : env.scope.kind = .function) : Ev C E (exec (.For (.Name x px) iter body [] pos) env) st Q := by
  intro s H
  refine wpAny_For (L1q h (fun v st₁ s₁ H₁ h₁ => ?_) H) hs
  obtain ⟨l, vs, k, Inv, rfl, hm, L⟩ := h₁
  obtain ⟨news0, hs0, h00⟩ := L.start
  have hl₁ := (H₁.at hm).1
  refine wpAny_pyIter_list (isList_of hl₁) ?_
  have H₂ := H₁.alloc (o := { cls := .type "list_iterator", data := .fields #[.ref l, .int 0 0] }) rfl
  have hne : l ≠ s₁.heap.objs.size := Nat.ne_of_lt (Heap.lt_size hl₁)
  exact for_walk (n := vs.length) (St' := fun i h => h.IsListIter s₁.heap.objs.size l i ∧ h.IsList l vs.toArray) (fp := [s₁.heap.objs.size, l]) (P := fun i v => vs.toArray[i]? = some v) (fun A' hA => by
      have W := Walks.list (prog := prog) (w := C.w) hA s₁.heap.objs.size l hne vs.toArray
      rwa [List.size_toArray] at W) (fun i h st => let ⟨o, e, _⟩ := st.1; ⟨o, e⟩) Inv [(l, lst vs k)] L.src (fun b hb => by
      rcases List.mem_cons.mp hb with rfl | hb
      · exact .inl rfl
      · exact .inr (.inl ⟨_, by rw [List.mem_singleton.mp hb]; exact .head _⟩)) h00 (fun i v st₂ oI hi hP hI => L.turn i v st₂ _ oI hi (by simpa using hP) hI) L.done hL hl hk (H₂.sub (Sub.cons₂ _ hs0))
      ⟨⟨_, Heap.get?_push_size _ rfl, rfl, rfl⟩, (isList_of hl₁).push _⟩

theorem x_for_str {x : Str} {px pos : Pos} {iter : Expr} {body : List Stmt} {env : Env} {Q : Flow → St → Prop}
    (h : Ev C E (eval iter env) st fun v st₁ => ∃ y t Inv, v = .str y t ∧ LoopL C env x body Q (fun i v => ∃ c u, y.cps[i]? = some c ∧ v = .str ⟨#[c]⟩ u) y.cps.size [] st₁ Inv)
    (hs : ∀ x, foldedSetIterable iter env x = pure x) (hL : env.locals = C.L) (hl : env.kindOf x = some .local) (hk : env.scope.kind = .function) : Ev C E (exec (.For (.Name x px) iter body [] pos) env) st Q := by
  intro s H
  refine wpAny_For (L1q h (fun v st₁ s₁ H₁ h₁ => ?_) H) hs
  obtain ⟨y, t, Inv, rfl, L⟩ := h₁
  obtain ⟨news0, hs0, h00⟩ := L.start
  cases ha : y.cps.all (· < 128)
  · refine wpAny_pyIter_wide ha ?_
    exact for_walk (n := y.cps.size) (fun A' hA => Walks.strWide hA _ y t) (fun i h st => let ⟨o, e, _⟩ := st; ⟨o, e⟩) Inv [] L.src (fun b hb => .inl (List.mem_singleton.mp hb)) h00
      (fun i v st₂ oI hi hP hI => L.turn i v st₂ _ oI hi hP hI) L.done hL hl hk ((H₁.alloc rfl).sub (Sub.cons₂ _ hs0)) ⟨_, Heap.get?_push_size _ rfl, rfl, rfl⟩
  · refine wpAny_pyIter_ascii ha ?_
    exact for_walk (n := y.cps.size) (fun A' hA => Walks.strAscii hA _ y t) (fun i h st => let ⟨o, e, _⟩ := st; ⟨o, e⟩) Inv [] L.src (fun b hb => .inl (List.mem_singleton.mp hb)) h00
      (fun i v st₂ oI hi hP hI => L.turn i v st₂ _ oI hi hP hI) L.done hL hl hk ((H₁.alloc rfl).sub (Sub.cons₂ _ hs0)) ⟨_, Heap.get?_push_size _ rfl, rfl, rfl⟩

theorem x_for_range {x : Str} {px pos : Pos} {iter : Expr} {body : List Stmt} {env : Env} {Q : Flow → St → Prop}
    (h : Ev C E (eval iter env) st fun v st₁ => ∃ r b t u t' Inv, v = .ref r ∧ (r, rng 0 b 1 t u t') ∈ st₁.news ∧ (0 ≤ b ∧ b < 2 ^ 62) ∧ LoopL C env x body Q (fun i v => ∃ t, v = .int i t) b.toNat [] st₁ Inv)
    (hs : ∀ x, foldedSetIterable iter env x = pure x) (hL : env.locals = C.L) (hl : env.kindOf x = some .local) (hk : env.scope.kind = .function) : Ev C E (exec (.For (.Name x px) iter body [] pos) env) st Q := by
  intro s H
  refine wpAny_For (L1q h (fun v st₁ s₁ H₁ h₁ => ?_) H) hs
  obtain ⟨r, b, t, u, t', Inv, rfl, hm, ⟨b3, b4⟩, L⟩ := h₁
  obtain ⟨news0, hs0, h00⟩ := L.start
  have hl₁ := (H₁.at hm).1
  refine wpAny_pyIter_range hl₁ (small_one (by decide) (by decide) (by omega) b4) ?_
  have e : Builtin.Range.rangeSize 0 b 1 = (((b - 0).toNat : Nat) : Int) := by rw [rangeSize_one]; split <;> omega
  have e' : (b - 0).toNat = b.toNat := by rw [Int.sub_zero]
  refine for_walk (n := b.toNat) (fun A' hA => LCg.range_walks hA 0 b.toNat) (fun i h st => ⟨_, st⟩) Inv [] L.src (fun b hb => .inl (List.mem_singleton.mp hb)) h00
    (fun i v st₂ oI hi hP hI => L.turn i v st₂ _ oI hi (by obtain ⟨t, rfl⟩ := hP; exact ⟨t, by rw [Int.zero_add]⟩) hI) L.done hL hl hk ((H₁.alloc rfl).sub (Sub.cons₂ _ hs0)) ?_
  show Heap.get? _ _ = some _
  rw [Heap.get?_push_size _ rfl, e, e']
  simp [rawInt]
end
end Mine
end
section
open PySem PySem.W PyProof.Rows PySem.Calls PySem.Spec
namespace Mine
section
variable {C : Cx} {E : Value → Shared → Prop} {st : St}

-- strs
theorem o_add_str {x y : Str} {t u : Tok} {Q : Value → St → Prop} (hz : x.length + y.length ≤ sizeLine) (h : ∀ t', Q (.str (x ++ y) t') st) : Ev C E (binaryOp .Add (.str x t) (.str y u)) st Q := fun s H => PyProof.Rows.add_str (fun t' _ => ⟨st, H.tok, h t'⟩) hz
theorem o_iadd_str {x y : Str} {t u : Tok} {Q : Value → St → Prop} (hz : x.length + y.length ≤ sizeLine) (h : ∀ t', Q (.str (x ++ y) t') st) : Ev C E (inplaceOp .Add (.str x t) (.str y u)) st Q := fun s H => PyProof.Rows.iadd_str (fun t' _ => ⟨st, H.tok, h t'⟩) hz
theorem o_eq_str {x y : Str} {t u : Tok} {Q : Value → St → Prop} (h : Q (.bool (x == y)) st) : Ev C E (compareOp .Eq (.str x t) (.str y u)) st Q := fun s H => by with_reducible exact PyProof.Rows.eq_str ⟨st, H.toHeld, h⟩
theorem o_ne_str {x y : Str} {t u : Tok} {Q : Value → St → Prop} (h : Q (.bool (x != y)) st) : Ev C E (compareOp .NotEq (.str x t) (.str y u)) st Q := fun s H => by with_reducible exact PyProof.Rows.ne_str ⟨st, H.toHeld, h⟩
theorem o_in_str {x y : Str} {t u : Tok} {Q : Value → St → Prop} (h : Q (.bool (Txt.contains x y)) st) : Ev C E (compareOp .In (.str y u) (.str x t)) st Q := fun s H => PyProof.Rows.in_str ⟨st, H.toHeld, h⟩
theorem o_notin_str {x y : Str} {t u : Tok} {Q : Value → St → Prop} (h : Q (.bool (!Txt.contains x y)) st) : Ev C E (compareOp .NotIn (.str y u) (.str x t)) st Q := fun s H => PyProof.Rows.notIn_str ⟨st, H.toHeld, h⟩
theorem o_len_str {x : Str} {t : Tok} {Q : Value → St → Prop} (hz : x.length ≤ sizeLine) (h : ∀ t', Q (.int x.length t') st) : Ev C E (call (.builtin "len") [.str x t]) st Q := fun s H => by with_reducible exact PyProof.Rows.len_str (by rw [sizeLine_eq] at hz; omega) ⟨st, H.tok, h _⟩
theorem o_truthy_str {x : Str} {t : Tok} {Q : Bool → St → Prop} (hz : x.length ≤ sizeLine) (h : Q ((x.length : Int) != 0) st) : Ev C E (truthy (.str x t)) st Q := fun s H => by with_reducible exact PySem.P.truthy_str (by rw [sizeLine_eq] at hz; omega) ⟨st, H.tok, h⟩
theorem o_truthy_bool {b : Bool} {Q : Bool → St → Prop} (h : Q b st) : Ev C E (truthy (.bool b)) st Q := fun s H => wpAny_truthy_bool ⟨st, H.toHeld, h⟩
theorem o_truthy_none {Q : Bool → St → Prop} (h : Q false st) : Ev C E (truthy .none) st Q := fun s H => wpAny_pure ⟨st, H.toHeld, h⟩
theorem o_not {v : Value} {Q : Value → St → Prop} (h : Ev C E (truthy v) st fun c st' => Q (.bool (!c)) st') : Ev C E (unaryOp .Not v) st Q := fun s H => not_of (h s H)

-- ints
theorem o_add_int {a b : Int} {t u : Tok} {Q : Value → St → Prop} (h : ∀ t', Q (.int (a + b) t') st) : Ev C E (binaryOp .Add (.int a t) (.int b u)) st Q := fun s H => by with_reducible exact PyProof.Rows.add_int ⟨st, H.tok, h _⟩
theorem o_iadd_int {a b : Int} {t u : Tok} {Q : Value → St → Prop} (h : ∀ t', Q (.int (a + b) t') st) : Ev C E (inplaceOp .Add (.int a t) (.int b u)) st Q := fun s H => by with_reducible exact PyProof.Rows.iadd_int ⟨st, H.tok, h _⟩
theorem o_sub_int {a b : Int} {t u : Tok} {Q : Value → St → Prop} (h : ∀ t', Q (.int (a - b) t') st) : Ev C E (binaryOp .Sub (.int a t) (.int b u)) st Q := fun s H => by with_reducible exact PyProof.Rows.sub_int ⟨st, H.tok, h _⟩
theorem o_neg_int {a : Int} {t : Tok} {Q : Value → St → Prop} (h : ∀ t', Q (.int (-a) t') st) : Ev C E (unaryOp .USub (.int a t)) st Q := fun s H => by with_reducible exact PyProof.Rows.neg_int ⟨st, H.tok, h _⟩
theorem o_mul_int {a b : Int} {t u : Tok} {Q : Value → St → Prop} (hm : IntMulOk a b) (h : ∀ t', Q (.int (a * b) t') st) : Ev C E (binaryOp .Mult (.int a t) (.int b u)) st Q := fun s H => by with_reducible exact PyProof.Rows.mul_int ⟨st, H.tok, h _⟩ hm
theorem o_mod_int {a b : Int} {t u : Tok} {Q : Value → St → Prop} (hb : b ≠ 0) (h : ∀ t', Q (.int (a.fmod b) t') st) : Ev C E (binaryOp .Mod (.int a t) (.int b u)) st Q := fun s H => by with_reducible exact PyProof.Rows.mod_int' hb ⟨st, H.tok, h _⟩
theorem o_floordiv_int {a b : Int} {t u : Tok} {Q : Value → St → Prop} (hb : b ≠ 0) (hs : b.natAbs.log2 < 9000) (h : ∀ t', Q (.int (a.fdiv b) t') st) : Ev C E (binaryOp .FloorDiv (.int a t) (.int b u)) st Q := fun s H => by with_reducible exact PyProof.Rows.floordiv_int hb ⟨st, H.tok, h _⟩ (.inl (PyProof.noPylong_of_log2 hs))
theorem o_pow_int {a n : Int} {t u : Tok} {Q : Value → St → Prop} (hn : 0 ≤ n) (hsz : (Builtin.Int.intBits a : Int) * n ≤ 2 ^ 27) (h : ∀ t', Q (.int (a ^ n.toNat) t') st) : Ev C E (binaryOp .Pow (.int a t) (.int n u)) st Q := fun s H => by with_reducible exact PyProof.Rows.pow_int hn hsz ⟨st, H.tok, h _⟩
theorem o_eq_int {a b : Int} {t u : Tok} {Q : Value → St → Prop} (h : Q (.bool (a == b)) st) : Ev C E (compareOp .Eq (.int a t) (.int b u)) st Q := fun s H => by with_reducible exact PyProof.Rows.eq_int ⟨st, H.toHeld, h⟩
theorem o_ne_int {a b : Int} {t u : Tok} {Q : Value → St → Prop} (h : Q (.bool (a != b)) st) : Ev C E (compareOp .NotEq (.int a t) (.int b u)) st Q := fun s H => by with_reducible exact PyProof.Rows.ne_int ⟨st, H.toHeld, h⟩
theorem o_lt_int {a b : Int} {t u : Tok} {Q : Value → St → Prop} (h : Q (.bool (decide (a < b))) st) : Ev C E (compareOp .Lt (.int a t) (.int b u)) st Q := fun s H => by with_reducible exact PyProof.Rows.lt_int ⟨st, H.toHeld, h⟩
theorem o_gt_int {a b : Int} {t u : Tok} {Q : Value → St → Prop} (h : Q (.bool (decide (b < a))) st) : Ev C E (compareOp .Gt (.int a t) (.int b u)) st Q := fun s H => by with_reducible exact PyProof.Rows.gt_int ⟨st, H.toHeld, h⟩
theorem o_le_int {a b : Int} {t u : Tok} {Q : Value → St → Prop} (h : Q (.bool (decide (a ≤ b))) st) : Ev C E (compareOp .LtE (.int a t) (.int b u)) st Q := fun s H => by with_reducible exact PyProof.Rows.le_int ⟨st, H.toHeld, h⟩
theorem o_ge_int {a b : Int} {t u : Tok} {Q : Value → St → Prop} (h : Q (.bool (decide (b ≤ a))) st) : Ev C E (compareOp .GtE (.int a t) (.int b u)) st Q := fun s H => by with_reducible exact PyProof.Rows.ge_int ⟨st, H.toHeld, h⟩
theorem o_ord {c : Nat} {t : Tok} {Q : Value → St → Prop} (h : ∀ t', Q (.int c t') st) : Ev C E (call (.builtin "ord") [.str ⟨#[c]⟩ t]) st Q := fun s H => by with_reducible exact PySem.P.ord_of_char ⟨st, H.tok, h _⟩
theorem o_chr {i : Int} {t : Tok} {Q : Value → St → Prop} (h0 : 0 ≤ i) (h1 : i ≤ 1114111) (h : ∀ t', Q (.str ⟨#[i.toNat]⟩ t') st) : Ev C E (call (.builtin "chr") [.int i t]) st Q := fun s H => by with_reducible exact PyProof.Rows.chr_of_range h0 h1 ⟨st, H.tok, h _⟩
theorem o_range1 {n : Int} {t : Tok} {Q : Value → St → Prop} (h : ∀ r u v, Q (.ref r) ⟨st.m, (r, rng 0 n 1 u t v) :: st.news⟩) : Ev C E (call (.type "range") [.int n t]) st Q := fun s H => call_range_1 ⟨_, H.toHeld.alloc rfl, h _ _ _⟩

-- is
theorem o_is_none {v : Value} {Q : Value → St → Prop} (h : Q (.bool (v == .none)) st) : Ev C E (compareOp .Is v .none) st Q := fun s H => is_none ⟨st, H.toHeld, h⟩
theorem o_isnot_none {v : Value} {Q : Value → St → Prop} (hp : plainIs v .none = true) (h : Q (.bool (!(v == .none))) st) : Ev C E (compareOp .IsNot v .none) st Q := fun s H => wpAny_isNot_plain hp ⟨st, H.toHeld, h⟩

-- new objects
theorem o_newList {vs : List Value} {Q : Value → St → Prop} (hz : vs.length ≤ sizeLine) (h : ∀ l, Q (.ref l) ⟨st.m, (l, lst vs 0) :: st.news⟩) : Ev C E (newList vs) st Q := fun s H =>
  wpAny_newObj_type ⟨_, H.toHeld.alloc (tk := s.toks) rfl, h _⟩ (by show vs.toArray.size ≤ sizeLine; rw [List.size_toArray]; exact hz)
theorem o_newTuple {vs : List Value} {Q : Value → St → Prop} (hz : vs.length ≤ sizeLine) (h : ∀ l, Q (.ref l) ⟨st.m, (l, tup vs 0) :: st.news⟩) : Ev C E (newTuple vs) st Q := fun s H =>
  wpAny_newObj_type ⟨_, H.toHeld.alloc (tk := s.toks) rfl, h _⟩ (by show vs.toArray.size ≤ sizeLine; rw [List.size_toArray]; exact hz)
theorem e_list {env : Env} {elts : List Expr} {pos : Pos} {Q : Value → St → Prop} (h : Ev C E (spliced (backTo pos (starEach elts env))) st fun vs st₁ => Ev C E (newList vs) st₁ Q) : Ev C E (eval (.List elts pos) env) st Q := fun s H => List_ (L1 h H)
theorem e_tuple {env : Env} {elts : List Expr} {k : Nat} {pos : Pos} {Q : Value → St → Prop} (h : Ev C E (spliced (backTo pos (starEach elts env))) st fun vs st₁ => Ev C E (newTuple vs) st₁ Q) : Ev C E (eval (.Tuple elts k pos) env) st Q := fun s H => Tuple_ (L1 h H)

-- lists
theorem o_truthy_list {l : Addr} {vs : List Value} {n : Nat} {Q : Bool → St → Prop} (hm : (l, lst vs n) ∈ st.news) (hz : vs.length ≤ sizeLine) (h : Q (!vs.isEmpty) st) : Ev C E (truthy (.ref l)) st Q := fun s H =>
  wpAny_truthy_list (isList_of (H.at hm).1) (by rw [List.size_toArray]; rw [sizeLine_eq] at hz; omega) ⟨st, H.tok, by rw [List.isEmpty_toArray]; exact h⟩

end
end Mine
end
section
open PySem PySem.W PyProof.Rows PySem.Calls PySem.Spec
namespace Mine
def tokenChars : Str := "!#$%&'*+-.0123456789ABCDEFGHIJKLMNOPQRSTUVWXYZ^_`abcdefghijklmnopqrstuvwxyz|~"
def globTab : List (Str × Value) := [("_law_dumped", .ref 296), ("_law_text", .ref 289), ("_law_place", .ref 315), ("_law_names", .ref 282), ("_law_signs", .ref 249), ("_law_pairs", .ref 275), ("_law_items", .ref 268),
  ("parse_list_header", .ref 75), ("parse_dict_header", .ref 82), ("dump_header", .ref 70), ("quote_header_value", .ref 53), ("unquote_header_value", .ref 65), ("parse_set_header", .ref 95), ("HeaderSet", .ref 238),
  ("_unslash_re", .ref 58), ("_charset_value_re", .ref 87), ("_token_chars", .str tokenChars 307), ("_DIGITS", .str "0123456789ABCDEFabcdef" 284), ("_text", .ref 38), ("unquote", .ref 45),
  ("_law_lists", .ref 301), ("_law_dicts", .ref 308), ("_law_sets", .ref 334), ("_law_deed", .ref 322), ("_law_due", .ref 329)]
def bltTab : List (Str × Value) := [("len", .builtin "len"), ("range", .type "range"), ("list", .type "list"), ("isinstance", .builtin "isinstance"), ("sorted", .builtin "sorted"), ("bool", .type "bool"), ("str", .type "str"), ("int", .type "int"), ("set", .type "set"),
  ("all", .builtin "all"), ("chr", .builtin "chr"), ("ord", .builtin "ord"), ("enumerate", .type "enumerate"), ("map", .type "map"), ("iter", .builtin "iter"), ("bytes", .type "bytes"), ("dict", .type "dict"), ("KeyError", .type "KeyError"), ("IndexError", .type "IndexError")]
theorem glob_all (w : World) : (globTab.all fun p => decide (nsIn (KF w) mainGlobals p.1 = some (some p.2))) = true := by kernel_rfl!
theorem blt_all (w : World) : (bltTab.all fun p => decide (nsIn (KF w) mainGlobals p.1 = some none) && decide (bootBuiltins p.1 = some p.2) && decide (p.1 ≠ "__name__")) = true := by kernel_rfl!
theorem mem_of_lookup {α : Type} {x : Str} {v : α} : ∀ {l : List (Str × α)}, l.lookup x = some v → (x, v) ∈ l
  | [], h => by cases h
  | (y, u) :: r, h => by
    rw [List.lookup_cons] at h
    cases hxy : x == y with
    | true => rw [hxy] at h; cases h; rw [eq_of_beq hxy]; exact .head _
    | false => rw [hxy] at h; exact .tail _ (mem_of_lookup h)
section
variable {C : Cx} {E : Value → Shared → Prop} {st : St}
theorem e_glob {env : Env} {x : Str} {pos : Pos} {v : Value} {Q : Value → St → Prop} (hl : env.kindOf x = some .globalImplicit) (hv : globTab.lookup x = some v) (h : Q v st) (hg : env.globals = mainGlobals) (hk : env.scope.kind = .function)
    (hd : (x == ("__debug__" : Str)) = false) : Ev C E (eval (.Name x pos) env) st Q :=
  e_global h (of_decide_eq_true (List.all_eq_true.mp (glob_all C.w) _ (mem_of_lookup hv))) hg hl hk hd
theorem e_blt {env : Env} {x : Str} {pos : Pos} {v : Value} {Q : Value → St → Prop} (hl : env.kindOf x = some .globalImplicit) (hv : bltTab.lookup x = some v) (h : Q v st) (hg : env.globals = mainGlobals) (heb : env.builtins = builtinsNs) (hk : env.scope.kind = .function)
    (hd : (x == ("__debug__" : Str)) = false) : Ev C E (eval (.Name x pos) env) st Q := by
  have q := List.all_eq_true.mp (blt_all C.w) _ (mem_of_lookup hv)
  simp only [Bool.and_eq_true, decide_eq_true_eq] at q
  exact e_builtin h q.1.1 q.1.2 q.2 hg heb hl hk hd
theorem e_loc {env : Env} {x : Str} {pos : Pos} {v : Value} {Q : Value → St → Prop} (hl : env.kindOf x = some .local) (hv : look st.m x = some v) (h : Q v st) (hL : env.locals = C.L) (hk : env.scope.kind = .function)
    (hd : (x == ("__debug__" : Str)) = false) : Ev C E (eval (.Name x pos) env) st Q := e_local h hv hL hl hk hd
end
end Mine
end
section
open PySem PySem.W PyProof.Rows PySem.Calls PySem.Spec
namespace Mine
/-- values that are these texts -/
inductive TxA : List Value → List Str → Prop where
  | nil : TxA [] []
  | cons {x : Str} {t : Tok} {vs : List Value} {xs : List Str} (h : TxA vs xs) : TxA (.str x t :: vs) (x :: xs)
theorem TxA.length {vs xs} (h : TxA vs xs) : vs.length = xs.length := by induction h <;> simp_all
theorem TxA.get {vs xs} (h : TxA vs xs) : ∀ {i : Nat} {x : Str}, xs[i]? = some x → ∃ t, vs[i]? = some (.str x t) := by
  induction h with
  | nil => intro i x e; simp at e
  | @cons x t vs xs h ih =>
    intro i y e
    cases i with
    | zero => simp at e; subst e; exact ⟨t, by simp⟩
    | succ i => simp at e; simpa using ih e
theorem TxA.at {vs xs} (h : TxA vs xs) {i : Nat} {v : Value} (e : vs[i]? = some v) : ∃ x t, xs[i]? = some x ∧ v = .str x t := by
  have hi : i < xs.length := by
    have := (List.getElem?_eq_some_iff.mp e).1
    rw [h.length] at this; exact this
  obtain ⟨t, ht⟩ := h.get (List.getElem?_eq_getElem hi)
  rw [e] at ht
  exact ⟨xs[i], t, List.getElem?_eq_getElem hi, Option.some.inj ht⟩
theorem TxA.append {vs xs} (h : TxA vs xs) {vs' xs'} (h' : TxA vs' xs') : TxA (vs ++ vs') (xs ++ xs') := by
  induction h with
  | nil => exact h'
  | cons _ ih => exact .cons ih
theorem TxA.strs {vs xs} (h : TxA vs xs) : ∃ l : List (Str × Tok), vs = strValues l ∧ l.map (·.1) = xs := by
  induction h with
  | nil => exact ⟨[], rfl, rfl⟩
  | @cons x t vs xs h ih => obtain ⟨l, rfl, rfl⟩ := ih; exact ⟨(x, t) :: l, rfl, rfl⟩
theorem TxA.of_strs : ∀ l : List (Str × Tok), TxA (strValues l) (l.map (·.1))
  | [] => .nil
  | (x, t) :: r => .cons (TxA.of_strs r)

theorem pl_intro {P : Sem Bool → Prop} (h : ∀ pl, P pl) : ∀ pl, P pl := h
theorem ite_t {p q : Prop} (h : p) : if true = true then p else q := by rw [if_pos rfl]; exact h
theorem ite_f {p q : Prop} (h : q) : if false = true then p else q := by rw [if_neg Bool.false_ne_true]; exact h
theorem ite_nt {p q : Prop} (h : q) : if (!true) = true then p else q := ite_f (p := p) h
theorem ite_nf {p q : Prop} (h : p) : if (!false) = true then p else q := ite_t (q := q) h
section
variable {C : Cx} {E : Value → Shared → Prop} {st : St}
theorem Held.fn {s : Shared} {h' : Heap} {k : Nat} (H : Held C st s) (F : Fr C.h₀ C.L h' (look st.m)) (N : News C.h₀ C.L h' (st.news ++ tabsOf H.δ)) : Held C st { s with heap := h', toks := k } := H.upd F N H.nd
theorem nd_lt {D : Addr} {o : Obj} {news : Led} (nd : (news.map (·.1)).Nodup) (h : ∀ a ∈ news, a.1 < D) : (((D, o) :: news).map (·.1)).Nodup := by
  rw [List.map_cons, List.nodup_cons]
  refine ⟨fun hm => ?_, nd⟩
  obtain ⟨p, hp, e⟩ := List.mem_map.mp hm
  have := h p hp
  rw [e] at this
  exact Nat.lt_irrefl _ this

theorem gm_strip {x : Str} {t : Tok} {pl : Sem Bool} {Q : Value × List Value → St → Prop} (h : Q (.builtin "str.strip", [.str x t]) st) : Ev C E (getMethod (.str x t) "strip" pl) st Q := fun s H => by with_reducible exact GM.strip ⟨st, H.toHeld, h⟩
theorem gm_lower {x : Str} {t : Tok} {pl : Sem Bool} {Q : Value × List Value → St → Prop} (h : Q (.builtin "str.lower", [.str x t]) st) : Ev C E (getMethod (.str x t) "lower" pl) st Q := fun s H => by with_reducible exact GM.lower ⟨st, H.toHeld, h⟩
theorem gm_upper {x : Str} {t : Tok} {pl : Sem Bool} {Q : Value × List Value → St → Prop} (h : Q (.builtin "str.upper", [.str x t]) st) : Ev C E (getMethod (.str x t) "upper" pl) st Q := fun s H => by with_reducible exact GM.upper ⟨st, H.toHeld, h⟩
theorem gm_startswith {x : Str} {t : Tok} {pl : Sem Bool} {Q : Value × List Value → St → Prop} (h : Q (.builtin "str.startswith", [.str x t]) st) : Ev C E (getMethod (.str x t) "startswith" pl) st Q := fun s H => by with_reducible exact GM.startswith ⟨st, H.toHeld, h⟩
theorem gm_endswith {x : Str} {t : Tok} {pl : Sem Bool} {Q : Value × List Value → St → Prop} (h : Q (.builtin "str.endswith", [.str x t]) st) : Ev C E (getMethod (.str x t) "endswith" pl) st Q := fun s H => by with_reducible exact GM.endswith ⟨st, H.toHeld, h⟩
theorem gm_replace {x : Str} {t : Tok} {pl : Sem Bool} {Q : Value × List Value → St → Prop} (h : Q (.builtin "str.replace", [.str x t]) st) : Ev C E (getMethod (.str x t) "replace" pl) st Q := fun s H => by with_reducible exact GM.replace ⟨st, H.toHeld, h⟩
theorem gm_join {x : Str} {t : Tok} {pl : Sem Bool} {Q : Value × List Value → St → Prop} (h : Q (.builtin "str.join", [.str x t]) st) : Ev C E (getMethod (.str x t) "join" pl) st Q := fun s H => by with_reducible exact GM.join ⟨st, H.toHeld, h⟩
theorem gm_partition {x : Str} {t : Tok} {pl : Sem Bool} {Q : Value × List Value → St → Prop} (h : Q (.builtin "str.partition", [.str x t]) st) : Ev C E (getMethod (.str x t) "partition" pl) st Q := fun s H => by with_reducible exact GM.partition ⟨st, H.toHeld, h⟩

theorem m_startswith {x y : Str} {t u : Tok} {Q : Value → St → Prop} (h : Q (.bool (Txt.startswith x y)) st) : Ev C E (call (.builtin "str.startswith") [.str x t, .str y u]) st Q := fun s H => SC.startswith ⟨st, H.toHeld, h⟩
theorem m_endswith {x y : Str} {t u : Tok} {Q : Value → St → Prop} (h : Q (.bool (Txt.endswith x y)) st) : Ev C E (call (.builtin "str.endswith") [.str x t, .str y u]) st Q := fun s H => SC.endswith ⟨st, H.toHeld, h⟩
theorem m_strip {x y : Str} {t u : Tok} {Q : Value → St → Prop} (hz : x.length ≤ sizeLine) (h : ∀ t', Q (.str (Txt.stripChars x y) t') st) : Ev C E (call (.builtin "str.strip") [.str x t, .str y u]) st Q := fun s H => SC.stripChars (fun t' _ => ⟨st, H.tok, h t'⟩) hz
theorem m_lower {x : Str} {t : Tok} {Q : Value → St → Prop} (hz : Builtin.Str.tooLong (Txt.lower x).length = false) (h : ∀ t', Q (.str (Txt.lower x) t') st) : Ev C E (call (.builtin "str.lower") [.str x t]) st Q := fun s H => SC.lower hz ⟨st, H.tok, h _⟩
theorem m_upper {x : Str} {t : Tok} {Q : Value → St → Prop} (hz : Builtin.Str.tooLong (Txt.upper x).length = false) (h : ∀ t', Q (.str (Txt.upper x) t') st) : Ev C E (call (.builtin "str.upper") [.str x t]) st Q := fun s H => SC.upper hz ⟨st, H.tok, h _⟩
theorem m_str {x : Str} {t : Tok} {Q : Value → St → Prop} (h : Q (.str x t) st) : Ev C E (call (.type "str") [.str x t]) st Q := fun s H => PySem.P.str_of_str ⟨st, H.toHeld, h⟩
theorem m_join {x : Str} {t : Tok} {l : Addr} {vs : List Value} {xs : List Str} {n : Nat} {Q : Value → St → Prop} (hm : (l, lst vs n) ∈ st.news) (hx : TxA vs xs) (hok : JoinOk x xs = true) (h : ∀ t', Q (.str (Txt.join x xs) t') st) :
    Ev C E (call (.builtin "str.join") [.str x t, .ref l]) st Q := fun s H => by
  obtain ⟨p, rfl, hp⟩ := hx.strs
  exact SC.join (isList_of (H.at hm).1) hp hok fun t' _ => ⟨st, H.tok, h t'⟩
theorem m_partition {x y : Str} {t u : Tok} {Q : Value → St → Prop} (hy : (y.length == 0) = false) (hz : x.length ≤ sizeLine)
    (h : ∀ D ta tb tc, Q (.ref D) ⟨st.m, (D, tup [.str (Txt.partition x y).1 ta, .str (Txt.partition x y).2.1 tb, .str (Txt.partition x y).2.2 tc] 0) :: st.news⟩) : Ev C E (call (.builtin "str.partition") [.str x t, .str y u]) st Q := fun s H =>
  KXpa.partition H.F H.N hy rfl rfl rfl hz fun D ta tb tc h' k F N hlt => ⟨⟨st.m, (D, _) :: st.news⟩, H.upd F N (nd_lt H.nd hlt), h D ta tb tc⟩

theorem NoneBooked.of {s : Shared} (H : Held C st s) : NoneBooked s.heap := by
  obtain ⟨mc, hn, _⟩ := C.T.nolimit
  refine ⟨mc, hn.keeps H.F.keep, ?_⟩
  exact ns_none_of C.T.X hn (by kernel_rfl!)

/-- two written texts, their tokens apart -/
theorem sp_two {env : Env} {y z : Str} {k1 k2 : Nat} {p1 p2 pos : Pos} {Q : List Value → St → Prop} (h : ∀ u v, u ≠ 0 → v ≠ 0 → u ≠ v → Q [.str y u, .str z v] st) :
    Ev C E (spliced (backTo pos (starEach [.Constant (.str y) k1 p1, .Constant (.str z) k2 p2] env))) st Q := fun s H => by
  refine spliced_more (wpAny_Constant_str ?_) rfl
  refine spliced_more (wpAny_Constant_str ?_) rfl
  refine Calls.spliced_nil ?_
  refine ⟨st, ⟨H.δ, H.F, H.N, H.nd, H.ok, H.os, H.gens, H.gp, H.us, H.uk⟩, h s.toks (s.toks + 1) (Nat.pos_iff_ne_zero.mp H.tp) (Nat.succ_ne_zero _) (Nat.ne_of_lt (Nat.lt_succ_self _))⟩
theorem m_replace {x y z : Str} {t u v : Tok} {Q : Value → St → Prop} (hu : u ≠ 0) (hv : v ≠ 0) (huv : u ≠ v) (hb : x.length + (x.length + 1) * z.length ≤ 16777216) (h : ∀ t', Q (.str (Txt.replace x y z) t') st) :
    Ev C E (call (.builtin "str.replace") [.str x t, .str y u, .str z v]) st Q := fun s H => SC.replaceA hu hv huv hb (fun t' _ => ⟨st, H.tok, h t'⟩) (NoneBooked.of H.toHeld)
end
end Mine
end
section
open PySem PySem.W PyProof.Rows PySem.Calls PySem.Spec
namespace Mine
section
variable {C : Cx} {E : Value → Shared → Prop} {st : St}

theorem nd_split {a b : Led} {P : Addr} {o : Obj} (h : ((a ++ (P, o) :: b).map (·.1)).Nodup) : (∀ p ∈ a, p.1 ≠ P) ∧ (∀ p ∈ b, p.1 ≠ P) := by
  rw [List.map_append, List.map_cons] at h
  obtain ⟨_, h2, h3⟩ := List.nodup_append.mp h
  rw [List.nodup_cons] at h2
  exact ⟨fun p hp e => h3 p.1 (List.mem_map_of_mem hp) P (.head _) e, fun p hp e => h2.1 (List.mem_map.mpr ⟨p, hp, e⟩)⟩
theorem news_grow {h₀ h h' : Heap} {L P : Addr} {own rest : Led} {o o' : Obj} (N : News h₀ L h (own ++ (P, o) :: rest)) (nd : ((own ++ (P, o) :: rest).map (·.1)).Nodup) (hx : Heap.ExtBut P h h') (hP : h'.get? P = some o') : News h₀ L h' (own ++ (P, o') :: rest) := by
  obtain ⟨h1, h2⟩ := nd_split nd
  intro p hp
  rcases List.mem_append.mp hp with hp | hp
  · have := N p (List.mem_append_left _ hp)
    exact ⟨hx _ _ (h1 p hp) this.1, this.2⟩
  · rcases List.mem_cons.mp hp with rfl | hp
    · exact ⟨hP, (N (P, o) (List.mem_append_right _ (.head _))).2⟩
    · have := N p (List.mem_append_right _ (.tail _ hp))
      exact ⟨hx _ _ (h2 p hp) this.1, this.2⟩
theorem fr_grow {h₀ h h' : Heap} {L P : Addr} {m : Str → Option Value} (F : Fr h₀ L h m) (hPL : P ≠ L) (hP0 : h₀.get? P = none) (hx : Heap.ExtBut P h h') : Fr h₀ L h' m :=
  ⟨F.ns.extBut hx hPL.symm, fun b o e => hx b o (fun q => by rw [q, hP0] at e; cases e) (F.keep b o e), F.above⟩

theorem held_q {δ : Tb} {s : Shared} {h' : Heap} {tk : Nat} {v : Value} (D : HeldD C δ st s) (hx : Heap.ExtBut 48 s.heap h') (hP : h'.get? 48 = some (tabG 32 15 (some v))) :
    HeldD C { δ with q := some v } st { s with heap := h', toks := tk } := by
  have m := D.N (48, tabG 32 15 δ.q) (List.mem_append_right _ (.head _))
  refine ⟨fr_grow D.F m.2.1 m.2.2 hx, news_grow (own := st.news) D.N D.nd hx hP, ?_, D.ok, D.os, D.gens, D.gp, D.us, D.uk⟩
  have := D.nd
  simp only [tabsOf, List.map_append, List.map_cons] at this ⊢
  exact this
theorem held_p {δ : Tb} {s : Shared} {h' : Heap} {tk : Nat} {v : Value} (D : HeldD C δ st s) (hx : Heap.ExtBut 72 s.heap h') (hP : h'.get? 72 = some (tabG 81 51 (some v))) :
    HeldD C { δ with p := some v } st { s with heap := h', toks := tk } := by
  have m := D.N (72, tabG 81 51 δ.p) (List.mem_append_right _ (.tail _ (.head _)))
  have e : ∀ δ : Tb, st.news ++ tabsOf δ = (st.news ++ [(48, tabG 32 15 δ.q)]) ++ (72, tabG 81 51 δ.p) :: tabU δ.u := fun δ => by simp [tabsOf]
  have N := D.N
  have nd := D.nd
  rw [e] at N nd
  refine ⟨fr_grow D.F m.2.1 m.2.2 hx, by rw [e]; exact news_grow N nd hx hP, ?_, D.ok, D.os, D.gens, D.gp, D.us, D.uk⟩
  have := D.nd
  simp only [tabsOf, List.map_append, List.map_cons] at this ⊢
  exact this

theorem gen_code_q {δ : Tb} {s : Shared} {env : Env} {pos : Pos} {qual : Str} {scope : Scope} {Q : Value → Shared → Prop} (D : HeldD C δ st s) (hc : env.code = .ref 52) (hl : pos.line = 32) (hk : pos.col = 15)
    (h : ∀ v h' tk, HeldD C { δ with q := some v } st { s with heap := h', toks := tk } → s.heap.objs.size ≤ h'.objs.size → Heap.ExtBut 48 s.heap h' → Q v { s with heap := h', toks := tk }) :
    wpAny (model prog C.w) C.A (genexprCode env pos qual scope) Q E s := by
  have m := D.N (48, tabG 32 15 δ.q) (List.mem_append_right _ (.head _))
  have hd : CodeHd s.heap 52 48 := codeHd_of_K (c := 52) (P := 48) (C.T.X.keeps D.F.keep) (by kernel_rfl!)
  obtain ⟨q, p, u⟩ := δ
  cases q with
  | none =>
    refine wpAny_genexprCodeX (c := 52) (P := 48) (ps := #[]) hc (hd.code m.1 trivial) (hd.tab m.1) rfl fun c' h' tk hx hge hlt _ _ htab _ => ?_
    refine h _ _ _ (held_q D hx ?_) (Nat.le_trans hge (Nat.le_of_lt hlt)) hx
    rw [htab.2, hl, hk]; rfl
  | some v =>
    refine wpAny_genexprCode_hit (c := 52) (P := 48) (ps := #[rawInt (32 : Nat), rawInt (15 : Nat), v]) hc (hd.code m.1 trivial) ?_ (h v s.heap s.toks D (Nat.le_refl _) (Heap.ExtBut.refl _ _))
    simp [codeAmong, rawInt, hl, hk]
theorem gen_code_p {δ : Tb} {s : Shared} {env : Env} {pos : Pos} {qual : Str} {scope : Scope} {Q : Value → Shared → Prop} (D : HeldD C δ st s) (hc : env.code = .ref 74) (hl : pos.line = 81) (hk : pos.col = 51)
    (h : ∀ v h' tk, HeldD C { δ with p := some v } st { s with heap := h', toks := tk } → s.heap.objs.size ≤ h'.objs.size → Heap.ExtBut 72 s.heap h' → Q v { s with heap := h', toks := tk }) :
    wpAny (model prog C.w) C.A (genexprCode env pos qual scope) Q E s := by
  have m := D.N (72, tabG 81 51 δ.p) (List.mem_append_right _ (.tail _ (.head _)))
  have hd : CodeHd s.heap 74 72 := codeHd_of_K (c := 74) (P := 72) (C.T.X.keeps D.F.keep) (by kernel_rfl!)
  obtain ⟨q, p, u⟩ := δ
  cases p with
  | none =>
    refine wpAny_genexprCodeX (c := 74) (P := 72) (ps := #[]) hc (hd.code m.1 trivial) (hd.tab m.1) rfl fun c' h' tk hx hge hlt _ _ htab _ => ?_
    refine h _ _ _ (held_p D hx ?_) (Nat.le_trans hge (Nat.le_of_lt hlt)) hx
    rw [htab.2, hl, hk]; rfl
  | some v =>
    refine wpAny_genexprCode_hit (c := 74) (P := 72) (ps := #[rawInt (81 : Nat), rawInt (51 : Nat), v]) hc (hd.code m.1 trivial) ?_ (h v s.heap s.toks D (Nat.le_refl _) (Heap.ExtBut.refl _ _))
    simp [codeAmong, rawInt, hl, hk]

theorem passing_all (n : Nat) : passing (fun _ => true) n 0 = List.range n := by
  unfold passing
  rw [List.drop_zero]
  exact List.filter_eq_self.mpr fun _ _ => rfl

theorem bi_for {s : Shared} {Q : Addr → Shared → Prop} {b : Addr} (D : Held C st s) (h : Q builtinsNs s) : wpAny (model prog C.w) C.A (builtinsFor mainGlobals b) Q E s := by
  obtain ⟨bm, ob, h1, h2, h3, h4, h5, h6⟩ := C.T.bmain
  exact wpAny_builtinsFor (C.T.g.keeps D.F.keep) h1 h2 (D.F.keep _ _ h3) h4 h5 h6 h

/-- what the maker of a generator gives of its iterator, and what it gets -/
def GenIn (C : Cx) (Pt : Addr) (cl : List (Str × Addr)) (scope : Scope) (env : Env) (x : Str) (elt : Expr) (Q : Value → Shared → Prop) (it : Value) (s₂ : Shared) : Prop :=
  ∃ st₂ I fp ex n P St₀ F, it = .ref I ∧ Holds C st₂ s₂ ∧
        (∀ A' : Around, A'.handled = none → Walks prog C.w A' I fp [I] n P St₀) ∧ St₀ 0 s₂.heap ∧ (∀ b ∈ fp ++ ex, ∃ o, s₂.heap.get? b = some o) ∧ Pt ∉ fp ∧ (I ≠ cStatics) ∧
        (∀ (code : Value) (h₃ href : Heap), (∀ b o, b ≠ Pt → s₂.heap.get? b = some o → href.get? b = some o) →
          QuietGen prog C.w (genEnv scope cl h₃.objs.size code builtinsNs env) x [] elt (cStatics :: (fp ++ ex)) [I] P (fun _ => true) F href) ∧
        (∀ a Cc g oa oC δ s₅, a ≠ Cc → HeldD C δ ⟨st₂.m, (a, oa) :: (Cc, oC) :: st₂.news⟩ s₅ → s₅.gens.size = g + 1 → C.gb.size ≤ g → s₂.heap.objs.size ≤ Cc → s₂.heap.objs.size ≤ a → 0 < s₅.toks → C.sb ≤ s₅.heap.objs.size →
          (∀ A' : Around, A'.handled = none → A'.depth < recursionLimit →
            WalksS prog C.w A' a (a :: Cc :: cStatics :: (fp ++ ex)) [Cc, I] (GenOnlyQ g) n (fun j y => F j y) (GenAt prog C.w A' a g Cc (cStatics :: (fp ++ ex)) [I] (fun _ => true) n F) ∧
            GenAt prog C.w A' a g Cc (cStatics :: (fp ++ ex)) [I] (fun _ => true) n F 0 s₅) → Q (.ref a) s₅)
/-- the making of a generator over an iterator that stands in the ledger -/
theorem gen_core {env : Env} {elt iter : Expr} {x : Str} {px : Pos} {scope : Scope} {cl : List (Str × Addr)} {pos : Pos} {Pt : Addr} {Q : Value → Shared → Prop} {s : Shared} {up : Tb → Value → Tb}
    (hco : scope.isCoroutine = false) (hclos : closureFor scope env = pure cl) (hcell : ∀ y ∈ scope.names, y.2 ≠ .cell) (h0 : scope.names.lookup (".0" : Str) = some NameKind.local)
    (hx : scope.names.lookup x = some .local) (hkind : scope.kind = .function) (hg : env.globals = mainGlobals)
    (hcode : ∀ (δ : Tb) (st : St) (s : Shared) (Q : Value → Shared → Prop), HeldD C δ st s → (∀ v h' tk, HeldD C (up δ v) st { s with heap := h', toks := tk } → s.heap.objs.size ≤ h'.objs.size → Heap.ExtBut Pt s.heap h' → Q v { s with heap := h', toks := tk }) →
      wpAny (model prog C.w) C.A (genexprCode env pos (env.qual ++ "<genexpr>") scope) Q E s)
    (h : wpAny (model prog C.w) C.A (eval iter env) (fun xv s₁ => wpAny (model prog C.w) C.A (pyIter xv) (fun it s₂ => GenIn C Pt cl scope env x elt Q it s₂) E s₁) E s)
    (hs : ∀ x, genFold iter env x = pure x) :
    wpAny (model prog C.w) C.A (eval (.GeneratorExp elt [⟨.Name x px, iter, [], 0⟩] scope pos) env) Q E s := by
  refine wpAny_GeneratorExp_make hco hclos hcell h0 hkind (by have := C.dp; omega) (wpAny_mono h (fun xv s₁ h₁ => wpAny_mono h₁ (fun it s₂ h₂ => ?_) fun _ _ e => e) fun _ _ e => e) hs
  obtain ⟨st₂, I, fp, ex, n, P, St₀, F, rfl, ⟨⟨δ, D⟩, htp0, hsz0⟩, W₀, hst, hfp, hPf, hIc, hq, hQ⟩ := h₂
  have hlim : s₂.heap.NoLimit := C.T.nolimit.keeps D.F.keep
  refine ⟨hlim, hcode δ st₂ s₂ _ D fun code h₃ tk₃ D₃ hsz hx₃ => ?_⟩
  have HE : Held C st₂ { s₂ with heap := h₃, toks := tk₃ } := ⟨_, D₃⟩
  rw [hg]
  refine bi_for HE ?_
  intro h' hn' hs'
  dsimp only at hn' hs' ⊢
  have hsz' : h'.objs.size = h₃.objs.size + 1 := by rw [hs'.1, Heap.size_push]
  have keep' : ∀ b o, h₃.get? b = some o → h'.get? b = some o := fun b o e => hs'.extBut b o (Nat.ne_of_lt (Heap.lt_size e)) (Heap.get?_push_of_some _ e)
  have hclt : cStatics < h₃.objs.size := let ⟨_, hn, _⟩ := C.T.nolimit.keeps D₃.F.keep; hn.lt
  have hst₃ : St₀ 0 h₃ := (W₀ callerA rfl).frame _ _ _ hst fun b hb o e => hx₃ b o (fun q => hPf (q ▸ hb)) e
  have hlt₃ : ∀ b ∈ fp ++ ex, b < h₃.objs.size := fun b hb => let ⟨o, e⟩ := hfp b hb; Nat.lt_of_lt_of_le (Heap.lt_size e) hsz
  have hlt₄ : ∀ b ∈ cStatics :: (fp ++ ex), b < h₃.objs.size := fun b hb => by
    rcases List.mem_cons.mp hb with rfl | hb
    · exact hclt
    · exact hlt₃ b hb
  obtain ⟨oC, eC⟩ : ∃ oC, h'.get? h₃.objs.size = some oC := let ⟨o, _, _, e, _⟩ := hn'; ⟨o, e⟩
  let gob : Obj := { cls := .type "generator", data := .fields #[.int s₂.gens.size 0, .str "<genexpr>" (tk₃ + 1), .str (env.qual ++ "<genexpr>") (tk₃ + 1 + 1)] }
  have keep₅ : ∀ b o, h₃.get? b = some o → (h'.push gob).get? b = some o := fun b o e => Heap.get?_push_of_some _ (keep' b o e)
  have h0n : ∀ b, h₃.objs.size ≤ b → C.h₀.get? b = none := fun b hb => by
    cases q : C.h₀.get? b with
    | none => rfl
    | some o => exact absurd (Heap.lt_size (D₃.F.keep b o q)) (Nat.not_lt.mpr hb)
  have hLlt : C.L < h₃.objs.size := D₃.F.ns.lt
  have D₅ : ∀ tk, HeldD C (up δ code) ⟨st₂.m, (h'.objs.size, gob) :: (h₃.objs.size, oC) :: st₂.news⟩ { s₂ with
      gens := s₂.gens.push (.fresh (.compStart (.GeneratorExp elt [⟨.Name x px, iter, [], 0⟩] scope pos) 0 (.ref I) .none (genEnv scope cl h₃.objs.size code builtinsNs env))),
      toks := tk, heap := h'.push gob } := fun tk => by
    refine ⟨⟨(D₃.F.ns.keeps keep₅), fun b o e => keep₅ b o (D₃.F.keep b o e), D₃.F.above⟩, ?_, ?_, D₃.ok, D₃.os, D₃.gens.push rfl, ?_, D₃.us, D₃.uk⟩
    · intro p hp
      rcases List.mem_cons.mp hp with rfl | hp
      · exact ⟨Heap.get?_push_size _ rfl, by rw [hsz']; exact Nat.ne_of_gt (Nat.lt_succ_of_lt hLlt), h0n _ (by rw [hsz']; exact Nat.le_succ _)⟩
      · rcases List.mem_cons.mp hp with rfl | hp
        · exact ⟨Heap.get?_push_of_some _ eC, Nat.ne_of_gt hLlt, h0n _ (Nat.le_refl _)⟩
        · have := D₃.N p hp
          exact ⟨keep₅ _ _ this.1, this.2⟩
    · have lt : ∀ p ∈ st₂.news ++ tabsOf (up δ code), p.1 < h₃.objs.size := fun p hp => Heap.lt_size (D₃.N p hp).1
      show (((h'.objs.size, gob) :: (h₃.objs.size, oC) :: (st₂.news ++ tabsOf (up δ code))).map (·.1)).Nodup
      refine nd_lt (nd_lt D₃.nd lt) fun a ha => ?_
      rcases List.mem_cons.mp ha with rfl | ha
      · rw [hsz']; exact Nat.lt_succ_self _
      · rw [hsz']; exact Nat.lt_succ_of_lt (lt a ha)
    · intro k hk
      have e := D₃.gp k hk
      have hk2 : k < s₂.gens.size := by
        rw [Array.getElem?_eq_getElem hk] at e
        exact (Array.getElem?_eq_some_iff.mp e).1
      show (s₂.gens.push _)[k]? = _
      rw [Array.getElem?_push, if_neg (by omega)]
      exact e
  have gsz : C.gb.size ≤ s₂.gens.size := by
    rcases Nat.lt_or_ge s₂.gens.size C.gb.size with hlt | hge
    · have e := D₃.gp s₂.gens.size hlt
      have e' : (s₂.gens)[s₂.gens.size]? = none := Array.getElem?_eq_none (Nat.le_refl _)
      have e2 : C.gb[s₂.gens.size]? = none := e.symm.trans e'
      rw [Array.getElem?_eq_getElem hlt] at e2; cases e2
    · exact hge
  refine hQ _ _ s₂.gens.size gob oC (up δ code) _ (by rw [hsz']; exact Nat.succ_ne_self _) (D₅ _) (Array.size_push _) gsz hsz (Nat.le_trans hsz (by rw [hsz']; exact Nat.le_succ _)) (Nat.succ_pos _) (Nat.le_trans hsz0 (Nat.le_trans hsz (by dsimp only; rw [Heap.size_push, hsz']; omega))) fun A' hA hr => ?_
  have haC : h'.objs.size ≠ h₃.objs.size := by rw [hsz']; exact Nat.succ_ne_self _
  have hsub : ∀ b ∈ [I], b ∈ cStatics :: (fp ++ ex) := fun b hb => List.mem_cons_of_mem _ (List.mem_append_left _ ((W₀ callerA rfl).sub b hb))
  have haf : h'.objs.size ∉ cStatics :: (fp ++ ex) := fun hm => absurd (hlt₄ _ hm) (by rw [hsz']; exact Nat.not_lt.mpr (Nat.le_succ _))
  have hcw : cStatics ∉ [I] := fun hm => hIc (List.mem_singleton.mp hm).symm
  have W := WalksS.genexpQ (prog := prog) (w := C.w) (A := A') hA h'.objs.size s₂.gens.size h₃.objs.size (cStatics :: (fp ++ ex)) [I] (fun _ => true) n F haC haf hsub hr (List.mem_cons_self ..) (Nat.ne_of_lt hclt) hcw
  rw [passing_all, List.length_range] at W
  refine ⟨⟨W.sub, W.grefl, W.gtrans, W.frame, fun i s Q E hi hst hQ => W.item i s Q E hi hst fun v s' hP hst' hm => hQ v s' ?_ hst' hm, W.done, W.self⟩, ?_⟩
  · obtain ⟨k, hk, hF⟩ := hP
    rw [List.getElem?_range hi] at hk
    cases hk
    exact hF
  · refine GenAt.fresh (A := A') (cenv := genEnv scope cl h₃.objs.size code builtinsNs env) (m := fun y => if y = ".0" then some (.ref I) else none) hA
      (fun A'' hA'' => (W₀ A'' hA'').mono_fp fun b hb => List.mem_cons_of_mem _ (List.mem_append_left _ hb)) _ F hx (by simp [genEnv, hkind]) hco
      (fun hm => Nat.lt_irrefl _ (hlt₄ _ hm)) (hq _ _ _ fun b o hb e => keep₅ b o (hx₃ b o hb e)) ⟨_, _, _, Heap.get?_push_size _ rfl, rfl, rfl, rfl⟩ (Array.getElem?_push_size ..) ((W₀ callerA rfl).frame _ _ _ hst₃ fun b _ o e => keep₅ b o e) (hn'.push _)
      ((C.T.nolimit.keeps D₃.F.keep).keeps keep₅)
end
end Mine
end
section
open PySem PySem.W PyProof.Rows PySem.Calls PySem.Spec
namespace Mine
section
variable {α β : Type} {C : Cx} {E : Value → Shared → Prop} {st : St}

theorem bindL_all {kindOf : Str → Option NameKind} : ∀ (binds : List (Str × Value)) (m : Str → Option Value), (∀ y ∈ binds, kindOf y.1 = some .local) → ∀ y, bindL kindOf binds m y = (match binds.reverse.lookup y with | some v => some v | none => m y)
  | [], m, _, y => rfl
  | (n, v) :: r, m, h, y => by
    rw [bindL, if_pos (h (n, v) (.head _)), bindL_all r _ (fun z hz => h z (.tail _ hz)), List.reverse_cons, List.lookup_append]
    cases List.lookup y r.reverse with
    | some u => rfl
    | none =>
      simp only [List.lookup_cons, List.lookup_nil, Option.none_or]
      cases hy : y == n with
      | true => rw [eq_of_beq hy]; simp
      | false => rw [if_neg (beq_eq_false_iff_ne.mp hy)]
theorem bindC_none {kindOf : Str → Option NameKind} : ∀ (binds : List (Str × Value)) (m : Str → Option Value), (∀ y ∈ binds, kindOf y.1 = some .local) → bindC kindOf binds m = m
  | [], m, _ => rfl
  | (n, v) :: r, m, h => by rw [bindC, if_pos (h (n, v) (.head _)), bindC_none r _ fun z hz => h z (.tail _ hz)]

/-- a call of a def with one cell -/
theorem call_defC {name qual xc : Str} {params : Arguments} {body : List Stmt} {scope : Scope} {dV kV doc pm cdv ct oc : Value} {an od : Option Addr} {osl : Array (Option Value)} {f : Addr} {pos : List Value} {kw : List (Str × Value)} {binds : List (Str × Value)} {Q : Value → St → Prop}
    (ho : (KF C.w).lookup f = some ⟨oc, od, .func (fnOf name qual params body scope dV kV doc pm an cdv ct), osl⟩) (hcd : codeIn (KF C.w) cdv qual = true) (hroom : 0 < C.room)
    (hbind : ∀ S, peek (KF C.w) S (bindArgs (fnOf name qual params body scope dV kV doc pm an cdv ct) ⟨pos, kw⟩) = some binds)
    (hloc : (binds.all fun y => decide (scope.names.lookup y.1 = some .local)) = true) (hnd : decide ((binds.map (·.1)).Nodup) = true) (hcell : ∀ n, cellsFrom n scope.names [] = [(xc, n)])
    (hco : scope.isCoroutine = false) (hgen : scope.isGenerator = false) (hk : scope.kind = .function)
    (h : ∀ (C' : Cx) (o : Obj), C'.w = C.w → C'.room + 1 = C.room → C'.env = envX qual scope C'.L f cdv [(xc, C'.L + 1)] → o.data = .cell none → Ev C' NoE (execs body (envX qual scope C'.L f cdv [(xc, C'.L + 1)])) ⟨binds, (C'.L + 1, o) :: st.news⟩ fun fl st' => ∃ news', Sub news' st'.news ∧ Q (retOf fl) ⟨st.m, news'⟩) :
    Ev C E (call (.ref f) pos kw) st Q := by
  intro s H
  refine wpAny_call ?_
  have hX := C.T.X.keeps H.F.keep
  have hlocal : ∀ y ∈ binds, scope.names.lookup y.1 = some .local := fun y hy => of_decide_eq_true (List.all_eq_true.mp hloc y hy)
  obtain ⟨FG, BG, stay, lv⟩ := groundX (R := fun r s' => match r with | .ok (.ret v) => Post C Q v s' | .error e => E e s' | _ => False) C.B H.F H.N C.fr C.ef C.ek
  refine codeAny_call_function (by have := C.dp; omega) (hX _ _ ho) rfl hco hgen rfl (codeRec_of hX hcd) (kp_binds hX hbind _ _ _ _ ?_)
  show wpAny _ _ (newFunctionEnv scope mainGlobals [] binds (qual ++ ".<locals>.") (some f) cdv none builtinsNs) _ _ _
  refine wpAny_mono (wpAny_toks_of H.tp (wpAny_newFunctionEnv_cells (E := fun _ _ => False) (Q := fun env' s' => env' = envX qual scope s.heap.objs.size f cdv [(xc, s.heap.objs.size + 1)] ∧ InCallC s env'.locals (bindL env'.kindOf binds fun _ => none) env'.cells (bindC env'.kindOf binds fun _ => none) s') hk (fun y hy => .inl (hlocal y hy)) fun env' he s' x => ⟨?_, x⟩)) (fun env' s' hx => ?_) (fun _ _ e => e.2.elim)
  · rw [he, hcell]; rfl
  obtain ⟨tp, he, x⟩ := hx
  subst he
  have hkd : ∀ y ∈ binds, (envX qual scope s.heap.objs.size f cdv [(xc, s.heap.objs.size + 1)]).kindOf y.1 = some .local := hlocal
  rw [bindC_none _ _ hkd] at x
  refine ⟨(C.T.nolimit.keeps H.F.keep).keeps x.toInCall.keep, codeAny_func ?_⟩
  obtain ⟨h₁, tk, rfl, _⟩ := x.done
  have hk₁ := x.toInCall.keep
  obtain ⟨o, ho1, ho2⟩ := x.cell xc (s.heap.objs.size + 1) (by show List.lookup _ _ = _; simp)
  have hns : h₁.Ns s.heap.objs.size (look binds) := by
    have e : (bindL (envX qual scope s.heap.objs.size f cdv [(xc, s.heap.objs.size + 1)]).kindOf binds fun _ => none) = look binds := by
      rw [← lookup_rev (of_decide_eq_true hnd)]
      funext y
      rw [bindL_all _ _ hkd]
      cases List.lookup y binds.reverse <;> rfl
    exact e ▸ x.toInCall.ns
  have hgn : ∀ b, s.heap.objs.size ≤ b → (hideAll s.heap ((st.news ++ tabsOf H.δ).map (·.1))).get? b = none := fun b hb => by
    cases q : (hideAll s.heap ((st.news ++ tabsOf H.δ).map (·.1))).get? b with
    | none => rfl
    | some o => exact absurd (Heap.lt_size (of_hideAll _ q)) (Nat.not_lt.mpr hb)
  let C' : Cx := { C with
    A₀ := C.A, A := C.A.deeper (envX qual scope s.heap.objs.size f cdv [(xc, s.heap.objs.size + 1)]), outer := C.env :: C.outer, h₀ := hideAll s.heap ((st.news ++ tabsOf H.δ).map (·.1)), L := s.heap.objs.size, env := envX qual scope s.heap.objs.size f cdv [(xc, s.heap.objs.size + 1)], room := C.room - 1, gb := s.gens, u0 := H.δ.u, sb := s.heap.objs.size
    B := BG, T := C.T.keeps stay, kd := kd_enter H.F H.N C.kd C.ef, fr := by show C.A.frames.map _ = _; rw [C.fr]; rfl
    ef := rfl, el := rfl, eg := rfl, eb := rfl, ek := hk, hh := C.hh, gd := C.gd
    dp := by show C.A.depth + 1 + (C.room - 1) < recursionLimit; have := C.dp; omega
    un := by show C.A.units + 3 + 8 * (C.room - 1) + 8 < cLine; have := C.un; omega }
  have lt : ∀ p ∈ st.news ++ tabsOf H.δ, p.1 < s.heap.objs.size := fun p hp => Heap.lt_size (H.N p hp).1
  refine wpAny_mono (h C' o rfl (by show C.room - 1 + 1 = C.room; omega) rfl ho2 _ ⟨⟨H.δ, ⟨hns, fun b o e => hk₁ b o (of_hideAll _ e), Nat.le_of_eq (hideAll_size _ _)⟩, fun p hp => ?_,
    nd_lt H.nd fun p hp => Nat.lt_succ_of_lt (lt p hp), H.ok, H.os, H.gens, fun _ _ => rfl, fun _ e => .inl e, fun _ e => e⟩, tp, Nat.le_of_lt hns.lt⟩) (fun fl s' hq => ?_) (fun e s' hq => hq.elim)
  · rcases List.mem_cons.mp hp with rfl | hp
    · exact ⟨ho1, Nat.succ_ne_self _, hgn _ (Nat.le_succ _)⟩
    · exact ⟨hk₁ _ _ (H.N p hp).1, Nat.ne_of_lt (lt p hp), hideAll_none _ (List.mem_map_of_mem hp)⟩
  · obtain ⟨st', H', news', hs, q⟩ := hq
    refine lv _ _ (leaveK_ H'.F H'.N fun F₂ N₂ => ?_)
    have H₂ : Held C ⟨st.m, st'.news⟩ s' := ⟨H'.δ, F₂, N₂, H'.nd, H'.ok, H'.os, H'.gens, gp_trans H.gp H'.gp, us_trans H.us H.sz H'.us, fun q e => H'.uk q (H.uk q e)⟩
    cases fl <;> exact ⟨⟨st.m, news'⟩, H₂.sub hs, q⟩
end
end Mine
end
section
open PySem PySem.W PyProof.Rows PySem.Calls PySem.Spec
namespace Mine
/-- the signs of a token -/
def isTok (c : Nat) : Bool := tokenChars.cps.toList.contains c
def isTokS (x : Str) : Bool := x.cps.toList.all isTok
def lawToks : Str := "!#$%&'*+-.^_~|0123456789abcdefghijklmnopqrstuvwxyzABCDEFGHIJKLMNOPQRSTUVWXYZ"
theorem lawToks_ok (c : Nat) : (lawToks.cps.toList.contains c || c == 96) = isTok c := by
  have h1 : ∀ c ∈ lawToks.cps.toList ++ [96], isTok c = true := by decide +kernel
  have h2 : ∀ c ∈ tokenChars.cps.toList, (lawToks.cps.toList.contains c || c == 96) = true := by decide +kernel
  cases h : isTok c with
  | true => exact h2 c (List.contains_iff_mem.mp h)
  | false =>
    cases h' : (lawToks.cps.toList.contains c || c == 96) with
    | false => rfl
    | true =>
      have := h1 c (by
        rw [Bool.or_eq_true] at h'
        rcases h' with h' | h'
        · exact List.mem_append_left _ (List.contains_iff_mem.mp h')
        · exact List.mem_append_right _ (List.mem_singleton.mpr (eq_of_beq h')))
      rw [h] at this; cases this
theorem contains_one (x : Str) (c : Nat) : Txt.contains x ⟨#[c]⟩ = x.cps.toList.contains c := by
  show (!(Builtin.Str.occurrences x ⟨#[c]⟩ 0 x.length 1).isEmpty) = _
  rw [StrLaws.found_one]
  rw [Bool.eq_iff_iff]; simp

def subst (c : Nat) (z l : List Nat) : List Nat := l.flatMap fun d => if d = c then z else [d]
theorem subst_append (c : Nat) (z a b : List Nat) : subst c z (a ++ b) = subst c z a ++ subst c z b := by simp [subst]
theorem subst_free (c : Nat) (z : List Nat) : ∀ l : List Nat, c ∉ l → subst c z l = l
  | [], _ => rfl
  | k :: r, h => by
    have h1 : ¬ k = c := fun e => h (e ▸ List.mem_cons_self ..)
    have h2 : c ∉ r := fun m => h (List.mem_cons_of_mem _ m)
    show (if k = c then z else [k]) ++ subst c z r = _
    rw [if_neg h1, subst_free c z r h2]; rfl
theorem subst_join (c : Nat) (z : Str) : ∀ parts : List Str, (∀ p ∈ parts, c ∉ p.cps.toList) → subst c z.cps.toList (Str.join ⟨#[c]⟩ parts).cps.toList = (Str.join z parts).cps.toList
  | [], _ => rfl
  | [p], h => subst_free c _ _ (h p (List.mem_singleton.mpr rfl))
  | p :: q :: r, h => by
    have ih := subst_join c z (q :: r) fun a ha => h a (List.mem_cons_of_mem _ ha)
    show subst c _ (p ++ ⟨#[c]⟩ ++ Str.join ⟨#[c]⟩ (q :: r)).cps.toList = (p ++ z ++ Str.join z (q :: r)).cps.toList
    simp only [Str.cps_append, Array.toList_append]
    rw [subst_append, subst_append, ih, subst_free c _ _ (h p (List.mem_cons_self ..))]
    have e : subst c z.cps.toList [c] = z.cps.toList := by simp [subst]
    show p.cps.toList ++ subst c z.cps.toList [c] ++ _ = _
    rw [e]
theorem replace_subst (x z : Str) (c : Nat) : (Txt.replace x ⟨#[c]⟩ z).cps.toList = subst c z.cps.toList x.cps.toList := by
  rw [StrLaws.replace_one, ← subst_join c z _ (StrLaws.split_free x c), StrLaws.join_split]

/-- a text's signs behind their backslashes -/
def esc (l : List Nat) : List Nat := l.flatMap fun d => if d = 92 then [92, 92] else if d = 34 then [92, 34] else [d]
theorem esc_subst (l : List Nat) : subst 34 [92, 34] (subst 92 [92, 92] l) = esc l := by
  induction l with
  | nil => rfl
  | cons d r ih =>
    show subst 34 _ ((if d = 92 then [92, 92] else [d]) ++ subst 92 _ r) = (if d = 92 then [92, 92] else if d = 34 then [92, 34] else [d]) ++ esc r
    rw [subst_append, ih]
    congr 1
    by_cases h : d = 92
    · subst h; rfl
    · rw [if_neg h, if_neg h]
      by_cases h' : d = 34
      · subst h'; rfl
      · rw [if_neg h']; exact subst_free _ _ _ (by simpa using fun e => h' e.symm)
theorem esc_length (l : List Nat) : (esc l).length ≤ 2 * l.length := by
  induction l with
  | nil => exact Nat.le_refl _
  | cons d r ih =>
    show ((if d = 92 then [92, 92] else if d = 34 then [92, 34] else [d]) ++ esc r).length ≤ _
    rw [List.length_append, List.length_cons]
    have : (if d = 92 then [92, 92] else if d = 34 then [92, 34] else [d] : List Nat).length ≤ 2 := by split <;> (try split) <;> simp
    omega
theorem subst_length (c a b : Nat) (l : List Nat) : (subst c [a, b] l).length ≤ 2 * l.length := by
  induction l with
  | nil => exact Nat.le_refl _
  | cons d r ih =>
    show ((if d = c then [a, b] else [d]) ++ subst c [a, b] r).length ≤ _
    rw [List.length_append, List.length_cons]
    have : (if d = c then [a, b] else [d] : List Nat).length ≤ 2 := by split <;> simp
    omega

def quoted (x : Str) : Str := "\"" ++ Txt.replace (Txt.replace x "\\" "\\\\") "\"" "\\\"" ++ "\""
def dumped (x : Str) : Str := if x != "" && isTokS x then x else quoted x
theorem str_len (x : Str) : x.length = x.cps.toList.length := by rw [Array.length_toList]; rfl
theorem replaced_cps (x : Str) : (Txt.replace (Txt.replace x "\\" "\\\\") "\"" "\\\"").cps.toList = esc x.cps.toList := by
  have e1 : ("\\" : Str) = ⟨#[92]⟩ := by decide
  have e2 : ("\"" : Str) = ⟨#[34]⟩ := by decide
  have e3 : ("\\\\" : Str).cps.toList = [92, 92] := by decide
  have e4 : ("\\\"" : Str).cps.toList = [92, 34] := by decide
  rw [e2, replace_subst, e4, e1, replace_subst, e3, esc_subst]
theorem quoted_cps (x : Str) : (quoted x).cps.toList = 34 :: (esc x.cps.toList ++ [34]) := by
  have e2 : ("\"" : Str).cps.toList = [34] := by decide
  unfold quoted
  rw [Str.cps_append, Array.toList_append, Str.cps_append, Array.toList_append, replaced_cps, e2]
  rfl
theorem rep1_length (x : Str) : (Txt.replace x "\\" "\\\\").length ≤ 2 * x.length := by
  have e1 : ("\\" : Str) = ⟨#[92]⟩ := by decide
  have e3 : ("\\\\" : Str).cps.toList = [92, 92] := by decide
  rw [str_len, str_len, e1, replace_subst, e3]
  exact subst_length ..
theorem rep2_length (x : Str) : (Txt.replace (Txt.replace x "\\" "\\\\") "\"" "\\\"").length ≤ 2 * x.length := by
  rw [str_len, str_len, replaced_cps]; exact esc_length _
theorem quoted_length (x : Str) : (quoted x).length ≤ 2 * x.length + 2 := by
  rw [str_len, str_len, quoted_cps]
  have := esc_length x.cps.toList
  simp only [List.length_cons, List.length_append, List.length_nil]
  omega
theorem sz_a {x : Str} (h : x.length ≤ 1000) : x.length + (x.length + 1) * ("\\\\" : Str).length ≤ 16777216 := by
  rw [show ("\\\\" : Str).length = 2 by decide]; omega
theorem sz_b {x : Str} (h : x.length ≤ 1000) : (Txt.replace x "\\" "\\\\").length + ((Txt.replace x "\\" "\\\\").length + 1) * ("\\\"" : Str).length ≤ 16777216 := by
  have h1 := rep1_length x
  rw [show ("\\\"" : Str).length = 2 by decide]
  generalize (Txt.replace x "\\" "\\\\").length = n at h1 ⊢
  omega
theorem sz_c {x : Str} (h : x.length ≤ 1000) : ("\"" : Str).length + (Txt.replace (Txt.replace x "\\" "\\\\") "\"" "\\\"").length ≤ sizeLine := by
  have h1 := rep2_length x
  rw [show ("\"" : Str).length = 1 by decide, sizeLine_eq]
  generalize (Txt.replace (Txt.replace x "\\" "\\\\") "\"" "\\\"").length = n at h1 ⊢
  omega
theorem sz_d {x : Str} (h : x.length ≤ 1000) : ("\"" ++ Txt.replace (Txt.replace x "\\" "\\\\") "\"" "\\\"").length + ("\"" : Str).length ≤ sizeLine := by
  have h1 := rep2_length x
  rw [Str.length_append, show ("\"" : Str).length = 1 by decide, sizeLine_eq]
  generalize (Txt.replace (Txt.replace x "\\" "\\\\") "\"" "\\\"").length = n at h1 ⊢
  omega
theorem dumped_length (x : Str) : (dumped x).length ≤ 2 * x.length + 2 := by
  unfold dumped
  split
  · omega
  · exact quoted_length x
end Mine
end
section
open PySem PySem.W PyProof.Rows PySem.Calls PySem.Spec
namespace Mine
section
variable {C : Cx} {E : Value → Shared → Prop} {st : St}

theorem gp_onlyQ {g : Nat} {a b c : Array GenState} (x : ∀ k, k < c.size → a[k]? = c[k]?) (hg : c.size ≤ g) (y : GenOnlyQ g a b) : ∀ k, k < c.size → b[k]? = c[k]? := fun k hk => by
  rcases y with rfl | ⟨⟨_, y⟩, _⟩
  · exact x k hk
  · rw [y k (by omega), x k hk]
/-- a walk that wrote no more than a few new objects: these are let go -/
theorem moved_held {δ : Tb} {m : List (Str × Value)} {X r : Led} {s s' : Shared} {wr : List Addr} {g : Nat} (D : HeldD C δ ⟨m, X ++ r⟩ s) (hm : Moved wr (GenOnlyQ g) s s') (hw : ∀ b ∈ wr, b ∈ X.map (·.1)) (hg : C.gb.size ≤ g) : HeldD C δ ⟨m, r⟩ s' := by
  have nd := D.nd
  have N := D.N
  have e : (⟨m, X ++ r⟩ : St).news ++ tabsOf δ = X ++ (r ++ tabsOf δ) := List.append_assoc ..
  rw [e] at nd N
  have nd' := nd
  rw [List.map_append] at nd
  obtain ⟨_, nd2, nd3⟩ := List.nodup_append.mp nd
  have wn : ∀ b ∈ wr, b ≠ C.L ∧ C.h₀.get? b = none := fun b hb => by
    obtain ⟨p, hp, e⟩ := List.mem_map.mp (hw b hb)
    have := N p (List.mem_append_left _ hp)
    rw [e] at this
    exact this.2
  refine ⟨⟨?_, fun b o e => hm.heap b o (fun hb => by rw [(wn b hb).2] at e; cases e) (D.F.keep b o e), D.F.above⟩, fun p hp => ?_, nd2, D.ok, hm.os.trans D.os, GenOnlyQ.bare hm.gens D.gens, gp_onlyQ D.gp hg hm.gens, D.us, D.uk⟩
  · obtain ⟨o, es, ep, a, q⟩ := D.F.ns
    exact ⟨o, es, ep, hm.heap _ _ (fun hb => (wn _ hb).1 rfl) a, q⟩
  · have q := N p (List.mem_append_right _ hp)
    exact ⟨hm.heap _ _ (fun hb => nd3 p.1 (hw _ hb) p.1 (List.mem_map_of_mem hp) rfl) q.1, q.2⟩

theorem Held.allocD {s : Shared} {st : St} {o : Obj} (H : Held C st s) (hf : o.isFreed = false) : HeldD C H.δ ⟨st.m, (s.heap.objs.size, o) :: st.news⟩ { s with heap := s.heap.push o } :=
  ⟨H.F.push o, H.N.push H.F o hf, nd_lt H.nd fun p hp => Heap.lt_size (H.N p hp).1, H.ok, H.os, H.gens, H.gp, H.us, H.uk⟩
/-- all(char in cell for char in text) -/
theorem cw_all_str {env : Env} {iter : Expr} {px p1 p2 p3 gpos pos : Pos} {y z : Str} {t u : Tok} {c : Addr} {oc : Obj} {scope : Scope} {Q : Value → St → Prop} (hv : Ev C E (eval iter env) st fun v st' => v = .str y t ∧ st' = st)
    (hm : (c, oc) ∈ st.news) (hd : oc.data = .cell (some (.str z u))) (hcl : closureFor scope env = pure [(("token_chars" : Str), c)]) (hcode : env.code = .ref 52) (hl : gpos.line = 32) (hk : gpos.col = 15) (hg : env.globals = mainGlobals)
    (hsc : scope = { kind := .function, names := [(".0", .local), ("char", .local), ("token_chars", .free)], isGenerator := true, isCoroutine := false }) (hs : ∀ x, genFold iter env x = pure x)
    (h : Q (.bool (y.cps.toList.all fun d => z.cps.toList.contains d)) st) :
    Ev C E (callWith pos (.builtin "all") [] (backTo pos (starEach [.GeneratorExp (.Compare (.Name "char" p1) [.In] [.Name "token_chars" p2] p3) [⟨.Name "char" px, iter, [], 0⟩] scope gpos] env)) []) st Q := by
  subst hsc
  intro s H
  refine callWith_method1 (spliced_more (gen_core (C := C) (Pt := 48) (up := fun δ v => { δ with q := some v }) rfl hcl (by decide) (by rfl) (by rfl) rfl hg
    (fun δ st s Q D hq => gen_code_q D hcode hl hk hq) ?_ hs) rfl) rfl
  refine L1q hv (fun v st₁ s₁ H₁ h₁ => ?_) H
  obtain ⟨rfl, rfl⟩ := h₁
  have key : ∀ (I : Addr) (oI : Obj) (St₀ : Nat → Heap → Prop) (s₂ : Shared), 0 < s₂.toks → C.sb ≤ s₂.heap.objs.size → HeldD C H₁.δ ⟨st₁.m, (I, oI) :: st₁.news⟩ s₂ → (∀ A' : Around, A'.handled = none → Walks prog C.w A' I [I] [I] y.cps.size (SignAt y) St₀) → St₀ 0 s₂.heap →
      GenIn C 48 [(("token_chars" : Str), c)] { kind := .function, names := [(".0", .local), ("char", .local), ("token_chars", .free)], isGenerator := true, isCoroutine := false } env "char" (.Compare (.Name "char" p1) [.In] [.Name "token_chars" p2] p3)
        (fun v s₁ => wpAny (model prog C.w) C.A (spliced (backTo pos (starEach [] env))) (fun vs s₂ => wpAny (model prog C.w) C.A (call (.builtin "all") ([] ++ (v :: vs))) (Post C Q) E s₂) E s₁) (.ref I) s₂ := by
    intro I oI St₀ s₂ htp0 hsz0 D W hst
    have hI := D.N (I, oI) (.head _)
    have hcc := D.N (c, oc) (.tail _ (List.mem_append_left _ hm))
    have nd := D.nd
    have i48 : I ≠ 48 := (nd_split (a := (I, oI) :: st₁.news) nd).1 _ (.head _)
    have c48 : c ≠ 48 := (nd_split (a := (I, oI) :: st₁.news) nd).1 (c, oc) (.tail _ hm)
    have cI : c ≠ I := fun e => by
      simp only [List.cons_append, List.map_cons, List.nodup_cons] at nd
      exact nd.1 (e ▸ List.mem_map_of_mem (List.mem_append_left _ hm))
    have hI0 : I ≠ cStatics := fun e => by
      obtain ⟨_, ⟨o, _, _, q, _⟩, _⟩ := C.T.nolimit
      rw [← e, hI.2.2] at q; cases q
    refine ⟨⟨st₁.m, (I, oI) :: st₁.news⟩, I, [I], [c], y.cps.size, SignAt y, St₀, fun i v => ∃ d, y.cps[i]? = some d ∧ v = .bool (z.cps.toList.contains d), rfl, ⟨⟨_, D⟩, htp0, hsz0⟩, W, hst, ?_, ?_, hI0, ?_, ?_⟩
    · intro b hb
      rcases List.mem_cons.mp hb with rfl | hb
      · exact ⟨_, hI.1⟩
      · exact ⟨_, by rw [List.mem_singleton.mp hb]; exact hcc.1⟩
    · intro hb; exact i48 (List.mem_singleton.mp hb).symm
    · intro code h₃ href hk
      refine ⟨fun A' E' i v s₂ m₂ hA hP hn hx hkp => ?_, fun A' E' i v s₂ m₂ hA hP _ hn hx hkp => ?_⟩
      · rw [List.forIn_nil]; exact wpAny_pure ⟨rfl, _, _, rfl, fun _ _ e => e⟩
      · obtain ⟨d, ud, hd1, rfl⟩ := hP
        refine wpAny_Compare1 (wpAny_Name (wpAny_loadName_local (by rfl) (by rfl) hn hx ?_) (by decide)) rfl
        refine wpAny_Name (wpAny_loadName_free (c := c) (by rfl) (by rfl) (by rfl) ⟨oc, hkp c (.tail _ (List.mem_append_right _ (.head _))) (fun hb => cI (List.mem_singleton.mp hb)) oc (hk _ _ c48 hcc.1), hd⟩ ?_ (by decide)) (by decide)
        refine PyProof.Rows.in_str ⟨⟨d, hd1, ?_⟩, _, _, rfl, fun _ _ e => e⟩
        rw [← contains_one]; rfl
    · intro a Cc g oa oC δ s₅ hne D₅ hgs hgb hC ha htp5 hsz5 hW
      refine Calls.spliced_nil ?_
      obtain ⟨W1, G1⟩ := hW C.A.in1 C.hh (by have := C.dp; show C.A.depth < _; omega)
      refine call_all_walkS (W1.self 0 _ _ _ G1 ⟨a, _, _, _, _, _, _, (fun i => match y.cps[i]? with | some d => z.cps.toList.contains d | none => true), rfl, W1, G1, ?_, fun s' hm' => ?_⟩)
      · intro i v s Q E hP hQ
        obtain ⟨d, e1, rfl⟩ := hP
        refine wpAny_truthy_bool ?_
        dsimp only at hQ; rw [e1] at hQ; exact hQ
      · have D₆ := moved_held (X := [(a, oa), (Cc, oC), (I, oI)]) (r := st₁.news) D₅ hm' (by intro b hb; simp at hb ⊢; rcases hb with rfl | rfl <;> simp) hgb
        refine ⟨⟨st₁.m, st₁.news⟩, ⟨_, D₆⟩, ?_⟩
        have e : ((List.range y.cps.size).all fun i => match y.cps[i]? with | some d => z.cps.toList.contains d | none => true) = y.cps.toList.all fun d => z.cps.toList.contains d := by
          rw [Bool.eq_iff_iff]
          simp only [List.all_eq_true, List.mem_range]
          constructor
          · intro q d hd
            obtain ⟨i, hi, rfl⟩ := List.mem_iff_getElem.mp hd
            have := q i (by simpa using hi)
            rw [Array.getElem?_eq_getElem (by simpa using hi)] at this
            simpa using this
          · intro q i hi
            rw [Array.getElem?_eq_getElem hi]
            exact q _ (by simp)
        rw [e]; exact h
  cases ha : y.cps.all (· < 128) with
  | false => exact wpAny_pyIter_wide ha (key _ _ _ _ H₁.tp (by dsimp only; rw [Heap.size_push]; exact Nat.le_succ_of_le H₁.sz) (H₁.toHeld.allocD rfl) (fun A' hA => Walks.strWide hA _ y t) ⟨_, Heap.get?_push_size _ rfl, rfl, rfl⟩)
  | true => exact wpAny_pyIter_ascii ha (key _ _ _ _ H₁.tp (by dsimp only; rw [Heap.size_push]; exact Nat.le_succ_of_le H₁.sz) (H₁.toHeld.allocD rfl) (fun A' hA => Walks.strAscii hA _ y t) ⟨_, Heap.get?_push_size _ rfl, rfl, rfl⟩)
end
end Mine
end
section
open PySem PySem.W PyProof.Rows PySem.Calls PySem.Spec
namespace Mine
section
variable {C : Cx} {E : Value → Shared → Prop} {st : St}

/-- an entry of the ledger put in another's place -/
inductive At (d : Addr) (o o' : Obj) : Led → Led → Prop
  | head {r} : At d o o' ((d, o) :: r) ((d, o') :: r)
  | tail {p r r'} : At d o o' r r' → At d o o' (p :: r) (p :: r')
theorem At.mem {d : Addr} {o o' : Obj} {r r' : Led} (h : At d o o' r r') : (d, o) ∈ r := by induction h with | head => exact .head _ | tail _ ih => exact .tail _ ih
theorem At.keys {d : Addr} {o o' : Obj} {r r' : Led} (h : At d o o' r r') : r'.map (·.1) = r.map (·.1) := by induction h with | head => rfl | tail _ ih => simp [ih]
theorem At.upd {d : Addr} {o o' : Obj} {r r' : Led} (t : Led) (h : At d o o' r r') (nd : ((r ++ t).map (·.1)).Nodup) : Upd d o o' (r ++ t) (r' ++ t) := by
  induction h with
  | head =>
    rw [List.cons_append, List.map_cons, List.nodup_cons] at nd
    exact .head fun p hp e => nd.1 (List.mem_map.mpr ⟨p, hp, e⟩)
  | @tail p r r' h ih =>
    rw [List.cons_append, List.map_cons, List.nodup_cons] at nd
    refine .tail (fun e => nd.1 ?_) (ih nd.2)
    rw [e]
    exact List.mem_map.mpr ⟨(d, o), List.mem_append_left _ h.mem, rfl⟩
theorem At.split {d : Addr} {o o' : Obj} {r r' : Led} (h : At d o o' r r') : ∃ a b, r = a ++ (d, o) :: b ∧ r' = a ++ (d, o') :: b := by
  induction h with
  | @head r => exact ⟨[], r, rfl, rfl⟩
  | @tail p r r' h ih => obtain ⟨a, b, e, e'⟩ := ih; exact ⟨p :: a, b, by rw [e]; rfl, by rw [e']; rfl⟩
theorem Held.keyed {m : List (Str × Value)} {r r' : Led} {s : Shared} {d : Addr} {o o' : Obj} (H : Held C ⟨m, r⟩ s) (h : At d o o' r r') : ((r' ++ tabsOf H.δ).map (·.1)).Nodup := by
  have := H.nd
  rw [List.map_append] at this ⊢
  rwa [h.keys]
/-- an object of the ledger is written -/
theorem Held.write {m : List (Str × Value)} {r r' : Led} {s : Shared} {h' : Heap} {tk : Nat} {d : Addr} {o o' : Obj} (H : Held C ⟨m, r⟩ s) (h : At d o o' r r') (hs : Heap.SameBut d s.heap h') (ho : h'.get? d = some o') : Held C ⟨m, r'⟩ { s with heap := h', toks := tk } := by
  have hm := H.at (p := (d, o)) h.mem
  have U := h.upd (tabsOf H.δ) H.nd
  obtain ⟨a, b, e, e', h1, h2⟩ := U.split
  refine H.upd ⟨H.F.ns.sameBut hs (Ne.symm hm.2.1), fun b ob eb => (hs.2 b (fun q => ?_)).trans (H.F.keep b ob eb), H.F.above⟩ ?_ (H.keyed h)
  · rw [q, hm.2.2] at eb; cases eb
  · show News _ _ _ (r' ++ tabsOf H.δ)
    have N : News _ _ _ (r ++ tabsOf H.δ) := H.N
    rw [e'] ; rw [e] at N
    exact news_set N h1 h2 hs ho

theorem x_assignC {env : Env} {x : Str} {pos' value pos} {c : Addr} {Q : Flow → St → Prop} (h : Ev C E (eval value env) st fun v st' => ∃ a b o v₀, st'.news = a ++ (c, o) :: b ∧ o.data = .cell v₀ ∧ ∀ o', o'.data = .cell (some v) → Q .next ⟨st'.m, a ++ (c, o') :: b⟩) (hs : swapsWith value (some (.Name x pos')) pos.line env = pure false)
    (hc : env.cells.lookup x = some c) (hl : env.kindOf x = some .cell) (hk : env.scope.kind = .function) : Ev C E (exec (.Assign [.Name x pos'] value pos) env) st Q := fun s H =>
  wpAny_Assign_Name (L1q h (fun v st₁ s₁ H₁ h₁ => by
    obtain ⟨m₁, n₁⟩ := st₁
    obtain ⟨a, b, o, v₀, e, hd, h₂⟩ := h₁
    dsimp only at e h₂
    subst e
    refine wpAny_storeName_cell hk hl hc ⟨o, H₁.get (List.mem_append_right _ (.head _)), hd⟩ fun h' hv hs' => ?_
    obtain ⟨o', ho', hd'⟩ := hv
    have hat : At c o o' (a ++ (c, o) :: b) (a ++ (c, o') :: b) := by
      clear h₂ H₁
      induction a with
      | nil => exact .head
      | cons p a ih => exact .tail ih
    exact ⟨_, H₁.toHeld.write (tk := s₁.toks) hat hs' ho', h₂ o' hd'⟩) H) hs

-- f-strings
theorem str_empty_append (x : Str) : Str.empty ++ x = x := by
  obtain ⟨x⟩ := x
  show Str.mk (#[] ++ x) = _
  rw [Array.empty_append]
theorem e_joined {env : Env} {v₁ v₂ : Expr} {rest : List Expr} {pos : Pos} {Q : Value → St → Prop} (h : Ev C E (joinParts Str.empty (eval v₁ env :: eval v₂ env :: evalEach rest env)) st Q) : Ev C E (eval (.JoinedStr (v₁ :: v₂ :: rest) pos) env) st Q :=
  fun s H => JoinedStr_many (h s H)
theorem j_nil {out : Str} {env : Env} {Q : Value → St → Prop} (hz : out.length ≤ sizeLine) (h : ∀ t, Q (.str out t) st) : Ev C E (joinParts out (evalEach [] env)) st Q := fun s H => joinParts_nil ⟨_, H.tok, h _⟩ hz
theorem j_cons {out : Str} {x : Sem Value} {rest : List (Sem Value)} {Q : Value → St → Prop} (h : Ev C E x st fun v st₁ => ∃ y t, v = .str y t ∧ (out ++ y).length ≤ sizeLine ∧ Ev C E (joinParts (out ++ y) rest) st₁ Q) : Ev C E (joinParts out (x :: rest)) st Q := fun s H =>
  joinParts_cons (L1q h (fun v st₁ s₁ H₁ h₁ => by obtain ⟨y, t, rfl, hz, h₂⟩ := h₁; exact ⟨hz, h₂ s₁ H₁⟩) H)
theorem j_more {out : Str} {e : Expr} {rest : List Expr} {env : Env} {Q : Value → St → Prop} (h : Ev C E (joinParts out (eval e env :: evalEach rest env)) st Q) : Ev C E (joinParts out (evalEach (e :: rest) env)) st Q := h
theorem e_fmt {env : Env} {value : Expr} {pos : Pos} {Q : Value → St → Prop} (h : Ev C E (eval value env) st fun v st₁ => ∃ x t, v = .str x t ∧ x.length ≤ sizeLine ∧ ∀ t', Q (.str x t') st₁) : Ev C E (eval (.FormattedValue value (-1) none pos) env) st Q := fun s H =>
  FormattedValue_plain (L1q h (fun v st₁ s₁ H₁ h₁ => by obtain ⟨x, t, rfl, hz, h₂⟩ := h₁; exact formatField_str (fun t' tk => ⟨_, H₁.toHeld.tok, h₂ t'⟩) hz) H)

-- lists
theorem m_append {l : Addr} {vs : List Value} {n : Nat} {x : Value} {news' : Led} {Q : Value → St → Prop} (ha : At l (lst vs n) (lst (vs ++ [x]) (n + 1)) st.news news') (hz : vs.length ≤ sizeLine) (h : Q .none ⟨st.m, news'⟩) : Ev C E (call (.builtin "list.append") [.ref l, x]) st Q := fun s H => by
  obtain ⟨m, r⟩ := st
  have e : vs.toArray.push x = (vs ++ [x]).toArray := by simp
  exact append_K (its := vs.toArray) (n := n) H.F H.N (by rw [e]; exact ha.upd _ H.nd) (fun h' F N => ⟨⟨m, news'⟩, H.upd (tk := s.toks) F N (H.toHeld.keyed ha), h⟩) (by rw [List.size_toArray]; exact hz)
theorem gm_append {l : Addr} {vs : List Value} {n : Nat} {pl : Sem Bool} {Q : Value × List Value → St → Prop} (hm : (l, lst vs n) ∈ st.news) (h : Q (.builtin "list.append", [.ref l]) st) : Ev C E (getMethod (.ref l) "append" pl) st Q := fun s H =>
  getMethod_list_append (H.get hm) rfl rfl ⟨st, H.toHeld, h⟩
end
end Mine
end
section
open PySem PySem.W PyProof.Rows PySem.Calls PySem.Spec
namespace Mine
/-- a move that wrote at few places -/
structure Mv (C : Cx) (wr : List Addr) (s s' : Shared) : Prop where
  heap : ∀ b o, b ∉ wr → s.heap.get? b = some o → s'.heap.get? b = some o
  os : s'.os = s.os
  gens : AllBare s.gens → AllBare s'.gens
  gp : ∀ k, k < C.gb.size → s'.gens[k]? = s.gens[k]?
/-- an iterator, for a walk with calls between its items -/
structure It (C : Cx) (I : Addr) (fp wr : List Addr) (n : Nat) (P : Nat → Value → Prop) (K : Nat → Shared → Prop) : Prop where
  frame : ∀ i s s', K i s → (∀ b ∈ fp, ∀ o, s.heap.get? b = some o → s'.heap.get? b = some o) → (∀ k, k < s.gens.size → s'.gens[k]? = s.gens[k]?) → K i s'
  item : ∀ i s (Q : Option Value → Shared → Prop) E, i < n → K i s → (∀ v s', P i v → K (i + 1) s' → Mv C wr s s' → Q (some v) s') → wpAny (model prog C.w) C.A (pyNext (.ref I)) Q E s
  done : ∀ s (Q : Option Value → Shared → Prop) E, K n s → (∀ s', Mv C wr s s' → Q none s') → wpAny (model prog C.w) C.A (pyNext (.ref I)) Q E s
  self : ∀ i s (Q : Value → Shared → Prop) E, K i s → Q (.ref I) s → wpAny (model prog C.w) C.A (pyIter (.ref I)) Q E s

theorem It.of_walks {C : Cx} {I : Addr} {fp wr : List Addr} {n : Nat} {P : Nat → Value → Prop} {St : Nat → Heap → Prop} (W : Walks prog C.w C.A I fp wr n P St) : It C I fp wr n P (fun i s => St i s.heap) where
  frame := fun i s s' h hk _ => W.frame i _ _ h hk
  item := fun i s Q E hi h hQ => W.item i s Q E hi h fun v h' tk hP hS hk => hQ v _ hP hS ⟨hk, rfl, id, fun _ _ => rfl⟩
  done := fun s Q E h hQ => W.done s Q E h fun h' tk hk => hQ _ ⟨hk, rfl, id, fun _ _ => rfl⟩
  self := fun i s Q E h hQ => W.self i s Q E h hQ

theorem It.of_gen {C : Cx} {a Cc : Addr} {g n : Nat} {I0 : Addr} {fp : List Addr} {P : Nat → Value → Prop} {F : Nat → Value → Prop} (hg : C.gb.size ≤ g)
    (W : WalksS prog C.w C.A a (a :: Cc :: fp) [Cc, I0] (GenOnlyQ g) n P (GenAt prog C.w C.A a g Cc fp [I0] (fun _ => true) n F)) :
    It C a (a :: Cc :: fp) [Cc, I0] n P (GenAt prog C.w C.A a g Cc fp [I0] (fun _ => true) n F) := by
  have mv : ∀ s s', Moved [Cc, I0] (GenOnlyQ g) s s' → Mv C [Cc, I0] s s' := fun s s' hm => ⟨hm.heap, hm.os, fun h => GenOnlyQ.bare hm.gens h, fun k hk => by
    rcases hm.gens with e | ⟨⟨_, h⟩, _⟩
    · rw [e]
    · exact h k (by omega)⟩
  refine ⟨fun i s s' st hk hg' => ?_, fun i s Q E hi h hQ => W.item i s Q E hi h fun v s' hP hS hm => hQ v s' hP hS (mv _ _ hm), fun s Q E h hQ => W.done s Q E h fun s' hm => hQ s' (mv _ _ hm), W.self⟩
  obtain ⟨h1, h2, gs, hgs, hgo⟩ := st
  have W2 := W.frame i s s'.heap s.toks ⟨h1, h2, gs, hgs, hgo⟩ (Nat.le_refl _) hk
  obtain ⟨h1', h2', gs', hgs', hgo'⟩ := W2
  refine ⟨h1', h2', gs', ?_, hgo'⟩
  have hlt : g < s.gens.size := (Array.getElem?_eq_some_iff.mp hgs).1
  rw [hg' g hlt]
  exact hgs'

/-- the own objects of an iterator, as far as they are there -/
def Own (X : Led) (own : List Addr) (h : Heap) : Prop := (X.map (·.1)).Sublist own ∧ ∀ b ∈ own, ∀ o, h.get? b = some o → (b, o) ∈ X
def ownOf (h : Heap) : List Addr → Led
  | [] => []
  | b :: r => match h.get? b with
    | some o => (b, o) :: ownOf h r
    | none => ownOf h r
theorem ownOf_own (h : Heap) : ∀ own : List Addr, Own (ownOf h own) own h
  | [] => ⟨.slnil, fun _ hb => nomatch hb⟩
  | b :: r => by
    have ih := ownOf_own h r
    unfold ownOf
    split
    · rename_i o e
      refine ⟨ih.1.cons_cons _, fun c hc o' e' => ?_⟩
      rcases List.mem_cons.mp hc with rfl | hc
      · rw [e] at e'; cases e'; exact .head _
      · exact .tail _ (ih.2 c hc o' e')
    · rename_i e
      refine ⟨ih.1.cons _, fun c hc o' e' => ?_⟩
      rcases List.mem_cons.mp hc with rfl | hc
      · rw [e] at e'; cases e'
      · exact ih.2 c hc o' e'
theorem ownOf_at (h : Heap) : ∀ (own : List Addr), ∀ p ∈ ownOf h own, p.1 ∈ own ∧ h.get? p.1 = some p.2
  | [], _, hp => nomatch hp
  | b :: r, p, hp => by
    unfold ownOf at hp
    split at hp
    · rename_i o e
      rcases List.mem_cons.mp hp with rfl | hp
      · exact ⟨.head _, e⟩
      · have := ownOf_at h r p hp; exact ⟨.tail _ this.1, this.2⟩
    · have := ownOf_at h r p hp; exact ⟨.tail _ this.1, this.2⟩

abbrev Cx.at (C : Cx) (s : Shared) (δ : Tb) : Cx := { C with gb := s.gens, u0 := δ.u, sb := s.heap.objs.size }
theorem HeldD.at {C : Cx} {δ : Tb} {st : St} {s : Shared} (D : HeldD C δ st s) : HeldD (C.at s δ) δ st s := ⟨D.F, D.N, D.nd, D.ok, D.os, D.gens, fun _ _ => rfl, fun _ e => .inl e, fun _ e => e⟩
theorem HeldD.back {C : Cx} {δ δ' : Tb} {st st' : St} {s s' : Shared} (D : HeldD C δ st s) (z : C.sb ≤ s.heap.objs.size) (D' : HeldD (C.at s δ) δ' st' s') : HeldD C δ' st' s' :=
  ⟨D'.F, D'.N, D'.nd, D'.ok, D'.os, D'.gens, gp_trans D.gp D'.gp, us_trans D.us z D'.us, fun q e => D'.uk q (D.uk q e)⟩
theorem HeldD.write {C : Cx} {δ : Tb} {m : List (Str × Value)} {r r' : Led} {s : Shared} {h' : Heap} {tk : Nat} {d : Addr} {o o' : Obj} (D : HeldD C δ ⟨m, r⟩ s) (h : At d o o' r r') (hs : Heap.SameBut d s.heap h') (ho : h'.get? d = some o') : HeldD C δ ⟨m, r'⟩ { s with heap := h', toks := tk } := by
  have hm := D.N (d, o) (List.mem_append_left _ h.mem)
  have U := h.upd (tabsOf δ) D.nd
  obtain ⟨a, b, e, e', h1, h2⟩ := U.split
  refine ⟨⟨D.F.ns.sameBut hs (Ne.symm hm.2.1), fun b ob eb => (hs.2 b (fun q => ?_)).trans (D.F.keep b ob eb), D.F.above⟩, ?_, ?_, D.ok, D.os, D.gens, D.gp, D.us, D.uk⟩
  · rw [q, hm.2.2] at eb; cases eb
  · show News _ _ _ (r' ++ tabsOf δ)
    have N : News _ _ _ (r ++ tabsOf δ) := D.N
    rw [e']; rw [e] at N
    exact news_set N h1 h2 hs ho
  · have := D.nd
    rw [List.map_append] at this ⊢
    rwa [h.keys]
theorem HeldD.sub {C : Cx} {δ : Tb} {m : List (Str × Value)} {r r' : Led} {s : Shared} (D : HeldD C δ ⟨m, r⟩ s) (h : Sub r' r) : HeldD C δ ⟨m, r'⟩ s :=
  ⟨D.F, fun p hp => D.N p ((h.app _).mem p hp), (h.app _).nodup D.nd, D.ok, D.os, D.gens, D.gp, D.us, D.uk⟩
theorem At.app {d : Addr} {o o' : Obj} {r r' : Led} (x : Led) (h : At d o o' r r') : At d o o' (x ++ r) (x ++ r') := by
  induction x with
  | nil => exact h
  | cons p x ih => exact .tail ih

section
variable {C : Cx} {E : Value → Shared → Prop}
/-- the keys of the iterator's own objects that no other entry has, the place of the frame and the base apart -/
structure Apart (C : Cx) (own : List Addr) (r : Led) : Prop where
  nd : own.Nodup
  L : ∀ b ∈ own, b ≠ C.L
  new : ∀ b ∈ own, C.h₀.get? b = none
  off : ∀ b ∈ own, ∀ p ∈ r, p.1 ≠ b

theorem mem_tabs {δ : Tb} {p : Addr × Obj} (h : p ∈ tabsOf δ) : p.1 = 48 ∨ p.1 = 72 ∨ p.1 = 60 ∨ ∃ q, δ.u = some q ∧ p = q := by
  obtain ⟨a, b, u⟩ := δ
  rcases List.mem_cons.mp h with rfl | h
  · exact .inl rfl
  · rcases List.mem_cons.mp h with rfl | h
    · exact .inr (.inl rfl)
    · cases u with
      | none => rw [List.mem_singleton.mp h]; exact .inr (.inr (.inl rfl))
      | some q =>
        rcases List.mem_cons.mp h with rfl | h
        · exact .inr (.inr (.inl rfl))
        · exact .inr (.inr (.inr ⟨q, rfl, List.mem_singleton.mp h⟩))
theorem tabs_has (δ : Tb) : (∃ o, (48, o) ∈ tabsOf δ) ∧ (∃ o, (72, o) ∈ tabsOf δ) ∧ (∃ o, (60, o) ∈ tabsOf δ) ∧ ∀ q, δ.u = some q → q ∈ tabsOf δ := by
  obtain ⟨a, b, u⟩ := δ
  refine ⟨⟨_, .head _⟩, ⟨_, .tail _ (.head _)⟩, ?_, ?_⟩
  · cases u <;> exact ⟨_, .tail _ (.tail _ (.head _))⟩
  · rintro q e
    cases e
    exact .tail _ (.tail _ (.tail _ (.head _)))
theorem Apart.tabs {own : List Addr} {R : Led} {δ δ' : Tb} {n : Nat} (A : Apart C own (R ++ tabsOf δ)) (us : ∀ q, δ'.u = some q → δ.u = some q ∨ n ≤ q.1) (lt : ∀ b ∈ own, b < n) : Apart C own (R ++ tabsOf δ') := by
  refine ⟨A.nd, A.L, A.new, fun b hb p hp => ?_⟩
  rcases List.mem_append.mp hp with hp | hp
  · exact A.off b hb p (List.mem_append_left _ hp)
  · obtain ⟨⟨o1, h1⟩, ⟨o2, h2⟩, ⟨o3, h3⟩, h4⟩ := tabs_has δ
    rcases mem_tabs hp with e | e | e | ⟨q, e, rfl⟩
    · rw [e]; exact A.off b hb _ (List.mem_append_right _ h1)
    · rw [e]; exact A.off b hb _ (List.mem_append_right _ h2)
    · rw [e]; exact A.off b hb _ (List.mem_append_right _ h3)
    · rcases us p e with e' | e'
      · exact A.off b hb p (List.mem_append_right _ (h4 p e'))
      · exact fun q => absurd (lt b hb) (by rw [← q]; exact Nat.not_lt.mpr e')
theorem Apart.keys {own : List Addr} {r r' : Led} (A : Apart C own r) (hk : r'.map (·.1) = r.map (·.1)) : Apart C own r' := ⟨A.nd, A.L, A.new, fun b hb p hp => by
  have : p.1 ∈ r.map (·.1) := hk ▸ List.mem_map_of_mem hp
  obtain ⟨q, hq, e⟩ := List.mem_map.mp this
  rw [← e]; exact A.off b hb q hq⟩

/-- after a move of the iterator -/
theorem mv_held {δ : Tb} {m : List (Str × Value)} {X r : Led} {s s' : Shared} {own wr : List Addr} (D : HeldD C δ ⟨m, X ++ r⟩ s) (A : Apart C own (r ++ tabsOf δ)) (hm : Mv C wr s s') (hw : ∀ b ∈ wr, b ∈ own) :
    HeldD C δ ⟨m, ownOf s'.heap own ++ r⟩ s' := by
  have nd := D.nd
  have N := D.N
  have e : ∀ X : Led, (⟨m, X ++ r⟩ : St).news ++ tabsOf δ = X ++ (r ++ tabsOf δ) := fun X => List.append_assoc ..
  rw [e] at nd N
  refine ⟨⟨?_, fun b o q => hm.heap b o (fun hb => by rw [A.new b (hw b hb)] at q; cases q) (D.F.keep b o q), D.F.above⟩, ?_, ?_, D.ok, hm.os.trans D.os, hm.gens D.gens, fun k hk => by rw [hm.gp k hk, D.gp k hk], D.us, D.uk⟩
  · obtain ⟨o, es, ep, a, q⟩ := D.F.ns
    exact ⟨o, es, ep, hm.heap _ _ (fun hb => A.L _ (hw _ hb) rfl) a, q⟩
  · rw [e]
    intro p hp
    rcases List.mem_append.mp hp with hp | hp
    · obtain ⟨h1, h2⟩ := ownOf_at _ _ p hp
      exact ⟨h2, A.L _ h1, A.new _ h1⟩
    · have q := N p (List.mem_append_right _ hp)
      exact ⟨hm.heap _ _ (fun hb => A.off _ (hw _ hb) p hp rfl) q.1, q.2⟩
  · rw [e, List.map_append]
    rw [List.map_append] at nd
    refine List.nodup_append.mpr ⟨A.nd.sublist (ownOf_own s'.heap own).1, (List.nodup_append.mp nd).2.1, fun a ha b hb q => ?_⟩
    obtain ⟨p, hp, e2⟩ := List.mem_map.mp hb
    exact A.off a ((ownOf_own s'.heap own).1.subset ha) p hp (e2.trans q.symm)

/-- the pictures of the items that pass -/
inductive Im (pz : Nat → Bool) (G : Nat → Value → Prop) : Nat → List Value → Prop
  | zero : Im pz G 0 []
  | skip {i ys} : Im pz G i ys → pz i = false → Im pz G (i + 1) ys
  | take {i ys y} : Im pz G i ys → pz i = true → G i y → Im pz G (i + 1) (ys ++ [y])
theorem Im.length {pz : Nat → Bool} {G : Nat → Value → Prop} {n : Nat} {ys : List Value} (h : Im pz G n ys) : ys.length ≤ n := by
  induction h with
  | zero => exact Nat.le_refl _
  | skip _ _ ih => omega
  | take _ _ _ ih => rw [List.length_append, List.length_singleton]; omega

/-- the state between the items of a walk: its iterator as it was at sA, and the rest of the ledger -/
structure LcS (C : Cx) (own fp : List Addr) (K : Shared → Prop) (m : List (Str × Value)) (R F : Led) (δ : Tb) (X : Led) (sA s : Shared) : Prop where
  D : HeldD C δ ⟨m, X ++ R⟩ s
  tp : 0 < s.toks
  sz : C.sb ≤ s.heap.objs.size
  hs : (X.map (·.1)).Sublist own
  ha : ∀ b ∈ own, ∀ o, sA.heap.get? b = some o → (b, o) ∈ X
  hf : ∀ p ∈ F, sA.heap.get? p.1 = some p.2
  hF : ∀ p ∈ F, p ∈ R
  h0 : ∀ b o, C.h₀.get? b = some o → sA.heap.get? b = some o
  hfp : ∀ b ∈ fp, b ∈ own ∨ (∃ o, (b, o) ∈ F) ∨ ∃ o, C.h₀.get? b = some o
  hg : ∀ k, k < sA.gens.size → s.gens[k]? = sA.gens[k]?
  hA : Apart C own (R ++ tabsOf δ)
  lt : ∀ b ∈ own, b < s.heap.objs.size
  hK : K sA
section
variable {own fp wr : List Addr} {I : Addr} {n : Nat} {P : Nat → Value → Prop} {K : Nat → Shared → Prop} {m : List (Str × Value)} {R F : Led} {δ : Tb} {X : Led} {s sA : Shared}
theorem LcS.now {i : Nat} (It : It C I fp wr n P K) (S : LcS C own fp (K i) m R F δ X sA s) : K i s := by
  refine It.frame i sA s S.hK (fun b hb o e => ?_) S.hg
  rcases S.hfp b hb with h | ⟨o', h⟩ | ⟨o', h⟩
  · exact (S.D.N (b, o) (List.mem_append_left _ (List.mem_append_left _ (S.ha b h o e)))).1
  · have q := S.hf _ h
    have e1 : sA.heap.get? b = some o' := q
    have e2 : o' = o := Option.some.inj (e1.symm.trans e)
    subst e2
    exact (S.D.N (b, o') (List.mem_append_left _ (List.mem_append_right _ (S.hF _ h)))).1
  · have q := S.h0 _ _ h
    rw [q] at e; cases e
    exact S.D.F.keep _ _ h
theorem LcS.item {i : Nat} {Q : Option Value → Shared → Prop} (It : It C I fp wr n P K) (hw : ∀ b ∈ wr, b ∈ own) (S : LcS C own fp (K i) m R F δ X sA s) (hi : i < n) (h : ∀ v s', P i v → LcS C own fp (K (i + 1)) m R F δ (ownOf s'.heap own) s' s' → Q (some v) s') :
    wpAny (model prog C.w) C.A (pyNext (.ref I)) Q E s := by
  refine wpAny_with_size (Nat.le_refl _) (wpAny_with_toks S.tp (It.item i s _ _ hi (S.now It) fun v s' hP hK' hm tp' sz' => h v s' hP ?_))
  have D' := mv_held S.D S.hA hm hw
  exact ⟨D', tp', Nat.le_trans S.sz sz', (ownOf_own _ _).1, (ownOf_own _ _).2, fun p hp => (D'.N p (List.mem_append_left _ (List.mem_append_right _ (S.hF p hp)))).1, S.hF, D'.F.keep, S.hfp, fun _ _ => rfl, S.hA, fun b hb => Nat.lt_of_lt_of_le (S.lt b hb) sz', hK'⟩
theorem LcS.done {Q : Option Value → Shared → Prop} (It : It C I fp wr n P K) (hw : ∀ b ∈ wr, b ∈ own) (S : LcS C own fp (K n) m R F δ X sA s) (h : ∀ s', Holds C ⟨m, R⟩ s' → Q none s') :
    wpAny (model prog C.w) C.A (pyNext (.ref I)) Q E s := by
  refine wpAny_with_size S.sz (wpAny_with_toks S.tp (It.done s _ _ (S.now It) fun s' hm tp' sz' => h s' ⟨⟨δ, (mv_held S.D S.hA hm hw).sub (.of (List.sublist_append_right ..))⟩, tp', sz'⟩))
theorem LcS.write {R' : Led} {h' : Heap} {tk : Nat} {d : Addr} {o o' : Obj} {K' : Shared → Prop} (S : LcS C own fp K' m R F δ X sA s) (hF : ∀ p ∈ F, p ∈ R') (h : At d o o' R R') (hs : Heap.SameBut d s.heap h') (ho : h'.get? d = some o') (htk : s.toks ≤ tk) :
    LcS C own fp K' m R' F δ X sA { s with heap := h', toks := tk } :=
  ⟨S.D.write (tk := tk) (h.app X) hs ho, Nat.lt_of_lt_of_le S.tp htk, by dsimp only; rw [hs.1]; exact S.sz, S.hs, S.ha, S.hf, hF, S.h0, S.hfp, S.hg, S.hA.keys (by rw [List.map_append, List.map_append, h.keys]), fun b hb => by dsimp only; rw [hs.1]; exact S.lt b hb, S.hK⟩
theorem LcS.ev {α : Type} {t : Sem α} {G : α → Prop} {Q : α → Shared → Prop} {R' : Led} {K' : Shared → Prop} (S : LcS C own fp K' m R F δ X sA s) (hR : List.Perm R' (X ++ R))
    (h : Ev (C.at s δ) NoE t ⟨m, R'⟩ fun a st' => G a ∧ st'.m = m ∧ Sub R' st'.news) (k : ∀ a δ' s', G a → LcS C own fp K' m R F δ' X sA s' → Q a s') : wpAny (model prog C.w) C.A t Q E s := by
  have H : Holds (C.at s δ) ⟨m, R'⟩ s := ⟨⟨δ, S.D.at.sub (.perm hR)⟩, S.tp, Nat.le_refl _⟩
  refine wpAny_mono (wpAny_size_of (Nat.le_refl s.heap.objs.size) (wpAny_toks_of S.tp (h s H))) (fun a s' hq => ?_) (fun _ _ e => e.2.2.elim)
  obtain ⟨hz, ht, ⟨m', n'⟩, ⟨δ', D'⟩, hG, hm, hsub⟩ := hq
  dsimp only at hm hsub
  subst hm
  have D₂ : HeldD (C.at s δ) δ' ⟨m', X ++ R⟩ s' := (D'.sub hsub).sub (.perm hR.symm)
  exact k a δ' s' hG ⟨S.D.back S.sz D₂, ht, Nat.le_trans S.sz hz, S.hs, S.ha, S.hf, S.hF, S.h0, S.hfp, gp_trans S.hg D₂.gp, S.hA.tabs D₂.us S.lt, fun b hb => Nat.lt_of_lt_of_le (S.lt b hb) hz, S.hK⟩
end

abbrev theTests (ifs : List Expr) (env : Env) : Sem Bool := forIn ifs true fun c r => if r = true then do let ok ← isTrue c env (eval c env); pure (ForInStep.yield ok) else pure (ForInStep.yield r)

/-- what a turn of a comprehension asks -/
structure CompT (C : Cx) (env : Env) (x : Str) (elt : Expr) (ifs : List Expr) (scope : Scope) (m : List (Str × Value)) (P : Nat → Value → Prop) (pz : Nat → Bool) (G : Nat → Value → Prop) (n : Nat) : Prop where
  tests : ∀ (C2 : Cx) i v Cc oC rr mc, C2.room = C.room → C2.w = C.w → i < n → P i v → LCg.NsObj oC mc → mc x = some v → Ev C2 NoE (theTests ifs (compEnvC scope [] Cc env)) ⟨m, (Cc, oC) :: rr⟩ fun b st' => b = pz i ∧ st'.m = m ∧ Sub ((Cc, oC) :: rr) st'.news
  elt : ∀ (C2 : Cx) i v Cc oC rr mc, C2.room = C.room → C2.w = C.w → i < n → P i v → pz i = true → LCg.NsObj oC mc → mc x = some v → Ev C2 NoE (eval elt (compEnvC scope [] Cc env)) ⟨m, (Cc, oC) :: rr⟩ fun y st' => G i y ∧ st'.m = m ∧ Sub ((Cc, oC) :: rr) st'.news
/-- the iterator of a comprehension, as its maker hands it on -/
structure CompI (C : Cx) (m : List (Str × Value)) (R F : Led) (it : Value) (n : Nat) (P : Nat → Value → Prop) (s : Shared) : Prop where
  ex : ∃ I own fp wr K δ X, it = .ref I ∧ It C I fp wr n P K ∧ (∀ b ∈ wr, b ∈ own) ∧ LcS C own fp (K 0) m R F δ X s s

theorem lc_block {elt iter : Expr} {x : Str} {px : Pos} {ifs : List Expr} {scope : Scope} {pos : Pos} {env : Env} {it : Value} {n : Nat} {P : Nat → Value → Prop} {m : List (Str × Value)} {R F : Led} {s₂ : Shared}
    {pz : Nat → Bool} {G : Nat → Value → Prop} {RR : Value → Addr → Result → Shared → Prop}
    (hI : CompI C m R F it n P s₂) (hsz : n ≤ sizeLine)
    (hcell : ∀ y ∈ scope.names, y.2 ≠ .cell) (hkind : scope.kind = .function) (hx : scope.names.lookup x = some .local)
    (T : CompT C env x elt ifs scope m P pz G n)
    (hRR : ∀ Dl Cc oC mc ys k s', LCg.NsObj oC mc → Im pz G n ys → Holds C ⟨m, (Cc, oC) :: (Dl, lst ys k) :: R⟩ s' → RR (.ref Dl) Cc (.ok .next) s') :
    wpAny (model prog C.w) C.A (newList []) (fun acc s₃ => wpAny (model prog C.w) C.A (newFunctionEnv scope env.globals [] [] env.qual none .none (some env)) (fun cenv s₄ =>
      codeAny (model prog C.w) C.A (.compStart (.ListComp elt [⟨.Name x px, iter, ifs, 0⟩] scope pos) 0 it acc { cenv with scope := relabel scope env }) (RR acc cenv.locals) s₄) E s₃) E s₂ := by
  obtain ⟨I, own, fp, wr, K, δ₂, X, rfl, It, hw, S₂⟩ := hI.ex
  have hFR := S₂.hF
  refine wpAny_newObj_type (wpAny_newFunctionEnv hcell (by intro y hy; simp at hy) (fun h₁ hns₁ hsb₁ => ?_) hkind)
  dsimp only at hns₁ hsb₁ ⊢
  have HD := Held.allocD (C := C) (st := ⟨m, X ++ R⟩) (o := lst [] 0) ⟨_, S₂.D⟩ rfl
  have hDn : C.h₀.get? s₂.heap.objs.size = none ∧ s₂.heap.objs.size ≠ C.L := let q := HD.N _ (.head _); ⟨q.2.2, q.2.1⟩
  have hPg := Heap.get?_push_size s₂.heap (o := lst [] 0) rfl
  have hPo : ∀ b o, s₂.heap.get? b = some o → (s₂.heap.push (lst [] 0)).get? b = some o := fun b o e => Heap.get?_push_of_some _ e
  generalize hH2 : s₂.heap.push { cls := .type "list", dict := none, data := .seq ([] : List Value).toArray } = H2 at hns₁ hsb₁ HD hPg hPo ⊢
  have hC : H2.objs.size = s₂.heap.objs.size + 1 := by rw [← hH2, Heap.size_push]
  obtain ⟨oC, heC, hoC⟩ := LCg.ns_obj hns₁
  have hsz1 : h₁.objs.size = H2.objs.size + 1 := by rw [hsb₁.1, Heap.size_push]
  have old : ∀ b o, s₂.heap.get? b = some o → h₁.get? b = some o := fun b o e => hsb₁.extBut b o (by rw [hC]; exact Nat.ne_of_lt (Nat.lt_succ_of_lt (Heap.lt_size e))) (Heap.get?_push_of_some _ (hPo b o e))
  have fresh₀ : ∀ a, s₂.heap.objs.size ≤ a → C.h₀.get? a = none := fun a ha => by
    cases e : C.h₀.get? a with
    | none => rfl
    | some o' => exact absurd (Heap.lt_size (S₂.D.F.keep a o' e)) (Nat.not_lt.mpr ha)
  have hLlt : C.L < s₂.heap.objs.size := S₂.D.F.ns.lt
  have lt : ∀ p ∈ (X ++ R) ++ tabsOf δ₂, p.1 < s₂.heap.objs.size := fun p hp => Heap.lt_size (S₂.D.N p hp).1
  have S₁ : LcS C own fp (K 0) m ((H2.objs.size, oC) :: (s₂.heap.objs.size, lst [] 0) :: R) F δ₂ X s₂ { s₂ with heap := h₁, toks := s₂.toks + ([] : List (Str × Value)).length } := by
    have D₁ : HeldD C δ₂ ⟨m, (H2.objs.size, oC) :: (s₂.heap.objs.size, lst [] 0) :: (X ++ R)⟩ { s₂ with heap := h₁, toks := s₂.toks + ([] : List (Str × Value)).length } := by
      refine ⟨⟨S₂.D.F.ns.keeps old, fun b o e => old b o (S₂.D.F.keep b o e), S₂.D.F.above⟩, ?_, ?_, S₂.D.ok, S₂.D.os, S₂.D.gens, S₂.D.gp, S₂.D.us, S₂.D.uk⟩
      · intro p hp
        rcases List.mem_cons.mp hp with rfl | hp
        · exact ⟨heC, by rw [hC]; exact Nat.ne_of_gt (Nat.lt_succ_of_lt hLlt), fresh₀ _ (by rw [hC]; exact Nat.le_succ _)⟩
        · rcases List.mem_cons.mp hp with rfl | hp
          · exact ⟨hsb₁.extBut _ _ (by rw [hC]; exact Nat.ne_of_lt (Nat.lt_succ_self _)) (Heap.get?_push_of_some _ hPg), hDn.2, hDn.1⟩
          · exact ⟨old _ _ (S₂.D.N p hp).1, (S₂.D.N p hp).2⟩
      · show (((H2.objs.size, oC) :: (s₂.heap.objs.size, lst [] 0) :: ((X ++ R) ++ tabsOf δ₂)).map (·.1)).Nodup
        refine nd_lt (nd_lt S₂.D.nd lt) fun a ha => ?_
        rw [hC]
        rcases List.mem_cons.mp ha with rfl | ha
        · exact Nat.lt_succ_self _
        · exact Nat.lt_succ_of_lt (lt a ha)
    have D₁' : HeldD C δ₂ ⟨m, X ++ ((H2.objs.size, oC) :: (s₂.heap.objs.size, lst [] 0) :: R)⟩ { s₂ with heap := h₁, toks := s₂.toks + ([] : List (Str × Value)).length } := D₁.sub (.perm (List.perm_middle.trans (List.Perm.cons _ List.perm_middle)))
    refine ⟨D₁', Nat.lt_of_lt_of_le S₂.tp (Nat.le_add_right _ _), Nat.le_trans S₂.sz ?_, S₂.hs, S₂.ha, S₂.hf, fun p hp => .tail _ (.tail _ (S₂.hF p hp)), S₂.h0, S₂.hfp, S₂.hg, ⟨S₂.hA.nd, S₂.hA.L, S₂.hA.new, fun b hb p hp => ?_⟩, fun b hb => Nat.lt_of_lt_of_le (S₂.lt b hb) ?_, S₂.hK⟩
    · dsimp only; rw [hsz1, hC]; omega
    · have hb' := S₂.lt b hb
      rcases List.mem_cons.mp hp with rfl | hp
      · rw [hC]; exact Nat.ne_of_gt (Nat.lt_succ_of_lt hb')
      · rcases List.mem_cons.mp hp with rfl | hp
        · exact Nat.ne_of_gt hb'
        · exact S₂.hA.off b hb p hp
    · dsimp only; rw [hsz1, hC]; omega
  generalize hCc : H2.objs.size = Cc at S₁ ⊢
  generalize hDl : s₂.heap.objs.size = Dl at S₁ ⊢
  generalize { s₂ with heap := h₁, toks := s₂.toks + ([] : List (Str × Value)).length } = s₃ at S₁ ⊢
  have loop : ∀ s₃ : Shared, (∃ sA oC mc X, LCg.NsObj oC mc ∧ LcS C own fp (K 0) m ((Cc, oC) :: (Dl, lst [] 0) :: R) F δ₂ X sA s₃) →
      codeAny (model prog C.w) C.A (.compLoop (.ListComp elt [⟨.Name x px, iter, ifs, 0⟩] scope pos) 0 (.ref I) (.ref Dl) (compEnvC scope [] Cc env)) (RR (.ref Dl) Cc) s₃ := by
    rintro s₃ ⟨sA, oC, mc, X, hoC, S₁⟩
    refine codeAny_compLoop_tests (fun k' s' => ∃ i δ X sA oC mc ys k, k' = n + 1 - i ∧ i ≤ n ∧ LCg.NsObj oC mc ∧ Im pz G i ys ∧ LcS C own fp (K i) m ((Cc, oC) :: (Dl, lst ys k) :: R) F δ X sA s') ?_ (n + 1) ⟨0, δ₂, X, sA, oC, mc, [], 0, rfl, Nat.zero_le _, hoC, .zero, S₁⟩
    rintro k' s ⟨i, δ, X, sA, oC, mc, ys, k, rfl, hi, hoC, hIm, S⟩
    by_cases hlt : i < n
    · refine S.item It hw hlt fun v s₁ hP S₁ => ?_
      have N₁ := S₁.D.N
      have hCe := S₁.D.N (Cc, oC) (List.mem_append_left _ (List.mem_append_right _ (.head _)))
      refine wpAny_assign_Name (wpAny_storeName_local (lookup_relabel_local hx) (hoC.ns hCe.1) (fun h₂ hn₂ hs₂ => ?_) (by simp [compEnvC, relabel, hkind]))
      obtain ⟨oC₂, e₂, hoC₂⟩ := LCg.ns_obj hn₂
      have S₂ := S₁.write (tk := s₁.toks + 1) (fun p hp => .tail _ (.tail _ (hFR p hp))) (At.head (o' := oC₂)) hs₂ e₂ (Nat.le_succ _)
      refine S₂.ev (R' := (Cc, oC₂) :: (ownOf s₁.heap own ++ (Dl, lst ys k) :: R)) (G := fun b => b = pz i) (List.perm_middle.symm) (T.tests _ i v Cc oC₂ _ _ rfl rfl hlt hP hoC₂ (by simp)) fun b δ₃ s₃ hb S₃ => ?_
      cases b with
      | false =>
        simp only [Bool.false_eq_true, if_false]
        exact ⟨n + 1 - (i + 1), by omega, i + 1, δ₃, _, _, oC₂, _, ys, k, rfl, hlt, hoC₂, .skip hIm hb.symm, S₃⟩
      | true =>
        simp only [if_true]
        refine S₃.ev (R' := (Cc, oC₂) :: (ownOf s₁.heap own ++ (Dl, lst ys k) :: R)) (G := G i) (List.perm_middle.symm) (T.elt _ i v Cc oC₂ _ _ rfl rfl hlt hP hb.symm hoC₂ (by simp)) fun y δ₄ s₄ hy S₄ => ?_
        have hDe := S₄.D.N (Dl, lst ys k) (List.mem_append_left _ (List.mem_append_right _ (.tail _ (.head _))))
        have hyl := hIm.length
        refine append_at (hsz := by show ys.toArray.size ≤ sizeLine; rw [List.size_toArray]; omega) hDe.1 fun h₅ hs₅ hD₅ => ?_
        have e5 : h₅.get? Dl = some (lst (ys ++ [y]) (k + 1)) := by rw [hD₅]; simp
        have S₅ := S₄.write (tk := s₄.toks) (R' := (Cc, oC₂) :: (Dl, lst (ys ++ [y]) (k + 1)) :: R) (fun p hp => .tail _ (.tail _ (hFR p hp))) (At.tail (At.head (o' := lst (ys ++ [y]) (k + 1)))) hs₅ e5 (Nat.le_refl _)
        exact ⟨n + 1 - (i + 1), by omega, i + 1, δ₄, _, _, oC₂, _, ys ++ [y], k + 1, rfl, hlt, hoC₂, .take hIm hb.symm hy, S₅⟩
    · obtain rfl : i = n := Nat.le_antisymm hi (Nat.not_lt.mp hlt)
      exact S.done It hw fun s' H => hRR Dl Cc oC mc ys k s' hoC hIm H
  exact codeAny_compStart_list (loop _ ⟨_, _, _, _, hoC, S₁⟩) (It.self 0 _ _ _ (S₁.now It) (loop _ ⟨_, _, _, _, hoC, S₁⟩))
end
end Mine
end
section
open PySem PySem.W PyProof.Rows PySem.Calls PySem.Spec
namespace Mine
section
variable {C : Cx} {E : Value → Shared → Prop} {st : St}

/-- a list's iterator, fresh -/
theorem compI_list {m : List (Str × Value)} {R : Led} {s : Shared} {l : Addr} {vs : List Value} {k : Nat} (H : Holds C ⟨m, R⟩ s) (hm : (l, lst vs k) ∈ R) :
    CompI C m R [(l, lst vs k)] (.ref s.heap.objs.size) vs.length (fun i v => vs[i]? = some v) { s with heap := s.heap.push { cls := .type "list_iterator", data := .fields #[.ref l, .int 0 0] } } := by
  have hl := (H.at hm).1
  have hne : l ≠ s.heap.objs.size := Nat.ne_of_lt (Heap.lt_size hl)
  have W := Walks.list (prog := prog) (w := C.w) C.hh s.heap.objs.size l hne vs.toArray
  rw [List.size_toArray] at W
  have D := H.toHeld.allocD (o := { cls := .type "list_iterator", data := .fields #[.ref l, .int 0 0] }) rfl
  have hI := D.N _ (.head _)
  have gl := Heap.get?_push_of_some { cls := .type "list_iterator", data := .fields #[.ref l, .int 0 0] } hl
  have I1 := It.of_walks W
  have I2 : It C s.heap.objs.size [s.heap.objs.size, l] [s.heap.objs.size] vs.length (fun i v => vs[i]? = some v) (fun i s' => s'.heap.IsListIter s.heap.objs.size l i ∧ s'.heap.IsList l vs.toArray) :=
    ⟨I1.frame, fun i s Q E hi h hQ => I1.item i s Q E hi h fun v s' hP => hQ v s' (by simpa using hP), I1.done, I1.self⟩
  refine ⟨s.heap.objs.size, [s.heap.objs.size], _, _, _, H.δ, [(s.heap.objs.size, _)], rfl, I2, fun b hb => hb, ⟨D, H.tp, ?_, List.Sublist.refl _, ?_, ?_, ?_, D.F.keep, ?_, fun _ _ => rfl, ⟨by simp, ?_, ?_, ?_⟩, ?_, ?_⟩⟩
  · dsimp only; rw [Heap.size_push]; exact Nat.le_succ_of_le H.sz
  · intro b hb o e
    rw [List.mem_singleton.mp hb] at e ⊢
    have := hI.1
    dsimp only at this e
    rw [this] at e; cases e; exact .head _
  · intro p hp
    rw [List.mem_singleton.mp hp]; exact gl
  · intro p hp
    rw [List.mem_singleton.mp hp]; exact hm
  · intro b hb
    rcases List.mem_cons.mp hb with rfl | hb
    · exact .inl (.head _)
    · rw [List.mem_singleton.mp hb]; exact .inr (.inl ⟨_, .head _⟩)
  · intro b hb
    rw [List.mem_singleton.mp hb]; exact hI.2.1
  · intro b hb
    rw [List.mem_singleton.mp hb]; exact hI.2.2
  · intro b hb p hp
    rw [List.mem_singleton.mp hb]
    exact Nat.ne_of_lt (Heap.lt_size (H.N p hp).1)
  · intro b hb
    rw [List.mem_singleton.mp hb]
    dsimp only; rw [Heap.size_push]; exact Nat.lt_succ_self _
  · exact ⟨⟨_, Heap.get?_push_size _ rfl, rfl, rfl⟩, isList_of gl⟩

/-- what the writer of a comprehension over a list says -/
def LcOver (C : Cx) (env : Env) (x : Str) (elt : Expr) (ifs : List Expr) (scope : Scope) (Q : Value → St → Prop) (v : Value) (st₁ : St) : Prop :=
  ∃ l vs k pz G, v = .ref l ∧ (l, lst vs k) ∈ st₁.news ∧ vs.length ≤ sizeLine ∧ CompT C env x elt ifs scope st₁.m (fun i v => vs[i]? = some v) pz G vs.length ∧ ∀ D ys k, Im pz G vs.length ys → Q (.ref D) ⟨st₁.m, (D, lst ys k) :: st₁.news⟩

theorem lc_end {m : List (Str × Value)} {R : Led} {s' : Shared} {Dl Cc : Addr} {oC oD : Obj} {Q : Value → St → Prop} {mc : Str → Option Value} (hoC : LCg.NsObj oC mc) (H : Holds C ⟨m, (Cc, oC) :: (Dl, oD) :: R⟩ s') (hQ : Q (.ref Dl) ⟨m, (Dl, oD) :: R⟩) :
    compPost (model prog C.w) C.A E none (Post C Q) (.ref Dl) Cc (.ok .next) s' := by
  have hCe := (H.at (p := (Cc, oC)) (.head _)).1
  refine ⟨mc, hoC.ns hCe, fun h' hs => ⟨⟨m, (Dl, oD) :: R⟩, ?_, hQ⟩⟩
  obtain ⟨δ, D⟩ := H.ex
  have hc := D.N (Cc, oC) (.head _)
  have nd := D.nd
  have e : (⟨m, (Cc, oC) :: (Dl, oD) :: R⟩ : St).news ++ tabsOf δ = (Cc, oC) :: (((Dl, oD) :: R) ++ tabsOf δ) := rfl
  rw [e, List.map_cons, List.nodup_cons] at nd
  exact ⟨δ, ⟨D.F.ns.sameBut hs hc.2.1.symm, fun b o e => hs.extBut b o (fun q => by rw [q, hc.2.2] at e; cases e) (D.F.keep b o e), D.F.above⟩, fun p hp => by
    have q := D.N p (.tail _ hp)
    exact ⟨hs.extBut _ _ (fun z => nd.1 (List.mem_map.mpr ⟨p, hp, z⟩)) q.1, q.2⟩, nd.2, D.ok, D.os, D.gens, D.gp, D.us, D.uk⟩

theorem e_listcomp {env : Env} {elt iter : Expr} {x : Str} {px : Pos} {ifs : List Expr} {scope : Scope} {pos : Pos} {Q : Value → St → Prop} (h : Ev C E (eval iter env) st (LcOver C env x elt ifs scope Q))
    (hs : ∀ x, foldedSetIterable iter env x = pure x) (hclos : closureFor scope env = pure []) (hcell : ∀ y ∈ scope.names, y.2 ≠ .cell) (hkind : scope.kind = .function)
    (hnames : ∀ y ∈ scope.names, y.2 = .local → scope.names.lookup y.1 = some .local) (hx : scope.names.lookup x = some .local) :
    Ev C E (eval (.ListComp elt [⟨.Name x px, iter, ifs, 0⟩] scope pos) env) st Q := by
  intro s H
  rw [eval_ListComp]
  refine wpAny_comprehension_free (use := none) rfl hs hclos hkind hnames (L1q h (fun v st₁ s₁ H₁ h₁ => ?_) H)
  obtain ⟨l, vs, k, pz, G, rfl, hm, hz, T, hQ⟩ := h₁
  refine wpAny_pyIter_list (isList_of (H₁.at hm).1) ?_
  refine lc_block (RR := fun acc C' => compPost (model prog C.w) C.A E none (Post C Q) acc C') (compI_list H₁ hm) hz hcell hkind hx T ?_
  intro Dl Cc oC mc ys k s' hoC hIm H'
  exact lc_end hoC H' (hQ Dl ys k hIm)

theorem x_assign_lc {env : Env} {elt iter : Expr} {x y : Str} {px py : Pos} {ifs : List Expr} {scope : Scope} {pos spos : Pos} {Q : Flow → St → Prop}
    (h : Ev C E (eval iter env) st (LcOver C env x elt ifs scope fun v st' => Q .next ⟨put y v st'.m, st'.news⟩))
    (hsw : swapsWith (.ListComp elt [⟨.Name x px, iter, ifs, 0⟩] scope pos) (some (.Name y py)) spos.line env = pure true)
    (hs : ∀ x, foldedSetIterable iter env x = pure x) (hclos : closureFor scope env = pure []) (hcell : ∀ y ∈ scope.names, y.2 ≠ .cell) (hkind : scope.kind = .function)
    (hnames : ∀ y ∈ scope.names, y.2 = .local → scope.names.lookup y.1 = some .local) (hx : scope.names.lookup x = some .local) (hL : env.locals = C.L) (hl : env.kindOf y = some .local) (hk : env.scope.kind = .function) :
    Ev C E (exec (.Assign [.Name y py] (.ListComp elt [⟨.Name x px, iter, ifs, 0⟩] scope pos) spos) env) st Q := by
  intro s H
  rw [exec_Assign_Name_used _ _ _ _ hsw]
  refine wpAny_bind (wpAny_standAt (wpAny_bind ?_))
  show wpAny _ C.A (do let _ ← comprehension (.ListComp elt [⟨.Name x px, iter, ifs, 0⟩] scope pos) scope env _ (newList []) false (eval iter env) (some (assign (.Name y py) env))) _ _ s
  refine wpAny_bind (wpAny_mono (wpAny_comprehension_free (use := some (assign (.Name y py) env)) (Q := fun _ s' => Post C Q .next s') rfl hs hclos hkind hnames
    (L1q h (fun v st₁ s₁ H₁ h₁ => ?_) H)) (fun _ s' hq => wpAny_pure (wpAny_pure hq)) fun _ _ e => e)
  obtain ⟨l, vs, k, pz, G, rfl, hm, hz, T, hQ⟩ := h₁
  refine wpAny_pyIter_list (isList_of (H₁.at hm).1) ?_
  refine lc_block (RR := fun acc C' => compPost (model prog C.w) C.A E (some (assign (.Name y py) env)) (fun _ s' => Post C Q .next s') acc C') (compI_list H₁ hm) hz hcell hkind hx T ?_
  intro Dl Cc oC mc ys k s' hoC hIm H'
  show wpAny _ C.A (assign (.Name y py) env (.ref Dl)) _ _ _
  refine wpAny_assign_Name (L1q (storeName_local' (C := C) (E := E) (Q := fun _ st' => st' = ⟨put y (.ref Dl) st₁.m, (Cc, oC) :: (Dl, lst ys k) :: st₁.news⟩) rfl hL hl hk) (fun _ st₂ s₂ H₂ e => ?_) H')
  subst e
  exact lc_end (E := E) (Q := fun _ st' => Q .next st') hoC H₂ (hQ Dl ys k hIm)
end
end Mine
end
section
open PySem PySem.W PyProof.Rows PySem.Calls PySem.Spec
namespace Mine
theorem runFor_done {m : Sre.M} (h : m.outcome.isSome = true) : ∀ n, Sre.M.runFor n m = m
  | 0 => rfl
  | n + 1 => by rw [Sre.M.runFor, if_pos h]
theorem runFor_add : ∀ (a b : Nat) (m : Sre.M), Sre.M.runFor (a + b) m = Sre.M.runFor b (Sre.M.runFor a m)
  | 0, b, m => by rw [Nat.zero_add]; rfl
  | a + 1, b, m => by
    rw [show a + 1 + b = (a + b) + 1 by omega, Sre.M.runFor, Sre.M.runFor]
    split
    · rename_i h; rw [runFor_done h]
    · exact runFor_add a b _
theorem runFor_step {m m' : Sre.M} (h0 : m.outcome = none) (h : m.step = m') (n : Nat) : Sre.M.runFor (n + 1) m = Sre.M.runFor n m' := by
  rw [Sre.M.runFor, h0, ← h]; rfl
theorem runFor_more {m m' : Sre.M} {n : Nat} (h : Sre.M.runFor n m = m') (hd : m'.outcome.isSome = true) {k : Nat} (hk : n ≤ k) : Sre.M.runFor k m = m' := by
  obtain ⟨d, rfl⟩ := Nat.le.dest hk
  rw [runFor_add, h, runFor_done hd]

section
variable {M0 : Model} {A : Around} {E : Value → Shared → Prop} {s : Shared}
theorem wp_drive {Q : Sre.M → Shared → Prop} : ∀ (n turns : Nat) (m m' : Sre.M), n < turns → Sre.M.runFor n m = m' → m'.outcome.isSome = true → Q m' s → wpAny M0 A (Builtin.Re.reDrive turns m) Q E s := by
  intro n
  induction n using Nat.strongRecOn with
  | _ n ih =>
    intro turns m m' ht hr hd hQ
    obtain ⟨k, rfl⟩ : ∃ k, turns = k + 1 := ⟨turns - 1, by omega⟩
    unfold Builtin.Re.reDrive
    dsimp only
    split
    · rename_i h
      have e : m' = Sre.M.runFor Builtin.Re.reTurnSteps m := by
        rcases Nat.le_total n 4 with hle | hle
        · exact (runFor_more hr hd (k := 4) hle).symm
        · rw [← hr]; exact runFor_more (m' := Sre.M.runFor 4 m) rfl h hle
      rw [← e]; exact wpAny_pure hQ
    · rename_i h
      have hn : 4 < n := by
        rcases Nat.lt_or_ge 4 n with hlt | hge
        · exact hlt
        · have e := runFor_more hr hd (k := 4) hge
          exact absurd (by show (Sre.M.runFor 4 m).outcome.isSome = true; rw [e]; exact hd) h
      refine wpAny_bind (wpAny_rule (ih (n - 4) (by omega) k _ m' (by omega) ?_ hd hQ))
      have := runFor_add 4 (n - 4) m
      rw [show 4 + (n - 4) = n by omega, hr] at this
      exact this.symm
theorem wp_rules {m : Sre.M} {Q : PUnit → Shared → Prop} : ∀ (l : List Nat), Q ⟨⟩ s → wpAny M0 A (forIn l PUnit.unit fun i (_ : PUnit) => do
      if m.seen.has i then rule (Sre.names.getD i "")
      pure (ForInStep.yield PUnit.unit)) Q E s
  | [], h => by rw [List.forIn_nil]; exact wpAny_pure h
  | i :: l, h => by
    rw [List.forIn_cons]
    refine wpAny_bind ?_
    have ih := wp_rules (m := m) (Q := Q) l h
    cases m.seen.has i with
    | true =>
      show wpAny _ _ (do rule (Sre.names.getD i ""); pure (ForInStep.yield PUnit.unit)) _ _ _
      exact wpAny_bind (wpAny_rule (wpAny_pure ih))
    | false => exact wpAny_pure ih
theorem wp_toEnd {Q : Option Sre.M → Shared → Prop} {n : Nat} {m m' : Sre.M} (hn : n < 2 ^ 64) (hr : Sre.M.runFor n m = m') (h : (m'.outcome = some .matched ∧ Q (some m') s) ∨ (m'.outcome = some .failed ∧ Q none s)) : wpAny M0 A (Builtin.Re.reRunToEnd m) Q E s := by
  unfold Builtin.Re.reRunToEnd
  have hd : m'.outcome.isSome = true := by rcases h with ⟨e, _⟩ | ⟨e, _⟩ <;> rw [e] <;> rfl
  refine wpAny_bind (wp_drive n _ m m' hn hr hd ?_)
  refine wpAny_bind (wp_rules _ ?_)
  rcases h with ⟨e, hQ⟩ | ⟨e, hQ⟩ <;> rw [e] <;> exact wpAny_pure hQ
end

def ucode : Array Nat := #[14, 8, 1, 2, 2, 1, 1, 92, 0, 16, 92, 17, 0, 2, 17, 1, 1]
/-- the machine within an attempt -/
def umid (tx : Array Nat) (s : Nat) (first ma : Bool) (marks : Array (Option Nat)) (seen : Sre.Seen) (pc pos : Nat) (lm li : Int) (handed : Nat) (ans : Option Bool) : Sre.M :=
  { code := ucode, text := tx, lim := tx.size, start := s, lastStart := tx.size, mustAdvance := ma, pc := pc, pos := pos, handed := handed, outermost := first, marks := marks, lastmark := lm, lastindex := li,
    frames := [{ wait := .nextStart, pc := 9, pos := s, outermost := first }], weight := 1, seen := seen, answer := ans }
/-- the machine at the start of an attempt -/
abbrev ust (tx : Array Nat) (s : Nat) (first ma : Bool) (marks : Array (Option Nat)) (seen : Sre.Seen) : Sre.M := umid tx s first ma marks seen 9 s (-1) (-1) s none
theorem step_exec {m : Sre.M} (h0 : m.outcome = none) (h1 : m.answer = none) (h2 : m.pc < m.code.size) : m.step = m.exec := by
  unfold Sre.M.step
  rw [h0, h1]
  simp [h2]
/-- the first place from s where a backslash and a sign that is no line's end stand -/
def uhit (tx : Array Nat) (s : Nat) : Bool := decide (s + 1 < tx.size) && tx.getD s 0 == 92 && tx.getD (s + 1) 0 != 10
theorem ust_start (tx : Array Nat) (p : Nat) (ma : Bool) (hp : p + 2 ≤ tx.size) : ∃ seen, Sre.forSearch ucode tx 1 p tx.size ma = ust tx p true ma #[none, none] seen := by
  unfold Sre.forSearch
  have h1 : (decide (p > tx.size) || decide (tx.size - p < (Sre.header ucode).1)) = false := by
    have : (Sre.header ucode).1 = 2 := rfl
    rw [this]; simp; omega
  rw [if_neg (by rw [h1]; exact Bool.false_ne_true)]
  exact ⟨_, rfl⟩
theorem ust_start_no (tx : Array Nat) (p : Nat) (ma : Bool) (hp : ¬ p + 2 ≤ tx.size) : ∃ m', Sre.M.runFor 1 (Sre.forSearch ucode tx 1 p tx.size ma) = m' ∧ m'.outcome = some .failed := by
  unfold Sre.forSearch
  have h1 : (decide (p > tx.size) || decide (tx.size - p < (Sre.header ucode).1)) = true := by
    have : (Sre.header ucode).1 = 2 := rfl
    rw [this]; simp; omega
  rw [if_pos h1]
  exact ⟨_, rfl, rfl⟩

section
variable {tx : Array Nat} {s : Nat} {first ma : Bool} {marks : Array (Option Nat)} {seen : Sre.Seen} {pc pos handed : Nat} {lm li : Int}
theorem st_back : (umid tx s first ma marks seen pc pos lm li handed (some false)).step = if s < tx.size then ust tx (s + 1) false false marks seen else { umid tx s first ma marks seen 9 s lm li handed (some false) with frames := [], weight := 0 } := rfl
theorem st_lit (h : pos < tx.size) : (umid tx s first ma marks seen 9 pos lm li handed none).step = if tx.getD pos 0 == 92 then umid tx s first ma marks (seen.add 16) 11 (pos + 1) lm li handed none else umid tx s first ma marks (seen.add 16) 9 pos lm li handed (some false) := by
  rw [step_exec rfl rfl (show (9 : Nat) < 17 by decide)]
  unfold Sre.M.exec
  show (if pos ≥ tx.size then _ else match (Except.ok (tx.getD pos 0 == 92, seen.add 16) : Except String (Bool × Sre.Seen)) with | .error why => _ | .ok (false, seen) => _ | .ok (true, seen) => _) = _
  rw [if_neg (Nat.not_le.mpr h)]
  cases tx.getD pos 0 == 92 <;> rfl
theorem st_lit_end (h : tx.size ≤ pos) : (umid tx s first ma marks seen 9 pos lm li handed none).step = umid tx s first ma marks (seen.add 16) 9 pos lm li handed (some false) := by
  rw [step_exec rfl rfl (show (9 : Nat) < 17 by decide)]
  unfold Sre.M.exec
  show (if pos ≥ tx.size then _ else _) = _
  rw [if_pos h]; rfl
theorem st_mark0 : (umid tx s first ma marks seen 11 pos (-1) (-1) handed none).step = umid tx s first ma (marks.setIfInBounds 0 (some pos)) (seen.add 17) 13 pos 0 (-1) handed none := by
  rw [step_exec rfl rfl (show (11 : Nat) < 17 by decide)]
  rfl
theorem st_mark1 : (umid tx s first ma marks seen 14 pos 0 (-1) handed none).step = umid tx s first ma (marks.setIfInBounds 1 (some pos)) (seen.add 17) 16 pos 1 1 handed none := by
  rw [step_exec rfl rfl (show (14 : Nat) < 17 by decide)]
  show Sre.M.mark { umid tx s first ma marks seen 14 pos 0 (-1) handed none with seen := seen.add 17 } 1 = _
  unfold Sre.M.mark
  dsimp only [umid]
  have e : ∀ (inst : Decidable (((1 : Nat) : Int) ≤ 0 + 1)) (a b : Array (Option Nat)), @ite _ (((1 : Nat) : Int) ≤ 0 + 1) inst a b = a := fun _ a b => if_pos (by omega)
  erw [e]
  rfl
theorem st_any (h : pos < tx.size) : (umid tx s first ma marks seen 13 pos lm li handed none).step = if tx.getD pos 0 != 10 then umid tx s first ma marks (seen.add 2) 14 (pos + 1) lm li handed none else umid tx s first ma marks (seen.add 2) 13 pos lm li handed (some false) := by
  rw [step_exec rfl rfl (show (13 : Nat) < 17 by decide)]
  unfold Sre.M.exec
  show (if pos ≥ tx.size then _ else match (Except.ok (tx.getD pos 0 != 10, seen.add 2) : Except String (Bool × Sre.Seen)) with | .error why => _ | .ok (false, seen) => _ | .ok (true, seen) => _) = _
  rw [if_neg (Nat.not_le.mpr h)]
  cases tx.getD pos 0 != 10 <;> rfl
theorem st_any_end (h : tx.size ≤ pos) : (umid tx s first ma marks seen 13 pos lm li handed none).step = umid tx s first ma marks (seen.add 2) 13 pos lm li handed (some false) := by
  rw [step_exec rfl rfl (show (13 : Nat) < 17 by decide)]
  unfold Sre.M.exec
  show (if pos ≥ tx.size then _ else _) = _
  rw [if_pos h]; rfl
theorem st_success (h : s < pos) : (umid tx s first ma marks seen 16 pos lm li handed none).step = umid tx s first ma marks (seen.add 1) 16 pos lm li pos (some true) := by
  rw [step_exec rfl rfl (show (16 : Nat) < 17 by decide)]
  unfold Sre.M.exec
  show (if (first && ((false && _) || (ma && (pos == s)))) = true then _ else _) = _
  have : (pos == s) = false := beq_eq_false_iff_ne.mpr (by omega)
  rw [this, if_neg (by simp)]; rfl

theorem ust_fail_end (hs : tx.size ≤ s) : ∃ m', Sre.M.runFor 3 (ust tx s first ma marks seen) = m' ∧ m'.outcome = some .failed := by
  rw [runFor_step rfl (st_lit_end hs), runFor_step rfl (st_back.trans (if_neg (Nat.not_lt.mpr hs)))]
  exact ⟨_, rfl, rfl⟩
theorem ust_next (hs : s < tx.size) (hm : marks.size = 2) (hu : uhit tx s = false) : ∃ n ≤ 5, ∃ marks' seen', marks'.size = 2 ∧ ∀ k, Sre.M.runFor (n + k) (ust tx s first ma marks seen) = Sre.M.runFor k (ust tx (s + 1) false false marks' seen') := by
  cases h92 : tx.getD s 0 == 92 with
  | true =>
    have e1 := (st_lit (first := first) (ma := ma) (marks := marks) (seen := seen) (s := s) (lm := -1) (li := -1) (handed := s) hs).trans (if_pos h92)
    have e2 := st_mark0 (tx := tx) (s := s) (first := first) (ma := ma) (marks := marks) (seen := seen.add 16) (pos := s + 1) (handed := s)
    have e3 : (umid tx s first ma (marks.setIfInBounds 0 (some (s + 1))) ((seen.add 16).add 17) 13 (s + 1) 0 (-1) s none).step = umid tx s first ma (marks.setIfInBounds 0 (some (s + 1))) (((seen.add 16).add 17).add 2) 13 (s + 1) 0 (-1) s (some false) := by
      rcases Nat.lt_or_ge (s + 1) tx.size with hlt | hge
      · rw [st_any hlt]
        unfold uhit at hu
        rw [h92, decide_eq_true hlt] at hu
        simp only [Bool.and_true, Bool.true_and] at hu
        rw [hu]; rfl
      · exact st_any_end hge
    refine ⟨4, by decide, marks.setIfInBounds 0 (some (s + 1)), ((seen.add 16).add 17).add 2, by simp [hm], fun k => ?_⟩
    rw [show 4 + k = k + 1 + 1 + 1 + 1 by omega, runFor_step rfl e1, runFor_step rfl e2, runFor_step rfl e3, runFor_step rfl (st_back.trans (if_pos hs))]
  | false =>
    have e1 := (st_lit (first := first) (ma := ma) (marks := marks) (seen := seen) (s := s) (lm := -1) (li := -1) (handed := s) hs).trans (if_neg (by rw [h92]; exact Bool.false_ne_true))
    refine ⟨2, by decide, marks, seen.add 16, hm, fun k => ?_⟩
    rw [show 2 + k = k + 1 + 1 by omega, runFor_step rfl e1, runFor_step rfl (st_back.trans (if_pos hs))]
theorem ust_hit (hm : marks.size = 2) (hu : uhit tx s = true) :
    ∃ m', Sre.M.runFor 8 (ust tx s first ma marks seen) = m' ∧ m'.outcome = some .matched ∧ m'.start = s ∧ m'.handed = s + 2 ∧ m'.marks = #[some (s + 1), some (s + 2)] ∧ m'.lastmark = 1 ∧ m'.lastindex = 1 := by
  unfold uhit at hu
  simp only [Bool.and_eq_true, decide_eq_true_eq] at hu
  obtain ⟨⟨hs, h92⟩, h10⟩ := hu
  have e1 := (st_lit (first := first) (ma := ma) (marks := marks) (seen := seen) (s := s) (lm := -1) (li := -1) (handed := s) (by omega : s < tx.size)).trans (if_pos h92)
  have e2 := st_mark0 (tx := tx) (s := s) (first := first) (ma := ma) (marks := marks) (seen := seen.add 16) (pos := s + 1) (handed := s)
  have e3 := (st_any (first := first) (ma := ma) (marks := marks.setIfInBounds 0 (some (s + 1))) (seen := (seen.add 16).add 17) (s := s) (lm := 0) (li := -1) (handed := s) hs).trans (if_pos h10)
  have e4 := st_mark1 (tx := tx) (s := s) (first := first) (ma := ma) (marks := marks.setIfInBounds 0 (some (s + 1))) (seen := ((seen.add 16).add 17).add 2) (pos := s + 1 + 1) (handed := s)
  have e5 := st_success (tx := tx) (s := s) (first := first) (ma := ma) (marks := (marks.setIfInBounds 0 (some (s + 1))).setIfInBounds 1 (some (s + 1 + 1))) (seen := (((seen.add 16).add 17).add 2).add 17) (pos := s + 1 + 1) (lm := 1) (li := 1) (handed := s) (by omega)
  have hmk : (marks.setIfInBounds 0 (some (s + 1))).setIfInBounds 1 (some (s + 1 + 1)) = #[some (s + 1), some (s + 2)] := by
    apply Array.ext
    · simp [hm]
    · intro i h1 h2
      simp [hm] at h1
      have : i = 0 ∨ i = 1 := by omega
      rcases this with rfl | rfl <;> simp [Array.getElem_setIfInBounds, hm]
  refine ⟨_, rfl, ?_⟩
  rw [runFor_step rfl e1, runFor_step rfl e2, runFor_step rfl e3, runFor_step rfl e4, runFor_step rfl e5, hmk]
  exact ⟨rfl, rfl, rfl, rfl, rfl, rfl⟩
end

/-- where the search ends -/
def ufind (tx : Array Nat) (s : Nat) : Option Nat := if h : s < tx.size then (if uhit tx s then some s else ufind tx (s + 1)) else none
termination_by tx.size - s
theorem ust_run {tx : Array Nat} : ∀ (d s : Nat) (first ma : Bool) (marks : Array (Option Nat)) (seen : Sre.Seen), tx.size - s = d → marks.size = 2 → ∃ n m', n ≤ 5 * d + 8 ∧ Sre.M.runFor n (ust tx s first ma marks seen) = m' ∧
    match ufind tx s with
    | some q => m'.outcome = some .matched ∧ m'.start = q ∧ m'.handed = q + 2 ∧ m'.marks = #[some (q + 1), some (q + 2)] ∧ m'.lastmark = 1 ∧ m'.lastindex = 1
    | none => m'.outcome = some .failed := by
  intro d
  induction d with
  | zero =>
    intro s first ma marks seen hd hm
    rw [ufind, dif_neg (by omega)]
    obtain ⟨m', h1, h2⟩ := ust_fail_end (tx := tx) (s := s) (first := first) (ma := ma) (marks := marks) (seen := seen) (by omega)
    exact ⟨3, m', by omega, h1, h2⟩
  | succ d ih =>
    intro s first ma marks seen hd hm
    rw [ufind, dif_pos (by omega)]
    cases hu : uhit tx s with
    | true =>
      obtain ⟨m', h1, h2⟩ := ust_hit (first := first) (ma := ma) (seen := seen) hm hu
      exact ⟨8, m', by omega, h1, h2⟩
    | false =>
      obtain ⟨n, hn, marks', seen', hm', hk⟩ := ust_next (first := first) (ma := ma) (seen := seen) (by omega) hm hu
      obtain ⟨n', m', hn', hr, h⟩ := ih (s + 1) false false marks' seen' (by omega) hm'
      exact ⟨n + n', m', by omega, (hk n').trans hr, h⟩
end Mine
end
section
open PySem PySem.W PyProof.Rows PySem.Calls PySem.Spec
namespace Mine
-- facts of the types
theorem plainAttrs_pat : PlainAttrs "re.Pattern" := by
  refine ⟨⟨"object.__getattribute__", ?_, by decide +kernel⟩, ?_⟩
  · rw [typeLookup_type, builtinLookup_eq_fast]; kernel_rfl
  · rw [typeLookup_type, builtinLookup_eq_fast]; kernel_rfl
theorem plainAttrs_mat : PlainAttrs "re.Match" := by
  refine ⟨⟨"object.__getattribute__", ?_, by decide +kernel⟩, ?_⟩
  · rw [typeLookup_type, builtinLookup_eq_fast]; kernel_rfl
  · rw [typeLookup_type, builtinLookup_eq_fast]; kernel_rfl
theorem slot_sub : Slot "re.Pattern" "sub" "re.Pattern.sub" :=
  .of (owner := "re.Pattern") (n := "sub") (by rw [typeLookup_type, builtinLookup_eq_fast]; kernel_rfl) (by decide +kernel) (by decide +kernel) (by decide +kernel)
    (by first | exact .inl (by decide +kernel) | exact .inr (by decide +kernel)) (by rw [isSubtype_type]; kernel_rfl)
theorem slot_pmatch : Slot "re.Pattern" "match" "re.Pattern.match" :=
  .of (owner := "re.Pattern") (n := "match") (by rw [typeLookup_type, builtinLookup_eq_fast]; kernel_rfl) (by decide +kernel) (by decide +kernel) (by decide +kernel)
    (by first | exact .inl (by decide +kernel) | exact .inr (by decide +kernel)) (by rw [isSubtype_type]; kernel_rfl)
theorem slot_group : Slot "re.Match" "group" "re.Match.group" :=
  .of (owner := "re.Match") (n := "group") (by rw [typeLookup_type, builtinLookup_eq_fast]; kernel_rfl) (by decide +kernel) (by decide +kernel) (by decide +kernel)
    (by first | exact .inl (by decide +kernel) | exact .inr (by decide +kernel)) (by rw [isSubtype_type]; kernel_rfl)
theorem slot_groups : Slot "re.Match" "groups" "re.Match.groups" :=
  .of (owner := "re.Match") (n := "groups") (by rw [typeLookup_type, builtinLookup_eq_fast]; kernel_rfl) (by decide +kernel) (by decide +kernel) (by decide +kernel)
    (by first | exact .inl (by decide +kernel) | exact .inr (by decide +kernel)) (by rw [isSubtype_type]; kernel_rfl)
theorem type_sub : typeOf (.builtin "re.Pattern.sub") = pure (.type "method_descriptor") := by show builtinType _ = _; rw [builtinType_eq_fast]; kernel_rfl
theorem type_pmatch : typeOf (.builtin "re.Pattern.match") = pure (.type "method_descriptor") := by show builtinType _ = _; rw [builtinType_eq_fast]; kernel_rfl
theorem type_group : typeOf (.builtin "re.Match.group") = pure (.type "method_descriptor") := by show builtinType _ = _; rw [builtinType_eq_fast]; kernel_rfl
theorem type_groups : typeOf (.builtin "re.Match.groups") = pure (.type "method_descriptor") := by show builtinType _ = _; rw [builtinType_eq_fast]; kernel_rfl
theorem entry_sub : entryFor table "re.Pattern.sub" = some Builtin.«re.Pattern.sub» := entryFor_of_tree (by kernel_rfl)
theorem entry_sub_loop : entryFor table "re.Pattern.sub.loop" = some Builtin.«re.Pattern.sub.loop» := entryFor_of_tree (by kernel_rfl)
theorem entry_pmatch : entryFor table "re.Pattern.match" = some Builtin.«re.Pattern.match» := entryFor_of_tree (by kernel_rfl)
theorem entry_group : entryFor table "re.Match.group" = some Builtin.«re.Match.group» := entryFor_of_tree (by kernel_rfl)
theorem entry_groups : entryFor table "re.Match.groups" = some Builtin.«re.Match.groups» := entryFor_of_tree (by kernel_rfl)
theorem args_sub (a b c : Value) : argsOk "re.Pattern.sub" ⟨[a, b, c], []⟩ := by unfold argsOk; kernel_rfl
theorem args_pmatch (a b : Value) : argsOk "re.Pattern.match" ⟨[a, b], []⟩ := by unfold argsOk; kernel_rfl
theorem args_group (a b : Value) : argsOk "re.Match.group" ⟨[a, b], []⟩ := by unfold argsOk; kernel_rfl
theorem args_groups (a : Value) : argsOk "re.Match.groups" ⟨[a], []⟩ := by unfold argsOk; kernel_rfl
theorem plain_sub_loop : plainId "re.Pattern.sub.loop" = true := by decide +kernel
end Mine
end
section
open PySem PySem.W PyProof.Rows PySem.Calls PySem.Spec
namespace Mine
/-- backslashes taken away -/
def unsl : List Nat → List Nat
  | [] => []
  | [c] => [c]
  | c :: d :: r => if c = 92 ∧ d ≠ 10 then d :: unsl r else c :: unsl (d :: r)

section
variable {C : Cx} {E : Value → Shared → Prop} {st : St}
abbrev Cx.in1 (C : Cx) (hr : 0 < C.room) : Cx := { C with A := C.A.in1, room := C.room - 1, fr := C.fr, hh := C.hh, gd := C.gd, dp := (by show C.A.depth + (C.room - 1) < recursionLimit; have := C.dp; omega), un := (by show C.A.units + 1 + 8 * (C.room - 1) + 8 < cLine; have := C.un; omega) }
theorem HeldD.in1 {δ : Tb} {s : Shared} {hr : 0 < C.room} (D : HeldD C δ st s) : HeldD (C.in1 hr) δ st s := ⟨D.F, D.N, D.nd, D.ok, D.os, D.gens, D.gp, D.us, D.uk⟩
theorem HeldD.out1 {δ : Tb} {s : Shared} {hr : 0 < C.room} (D : HeldD (C.in1 hr) δ st s) : HeldD C δ st s := ⟨D.F, D.N, D.nd, D.ok, D.os, D.gens, D.gp, D.us, D.uk⟩

variable {A' : Around} {s : Shared}
theorem wp_whole {x : Str} {t : Tok} {Q : Builtin.Re.ReTarget → Shared → Prop} (X : (KF C.w).In s.heap)
    (h : Q { pattern := .ref 58, string := .str x t, code := ucode, text := x.cps, kind := 0, groups := 1, pos := 0, lim := x.cps.size } s) : wpAny (model prog C.w) A' (Builtin.Re.reWholeTarget (.ref 58) (.str x t)) Q E s := by
  obtain ⟨o1, fs, e1, e2, e3, e4, e5⟩ : ∃ o fs, (KF C.w).lookup 58 = some o ∧ o.data = .fields fs ∧ fs.getD 5 .none = .ref 57 ∧ Builtin.Re.reRawNat (fs.getD 6 .none) = 0 ∧ Builtin.Re.reRawNat (fs.getD 2 .none) = 1 := ⟨_, _, by with_unfolding_all rfl, rfl, rfl, rfl, rfl⟩
  obtain ⟨o2, its, n, q1, q2, q3⟩ : ∃ o its n, (KF C.w).lookup 57 = some o ∧ o.data = .seq its n ∧ (its.map Builtin.Re.reRawOf).map (·.toNat) = ucode := ⟨_, _, _, by with_unfolding_all rfl, rfl, by kernel_rfl!⟩
  unfold Builtin.Re.reWholeTarget
  refine wpAny_bind (wpAny_fieldsOf (X _ _ e1) e2 ?_)
  refine wpAny_bind (m := Builtin.Re.reTextOf (.str x t)) (wpAny_pure ?_)
  dsimp only
  rw [e3, e4, e5]
  refine wpAny_bind (wpAny_pure ?_)
  refine wpAny_bind (wpAny_bind (wpAny_seqItems (X _ _ q1) q2 (wpAny_pure ?_)))
  refine wpAny_pure ?_
  show Q { pattern := .ref 58, string := .str x t, code := (its.map Builtin.Re.reRawOf).map (·.toNat), text := x.cps, kind := 0, groups := 1, pos := 0, lim := x.cps.size } s
  rw [q3]; exact h

end
section
variable {C : Cx} {E : Value → Shared → Prop} {st : St}
abbrev matchObj (x : Str) (t : Tok) (T : Addr) : Obj := { cls := .type "re.Match", data := .fields #[.str x t, .ref 58, rawInt 0, rawInt x.cps.size, rawInt 1, .ref T] }
abbrev spanObj (p : Nat) : Obj := tup [rawInt p, rawInt (p + 2 : Nat), rawInt (p + 1 : Nat), rawInt (p + 2 : Nat)] 0
theorem gm_group {mt T : Addr} {x : Str} {t : Tok} {pl : Sem Bool} {Q : Value × List Value → St → Prop} (hm : (mt, matchObj x t T) ∈ st.news) (h : Q (.builtin "re.Match.group", [.ref mt]) st) : Ev C E (getMethod (.ref mt) "group" pl) st Q := fun s H =>
  getMethod_builtin ⟨_, H.get hm, rfl⟩ plainAttrs_mat slot_group type_group (fun a e => by cases e; exact ⟨_, H.get hm, rfl⟩) ⟨st, H.toHeld, h⟩
theorem wp_found {A' : Around} {s : Shared} {mt T : Addr} {x : Str} {t : Tok} {p : Nat} {Q : Builtin.Re.ReFound → Shared → Prop} (hm : s.heap.get? mt = some (matchObj x t T)) (hT : s.heap.get? T = some (spanObj p))
    (h : Q { fields := #[.str x t, .ref 58, rawInt 0, rawInt x.cps.size, rawInt 1, .ref T], spans := #[(p : Int), ((p + 2 : Nat) : Int), ((p + 1 : Nat) : Int), ((p + 2 : Nat) : Int)] } s) : wpAny (model prog C.w) A' (Builtin.Re.reFound (.ref mt)) Q E s := by
  unfold Builtin.Re.reFound
  refine wpAny_bind (wpAny_fieldsOf hm rfl ?_)
  refine wpAny_bind (wpAny_bind (wpAny_seqItems hT rfl (wpAny_pure ?_)))
  have e : (Option.getD (some [rawInt p, rawInt (p + 2 : Nat), rawInt (p + 1 : Nat), rawInt (p + 2 : Nat)].toArray) #[]).map Builtin.Re.reRawOf = #[(p : Int), ((p + 2 : Nat) : Int), ((p + 1 : Nat) : Int), ((p + 2 : Nat) : Int)] := by
    simp [Builtin.Re.reRawOf, rawInt]
  rw [e]
  exact wpAny_pure h
theorem m_group {mt T : Addr} {x : Str} {t u : Tok} {p : Nat} {Q : Value → St → Prop} (hm : (mt, matchObj x t T) ∈ st.news) (hT : (T, spanObj p) ∈ st.news) (hz : x.length ≤ sizeLine) (h : ∀ u, Q (.str ⟨x.cps.extract (p + 1) (p + 2)⟩ u) st) :
    Ev C E (call (.builtin "re.Match.group") [.ref mt, .int 1 u]) st Q := fun s H => by
  refine wpAny_call_entry slot_group ⟨_, H.get hm, rfl⟩ entry_group ?_ (args_group _ _)
  unfold Builtin.«re.Match.group»
  refine wpAny_bind (wpAny_pure ?_)
  refine wpAny_bind (wp_found (H.get hm) (H.get hT) ?_)
  refine wpAny_bind (m := Builtin.Re.reGroupNumber { fields := #[.str x t, .ref 58, rawInt 0, rawInt x.cps.size, rawInt 1, .ref T], spans := #[(p : Int), ((p + 2 : Nat) : Int), ((p + 1 : Nat) : Int), ((p + 2 : Nat) : Int)] } (.int 1 u)) (wpAny_of_eq (a := 1) rfl ?_)
  refine wpAny_bind ?_
  unfold Builtin.Re.reGroupText
  have hb : (decide (((p + 1 : Nat) : Int) < 0) || decide (((p + 2 : Nat) : Int) < 0)) = false := by
    rw [Bool.or_eq_false_iff]; constructor <;> rw [decide_eq_false_iff_not] <;> omega
  show wpAny _ _ (if (decide (((p + 1 : Nat) : Int) < 0) || decide (((p + 2 : Nat) : Int) < 0)) = true then pure .none else _) _ _ _
  rw [hb, if_neg Bool.false_ne_true]
  refine wpAny_bind (m := Builtin.Re.reTextOf (.str x t)) (wpAny_pure ?_)
  show wpAny _ _ (mkStr ⟨x.cps.extract ((p + 1 : Nat) : Int).toNat ((p + 2 : Nat) : Int).toNat⟩) _ _ _
  refine wpAny_mkStr (wpAny_pure ⟨_, rfl, st, H.tok, h _⟩) ?_
  show (x.cps.extract _ _).size ≤ _
  rw [Array.size_extract]
  have : x.cps.size ≤ sizeLine := hz
  omega
end
end Mine
end
section
open PySem PySem.W PyProof.Rows PySem.Calls PySem.Spec
namespace Mine
abbrev lamP : Arguments := { posonlyargs := [], args := [{ arg := "_m", annotation := none, pos := { line := 39, col := 38, endLine := 39, endCol := 40 } }], vararg := none, kwonlyargs := [], kw_defaults := [], kwarg := none, defaults := [] }
abbrev lamB : Expr := .BinOp (.Constant (.str "") 0 { line := 39, col := 42, endLine := 39, endCol := 44 }) .Add
  (.BoolOp .Or [.Call (.Attribute (.Name "_m" { line := 39, col := 48, endLine := 39, endCol := 50 }) "group" { line := 39, col := 48, endLine := 39, endCol := 56 })
    [.Constant (.int 1) 0 { line := 39, col := 57, endLine := 39, endCol := 58 }] [] { line := 39, col := 48, endLine := 39, endCol := 59 },
   .Constant (.str "") 0 { line := 39, col := 63, endLine := 39, endCol := 65 }] { line := 39, col := 48, endLine := 39, endCol := 65 }) { line := 39, col := 42, endLine := 39, endCol := 66 }
abbrev lamS : Scope := { kind := .function, names := [("_m", .local)], isGenerator := false, isCoroutine := false }
abbrev lamQ : Str := "unquote_header_value.<locals>.<lambda>"
abbrev lamObj (pm : Value) (c' : Addr) (ctv : Value) : Obj := kla_obj "<lambda>" lamQ lamP lamB lamS [] pm c' ctv
section
variable {C : Cx} {E : Value → Shared → Prop} {st : St}

theorem held_u {δ : Tb} {s : Shared} {h' : Heap} {tk : Nat} {c : Addr} {o : Obj} (D : HeldD C δ st s) (hn : δ.u = none) (hz : C.sb ≤ s.heap.objs.size) (hx : Heap.ExtBut 60 s.heap h') (hP : h'.get? 60 = some (tabObj #[rawInt (39 : Nat), rawInt (31 : Nat), .ref c]))
    (hc : h'.get? c = some o) (hge : s.heap.objs.size ≤ c) (hok : ∃ vs t, o.data = .fields vs ∧ vs[1]? = some (.str lamQ t)) :
    HeldD C { δ with u := some (c, o) } st { s with heap := h', toks := tk } := by
  obtain ⟨q, p, u⟩ := δ
  dsimp only at hn
  subst hn
  have m := D.N (60, tabObj #[]) (List.mem_append_right _ (.tail _ (.tail _ (.head _))))
  have e : st.news ++ tabsOf ⟨q, p, none⟩ = (st.news ++ [(48, tabG 32 15 q), (72, tabG 81 51 p)]) ++ (60, tabObj #[]) :: [] := by simp [tabsOf, tabU]
  have e' : st.news ++ tabsOf ⟨q, p, some (c, o)⟩ = ((st.news ++ [(48, tabG 32 15 q), (72, tabG 81 51 p)]) ++ (60, tabObj #[rawInt (39 : Nat), rawInt (31 : Nat), .ref c]) :: []) ++ [(c, o)] := by simp [tabsOf, tabU]
  have N := D.N
  have nd := D.nd
  rw [e] at N nd
  have N₁ := news_grow N nd hx hP
  have lt : ∀ z ∈ (st.news ++ [(48, tabG 32 15 q), (72, tabG 81 51 p)]) ++ [(60, tabObj #[])], z.1 < s.heap.objs.size := fun z hz => Heap.lt_size (N z hz).1
  refine ⟨fr_grow D.F m.2.1 m.2.2 hx, ?_, ?_, hok, D.os, D.gens, D.gp, fun q' e => .inr ?_, fun q' e => ?_⟩
  · dsimp only
    rw [e']
    intro p hp
    rcases List.mem_append.mp hp with hp | hp
    · exact N₁ p hp
    · rw [List.mem_singleton.mp hp]
      refine ⟨hc, fun q => ?_, ?_⟩
      · have := D.F.ns.lt
        rw [← q] at this
        exact absurd this (Nat.not_lt.mpr hge)
      · cases q : C.h₀.get? c with
        | none => rfl
        | some o => exact absurd (Heap.lt_size (D.F.keep c o q)) (Nat.not_lt.mpr hge)
  · dsimp only
    rw [e', List.map_append]
    refine List.nodup_append.mpr ⟨?_, by simp, fun a ha b hb => ?_⟩
    · rw [List.map_append, List.map_cons] at nd ⊢; exact nd
    · have hb' : b = c := by simpa using hb
      rw [hb']
      obtain ⟨p, hp, rfl⟩ := List.mem_map.mp ha
      have hlt : p.1 < s.heap.objs.size := by
        rcases List.mem_append.mp hp with hp | hp
        · exact lt p (List.mem_append_left _ hp)
        · rw [List.mem_singleton.mp hp]; exact lt (60, tabObj #[]) (List.mem_append_right _ (.head _))
      exact Nat.ne_of_lt (Nat.lt_of_lt_of_le hlt hge)
  · cases e; exact Nat.le_trans hz hge
  · have := D.uk q' e
    cases this

theorem lam_make {δ : Tb} {s : Shared} {env : Env} {pos : Pos} {Q : Value → Shared → Prop} (D : HeldD C δ st s) (hz : C.sb ≤ s.heap.objs.size) (hcode : env.code = .ref 64) (hg : env.globals = mainGlobals) (hq : env.qual ++ "<lambda>" = lamQ) (hcl : closureFor lamS env = pure []) (hl : pos.line = 39) (hk : pos.col = 31)
    (h : ∀ f c' oc pm ctv δ' h' tk, δ'.u = some (c', oc) → HeldD C δ' ⟨st.m, (f, lamObj pm c' ctv) :: st.news⟩ { s with heap := h', toks := tk } → s.heap.objs.size ≤ h'.objs.size → Q (.ref f) { s with heap := h', toks := tk }) :
    wpAny (model prog C.w) C.A (eval (.Lambda lamP lamB lamS pos) env) Q E s := by
  rw [arm_eval_Lambda]
  show wpAny _ _ (do let dv ← evalAll []; let kdv ← holding dv (evalAllOpt []); makeFunction "<lambda>" (env.qual ++ "<lambda>") lamP (.expr lamB) lamS env dv kdv [] pos pos.line) _ _ _
  rw [hq]
  refine wpAny_bind (wpAny_pure ?_)
  refine wpAny_bind (wpAny_holding (wpAny_pure ?_))
  have hgs := C.T.g.keeps D.F.keep
  obtain ⟨bm, ob, b1, b2, b3, b4, b5, b6⟩ := C.T.bmain
  have hd : CodeHd s.heap 64 60 := codeHd_of_K (c := 64) (P := 60) (C.T.X.keeps D.F.keep) (by kernel_rfl!)
  have hbG : bm ≠ mainGlobals := fun q => by
    obtain ⟨o, es, ep, e, hd, _⟩ := C.T.g
    rw [q, e] at b3; cases b3; rw [hd] at b6; cases b6
  have push : ∀ (δ' : Tb) (h' : Heap) (fo : Obj) (tk tk' : Nat), fo.isFreed = false → HeldD C δ' st { s with heap := h', toks := tk } → HeldD C δ' ⟨st.m, (h'.objs.size, fo) :: st.news⟩ { s with heap := h'.push fo, toks := tk' } := fun δ' h' fo tk tk' hf D' =>
    ⟨D'.F.push fo, News.push D'.F D'.N fo hf, nd_lt D'.nd fun p hp => Heap.lt_size (D'.N p hp).1, D'.ok, D'.os, D'.gens, D'.gp, D'.us, D'.uk⟩
  cases hu : δ.u with
  | none =>
    have m : (60, tabObj #[]) ∈ st.news ++ tabsOf δ := by
      obtain ⟨q, p, u⟩ := δ
      dsimp only at hu
      subst hu
      exact List.mem_append_right _ (.tail _ (.tail _ (.head _)))
    have hm := D.N _ m
    have hgP : mainGlobals ≠ 60 := fun q => by
      obtain ⟨o, es, ep, e, hd, _⟩ := hgs
      rw [q, hm.1] at e; cases e; cases hd
    have hbP : bm ≠ 60 := fun q => by
      have e := D.F.keep _ _ b3
      rw [q, hm.1] at e; cases e; cases b4
    refine kla_makeFunction (mg := C.mg) hcl hg hgs hcode hd hm.1 trivial rfl hgP ⟨bm, ob, b1, b2, hbG, hbP, D.F.keep _ _ b3, b4, b5, b6⟩ fun c' ctv h' tk hx hge hlt hrec htb => ?_
    obtain ⟨c₂, oc, vs, t, e2, hoc, hdat, hv⟩ := hrec
    cases e2
    have D₁ := held_u (tk := tk) D hu hz hx (by rw [htb, hl, hk]; rfl) hoc hge ⟨vs, t, hdat, hv⟩
    exact h _ c' oc _ ctv _ _ tk rfl (push _ h' _ _ tk rfl D₁) (by rw [Heap.size_push]; omega)
  | some q =>
    obtain ⟨c', oc⟩ := q
    have m : (60, tabObj #[rawInt (39 : Nat), rawInt (31 : Nat), .ref c']) ∈ st.news ++ tabsOf δ := by
      obtain ⟨q, p, u⟩ := δ
      dsimp only at hu
      subst hu
      exact List.mem_append_right _ (.tail _ (.tail _ (.head _)))
    have hm := D.N _ m
    have hbP : bm ≠ 60 := fun q => by
      have e := D.F.keep _ _ b3
      rw [q, hm.1] at e; cases e; cases b4
    refine kla_makeFunctionHit (mg := C.mg) hcl hg hgs hcode hd hm.1 trivial (cv := .ref c') (by simp [codeAmong, rawInt, hl, hk]) ⟨bm, ob, b1, b2, hbG, hbP, D.F.keep _ _ b3, b4, b5, b6⟩ fun ctv h' tk hx hge => ?_
    have D₁ : HeldD C δ st { s with heap := h', toks := s.toks } := ⟨D.F.keeps hx, D.N.grown hx, D.nd, D.ok, D.os, D.gens, D.gp, D.us, D.uk⟩
    exact h _ c' oc _ ctv δ _ tk hu (push _ h' _ _ tk rfl D₁) (by rw [Heap.size_push]; omega)

/-- the lambda's body -/
theorem lam_body {env : Env} {mt T : Addr} {x : Str} {t : Tok} {p : Nat} {Q : Value → St → Prop} (hm : (mt, matchObj x t T) ∈ st.news) (hT : (T, spanObj p) ∈ st.news) (hz : x.length ≤ sizeLine) (hp : p + 2 ≤ x.cps.size) (hl : look st.m "_m" = some (.ref mt))
    (hL : env.locals = C.L) (hk : env.scope = lamS) (h : ∀ u, Q (.str ("" ++ ⟨x.cps.extract (p + 1) (p + 2)⟩) u) st) : Ev C E (eval lamB env) st Q := by
  have hlen : (⟨x.cps.extract (p + 1) (p + 2)⟩ : Str).length = 1 := by
    show (x.cps.extract _ _).size = 1
    rw [Array.size_extract]; omega
  refine e_binop (e_str fun t1 => ?_)
  refine e_or (e_method (e_loc (by unfold Env.kindOf; rw [hk]; rfl) hl (fun pl => gm_group hm ?_) hL (by rw [hk]) rfl) rfl)
  refine cw_builtin (sp_cons (e_int fun t2 => sp_nil ?_) rfl) rfl
  refine m_group hm hT hz fun u => ?_
  refine o_truthy_str (by rw [hlen, sizeLine_eq]; decide) ?_
  rw [hlen]
  exact o_add_str (by rw [hlen, sizeLine_eq]; decide) fun u => h u

theorem lam_call {δ : Tb} {f c' mt T : Addr} {oc : Obj} {pm ctv : Value} {x : Str} {t : Tok} {p : Nat} {s : Shared} {Q : Value → Shared → Prop} (D : HeldD C δ st s) (hr : 0 < C.room) (htp : 0 < s.toks) (hsz : C.sb ≤ s.heap.objs.size) (hu : δ.u = some (c', oc))
    (hf : (f, lamObj pm c' ctv) ∈ st.news) (hm : (mt, matchObj x t T) ∈ st.news) (hT : (T, spanObj p) ∈ st.news) (hz : x.length ≤ sizeLine) (hp : p + 2 ≤ x.cps.size)
    (h : ∀ δ' s' u, HeldD C δ' st s' → δ'.u = some (c', oc) → 0 < s'.toks → C.sb ≤ s'.heap.objs.size → Q (.str ("" ++ ⟨x.cps.extract (p + 1) (p + 2)⟩) u) s') : wpAny (model prog C.w) C.A (call (.ref f) [.ref mt]) Q E s := by
  refine wpAny_call ?_
  have hfs := D.N _ (List.mem_append_left (tabsOf δ) hf)
  have hcs : (c', oc) ∈ tabsOf δ := by
    obtain ⟨q, p, u⟩ := δ
    dsimp only at hu
    subst hu
    exact .tail _ (.tail _ (.tail _ (.head _)))
  have hcc := D.N _ (List.mem_append_right st.news hcs)
  obtain ⟨vs, tq, hdat, hv⟩ : ∃ vs t, oc.data = .fields vs ∧ vs[1]? = some (.str lamQ t) := by
    have := D.ok
    rw [hu] at this
    exact this
  obtain ⟨FG, BG, stay, lv⟩ := groundX (R := fun r s' => match r with | .ok (.ret v) => Q v s' | .error e => E e s' | _ => False) C.B D.F D.N C.fr C.ef C.ek
  refine kla_callFunE (fd := kla_fn "<lambda>" lamQ lamP lamB lamS [] pm (.ref c') ctv) (body := lamB) (by have := C.dp; omega) hfs.1 rfl rfl rfl rfl ⟨c', oc, vs, tq, rfl, hcc.1, hdat, hv⟩ ?_
  refine wpAny_of_eq (a := [(("_m" : Str), Value.ref mt)]) (by rfl) ?_
  refine wpAny_newFunctionEnv (show ∀ x ∈ lamS.names, x.2 ≠ .cell by decide) (by intro y hy; rw [List.mem_singleton.mp hy]; rfl) (fun h₁ hns hsb => ?_) rfl
  have hk₁ : ∀ b o, s.heap.get? b = some o → h₁.get? b = some o := fun b o e => hsb.extBut b o (Nat.ne_of_lt (Heap.lt_size e)) (Heap.get?_push_of_some _ e)
  have hsz1 : s.heap.objs.size < h₁.objs.size := hns.lt
  have hns' : h₁.Ns s.heap.objs.size (look [("_m", .ref mt)]) := hns
  have lt : ∀ z ∈ st.news ++ tabsOf δ, z.1 < s.heap.objs.size := fun z hz => Heap.lt_size (D.N z hz).1
  refine ⟨(C.T.nolimit.keeps D.F.keep).keeps hk₁, kla_codeExpr ?_⟩
  let C' : Cx := { C with
    A₀ := C.A, A := C.A.deeper (envOf lamQ lamS s.heap.objs.size f (.ref c')), outer := C.env :: C.outer, h₀ := hideAll s.heap ((st.news ++ tabsOf δ).map (·.1)), L := s.heap.objs.size, env := envOf lamQ lamS s.heap.objs.size f (.ref c'), room := C.room - 1, gb := s.gens, u0 := δ.u, sb := s.heap.objs.size
    B := BG, T := C.T.keeps stay, kd := kd_enter D.F D.N C.kd C.ef, fr := by show C.A.frames.map _ = _; rw [C.fr]; rfl
    ef := rfl, el := rfl, eg := rfl, eb := rfl, ek := rfl, hh := C.hh, gd := C.gd
    dp := by show C.A.depth + 1 + (C.room - 1) < recursionLimit; have := C.dp; omega
    un := by show C.A.units + 3 + 8 * (C.room - 1) + 8 < cLine; have := C.un; omega }
  have DC : HeldD C' δ ⟨[("_m", .ref mt)], st.news⟩ { s with heap := h₁, toks := s.toks + ([(("_m" : Str), Value.ref mt)] : List (Str × Value)).length } :=
    ⟨⟨hns', fun b o e => hk₁ b o (of_hideAll _ e), Nat.le_of_eq (hideAll_size _ _)⟩, fun z hz => ⟨hk₁ _ _ (D.N z hz).1, Nat.ne_of_lt (lt z hz), hideAll_none _ (List.mem_map_of_mem hz)⟩, D.nd, D.ok, D.os, D.gens, fun _ _ => rfl, fun _ e => .inl e, fun _ e => e⟩
  have HC : Holds C' ⟨[("_m", .ref mt)], st.news⟩ { s with heap := h₁, toks := s.toks + ([(("_m" : Str), Value.ref mt)] : List (Str × Value)).length } := ⟨⟨δ, DC⟩, Nat.lt_of_lt_of_le htp (Nat.le_add_right _ _), Nat.le_of_lt hsz1⟩
  refine wpAny_mono (wpAny_size_of (n := s.heap.objs.size) (Nat.le_of_lt hsz1) (wpAny_toks_of (n := 1) HC.tp (lam_body (st := ⟨[("_m", .ref mt)], st.news⟩) (C := C') (E := NoE) (Q := fun v st' => ∃ u, v = .str ("" ++ ⟨x.cps.extract (p + 1) (p + 2)⟩) u ∧ st' = ⟨[("_m", .ref mt)], st.news⟩) hm hT hz hp rfl rfl rfl (fun u => ⟨u, rfl, rfl⟩) _ HC))) (fun v s' hq => ?_) (fun _ _ e => e.2.2.elim)
  obtain ⟨hz', htp', st', ⟨δ', D'⟩, u, rfl, rfl⟩ := hq
  refine lv _ _ (leaveK_ D'.F D'.N fun F₂ N₂ => ?_)
  exact h δ' s' u ⟨F₂, N₂, D'.nd, D'.ok, D'.os, D'.gens, gp_trans D.gp D'.gp, us_trans D.us hsz D'.us, fun q e => D'.uk q (D.uk q e)⟩ (D'.uk _ hu) htp' (Nat.le_trans hsz hz')
end
end Mine
end
section
open PySem PySem.W PyProof.Rows PySem.Calls PySem.Spec
namespace Mine
section
variable {tx : Array Nat}
theorem drop_at {p : Nat} (h : p < tx.size) : tx.toList.drop p = tx.getD p 0 :: tx.toList.drop (p + 1) := by
  rw [List.drop_eq_getElem_cons (by simpa using h)]
  congr 1
  simp [Array.getD, h]
theorem unsl_cons {c : Nat} {r : List Nat} (h : ∀ d r', r = d :: r' → ¬ (c = 92 ∧ d ≠ 10)) : unsl (c :: r) = c :: unsl r := by
  cases r with
  | nil => rfl
  | cons d r => rw [unsl, if_neg (h d r rfl)]
theorem unsl_miss {s : Nat} (hs : s < tx.size) (hu : uhit tx s = false) : unsl (tx.toList.drop s) = tx.getD s 0 :: unsl (tx.toList.drop (s + 1)) := by
  rw [drop_at hs]
  refine unsl_cons fun d r' e hc => ?_
  have h1 : s + 1 < tx.size := by
    have := congrArg List.length e
    simp at this; omega
  rw [drop_at h1] at e
  injection e with e1 e2
  unfold uhit at hu
  rw [decide_eq_true h1, hc.1, e1] at hu
  simp [hc.2] at hu
theorem unsl_hit {s : Nat} (hu : uhit tx s = true) : s + 2 ≤ tx.size ∧ unsl (tx.toList.drop s) = tx.getD (s + 1) 0 :: unsl (tx.toList.drop (s + 2)) := by
  unfold uhit at hu
  simp only [Bool.and_eq_true, decide_eq_true_eq, beq_iff_eq, bne_iff_ne, ne_eq] at hu
  obtain ⟨⟨hs, h92⟩, h10⟩ := hu
  refine ⟨hs, ?_⟩
  rw [drop_at (by omega), drop_at hs, unsl, if_pos ⟨h92, h10⟩]
theorem unsl_short {p : Nat} (h : ¬ p + 2 ≤ tx.size) : unsl (tx.toList.drop p) = tx.toList.drop p := by
  by_cases hp : p < tx.size
  · rw [drop_at hp, List.drop_eq_nil_of_le (by simp; omega)]; rfl
  · rw [List.drop_eq_nil_of_le (by simp; omega)]; rfl
theorem ufind_some : ∀ (d p q : Nat), tx.size - p = d → ufind tx p = some q → p ≤ q ∧ q + 2 ≤ tx.size ∧ unsl (tx.toList.drop p) = (tx.extract p q).toList ++ tx.getD (q + 1) 0 :: unsl (tx.toList.drop (q + 2)) := by
  intro d
  induction d with
  | zero => intro p q hd h; rw [ufind, dif_neg (by omega)] at h; cases h
  | succ d ih =>
    intro p q hd h
    rw [ufind, dif_pos (by omega)] at h
    cases hu : uhit tx p with
    | true =>
      rw [hu, if_pos rfl] at h
      cases h
      obtain ⟨h1, h2⟩ := unsl_hit hu
      refine ⟨Nat.le_refl _, h1, ?_⟩
      rw [h2]; simp
    | false =>
      rw [hu, if_neg Bool.false_ne_true] at h
      obtain ⟨h1, h2, h3⟩ := ih (p + 1) q (by omega) h
      refine ⟨by omega, h2, ?_⟩
      rw [unsl_miss (by omega) hu, h3]
      have e : (tx.extract p q).toList = tx.getD p 0 :: (tx.extract (p + 1) q).toList := by
        simp only [Array.toList_extract, List.extract_eq_drop_take]
        rw [drop_at (by omega), show q - p = (q - (p + 1)) + 1 by omega, List.take_succ_cons]
      rw [e]; rfl
theorem ufind_none : ∀ (d p : Nat), tx.size - p = d → ufind tx p = none → unsl (tx.toList.drop p) = tx.toList.drop p := by
  intro d
  induction d with
  | zero => intro p hd _; rw [List.drop_eq_nil_of_le (by simp; omega)]; rfl
  | succ d ih =>
    intro p hd h
    rw [ufind, dif_pos (by omega)] at h
    cases hu : uhit tx p with
    | true => rw [hu, if_pos rfl] at h; cases h
    | false =>
      rw [hu, if_neg Bool.false_ne_true] at h
      rw [unsl_miss (by omega) hu, ih (p + 1) (by omega) h, ← drop_at (by omega)]
end
section
variable {M0 : Model} {A : Around} {E : Value → Shared → Prop} {s : Shared}
/-- the search for the next backslash -/
theorem wp_nextFound {x : Str} {t : Tok} {p : Nat} {must : Bool} {Q : Option Sre.M → Shared → Prop} (hz : x.length ≤ sizeLine)
    (h0 : unsl (x.cps.toList.drop p) = x.cps.toList.drop p → Q none s)
    (h1 : ∀ q m', p ≤ q → q + 2 ≤ x.cps.size → unsl (x.cps.toList.drop p) = (x.cps.extract p q).toList ++ x.cps.getD (q + 1) 0 :: unsl (x.cps.toList.drop (q + 2)) → m'.start = q → m'.handed = q + 2 → m'.marks = #[some (q + 1), some (q + 2)] → m'.lastmark = 1 → m'.lastindex = 1 → Q (some m') s) :
    wpAny M0 A (Builtin.Re.reNextFound { pattern := .ref 58, string := .str x t, code := ucode, text := x.cps, kind := 0, groups := 1, pos := 0, lim := x.cps.size } p must) Q E s := by
  unfold Builtin.Re.reNextFound
  dsimp only
  have hz' : x.cps.size ≤ 16777216 := by rw [← sizeLine_eq]; exact hz
  by_cases hp : p + 2 ≤ x.cps.size
  · obtain ⟨seen, e⟩ := ust_start x.cps p must hp
    rw [e]
    obtain ⟨n, m', hn, hr, hm⟩ := ust_run (tx := x.cps) (x.cps.size - p) p true must #[none, none] seen rfl rfl
    cases hf : ufind x.cps p with
    | none =>
      rw [hf] at hm
      exact wp_toEnd (by omega) hr (.inr ⟨hm, h0 (ufind_none _ p rfl hf)⟩)
    | some q =>
      rw [hf] at hm
      obtain ⟨a1, a2, a3, a4, a5, a6⟩ := hm
      obtain ⟨b1, b2, b3⟩ := ufind_some _ p q rfl hf
      exact wp_toEnd (by omega) hr (.inl ⟨a1, h1 q m' b1 b2 b3 a2 a3 a4 a5 a6⟩)
  · obtain ⟨m', hr, hm⟩ := ust_start_no x.cps p must hp
    exact wp_toEnd (by omega) hr (.inr ⟨hm, h0 (unsl_short hp)⟩)
end
end Mine
end
section
open PySem PySem.W PyProof.Rows PySem.Calls PySem.Spec
namespace Mine
def cat (xs : List Str) : List Nat := (xs.map fun x => x.cps.toList).flatten
theorem cat_append (a b : List Str) : cat (a ++ b) = cat a ++ cat b := by simp [cat]
theorem cat_one (x : Str) : cat [x] = x.cps.toList := by simp [cat]
theorem TxA.snoc {vs xs} (h : TxA vs xs) (x : Str) (t : Tok) : TxA (vs ++ [.str x t]) (xs ++ [x]) := h.append (.cons .nil)
theorem join_empty_cat : ∀ xs : List Str, (Str.join Str.empty xs).cps.toList = cat xs
  | [] => rfl
  | [x] => (cat_one x).symm
  | x :: y :: r => by
    show (x ++ Str.empty ++ Str.join Str.empty (y :: r)).cps.toList = _
    rw [Str.cps_append, Array.toList_append, Str.cps_append, Array.toList_append, join_empty_cat (y :: r)]
    show x.cps.toList ++ [] ++ _ = _
    simp [cat]
theorem joinOk_empty {xs : List Str} (h : (cat xs).length ≤ sizeLine) : JoinOk Str.empty xs = true := by
  have key : ∀ (xs : List Str) (a : Nat), xs.foldl (fun a x => a + x.length + Str.empty.length) a = a + (cat xs).length := by
    intro xs
    induction xs with
    | nil => intro a; rfl
    | cons x r ih =>
      intro a
      rw [List.foldl_cons, ih]
      have : (cat (x :: r)).length = x.length + (cat r).length := by
        show ((x.cps.toList) ++ (cat r)).length = _
        rw [List.length_append, Array.length_toList]; rfl
      rw [this]
      show a + x.length + 0 + _ = _
      omega
  unfold JoinOk
  rw [← Array.foldl_toList]
  show (!Builtin.Str.tooLong (xs.foldl (fun a x => a + x.length + Str.empty.length) 0)) = true
  rw [key]
  unfold Builtin.Str.tooLong
  simp
  omega
end Mine
end
section
open PySem PySem.W PyProof.Rows PySem.Calls PySem.Spec
namespace Mine
section
variable {C : Cx} {E : Value → Shared → Prop} {st : St}
theorem wp_push {δ : Tb} {m : List (Str × Value)} {R : Led} {pl : Addr} {ps : List Value} {k : Nat} {v : Value} {s : Shared} {A' : Around} {Q : Unit → Shared → Prop} (D : HeldD C δ ⟨m, (pl, lst ps k) :: R⟩ s) (hz : ps.length < sizeLine)
    (h : ∀ h', h'.objs.size = s.heap.objs.size → HeldD C δ ⟨m, (pl, lst (ps ++ [v]) (k + 1)) :: R⟩ { s with heap := h' } → Q () { s with heap := h' }) : wpAny (model prog C.w) A' (updateSeq pl fun x => x.push v) Q E s := by
  have hm := D.N (pl, lst ps k) (.head _)
  have e : Obj.mapSeq (fun x => x.push v) (lst ps k) = lst (ps ++ [v]) (k + 1) := by
    simp [Obj.mapSeq, lst]
  refine wpAny_updateSeq hm.1 rfl (h _ (Heap.size_after_update ..) ?_) ?_
  · refine D.write (tk := s.toks) .head (Heap.SameBut.update ..) ?_
    rw [← e]
    exact Heap.get?_update_self _ hm.1 (by rw [e]; rfl)
  · simp; omega
theorem wp_slice {x : Str} {b e : Nat} {s : Shared} {A' : Around} {M0 : Model} {Q : Value → Shared → Prop} (hz : x.length ≤ 1000000) (h : Q (.str ⟨x.cps.extract b e⟩ s.toks) { s with toks := s.toks + 1 }) : wpAny M0 A' (Builtin.Re.reSlice x.cps 0 b e) Q E s := by
  show wpAny _ _ (mkStr _) _ _ _
  refine wpAny_mkStr h ?_
  show (x.cps.extract _ _).size ≤ _
  rw [Array.size_extract, sizeLine_eq]
  have : x.cps.size ≤ 1000000 := hz
  omega
theorem HeldD.toks {δ : Tb} {s : Shared} {tk : Nat} (D : HeldD C δ st s) : HeldD C δ st { s with toks := tk } := ⟨D.F, D.N, D.nd, D.ok, D.os, D.gens, D.gp, D.us, D.uk⟩
theorem HeldD.alloc {δ : Tb} {s : Shared} {o : Obj} (D : HeldD C δ st s) (hf : o.isFreed = false) : HeldD C δ ⟨st.m, (s.heap.objs.size, o) :: st.news⟩ { s with heap := s.heap.push o } :=
  ⟨D.F.push o, News.push D.F D.N o hf, nd_lt D.nd fun p hp => Heap.lt_size (D.N p hp).1, D.ok, D.os, D.gens, D.gp, D.us, D.uk⟩
theorem wp_newMatch {δ : Tb} {x : Str} {t : Tok} {q : Nat} {m' : Sre.M} {s : Shared} {A' : Around} {Q : Value → Shared → Prop} (D : HeldD C δ st s) (h1 : m'.start = q) (h2 : m'.handed = q + 2) (h3 : m'.marks = #[some (q + 1), some (q + 2)]) (h4 : m'.lastmark = 1) (h5 : m'.lastindex = 1)
    (h : ∀ mt T h', HeldD C δ ⟨st.m, (mt, matchObj x t T) :: (T, spanObj q) :: st.news⟩ { s with heap := h' } → s.heap.objs.size ≤ h'.objs.size → Q (.ref mt) { s with heap := h' }) :
    wpAny (model prog C.w) A' (Builtin.Re.reNewMatch (.ref 58) (.str x t) 1 0 x.cps.size m') Q E s := by
  unfold Builtin.Re.reNewMatch
  rw [h1, h2, h3, h4, h5]
  dsimp only
  split
  · rename_i hc
    refine absurd (show ((decide (((2 * 0 + 1 : Nat) : Int) ≤ 1) && decide (q + 2 < q + 1)) || false) = true from hc) ?_
    have : decide (q + 2 < q + 1) = false := decide_eq_false (by omega)
    rw [this]; simp
  refine wpAny_bind (wpAny_newObj_type ?_ (by show (_ : Nat) ≤ _; rw [sizeLine_eq]; simp))
  have D₁ := D.alloc (o := spanObj q) rfl
  refine wpAny_newObj_type ?_ (by show (_ : Nat) ≤ _; rw [sizeLine_eq]; simp)
  have D₂ := D₁.alloc (o := matchObj x t s.heap.objs.size) rfl
  refine h _ _ _ D₂ (by simp only [Heap.size_push]; omega)
theorem quiet_sub_loop (a : Args) : (Code.builtin "re.Pattern.sub.loop" a).quiet = true := plainId_quiet plain_sub_loop _
theorem sub_loop {f c' : Addr} {oc : Obj} {pm ctv : Value} {x : Str} {t : Tok} {m : List (Str × Value)} {R : Led} {pl : Addr} {Rr : Result → Shared → Prop} (hr : 1 < C.room) (hz : x.length ≤ 1000000) (hf : (f, lamObj pm c' ctv) ∈ R) :
    ∀ (d p : Nat) (n : Int) (must : Bool) (ps : List Value) (xs : List Str) (k : Nat) (δ : Tb) (s : Shared), x.cps.size - p ≤ d → p ≤ x.cps.size → HeldD C δ ⟨m, (pl, lst ps k) :: R⟩ s → 0 < s.toks → C.sb ≤ s.heap.objs.size → δ.u = some (c', oc) →
      TxA ps xs → ps.length ≤ p → (cat xs).length ≤ p → (∀ δ' s' y u, HeldD C δ' ⟨m, R⟩ s' → y.cps.toList = cat xs ++ unsl (x.cps.toList.drop p) → Rr (.ok (.ret (.str y u))) s') →
      codeAny (model prog C.w) C.A (.builtin "re.Pattern.sub.loop" ⟨[.ref 58, .str x t, .ref f, .int 1 0, .int 0 0, .int n 0, .int (p : Nat) 0, .int (p : Nat) 0, .bool must, .ref pl, .bool false], []⟩) Rr s := by
  intro d
  induction d using Nat.strongRecOn with
  | _ d ih =>
    intro p n must ps xs k δ s hd hp D htp hsz hu htx hl1 hl2 hfin
    have hzl : x.length ≤ sizeLine := by rw [sizeLine_eq]; omega
    have hzs : x.cps.size ≤ 1000000 := hz
    refine codeAny_builtin entry_sub_loop ?_
    rw [Around.under_plainId plain_sub_loop _]
    unfold Builtin.«re.Pattern.sub.loop»
    dsimp only
    refine wpAny_bind (wp_whole (C.T.X.keeps D.F.keep) ?_)
    rw [if_neg (by decide)]
    rw [if_neg (show ¬ ((0 : Int) != 0 && decide (n ≥ 0)) = true by simp)]
    rw [Int.toNat_natCast]
    refine wpAny_bind (wp_nextFound hzl (fun hu0 => ?_) fun q m' hpq hq2 hun a1 a2 a3 a4 a5 => ?_)
    · have rest : ∀ (ps' : List Value) (xs' : List Str) (k' : Nat) (s' : Shared), HeldD C δ ⟨m, (pl, lst ps' k') :: R⟩ s' → TxA ps' xs' → ps'.length ≤ p + 1 → cat xs' = cat xs ++ unsl (x.cps.toList.drop p) →
          wpAny (model prog C.w) C.A.in1 (do
            let joiner ← Builtin.Re.reSlice x.cps 0 0 0
            let its ← seqItems? (.ref pl)
            if ((its.getD #[]).isEmpty) = true then (do
              let text ← pure joiner
              if false = true then (do
                let l ← holding [text] (do let i ← mkInt n; newTuple [text, i])
                ret l)
              else ret text)
            else (do
              let text ← call (.builtin "str.join") [joiner, .ref pl]
              if false = true then (do
                let l ← holding [text] (do let i ← mkInt n; newTuple [text, i])
                ret l)
              else ret text))
            (fun fin s' => match fin with | .done f => Rr (.ok f) s' | .again c' => c'.quiet = true ∧ codeAny (model prog C.w) C.A c' Rr s') (fun e s' => Rr (.error e) s') s' := by
        intro ps' xs' k' s' D' htx' hl1' hcat
        refine wpAny_bind (wp_slice hz ?_)
        have e0 : (⟨x.cps.extract 0 0⟩ : Str) = Str.empty := by simp [Str.empty]
        rw [e0]
        have hm := D'.N (pl, lst ps' k') (.head _)
        refine wpAny_bind (wpAny_seqItems hm.1 rfl ?_)
        have Df : ∀ tk, HeldD C δ ⟨m, R⟩ { s' with toks := tk } := fun tk => (D'.toks (tk := tk)).sub (.of ((List.Sublist.refl _).cons _))
        cases ps' with
        | nil =>
          cases htx'
          refine wpAny_bind (wpAny_pure (wpAny_pure ?_))
          exact hfin δ _ _ _ (Df _) (by rw [← hcat]; rfl)
        | cons a r =>
          obtain ⟨l, hl1, hl2⟩ := htx'.strs
          have hlen : (cat xs').length ≤ sizeLine := by
            rw [hcat, hu0, List.length_append, sizeLine_eq]
            simp
            omega
          refine wpAny_bind (SC.join (isList_of (by rw [← hl1]; exact hm.1)) hl2 (joinOk_empty hlen) fun t' hk => ?_)
          refine wpAny_pure ?_
          refine hfin δ _ _ _ (Df _) ?_
          rw [← hcat]
          rw [show Txt.join Str.empty xs' = Str.join Str.empty xs' from StrLaws.glued_eq_join _ _]
          exact join_empty_cat xs'
      dsimp only
      by_cases hlt : p < x.cps.size
      · rw [if_pos hlt]
        refine wpAny_bind (wp_slice hz ?_)
        refine wpAny_bind (wp_push D.toks (by rw [sizeLine_eq]; omega) fun h₃ hs₃ D₄ => ?_)
        have := rest (ps ++ [.str ⟨x.cps.extract p x.cps.size⟩ s.toks]) (xs ++ [⟨x.cps.extract p x.cps.size⟩]) (k + 1) _ D₄ (htx.snoc _ _) (by rw [List.length_append, List.length_singleton]; omega) (by
          rw [cat_append, cat_one, hu0]
          congr 1
          show (x.cps.extract p x.cps.size).toList = _
          rw [Array.toList_extract, List.extract_eq_take_drop, List.take_of_length_le (by simp)])
        exact this
      · rw [if_neg hlt]
        have := rest ps xs k s D htx (by omega) (by
          rw [hu0, List.drop_eq_nil_of_le (by simp; omega), List.append_nil])
        exact this
    · have rest : ∀ (ps' : List Value) (xs' : List Str) (k' : Nat) (s' : Shared), HeldD C δ ⟨m, (pl, lst ps' k') :: R⟩ s' → 0 < s'.toks → C.sb ≤ s'.heap.objs.size → TxA ps' xs' → ps'.length ≤ p + 1 → cat xs' = cat xs ++ (x.cps.extract p q).toList →
          wpAny (model prog C.w) C.A.in1 (do
            let found ← Builtin.Re.reNewMatch (.ref 58) (.str x t) 1 0 x.cps.size m'
            let item ← holding [found] (call (.ref f) [found])
            if (item != Value.none) = true then do
              updateSeq pl fun x => x.push item
              again (.builtin "re.Pattern.sub.loop" ⟨[.ref 58, .str x t, .ref f, rawInt 1, rawInt 0, rawInt (n + 1), rawInt m'.handed, rawInt m'.handed, .bool (m'.handed == m'.start), .ref pl, .bool false], []⟩)
            else again (.builtin "re.Pattern.sub.loop" ⟨[.ref 58, .str x t, .ref f, rawInt 1, rawInt 0, rawInt (n + 1), rawInt m'.handed, rawInt m'.handed, .bool (m'.handed == m'.start), .ref pl, .bool false], []⟩))
            (fun fin s' => match fin with | .done f => Rr (.ok f) s' | .again c' => c'.quiet = true ∧ codeAny (model prog C.w) C.A c' Rr s') (fun e s' => Rr (.error e) s') s' := by
        intro ps' xs' k' s' D' htp' hsz' htx' hl1' hcat
        refine wpAny_with_size (Nat.le_refl s'.heap.objs.size) (wpAny_with_toks htp' (wpAny_bind (wp_newMatch (t := t) D' a1 a2 a3 a4 a5 fun mt T h' D₁ hsz₁ => ?_)))
        refine wpAny_bind (wpAny_holding ?_)
        have hr0 : 0 < C.room := by omega
        refine lam_call (C := C.in1 hr0) (st := ⟨m, (mt, matchObj x t T) :: (T, spanObj q) :: (pl, lst ps' k') :: R⟩) D₁.in1 (by show 0 < C.room - 1; omega) htp' (Nat.le_trans hsz' hsz₁) hu (.tail _ (.tail _ (.tail _ hf))) (.head _) (.tail _ (.head _)) hzl hq2 fun δ' s₂ u D₂ hu₂ htp₂ hsz₂ => ?_
        show wpAny _ _ (do
              updateSeq pl fun x => x.push _
              again _) _ _ _
        have D₃ : HeldD C δ' ⟨m, (pl, lst ps' k') :: R⟩ s₂ := (D₂.out1).sub (.of ((List.Sublist.refl _).cons _ |>.cons _))
        refine wpAny_bind (wp_push D₃ (by rw [sizeLine_eq]; omega) fun h₃ hs₃ D₄ => ?_)
        refine wpAny_pure ?_
        intro _ _
        rw [a1, a2]
        have hit : (("" : Str) ++ ⟨x.cps.extract (q + 1) (q + 2)⟩).cps.toList = [x.cps.getD (q + 1) 0] := by
          show (#[] ++ x.cps.extract (q + 1) (q + 2)).toList = _
          rw [Array.empty_append, Array.toList_extract, List.extract_eq_take_drop, drop_at (by omega), show q + 2 - (q + 1) = 0 + 1 by omega, List.take_succ_cons, List.take_zero]
        have hxl : (x.cps.extract p q).toList.length = q - p := by simp; omega
        refine ⟨quiet_sub_loop _, ih (x.cps.size - (q + 2)) (by omega) (q + 2) (n + 1) (q + 2 == q) (ps' ++ [.str ("" ++ ⟨x.cps.extract (q + 1) (q + 2)⟩) u]) (xs' ++ [(("" : Str) ++ (⟨x.cps.extract (q + 1) (q + 2)⟩ : Str) : Str)]) (k' + 1) δ' _ (Nat.le_refl _) hq2 D₄ htp₂ (by dsimp only; rw [hs₃]; exact hsz₂) hu₂ (htx'.snoc _ _) ?_ ?_ ?_⟩
        · rw [List.length_append, List.length_singleton]; omega
        · rw [cat_append, hcat, cat_one, hit, List.length_append, List.length_append, hxl, List.length_singleton]; omega
        · intro δ₅ s₅ y u₅ D₅ hy
          refine hfin δ₅ s₅ y u₅ D₅ ?_
          rw [hy, cat_append, hcat, cat_one, hit, hun]
          simp
      by_cases hlt : p < q
      · dsimp only
        rw [if_pos (by rw [a1]; exact hlt)]
        rw [a1]
        refine wpAny_bind (wp_slice hz ?_)
        refine wpAny_bind (wp_push D.toks (by rw [sizeLine_eq]; omega) fun h₃ hs₃ D₄ => ?_)
        rw [if_neg (by decide)]
        have := rest (ps ++ [.str ⟨x.cps.extract p q⟩ s.toks]) (xs ++ [⟨x.cps.extract p q⟩]) (k + 1) _ D₄ (Nat.succ_pos _) (by dsimp only; rw [hs₃]; exact hsz) (htx.snoc _ _) (by rw [List.length_append, List.length_singleton]; omega) (by rw [cat_append, cat_one])
        rw [a1] at this
        exact this
      · obtain rfl : p = q := by omega
        dsimp only
        rw [if_neg (by rw [a1]; exact hlt)]
        rw [if_neg (by decide)]
        exact rest ps xs k s D htp hsz htx (by omega) (by simp)

theorem look_fn_call : typeLookup (.type "function") "__call__" = pure (some (.builtin "function.__call__")) := by rw [typeLookup_type, builtinLookup_eq_fast]; kernel_rfl
theorem sub_str_bytearray : isSubtype (.type "str") (.type "bytearray") = pure false := by rw [isSubtype_type]; kernel_rfl
def unslash (x : Str) : Str := ⟨(unsl x.cps.toList).toArray⟩
theorem call_sub {f c' : Addr} {oc : Obj} {pm ctv : Value} {x : Str} {t : Tok} {δ : Tb} {s : Shared} {Q : Value → Shared → Prop} (D : HeldD C δ st s) (hr : 1 < C.room) (htp : 0 < s.toks) (hsz : C.sb ≤ s.heap.objs.size) (hz : x.length ≤ 1000000) (hf : (f, lamObj pm c' ctv) ∈ st.news) (hu : δ.u = some (c', oc))
    (h : ∀ δ' s' u, HeldD C δ' st s' → Q (.str (unslash x) u) s') : wpAny (model prog C.w) C.A (call (.builtin "re.Pattern.sub") [.ref 58, .ref f, .str x t]) Q E s := by
  have X := C.T.X.keeps D.F.keep
  obtain ⟨o1, e1, e2⟩ : ∃ o, (KF C.w).lookup 58 = some o ∧ o.cls = .type "re.Pattern" := ⟨_, by with_unfolding_all rfl, rfl⟩
  have hfo := (D.N _ (List.mem_append_left _ hf)).1
  refine wpAny_call (codeAny_call_builtin slot_sub.plain entry_sub (slot_sub.check _ _ _ _ _ _ _ _ ⟨o1, X _ _ e1, e2⟩ (args_sub _ _ _) ?_))
  unfold Builtin.«re.Pattern.sub» Builtin.Re.reSubstitute
  dsimp only
  refine wpAny_bind (m := Builtin.Re.reNamed "re.Pattern.sub" "sub" ["repl", "string", "count"] 2 [.ref f, .str x t] []) (wpAny_of_eq (a := [some (.ref f), some (.str x t), none]) (by rfl) ?_)
  dsimp only
  refine wpAny_bind (wpAny_pure ?_)
  refine wpAny_bind (wpAny_specialOf (T := "function") ⟨_, hfo, rfl⟩ look_fn_call ?_)
  dsimp only [Option.isSome]
  rw [if_pos rfl]
  refine wpAny_bind (wpAny_pure ?_)
  rw [if_pos rfl]
  refine wpAny_bind (wpAny_pure ?_)
  refine wpAny_bind (wpAny_holding (wp_whole X ?_))
  dsimp only
  rw [if_pos (by decide)]
  unfold Builtin.Re.reNotHeld
  refine wpAny_bind (wpAny_bind (wpAny_isInstance (T := "str") rfl sub_str_bytearray ?_))
  rw [if_neg Bool.false_ne_true]
  refine wpAny_pure ?_
  refine wpAny_bind (wpAny_newObj_type ?_ (by show (_ : Nat) ≤ _; simp))
  refine wpAny_pure ⟨plainId_quiet plain_sub_loop _, ?_⟩
  have D₁ := D.alloc (o := lst [] 0) rfl
  refine sub_loop (pm := pm) (ctv := ctv) (c' := c') (oc := oc) (m := st.m) (R := st.news) hr hz hf x.cps.size 0 0 false [] [] 0 δ _ (Nat.le_refl _) (Nat.zero_le _) D₁ htp (by dsimp only; rw [Heap.size_push]; exact Nat.le_succ_of_le hsz) hu .nil (Nat.le_refl _) (Nat.le_refl _) ?_
  intro δ' s' y u D' hy
  have e : y = unslash x := by
    obtain ⟨y⟩ := y
    unfold unslash
    congr 1
    apply Array.toList_inj.mp
    rw [hy]; simp [cat]
  rw [e]
  exact h δ' s' u D'
end
end Mine
end
section
open PySem PySem.W PyProof.Rows PySem.Calls PySem.Spec
namespace Mine
section
variable {C : Cx} {E : Value → Shared → Prop} {st : St}
-- slices
abbrev slc (a b : Value) : Obj := { cls := .type "slice", data := .fields #[a, b, .none] }
def optV : Option (Int × Tok) → Value
  | none => .none
  | some p => .int p.1 p.2
theorem optV_part (p : Option (Int × Tok)) : IsPart (optV p) (p.map (·.1)) := by cases p <;> constructor
theorem e_slice_ss {env : Env} {a b : Expr} {pos : Pos} {Q : Value → St → Prop} (h : Ev C E (eval a env) st fun x st₁ => Ev C E (eval b env) st₁ fun y st₂ => ∃ p q, x = optV p ∧ y = optV q ∧ ∀ l, Q (.ref l) ⟨st₂.m, (l, slc (optV p) (optV q)) :: st₂.news⟩) :
    Ev C E (eval (.Slice (some a) (some b) none pos) env) st Q := fun s H => by
  rw [arm_eval_Slice]
  refine wpAny_bind (m := eval a env) (L1q h (fun x st₁ s₁ H₁ h₁ => ?_) H)
  refine wpAny_bind (wpAny_holding (L1q h₁ (fun y st₂ s₂ H₂ h₂ => ?_) H₁))
  obtain ⟨p, q, rfl, rfl, h₂⟩ := h₂
  refine wpAny_bind (wpAny_holding (wpAny_pure ?_))
  exact wpAny_newObj_type ⟨_, H₂.toHeld.alloc (tk := s₂.toks) rfl, h₂ _⟩ (by show (3 : Nat) ≤ _; rw [sizeLine_eq]; omega)
theorem e_slice_sn {env : Env} {a : Expr} {pos : Pos} {Q : Value → St → Prop} (h : Ev C E (eval a env) st fun x st₁ => ∃ p, x = optV p ∧ ∀ l, Q (.ref l) ⟨st₁.m, (l, slc (optV p) (optV none)) :: st₁.news⟩) :
    Ev C E (eval (.Slice (some a) none none pos) env) st Q := fun s H => by
  rw [arm_eval_Slice]
  refine wpAny_bind (m := eval a env) (L1q h (fun x st₁ s₁ H₁ h₁ => ?_) H)
  obtain ⟨p, rfl, h₂⟩ := h₁
  refine wpAny_bind (wpAny_holding (wpAny_pure ?_))
  refine wpAny_bind (wpAny_holding (wpAny_pure ?_))
  exact wpAny_newObj_type ⟨_, H₁.toHeld.alloc (tk := s₁.toks) rfl, h₂ _⟩ (by show (3 : Nat) ≤ _; rw [sizeLine_eq]; omega)
theorem e_slice_ns {env : Env} {b : Expr} {pos : Pos} {Q : Value → St → Prop} (h : Ev C E (eval b env) st fun x st₁ => ∃ p, x = optV p ∧ ∀ l, Q (.ref l) ⟨st₁.m, (l, slc (optV none) (optV p)) :: st₁.news⟩) :
    Ev C E (eval (.Slice none (some b) none pos) env) st Q := fun s H => by
  rw [arm_eval_Slice]
  refine wpAny_bind (wpAny_pure ?_)
  refine wpAny_bind (m := holding [.none] (eval b env)) (wpAny_holding (L1q h (fun x st₁ s₁ H₁ h₁ => ?_) H))
  obtain ⟨p, rfl, h₂⟩ := h₁
  refine wpAny_bind (wpAny_holding (wpAny_pure ?_))
  exact wpAny_newObj_type ⟨_, H₁.toHeld.alloc (tk := s₁.toks) rfl, h₂ _⟩ (by show (3 : Nat) ≤ _; rw [sizeLine_eq]; omega)
theorem opt_int {i : Int} {t : Tok} {P : Option (Int × Tok) → Prop} (h : P (some (i, t))) : ∃ p, Value.int i t = optV p ∧ P p := ⟨some (i, t), rfl, h⟩
theorem opt_int2 {i j : Int} {t u : Tok} {P : Option (Int × Tok) → Option (Int × Tok) → Prop} (h : P (some (i, t)) (some (j, u))) : ∃ p q, Value.int i t = optV p ∧ Value.int j u = optV q ∧ P p q := ⟨some (i, t), some (j, u), rfl, rfl, h⟩

theorem o_slice_str {value slice : Expr} {x : Str} {t : Tok} {l : Addr} {o : Obj} {p q : Option (Int × Tok)} {Q : Value → St → Prop} (hm : (l, o) ∈ st.news) (ho : o = slc (optV p) (optV q)) (hz : x.length ≤ sizeLine) (h : ∀ t', Q (.str (Txt.slice x (p.map (·.1)) (q.map (·.1))) t') st)
    (hs : subscripted slice false (.str x t) (.ref l) = operate [.ref l, .str x t] (getItem (.str x t) (.ref l))) : Ev C E (subscriptTail value slice (.str x t) (.ref l)) st Q := fun s H => by
  subst ho
  refine tail_any (T := "str") (typeIs_str _ _ _) F.slot_str_getitem.lookup ?_ hs
  refine wpAny_getItem_str_slice (l := p) (u := q) (st := none) ⟨_, H.get hm, rfl, ?_⟩ rfl (post_val_or_str ⟨Nat.le_trans (Txt.slice_le x _ _) hz, fun t' k => ⟨st, H.toHeld.tok, h t'⟩⟩)
  cases p <;> cases q <;> rfl
theorem o_slice_list {value slice : Expr} {vs : List Value} {n : Nat} {l d : Addr} {o : Obj} {p q : Option (Int × Tok)} {Q : Value → St → Prop} (hl : (d, lst vs n) ∈ st.news) (hm : (l, o) ∈ st.news) (ho : o = slc (optV p) (optV q)) (hz : vs.length ≤ sizeLine)
    (h : ∀ r, Q (.ref r) ⟨st.m, (r, lst (slicePick vs.toArray (p.map (·.1)) (q.map (·.1)) none).toList 0) :: st.news⟩)
    (hs : subscripted slice false (.ref d) (.ref l) = operate [.ref l, .ref d] (getItem (.ref d) (.ref l))) : Ev C E (subscriptTail value slice (.ref d) (.ref l)) st Q := fun s H => by
  subst ho
  have hL := isList_of (H.get hl)
  refine tail_any hL.typeIs slot_list_getitem.lookup ?_ hs
  refine wpAny_getItem_list_slice hL ⟨_, H.get hm, rfl, rfl⟩ (optV_part p) (optV_part q) .none (by simp) ?_ (by rw [List.size_toArray]; exact hz)
  exact ⟨_, H.toHeld.alloc (tk := s.toks) rfl, h _⟩

-- pure facts of slices
theorem slice_inner (x : Str) (h : 2 ≤ x.length) : Txt.slice x (some 1) (some (-1)) = ⟨x.cps.extract 1 (x.cps.size - 1)⟩ := by
  have h' : 2 ≤ x.cps.size := h
  have e : Txt.slice x (some 1) (some (-1)) = Txt.slice x (some 1) (some (-1 + x.length)) := StrLaws.sliceText_neg_hi x (some 1) (by omega) (by omega)
  have hl : x.cps.toList.length = x.length := by rw [Array.length_toList]; rfl
  rw [e, beq_iff_eq.mp (slice_closes (x := x) (i := 1) (j := -1 + x.length) ⟨by omega, by omega, by rw [hl]; omega⟩)]
  congr 1
  apply Array.toList_inj.mp
  rw [Array.toList_extract, List.extract_eq_take_drop]
  have : (-1 + (x.length : Int) - 1).toNat = x.cps.size - 1 - 1 := by change (-1 + (x.cps.size : Int) - 1).toNat = _; omega
  rw [this]; rfl
theorem slice_tail (x : Str) (h : 1 ≤ x.length) : (Txt.slice x (some 1) none).cps.toList = x.cps.toList.drop 1 := by
  have h' : 1 ≤ x.cps.size := h
  rw [slice_from_eq (x := x) (i := 1) (b := x.length) (by omega) (by omega) rfl]
  show ((x.cps.toList.drop 1).take ((x.cps.size : Int) - 1).toNat) = _
  exact List.take_of_length_le (by rw [List.length_drop, Array.length_toList]; omega)
theorem slice_but (x : Str) (h : 1 ≤ x.length) : Txt.slice x none (some (-1)) = ⟨x.cps.extract 0 (x.cps.size - 1)⟩ := by
  have h' : 1 ≤ x.cps.size := h
  have e : Txt.slice x none (some (-1)) = Txt.slice x none (some (-1 + x.length)) := StrLaws.sliceText_neg_hi x none (by omega) (by omega)
  have hl : x.cps.toList.length = x.length := by rw [Array.length_toList]; rfl
  rw [e, beq_iff_eq.mp (slice_closes_to (x := x) (j := -1 + x.length) ⟨by omega, by rw [hl]; omega⟩)]
  congr 1
  apply Array.toList_inj.mp
  rw [Array.toList_extract, List.extract_eq_take_drop]
  have : (-1 + (x.length : Int) - 0).toNat = x.cps.size - 1 - 0 := by show (-1 + (x.cps.size : Int) - 0).toNat = _; omega
  rw [this]; rfl
end
end Mine
end
section
open PySem PySem.W PyProof.Rows PySem.Calls PySem.Spec
namespace Mine
section
variable {C : Cx} {E : Value → Shared → Prop} {st : St}
theorem gm_sub {pl : Sem Bool} {Q : Value × List Value → St → Prop} (h : Q (.builtin "re.Pattern.sub", [.ref 58]) st) : Ev C E (getMethod (.ref 58) "sub" pl) st Q := fun s H => by
  obtain ⟨o1, e1, e2, e3⟩ : ∃ o, (KF C.w).lookup 58 = some o ∧ o.cls = .type "re.Pattern" ∧ o.dict = none := ⟨_, by with_unfolding_all rfl, rfl, rfl⟩
  have g := C.T.X.keeps H.F.keep _ _ e1
  exact getMethod_builtin ⟨_, g, e2⟩ plainAttrs_pat slot_sub type_sub (fun a e => by cases e; exact ⟨_, g, e3⟩) ⟨st, H.toHeld, h⟩
theorem cw_sub {env : Env} {pos lpos : Pos} {e2 : Expr} {x : Str} {Q : Value → St → Prop} (hp : noStar [e2] = true) (hcode : env.code = .ref 64) (hg : env.globals = mainGlobals) (hq : env.qual ++ "<lambda>" = lamQ) (hcl : closureFor lamS env = pure []) (hl : lpos.line = 39) (hk : lpos.col = 31)
    (h2 : ∀ (s0 : Shared) (δ0 : Tb) (f : Addr) (fo : Obj), Ev (C.at s0 δ0) NoE (eval e2 env) ⟨st.m, (f, fo) :: st.news⟩ fun v st' => (∃ t, v = .str x t) ∧ st'.m = st.m ∧ Sub ((f, fo) :: st.news) st'.news) (hx : x.length ≤ 1000000) (hr : 1 < C.room)
    (h : ∀ t, Q (.str (unslash x) t) st) : Ev C E (callWith pos (.builtin "re.Pattern.sub") [.ref 58] (backTo pos (starEach [.Lambda lamP lamB lamS lpos, e2] env)) []) st Q := fun s H => by
  refine callWith_method1 (spliced_more ?_ rfl) rfl (backTo_plain pos env hp)
  refine wpAny_with_toks H.tp (lam_make H.d H.sz hcode hg hq hcl hl hk fun f c' oc pm ctv δ' h' tk hu D' hsz htp => ?_)
  refine spliced_more ?_ (starEach_cons env hp)
  have H₁ : Holds (C.at { s with heap := h', toks := tk } δ') ⟨st.m, (f, lamObj pm c' ctv) :: st.news⟩ { s with heap := h', toks := tk } := ⟨⟨δ', D'.at⟩, htp, Nat.le_refl _⟩
  have hz0 : C.sb ≤ h'.objs.size := Nat.le_trans H.sz hsz
  refine wpAny_mono (wpAny_size_of (n := h'.objs.size) (Nat.le_refl _) (wpAny_toks_of (n := 1) htp (h2 { s with heap := h', toks := tk } δ' f (lamObj pm c' ctv) _ H₁))) (fun v s₂ hq₂ => ?_) (fun _ _ e => e.2.2.elim)
  obtain ⟨hz₂, htp₂, ⟨m₂, n₂⟩, ⟨δ₂, D₂⟩, ⟨t, rfl⟩, hm, hsub⟩ := hq₂
  dsimp only at hm hsub
  subst hm
  refine Calls.spliced_nil ?_
  have D₃ : HeldD C δ₂ ⟨st.m, (f, lamObj pm c' ctv) :: st.news⟩ s₂ := D'.back hz0 (D₂.sub hsub)
  exact call_sub (st := ⟨st.m, (f, lamObj pm c' ctv) :: st.news⟩) D₃ hr htp₂ (Nat.le_trans hz0 hz₂) hx (.head _) (D₂.uk _ hu) fun δ₄ s₄ u D₄ => ⟨st, ⟨δ₄, D₄.sub (.of ((List.Sublist.refl _).cons _))⟩, h u⟩
end
end Mine
end
section
open PySem PySem.W PyProof.Rows PySem.Calls PySem.Spec
namespace Mine
section
variable {M : Model} {A : Around} {E : Value → Shared → Prop} {s : Shared}
theorem w_method {env : Env} {o : Expr} {name : Str} {apos pos : Pos} {args : List Expr} {Q : Value → Shared → Prop}
    (h : wpAny M A (eval o env) (fun ov s₁ => ∀ pl : Sem Bool, wpAny M A (getMethod ov name pl) (fun fx s₂ => wpAny M A (callWith pos fx.1 fx.2 (backTo pos (starEach args env)) []) Q E s₂) E s₁) E s)
    (he : (plainBase o && noStar args && decide (args.length < 30) && (apos.endLine == pos.line)) = true) : wpAny M A (eval (.Call (.Attribute o name apos) args [] pos) env) Q E s := by
  simp only [Bool.and_eq_true, decide_eq_true_eq] at he
  obtain ⟨⟨⟨h1, h2⟩, h3⟩, h4⟩ := he
  refine MethodCall_ (pl := do return (← importBound o env).getD true) (wpAny_mono h (fun ov s₁ h₁ => h₁ _) fun _ _ e => e) ?_
  show (do
    let ov ← attributeBase o name env (eval o env)
    standAt apos.atName
    methodCall o name apos pos env ov (args.length + ([] : List Keyword).length) (backTo pos (starEach args env)) (backToKw pos (keywordEach [] env))) = _
  have hf : methodCallForm (args.length + ([] : List Keyword).length) (backTo pos (starEach args env)) (backToKw pos (keywordEach [] env)) = true := by
    have hp := backTo_plain pos env h2
    rw [List.any_eq_false] at hp
    unfold methodCallForm
    have hall : (backTo pos (starEach args env)).all (!·.1) = true := by rw [List.all_eq_true]; intro x hx; simpa using hp x hx
    rw [hall]
    have e0 : backToKw pos (keywordEach [] env) = [] := rfl
    rw [e0]
    simpa using h3
  rw [attributeBase_plain h1]
  unfold methodCall
  rw [hf]
  unfold methodCallPos calleeOf
  simp only [h4, Bool.not_true, Bool.false_or, if_true, pure_bind]
  rfl
end
section
variable {C : Cx} {E : Value → Shared → Prop} {st : St}
abbrev gsc : Scope := { kind := .function, names := [(".0", .local), ("part", .local)], isGenerator := true, isCoroutine := false }
/-- a comprehension over the stripped texts of a list -/
theorem e_lc_gen {env : Env} {giter elt : Expr} {x : Str} {px gpx p1 p2 p3 p4 gpos pos : Pos} {ifs : List Expr} {scope : Scope} {l : Addr} {ps : List Value} {k : Nat} {xs : List Str} {pz : Nat → Bool} {G : Nat → Value → Prop} {Q : Value → St → Prop}
    (hit : Ev C E (eval giter env) st fun v st' => v = .ref l ∧ st' = st) (hm : (l, lst ps k) ∈ st.news) (htx : TxA ps xs) (hxs : ∀ x ∈ xs, x.length ≤ sizeLine) (hz : ps.length ≤ sizeLine)
    (hcode : env.code = .ref 74) (hl : gpos.line = 81) (hk : gpos.col = 51) (hg : env.globals = mainGlobals) (hp : (p2.endLine == p4.line) = true) (hsg : ∀ x, genFold giter env x = pure x) (hcl : closureFor gsc env = pure [])
    (hs : ∀ x, foldedSetIterable (.GeneratorExp (.Call (.Attribute (.Name "part" p1) "strip" p2) [.Constant (.str " \t") 0 p3] [] p4) [⟨.Name "part" gpx, giter, [], 0⟩] gsc gpos) env x = pure x) (hclos : closureFor scope env = pure []) (hcell : ∀ y ∈ scope.names, y.2 ≠ .cell) (hkind : scope.kind = .function)
    (hnames : ∀ y ∈ scope.names, y.2 = .local → scope.names.lookup y.1 = some .local) (hx : scope.names.lookup x = some .local)
    (T : CompT C env x elt ifs scope st.m (fun i v => ∃ y t, xs[i]? = some y ∧ v = .str (Txt.stripChars y " \t") t) pz G xs.length)
    (h : ∀ D ys k, Im pz G xs.length ys → Q (.ref D) ⟨st.m, (D, lst ys k) :: st.news⟩) :
    Ev C E (eval (.ListComp elt [⟨.Name x px, .GeneratorExp (.Call (.Attribute (.Name "part" p1) "strip" p2) [.Constant (.str " \t") 0 p3] [] p4) [⟨.Name "part" gpx, giter, [], 0⟩] gsc gpos, ifs, 0⟩] scope pos) env) st Q := by
  intro s H
  rw [eval_ListComp]
  refine wpAny_comprehension_free (use := none) rfl hs hclos hkind hnames ?_
  refine gen_core (C := C) (Pt := 72) (up := fun δ v => { δ with p := some v }) rfl hcl (by decide) (by rfl) (by rfl) rfl hg (fun δ st s Q D hq => gen_code_p D hcode hl hk hq) ?_ hsg
  refine L1q hit (fun v st₁ s₁ H₁ h₁ => ?_) H
  obtain ⟨rfl, rfl⟩ := h₁
  refine wpAny_pyIter_list (isList_of (H₁.at hm).1) ?_
  have hlg := (H₁.at hm).1
  have hne : l ≠ s₁.heap.objs.size := Nat.ne_of_lt (Heap.lt_size hlg)
  have D := H₁.toHeld.allocD (o := { cls := .type "list_iterator", data := .fields #[.ref l, .int 0 0] }) rfl
  have hI := D.N _ (.head _)
  have gl := Heap.get?_push_of_some { cls := .type "list_iterator", data := .fields #[.ref l, .int 0 0] } hlg
  have nd := D.nd
  have i72 : ∀ z ∈ (s₁.heap.objs.size, ({ cls := .type "list_iterator", data := .fields #[.ref l, .int 0 0] } : Obj)) :: st₁.news, z.1 ≠ 72 := by
    have e : (⟨st₁.m, (s₁.heap.objs.size, ({ cls := .type "list_iterator", data := .fields #[.ref l, .int 0 0] } : Obj)) :: st₁.news⟩ : St).news ++ tabsOf H₁.δ = (((s₁.heap.objs.size, ({ cls := .type "list_iterator", data := .fields #[.ref l, .int 0 0] } : Obj)) :: st₁.news) ++ [(48, tabG 32 15 H₁.δ.q)]) ++ (72, tabG 81 51 H₁.δ.p) :: tabU H₁.δ.u := by simp [tabsOf]
    rw [e] at nd
    exact fun z hz => (nd_split nd).1 z (List.mem_append_left _ hz)
  have hI0 : s₁.heap.objs.size ≠ cStatics := fun e => by
    obtain ⟨_, ⟨o, _, _, q, _⟩, _⟩ := C.T.nolimit
    have := hI.2.2
    rw [e, q] at this; cases this
  have hlen := htx.length
  refine ⟨⟨st₁.m, (s₁.heap.objs.size, _) :: st₁.news⟩, s₁.heap.objs.size, [s₁.heap.objs.size, l], [], xs.length, (fun i v => ps[i]? = some v), (fun i h => h.IsListIter s₁.heap.objs.size l i ∧ h.IsList l ps.toArray),
    (fun i v => ∃ y t, xs[i]? = some y ∧ v = .str (Txt.stripChars y " \t") t), rfl, ⟨⟨_, D⟩, H₁.tp, by dsimp only; rw [Heap.size_push]; exact Nat.le_succ_of_le H₁.sz⟩, ?_, ⟨⟨_, Heap.get?_push_size _ rfl, rfl, rfl⟩, isList_of gl⟩, ?_, ?_, hI0, ?_, ?_⟩
  · intro A' hA
    have W := Walks.list (prog := prog) (w := C.w) hA s₁.heap.objs.size l hne ps.toArray
    have e9 : ps.toArray.size = xs.length := by rw [List.size_toArray, hlen]
    rw [e9] at W
    exact ⟨W.sub, W.frame, fun i s Q E hi h hQ => W.item i s Q E hi h fun v h' tk hP => hQ v h' tk (by simpa using hP), W.done, W.self⟩
  · intro b hb
    rcases List.mem_cons.mp hb with rfl | hb
    · exact ⟨_, hI.1⟩
    · exact ⟨_, by rw [show b = l by simpa using hb]; exact gl⟩
  · intro hb
    rcases List.mem_cons.mp hb with e | hb
    · exact i72 _ (.head _) e.symm
    · exact i72 _ (.tail _ hm) (List.mem_singleton.mp hb).symm
  · intro code h₃ href hk'
    refine ⟨fun A' E' i v s₂ m₂ hA hP hn hx hkp => ?_, fun A' E' i v s₂ m₂ hA hP _ hn hx hkp => ?_⟩
    · rw [List.forIn_nil]; exact wpAny_pure ⟨rfl, _, _, rfl, fun _ _ e => e⟩
    · obtain ⟨y, t, hy, rfl⟩ := htx.at hP
      refine w_method (wpAny_Name (wpAny_loadName_local (by rfl) (by rfl) hn hx fun pl => GM.strip ?_) (by decide)) (by simp [plainBase, noStar, hp])
      refine callWith_method1 (spliced_more (wpAny_Constant_str (Calls.spliced_nil ?_)) rfl) rfl
      refine SC.stripChars (fun t' k => ⟨⟨y, t', hy, rfl⟩, _, _, rfl, fun _ _ e => e⟩) ?_
      exact hxs y (List.mem_of_getElem? hy)
  · intro a Cc g oa oC δ s₅ haC D₅ hgs hgb hC ha htoks hszb hW
    obtain ⟨W1, G1⟩ := hW C.A C.hh (by have := C.dp; omega)
    refine W1.self 0 _ _ _ G1 ?_
    have IT := It.of_gen (C := C) hgb W1
    refine lc_block (RR := fun acc C' => compPost (model prog C.w) C.A E none (Post C Q) acc C') (n := xs.length) (R := st₁.news) (F := [(l, lst ps k)]) (m := st₁.m) ⟨a, [a, Cc, s₁.heap.objs.size], _, _, _, δ, [(a, oa), (Cc, oC), (s₁.heap.objs.size, { cls := .type "list_iterator", data := .fields #[.ref l, .int 0 0] })], rfl, IT, ?_, ?_⟩ (by omega) hcell hkind hx T ?_
    · intro b hb; simp at hb ⊢; rcases hb with rfl | rfl <;> simp
    · have D6 : HeldD C δ ⟨st₁.m, [(a, oa), (Cc, oC), (s₁.heap.objs.size, { cls := .type "list_iterator", data := .fields #[.ref l, .int 0 0] })] ++ st₁.news⟩ s₅ := D₅
      have nd6 := D₅.nd
      have q1 := D₅.N (a, oa) (.head _)
      have q2 := D₅.N (Cc, oC) (.tail _ (.head _))
      have q3 := D₅.N (s₁.heap.objs.size, { cls := .type "list_iterator", data := .fields #[.ref l, .int 0 0] }) (.tail _ (.tail _ (.head _)))
      simp only [List.cons_append, List.map_cons, List.nodup_cons] at nd6
      refine ⟨D6, htoks, hszb, List.Sublist.refl _, ?_, ?_, ?_, D₅.F.keep, ?_, fun _ _ => rfl, ⟨?_, ?_, ?_, ?_⟩, ?_, G1⟩
      · intro b hb o e
        rcases List.mem_cons.mp hb with rfl | hb
        · rw [show s₅.heap.get? _ = _ from q1.1] at e; cases e; exact .head _
        · rcases List.mem_cons.mp hb with rfl | hb
          · rw [show s₅.heap.get? _ = _ from q2.1] at e; cases e; exact .tail _ (.head _)
          · rw [List.mem_singleton.mp hb] at e ⊢
            rw [show s₅.heap.get? _ = _ from q3.1] at e; cases e; exact .tail _ (.tail _ (.head _))
      · intro p hp
        rw [List.mem_singleton.mp hp]
        exact (D₅.N (l, lst ps k) (.tail _ (.tail _ (.tail _ (List.mem_append_left _ hm))))).1
      · intro p hp
        rw [List.mem_singleton.mp hp]; exact hm
      · intro b hb
        rcases List.mem_cons.mp hb with rfl | hb
        · exact .inl (.head _)
        · rcases List.mem_cons.mp hb with rfl | hb
          · exact .inl (.tail _ (.head _))
          · rcases List.mem_cons.mp hb with rfl | hb
            · obtain ⟨_, ⟨o, _, _, q, _⟩, _⟩ := C.T.nolimit
              exact .inr (.inr ⟨o, q⟩)
            · rcases List.mem_cons.mp hb with rfl | hb
              · exact .inl (.tail _ (.tail _ (.head _)))
              · rw [show b = l by simpa using hb]
                exact .inr (.inl ⟨_, .head _⟩)
      · rw [List.nodup_cons, List.nodup_cons]
        refine ⟨?_, ?_, by simp⟩
        · intro h
          rcases List.mem_cons.mp h with e | h
          · exact haC e
          · exact nd6.1 (.tail _ (by rw [List.mem_singleton.mp h]; exact .head _))
        · intro h
          exact nd6.2.1 (by rw [List.mem_singleton.mp h]; exact .head _)
      · intro b hb
        rcases List.mem_cons.mp hb with rfl | hb
        · exact q1.2.1
        · rcases List.mem_cons.mp hb with rfl | hb
          · exact q2.2.1
          · rw [List.mem_singleton.mp hb]; exact q3.2.1
      · intro b hb
        rcases List.mem_cons.mp hb with rfl | hb
        · exact q1.2.2
        · rcases List.mem_cons.mp hb with rfl | hb
          · exact q2.2.2
          · rw [List.mem_singleton.mp hb]; exact q3.2.2
      · intro b hb p hp e
        rcases List.mem_cons.mp hb with rfl | hb
        · exact nd6.1 (.tail _ (.tail _ (List.mem_map.mpr ⟨p, hp, e⟩)))
        · rcases List.mem_cons.mp hb with rfl | hb
          · exact nd6.2.1 (.tail _ (List.mem_map.mpr ⟨p, hp, e⟩))
          · rw [List.mem_singleton.mp hb] at e
            exact nd6.2.2.1 (List.mem_map.mpr ⟨p, hp, e⟩)
      · intro b hb
        rcases List.mem_cons.mp hb with rfl | hb
        · exact Heap.lt_size q1.1
        · rcases List.mem_cons.mp hb with rfl | hb
          · exact Heap.lt_size q2.1
          · rw [List.mem_singleton.mp hb]; exact Heap.lt_size q3.1
    · intro Dl Cc oC mc ys k s' hoC hIm H'
      exact lc_end hoC H' (h Dl ys k hIm)
end
end Mine
end
section
open PySem PySem.W PyProof.Rows PySem.Calls PySem.Spec
namespace Mine
section
variable {C : Cx} {E : Value → Shared → Prop} {st : St}
/-- the variable of a comprehension -/
theorem e_cloc {env : Env} {scope : Scope} {cl : List (Str × Addr)} {x : Str} {pos : Pos} {v : Value} {Cc : Addr} {oC : Obj} {mc : Str → Option Value} {Q : Value → St → Prop} (hl : (compEnvC scope cl Cc env).kindOf x = some .local) (hm : (Cc, oC) ∈ st.news) (hn : LCg.NsObj oC mc) (hv : mc x = some v) (h : Q v st)
    (hk : (compEnvC scope cl Cc env).scope.kind = .function) (hd : (x == ("__debug__" : Str)) = false) : Ev C E (eval (.Name x pos) (compEnvC scope cl Cc env)) st Q := fun s H =>
  wpAny_Name (wpAny_loadName_local hk hl (hn.ns (H.get hm)) hv ⟨st, H.toHeld, h⟩) hd
theorem tests_nil {env : Env} : Ev C E (theTests [] env) st fun b st' => b = true ∧ st'.m = st.m ∧ Sub st.news st'.news := fun s H => wpAny_tests_nil ⟨st, H.toHeld, rfl, rfl, .refl _⟩
theorem tests_one {env : Env} {c : Expr} {Q : Bool → St → Prop} (h : Ev C E (isTrue c env (eval c env)) st Q) : Ev C E (theTests [c] env) st Q := fun s H => wpAny_tests_one (h s H)
theorem Im.strs {α : Type} {S : List α} {p : α → Bool} {f : α → Str} {pz : Nat → Bool} {G : Nat → Value → Prop} (hp : ∀ i a, S[i]? = some a → pz i = p a) (hG : ∀ i y, G i y → ∃ a t, S[i]? = some a ∧ y = .str (f a) t) :
    ∀ {n : Nat} {ys : List Value}, Im pz G n ys → n ≤ S.length → TxA ys (((S.take n).filter p).map f) := by
  intro n ys h
  induction h with
  | zero => intro _; exact .nil
  | @skip i ys h hz ih =>
    intro hn
    have hi : S[i]? = some S[i] := List.getElem?_eq_getElem (by omega)
    rw [List.take_add_one, hi, List.filter_append]
    have : p S[i] = false := by rw [← hp i _ hi]; exact hz
    simp only [Option.toList_some, List.filter_cons, this, List.filter_nil, Bool.false_eq_true, if_false, List.append_nil]
    exact ih (by omega)
  | @take i ys y h hz hg ih =>
    intro hn
    obtain ⟨a, t, hi, rfl⟩ := hG i _ hg
    rw [List.take_add_one, hi, List.filter_append]
    have : p a = true := by rw [← hp i _ hi]; exact hz
    simp only [Option.toList_some, List.filter_cons, this, List.filter_nil, if_true, List.map_append, List.map_cons, List.map_nil]
    exact (ih (by omega)).snoc _ _
theorem Im.all_strs {α : Type} {S : List α} {f : α → Str} {G : Nat → Value → Prop} (hG : ∀ i y, G i y → ∃ a t, S[i]? = some a ∧ y = .str (f a) t) {ys : List Value} (h : Im (fun _ => true) G S.length ys) : TxA ys (S.map f) := by
  have := Im.strs (p := fun _ => true) (f := f) (fun _ _ _ => rfl) hG h (Nat.le_refl _)
  rwa [List.take_length, List.filter_eq_self.mpr (fun _ _ => rfl)] at this
/-- values that are these ints -/
inductive IxA : List Value → List Int → Prop where
  | nil : IxA [] []
  | cons {i : Int} {t : Tok} {vs : List Value} {is : List Int} (h : IxA vs is) : IxA (.int i t :: vs) (i :: is)
theorem IxA.length {vs xs} (h : IxA vs xs) : vs.length = xs.length := by induction h <;> simp_all
theorem IxA.get {vs xs} (h : IxA vs xs) : ∀ {i : Nat} {x : Int}, xs[i]? = some x → ∃ t, vs[i]? = some (.int x t) := by
  induction h with
  | nil => intro i x e; simp at e
  | @cons x t vs xs h ih =>
    intro i y e
    cases i with
    | zero => simp at e; subst e; exact ⟨t, by simp⟩
    | succ i => simp at e; simpa using ih e
theorem IxA.at {vs xs} (h : IxA vs xs) {i : Nat} {v : Value} (e : vs[i]? = some v) : ∃ x t, xs[i]? = some x ∧ v = .int x t := by
  have hi : i < xs.length := by
    have := (List.getElem?_eq_some_iff.mp e).1
    rw [h.length] at this; exact this
  obtain ⟨t, ht⟩ := h.get (List.getElem?_eq_getElem hi)
  rw [e] at ht
  exact ⟨xs[i], t, List.getElem?_eq_getElem hi, Option.some.inj ht⟩
theorem IxA.append {vs xs} (h : IxA vs xs) {vs' xs'} (h' : IxA vs' xs') : IxA (vs ++ vs') (xs ++ xs') := by
  induction h with
  | nil => exact h'
  | cons _ ih => exact .cons ih
theorem IxA.take {vs xs} (h : IxA vs xs) : ∀ n, IxA (vs.take n) (xs.take n) := by
  induction h with
  | nil => intro n; simp; exact .nil
  | cons _ ih => intro n; cases n with
    | zero => exact .nil
    | succ n => exact .cons (ih n)
theorem TxA.take {vs xs} (h : TxA vs xs) : ∀ n, TxA (vs.take n) (xs.take n) := by
  induction h with
  | nil => intro n; simp; exact .nil
  | cons _ ih => intro n; cases n with
    | zero => exact .nil
    | succ n => exact .cons (ih n)
theorem TxA.drop {vs xs} (h : TxA vs xs) : ∀ n, TxA (vs.drop n) (xs.drop n) := by
  induction h with
  | nil => intro n; simp; exact .nil
  | cons h ih => intro n; cases n with
    | zero => exact .cons h
    | succ n => exact ih n

theorem snoc_ind {α : Type} {P : List α → Prop} (h0 : P []) (h1 : ∀ l c, P l → P (l ++ [c])) (l : List α) : P l := by
  rw [← List.reverse_reverse l]
  induction l.reverse with
  | nil => exact h0
  | cons c r ih => rw [List.reverse_cons]; exact h1 _ _ ih
-- the list header
structure PS where
  items : List Str
  item : Str
  esc : Bool
  quo : Bool
def pstep (s : PS) (c : Nat) : PS :=
  if s.esc then { s with esc := false, item := s.item ++ ⟨#[c]⟩ }
  else if s.quo then { s with item := s.item ++ ⟨#[c]⟩, esc := c == 92, quo := !(c == 34) }
  else if c == 44 then { s with items := s.items ++ [s.item], item := "" }
  else { s with item := s.item ++ ⟨#[c]⟩, quo := c == 34 }
def prun (l : List Nat) : PS := l.foldl pstep ⟨[], "", false, false⟩
theorem prun_snoc (l : List Nat) (c : Nat) : prun (l ++ [c]) = pstep (prun l) c := by simp [prun]
theorem pstep_item (s : PS) (c : Nat) : (pstep s c).item.length ≤ s.item.length + 1 := by
  have h1 : (s.item ++ (⟨#[c]⟩ : Str)).length = s.item.length + 1 := by rw [Str.length_append]; rfl
  unfold pstep
  split
  · exact Nat.le_of_eq h1
  · split
    · exact Nat.le_of_eq h1
    · split
      · exact Nat.zero_le _
      · exact Nat.le_of_eq h1
theorem pstep_items (s : PS) (c : Nat) : (pstep s c).items.length ≤ s.items.length + 1 := by
  unfold pstep
  split
  · exact Nat.le_succ _
  · split
    · exact Nat.le_succ _
    · split
      · simp
      · exact Nat.le_succ _
theorem prun_sizes : ∀ l : List Nat, (prun l).item.length ≤ l.length ∧ (prun l).items.length ≤ l.length := by
  refine snoc_ind ⟨Nat.le_refl _, Nat.le_refl _⟩ ?_
  · intro l c ih
    rw [prun_snoc, List.length_append, List.length_singleton]
    have := pstep_item (prun l) c
    have := pstep_items (prun l) c
    omega
theorem pstep_mem (s : PS) (c n : Nat) (h : ∀ x ∈ s.items, x.length ≤ n) (h' : s.item.length ≤ n) : ∀ x ∈ (pstep s c).items, x.length ≤ n := by
  unfold pstep
  split
  · exact h
  · split
    · exact h
    · split
      · intro x hx
        rcases List.mem_append.mp hx with hx | hx
        · exact h x hx
        · rw [List.mem_singleton.mp hx]; exact h'
      · exact h
theorem prun_mem : ∀ l : List Nat, ∀ x ∈ (prun l).items, x.length ≤ l.length := by
  refine snoc_ind (by intro x hx; cases hx) ?_
  · intro l c ih
    rw [prun_snoc, List.length_append, List.length_singleton]
    exact pstep_mem _ _ _ (fun x hx => Nat.le_succ_of_le (ih x hx)) (Nat.le_succ_of_le (prun_sizes l).1)
theorem one_eq (c d : Nat) : ((⟨#[c]⟩ : Str) == ⟨#[d]⟩) = (c == d) := by
  by_cases h : c = d
  · subst h; simp
  · rw [beq_eq_false_iff_ne.mpr h, beq_eq_false_iff_ne]
    intro e; injection e with e; exact h (by simpa using e)
end
end Mine
end
section
open PySem PySem.W PyProof.Rows PySem.Calls PySem.Spec PySem.SeqAt
namespace Mine
section
variable {C : Cx} {E : Value → Shared → Prop} {st : St}
theorem o_add_lists {l b : Addr} {vs ws : List Value} {n k : Nat} {Q : Value → St → Prop} (hl : (l, lst vs n) ∈ st.news) (hb : (b, lst ws k) ∈ st.news) (hz : vs.length + ws.length ≤ sizeLine) (h : ∀ r, Q (.ref r) ⟨st.m, (r, lst (vs ++ ws) 0) :: st.news⟩) :
    Ev C E (binaryOp .Add (.ref l) (.ref b)) st Q := fun s H => by
  refine PyProof.Rows.add_lists H.F H.N (isList_of (H.get hl)) (isList_of (H.get hb)) (fun h' F N => ⟨⟨st.m, (s.heap.objs.size, lst (vs ++ ws) 0) :: st.news⟩, H.toHeld.upd (tk := s.toks) F N ?_, h _⟩) hz
  exact nd_lt H.nd fun p hp => Heap.lt_size (H.N p hp).1

-- assignments to tuples of names
theorem wp_store {env : Env} {x : Str} {v : Value} {s : Shared} {Q : Unit → Shared → Prop} (H : Held C st s) (hL : env.locals = C.L) (hl : env.kindOf x = some .local) (hk : env.scope.kind = .function) (h : ∀ s', Held C ⟨put x v st.m, st.news⟩ s' → Q () s') :
    wpAny (model prog C.w) C.A (storeName env x v) Q E s :=
  wpAny_storeName_local hl (hL ▸ H.F.ns) (fun h' hn hs => h _ (H.upd (by rw [look_put]; exact H.F.set (hL ▸ hn) (hL ▸ hs)) (H.N.set (hL ▸ hs)) H.nd)) (by rw [hk]; rfl)
theorem x_tup2 {env : Env} {a b : Str} {pa pb : Pos} {k : Nat} {tpos pos : Pos} {value : Expr} {Q : Flow → St → Prop} (h : Ev C E (eval value env) st fun v st₁ => ∃ t x y n, v = .ref t ∧ ((t, tup [x, y] n) ∈ st₁.news ∨ (KF C.w).lookup t = some (tup [x, y] n)) ∧ Q .next ⟨put b y (put a x st₁.m), st₁.news⟩)
    (hs : swapsWithSole [.Tuple [.Name a pa, .Name b pb] k tpos] value pos.line env = pure false) (hw : swappedStores [.Tuple [.Name a pa, .Name b pb] k tpos] value env = pure none) (hL : env.locals = C.L) (hla : env.kindOf a = some .local) (hlb : env.kindOf b = some .local) (hk : env.scope.kind = .function) :
    Ev C E (exec (.Assign [.Tuple [.Name a pa, .Name b pb] k tpos] value pos) env) st Q := fun s H => by
  refine PyProof.Rows.Assign_Tuple (L1q h (fun v st₁ s₁ H₁ h₁ => ?_) H) hs hw
  obtain ⟨t, x, y, n, rfl, hm, hq⟩ := h₁
  have ht : IsTup s₁.heap t #[x, y] := by
    rcases hm with hm | hm
    · exact ⟨_, H₁.get hm, rfl, _, rfl⟩
    · exact ⟨_, C.T.X.keeps H₁.F.keep _ _ hm, rfl, _, rfl⟩
  refine unpackN_ H₁.F H₁.N ht C.hh (by rfl) (by rfl) fun h' F N => ?_
  have H₂ : Held C st₁ { s₁ with heap := h' } := H₁.toHeld.upd (tk := s₁.toks) F N H₁.nd
  show wpAny _ _ (assignInOrder [assign (.Name a pa) env, assign (.Name b pb) env] [x, y]) _ _ _
  refine assignInOrder_cons (PyProof.Rows.assign_Name (wp_store H₂ hL hla hk fun s₂ H₃ => ?_))
  refine assignInOrder_cons (PyProof.Rows.assign_Name (wp_store H₃ hL hlb hk fun s₃ H₄ => ?_))
  exact assignInOrder_nil ⟨_, H₄, hq⟩
theorem x_tup3 {env : Env} {a b c : Str} {pa pb pc : Pos} {k : Nat} {tpos pos : Pos} {value : Expr} {Q : Flow → St → Prop} (h : Ev C E (eval value env) st fun v st₁ => ∃ t x y z n, v = .ref t ∧ ((t, tup [x, y, z] n) ∈ st₁.news ∨ (KF C.w).lookup t = some (tup [x, y, z] n)) ∧ Q .next ⟨put c z (put b y (put a x st₁.m)), st₁.news⟩)
    (hs : swapsWithSole [.Tuple [.Name a pa, .Name b pb, .Name c pc] k tpos] value pos.line env = pure false) (hw : swappedStores [.Tuple [.Name a pa, .Name b pb, .Name c pc] k tpos] value env = pure none) (hL : env.locals = C.L) (hla : env.kindOf a = some .local) (hlb : env.kindOf b = some .local) (hlc : env.kindOf c = some .local) (hk : env.scope.kind = .function) :
    Ev C E (exec (.Assign [.Tuple [.Name a pa, .Name b pb, .Name c pc] k tpos] value pos) env) st Q := fun s H => by
  refine PyProof.Rows.Assign_Tuple (L1q h (fun v st₁ s₁ H₁ h₁ => ?_) H) hs hw
  obtain ⟨t, x, y, z, n, rfl, hm, hq⟩ := h₁
  have ht : IsTup s₁.heap t #[x, y, z] := by
    rcases hm with hm | hm
    · exact ⟨_, H₁.get hm, rfl, _, rfl⟩
    · exact ⟨_, C.T.X.keeps H₁.F.keep _ _ hm, rfl, _, rfl⟩
  refine unpackN_ H₁.F H₁.N ht C.hh (by rfl) (by rfl) fun h' F N => ?_
  have H₂ : Held C st₁ { s₁ with heap := h' } := H₁.toHeld.upd (tk := s₁.toks) F N H₁.nd
  show wpAny _ _ (assignInOrder [assign (.Name a pa) env, assign (.Name b pb) env, assign (.Name c pc) env] [x, y, z]) _ _ _
  refine assignInOrder_cons (PyProof.Rows.assign_Name (wp_store H₂ hL hla hk fun s₂ H₃ => ?_))
  refine assignInOrder_cons (PyProof.Rows.assign_Name (wp_store H₃ hL hlb hk fun s₃ H₄ => ?_))
  refine assignInOrder_cons (PyProof.Rows.assign_Name (wp_store H₄ hL hlc hk fun s₄ H₅ => ?_))
  exact assignInOrder_nil ⟨_, H₅, hq⟩
/-- two texts in the order of the stack -/
theorem x_swap2 {env : Env} {a b : Str} {pa pb : Pos} {k : Nat} {tpos pos : Pos} {value : Expr} {Q : Flow → St → Prop} (h : Ev C E (eval value env) st fun v st₁ => ∃ t x y n, v = .ref t ∧ (t, tup [x, y] n) ∈ st₁.news ∧ Q .next ⟨put a x (put b y st₁.m), st₁.news⟩)
    (hs : swapsWithSole [.Tuple [.Name a pa, .Name b pb] k tpos] value pos.line env = pure false) (hw : swappedStores [.Tuple [.Name a pa, .Name b pb] k tpos] value env = pure (some [a, b])) (hL : env.locals = C.L) (hla : env.kindOf a = some .local) (hlb : env.kindOf b = some .local) (hk : env.scope.kind = .function) :
    Ev C E (exec (.Assign [.Tuple [.Name a pa, .Name b pb] k tpos] value pos) env) st Q := fun s H => by
  refine PyProof.Rows.Assign_Tuple_swapped (L1q h (fun v st₁ s₁ H₁ h₁ => ?_) H) hs hw
  obtain ⟨t, x, y, n, rfl, hm, hq⟩ := h₁
  have ht : IsTup s₁.heap t #[x, y] := ⟨_, H₁.get hm, rfl, _, rfl⟩
  refine unpackItemsN_ H₁.F H₁.N ht C.hh (by rfl) fun h' F N => ?_
  have H₂ : Held C st₁ { s₁ with heap := h' } := H₁.toHeld.upd (tk := s₁.toks) F N H₁.nd
  show wpAny _ _ (assignInOrder [bindName env b, bindName env a] [y, x]) _ _ _
  refine assignInOrder_cons (PyProof.Rows.bindName_ (wp_store H₂ hL hlb hk fun s₂ H₃ => ?_))
  refine assignInOrder_cons (PyProof.Rows.bindName_ (wp_store H₃ hL hla hk fun s₃ H₄ => ?_))
  exact assignInOrder_nil ⟨_, H₄, hq⟩
theorem x_swap3 {env : Env} {a b c : Str} {pa pb pc : Pos} {k : Nat} {tpos pos : Pos} {value : Expr} {Q : Flow → St → Prop} (h : Ev C E (eval value env) st fun v st₁ => ∃ t x y z n, v = .ref t ∧ (t, tup [x, y, z] n) ∈ st₁.news ∧ Q .next ⟨put a x (put b y (put c z st₁.m)), st₁.news⟩)
    (hs : swapsWithSole [.Tuple [.Name a pa, .Name b pb, .Name c pc] k tpos] value pos.line env = pure false) (hw : swappedStores [.Tuple [.Name a pa, .Name b pb, .Name c pc] k tpos] value env = pure (some [a, b, c])) (hL : env.locals = C.L) (hla : env.kindOf a = some .local) (hlb : env.kindOf b = some .local) (hlc : env.kindOf c = some .local) (hk : env.scope.kind = .function) :
    Ev C E (exec (.Assign [.Tuple [.Name a pa, .Name b pb, .Name c pc] k tpos] value pos) env) st Q := fun s H => by
  refine PyProof.Rows.Assign_Tuple_swapped (L1q h (fun v st₁ s₁ H₁ h₁ => ?_) H) hs hw
  obtain ⟨t, x, y, z, n, rfl, hm, hq⟩ := h₁
  have ht : IsTup s₁.heap t #[x, y, z] := ⟨_, H₁.get hm, rfl, _, rfl⟩
  refine unpackItemsN_ H₁.F H₁.N ht C.hh (by rfl) fun h' F N => ?_
  have H₂ : Held C st₁ { s₁ with heap := h' } := H₁.toHeld.upd (tk := s₁.toks) F N H₁.nd
  show wpAny _ _ (assignInOrder [bindName env c, bindName env b, bindName env a] [z, y, x]) _ _ _
  refine assignInOrder_cons (PyProof.Rows.bindName_ (wp_store H₂ hL hlc hk fun s₂ H₃ => ?_))
  refine assignInOrder_cons (PyProof.Rows.bindName_ (wp_store H₃ hL hlb hk fun s₃ H₄ => ?_))
  refine assignInOrder_cons (PyProof.Rows.bindName_ (wp_store H₄ hL hla hk fun s₄ H₅ => ?_))
  exact assignInOrder_nil ⟨_, H₅, hq⟩

-- texts' lists side by side
theorem range_all_eq {xs ys : List Str} (h : xs.length = ys.length) : ((List.range xs.length).all fun j => xs[j]? == ys[j]?) = decide (xs = ys) := by
  rw [Bool.eq_iff_iff, decide_eq_true_eq, List.all_eq_true]
  constructor
  · intro q
    apply List.ext_getElem?
    intro j
    rcases Nat.lt_or_ge j xs.length with hj | hj
    · exact eq_of_beq (q j (List.mem_range.mpr hj))
    · rw [List.getElem?_eq_none hj, List.getElem?_eq_none (by omega)]
  · rintro rfl j _; exact beq_self_eq_true _
theorem TxA.eqAt {vs ws : List Value} {xs ys : List Str} {A : Around} {s : Shared} (h : TxA vs xs) (h' : TxA ws ys) : ∀ j (h1 : j < vs.toArray.size) (h2 : j < ws.toArray.size), EqAt A s vs.toArray[j] ws.toArray[j] (xs[j]? == ys[j]?) := by
  intro j h1 h2
  have h1' : j < vs.length := by simpa using h1
  have h2' : j < ws.length := by simpa using h2
  obtain ⟨x, t, hx, ex⟩ := h.at (List.getElem?_eq_getElem h1')
  obtain ⟨y, u, hy, ey⟩ := h'.at (List.getElem?_eq_getElem h2')
  have e1 : vs.toArray[j] = .str x t := by simpa using ex
  have e2 : ws.toArray[j] = .str y u := by simpa using ey
  rw [e1, e2, hx, hy]
  have : (some x == some y) = (x == y) := rfl
  rw [this]
  exact (eqGives_str x y t u).at _ _
theorem o_eq_txt {l b : Addr} {vs ws : List Value} {xs ys : List Str} {n k : Nat} {Q : Value → St → Prop} (hl : (l, lst vs n) ∈ st.news) (hb : (b, lst ws k) ∈ st.news) (hx : TxA vs xs) (hy : TxA ws ys) (h : Q (.bool (decide (xs = ys))) st) : Ev C E (compareOp .Eq (.ref l) (.ref b)) st Q := fun s H => by
  have hu : C.A.units < cLine := by have := C.un; omega
  have e1 := hx.length
  have e2 := hy.length
  by_cases hlen : xs.length = ys.length
  · refine eq_listAt (isList_of (H.get hl)) (isList_of (H.get hb)) (by simp; omega) hu (hx.eqAt hy) ⟨st, H.toHeld, ?_⟩
    rw [List.size_toArray, e1, range_all_eq hlen]; exact h
  · refine eq_list_lengthsAt (isList_of (H.get hl)) (isList_of (H.get hb)) (by simp; omega) hu ⟨st, H.toHeld, ?_⟩
    rw [show decide (xs = ys) = false from decide_eq_false fun e => hlen (by rw [e])] at h; exact h
theorem o_ne_txt {l b : Addr} {vs ws : List Value} {xs ys : List Str} {n k : Nat} {Q : Value → St → Prop} (hl : (l, lst vs n) ∈ st.news) (hb : (b, lst ws k) ∈ st.news) (hx : TxA vs xs) (hy : TxA ws ys) (h : Q (.bool (!decide (xs = ys))) st) : Ev C E (compareOp .NotEq (.ref l) (.ref b)) st Q := fun s H => by
  have hu : C.A.units < cLine := by have := C.un; omega
  have e1 := hx.length
  have e2 := hy.length
  by_cases hlen : xs.length = ys.length
  · refine RcNeAt.lists (isList_of (H.get hl)) (isList_of (H.get hb)) (by simp; omega) hu (hx.eqAt hy) _ _ _ _ ⟨st, H.toHeld, ?_⟩
    rw [List.size_toArray, e1, range_all_eq hlen]; exact h
  · refine RcNeAt.lists_lengths (isList_of (H.get hl)) (isList_of (H.get hb)) (by simp; omega) hu _ _ _ _ ⟨st, H.toHeld, ?_⟩
    rw [show decide (xs = ys) = false from decide_eq_false fun e => hlen (by rw [e])] at h; exact h
-- isinstance
theorem o_isinst_list_dict {l : Addr} {vs : List Value} {n : Nat} {Q : Value → St → Prop} (hl : (l, lst vs n) ∈ st.news) (h : Q (.bool false) st) : Ev C E (call (.builtin "isinstance") [.ref l, .type "dict"]) st Q := fun s H =>
  IsiPair.list_dict (H.get hl) rfl ⟨st, H.toHeld.tok, h⟩
end
end Mine
end
section
open PySem PySem.W PyProof.Rows PySem.Calls PySem.Spec
namespace Mine
section
variable {C : Cx} {E : Value → Shared → Prop} {st : St}
abbrev HS : Addr := 238
/-- the dict of a HeaderSet -/
abbrev hsEs (w : World) (t1 t2 t3 : Tok) (H S U : Value) : List DictEntry :=
  [⟨PyData.keyHash w.params "_headers", .str "_headers" t1, H⟩, ⟨PyData.keyHash w.params "_set", .str "_set" t2, S⟩, ⟨PyData.keyHash w.params "on_update", .str "on_update" t3, U⟩]

theorem o_get {x dx : Addr} {name : Str} {es : List DictEntry} {n : Nat} {v : Value} {expr : Bool} {attr : Option Value} {Q : Value → St → Prop} (hx : (x, instObj HS dx) ∈ st.news) (hd : (dx, dictOf es n) ∈ st.news) (hg : plainGet (KF C.w) HS name = true)
    (ha : findIn (KF C.w) (.ref HS) name = some attr) (hn : noGet (KF C.w) attr = true) (hl : getL name es = some (some v)) (hv : handedIn v = true) (h : Q v st) : Ev C E (getAttr (.ref x) name expr) st Q := fun s H =>
  get_own H.F C.T.X (InstAt.of_news H.N (List.mem_append_left _ hx) (List.mem_append_left _ hd)) hg (by kernel_rfl!) ha hn hl hv ⟨st, H.tok, h⟩
theorem o_set {x dx : Addr} {name : Str} {es : List DictEntry} {n : Nat} {v : Value} {Q : Unit → St → Prop} {g : Tok → Led} (hx : (x, instObj HS dx) ∈ st.news) (hd : (dx, dictOf es n) ∈ st.news)
    (ht : takerIn (KF C.w) HS name = some none) (hl : (getL name es).isSome = true) (hz : es.length < 1000)
    (ha : ∀ tk, At dx (dictOf es n) (dictOf (putL name (PyData.keyHash C.w.params name) (.str name tk) v es) (putN name es n)) st.news (g tk)) (h : ∀ tk, Q () ⟨st.m, g tk⟩) : Ev C E (setAttr (.ref x) name v) st Q := fun s H => by
  obtain ⟨m, r⟩ := st
  have hlen : ∀ (es : List DictEntry) (h : Int) (k : Value), (putL name h k v es).length ≤ es.length + 1 := by
    intro es
    induction es with
    | nil => intro h k; exact Nat.le_refl _
    | cons e r ih =>
      intro h k
      unfold putL
      split
      · simp
      · have := ih h k; simp; omega
  refine set_dict H.F C.T.X H.N (InstAt.of_news H.N (List.mem_append_left _ hx) (List.mem_append_left _ hd)) rfl (by kernel_rfl!) (by kernel_rfl!) ht (by kernel_rfl!) hl rfl ((ha (s.toks + 1)).upd _ H.nd) (by have := hlen es (PyData.keyHash C.w.params name) (.str name (s.toks + 1)); omega)
    fun h' F N => ⟨⟨m, g (s.toks + 1)⟩, H.toHeld.upd F N (H.toHeld.keyed (ha _)), h _⟩
theorem gm_inst {x dx f : Addr} {name : Str} {es : List DictEntry} {n : Nat} {pl : Sem Bool} {Q : Value × List Value → St → Prop} (hx : (x, instObj HS dx) ∈ st.news) (hd : (dx, dictOf es n) ∈ st.news) (hg : plainGet (KF C.w) HS name = true)
    (hf : findIn (KF C.w) (.ref HS) name = some (some (.ref f))) (ht : isFn (KF C.w) (.ref f) = true) (hl : getL name es = some none) (h : Q (.ref f, [.ref x]) st) : Ev C E (getMethod (.ref x) name pl) st Q := fun s H =>
  method_inst H.F C.T.X (InstAt.of_news H.N (List.mem_append_left _ hx) (List.mem_append_left _ hd)) hg hf ht hl ⟨st, H.toHeld, h⟩
theorem x_setattr {env : Env} {o : Expr} {attr : Str} {pos' pos : Pos} {value : Expr} {Q : Flow → St → Prop} (h : Ev C E (eval value env) st fun v st₁ => Ev C E (eval o env) st₁ fun ov st₂ => Ev C E (setAttr ov attr v) st₂ fun _ st₃ => Q .next st₃)
    (hs : swapsWith value (some (.Attribute o attr pos')) pos.line env = pure false) : Ev C E (exec (.Assign [.Attribute o attr pos'] value pos) env) st Q := fun s H =>
  plainObj_wpAny_Assign_Attribute (L1q h (fun v st₁ s₁ H₁ h₁ => L1q h₁ (fun ov st₂ s₂ H₂ h₂ => L1q h₂ (fun _ st₃ s₃ H₃ h₃ => ⟨st₃, H₃.toHeld, h₃⟩) H₂) H₁) H) hs
abbrev tcCode (args : List Value) : Code := .builtin "type.__call__" ⟨.ref HS :: args, []⟩
abbrev Cx.tc (C : Cx) (args : List Value) (hr : 0 < C.room) : Cx := { C with A := C.A.under (tcCode args), room := C.room - 1, fr := C.fr, hh := C.hh, gd := C.gd, dp := (by show C.A.depth + 1 + (C.room - 1) < recursionLimit; have := C.dp; omega), un := (by show C.A.units + 1 + 8 * (C.room - 1) + 8 < cLine; have := C.un; omega) }
/-- the making of a HeaderSet -/
theorem call_HS {args : List Value} {Q : Value → St → Prop} (hr : 0 < C.room)
    (h : ∀ (C1 : Cx) (x dx : Addr) (s : Shared), C1.w = C.w → C1.room + 1 = C.room → Holds C1 ⟨st.m, (x, instObj HS dx) :: (dx, dictOf [] 0) :: st.news⟩ s →
      codeAny (model prog C1.w) C1.A (.call (.ref 108) ⟨.ref x :: args, []⟩) (fun r s' => match r with | .ok (.ret v) => Post C1 (fun v st' => v = .none ∧ Q (.ref x) st') v s' | .ok _ => False | .error e => E e s') s) :
    Ev C E (call (.ref HS) args) st Q := fun s H => by
  refine wpAny_call ?_
  have X := C.T.X.keeps H.F.keep
  obtain ⟨δ, D0⟩ := H.ex
  have htp := H.tp
  have hsz := H.sz
  clear H
  obtain ⟨hh, g, d, t, os⟩ := s
  refine make_core (C := HS) (init := .ref 108) (makes_of X (by kernel_rfl!)) (looks_findIn X (by kernel_rfl!)) (fun self => bind_fn X self (by kernel_rfl!)) (.inl rfl) ?_
  have D1 := D0.alloc (o := emptyDict) rfl
  have D2 := D1.alloc (o := instObj HS hh.objs.size) rfl
  dsimp only at D2
  have hs1 : (hh.push emptyDict).objs.size = hh.objs.size + 1 := Heap.size_push ..
  rw [hs1] at D2
  have D : HeldD (C.tc args hr) δ ⟨st.m, (hh.objs.size + 1, instObj HS hh.objs.size) :: (hh.objs.size, dictOf [] 0) :: st.news⟩ ⟨(hh.push emptyDict).push (instObj HS hh.objs.size), g, d, t, os⟩ := ⟨D2.F, D2.N, D2.nd, D2.ok, D2.os, D2.gens, D2.gp, D2.us, D2.uk⟩
  refine codeAny_mono (h (C.tc args hr) (hh.objs.size + 1) hh.objs.size ⟨(hh.push emptyDict).push (instObj HS hh.objs.size), g, d, t, os⟩ rfl (by show C.room - 1 + 1 = C.room; omega) ⟨⟨_, D⟩, htp, ?_⟩) fun r s' hr' => ?_
  · show C.sb ≤ ((hh.push emptyDict).push (instObj HS hh.objs.size)).objs.size
    rw [Heap.size_push, hs1]
    have : C.sb ≤ hh.objs.size := hsz
    omega
  match r with
  | .ok (.ret v) =>
    obtain ⟨st', ⟨δ', D'⟩, rfl, q⟩ := hr'
    exact ⟨rfl, st', ⟨δ', D'.F, D'.N, D'.nd, D'.ok, D'.os, D'.gens, D'.gp, D'.us, D'.uk⟩, q⟩
  | .ok .next => exact hr'
  | .ok .brk => exact hr'
  | .ok .cont => exact hr'
  | .error e => exact hr'
end
example (w : World) : plainGet (KF w) HS "_headers" = true := by kernel_rfl!
example (w : World) : findIn (KF w) (.ref HS) "_headers" = some none := by kernel_rfl!
example (w : World) : noGet (KF w) none = true := by kernel_rfl!
example (w : World) : takerIn (KF w) HS "_headers" = some none := by kernel_rfl!
example (w : World) : findIn (KF w) (.ref HS) "add" = some (some (.ref 115)) := by kernel_rfl!
example (w : World) : makesIn (KF w) HS = true := by kernel_rfl!
example (w : World) : findIn (KF w) (.ref HS) "__init__" = some (some (.ref 108)) := by kernel_rfl!
end Mine
end
section
open PySem PySem.W PyProof.Rows PySem.Calls PySem.Spec
namespace Mine
section
variable {C : Cx} {E : Value → Shared → Prop} {st : St}
theorem o_len_list {l : Addr} {vs : List Value} {n : Nat} {Q : Value → St → Prop} (hl : (l, lst vs n) ∈ st.news) (hz : vs.length ≤ sizeLine) (h : ∀ t, Q (.int vs.length t) st) : Ev C E (call (.builtin "len") [.ref l]) st Q := fun s H =>
  call_len_list (isList_of (H.get hl)) (by rw [List.size_toArray]; rw [sizeLine_eq] at hz; omega) ⟨st, H.toHeld.tok, by rw [List.size_toArray]; exact h _⟩
end
end Mine
end
section
open PySem PySem.W PyProof.Rows PySem.Calls PySem.Spec
namespace Mine
section
variable {C : Cx} {E : Value → Shared → Prop} {st : St}
/-- lists of the top -/
theorem o_item_K {value slice : PySem.Expr} {l : Addr} {vs : List Value} {n : Nat} {k : Int} {u : Tok} {v : Value} {Q : Value → St → Prop} (hm : (KF C.w).lookup l = some (lst vs n)) (h0 : 0 ≤ k) (hi : k < 2 ^ 63) (hx : vs[k.toNat]? = some v) (h : Q v st)
    (hs : subscripted slice false (.ref l) (.int k u) = operate [.ref l, .int k u] (getItem (.ref l) (.int k u))) : Ev C E (subscriptTail value slice (.ref l) (.int k u)) st Q := fun s H =>
  have hl := isList_of (C.T.X.keeps H.F.keep _ _ hm)
  tail_any hl.typeIs slot_list_getitem.lookup (wpAny_getItem_list hl h0 hi (by simpa using hx) ⟨st, H.toHeld, h⟩) hs
theorem o_add_listsK {l b : Addr} {vs ws : List Value} {n k : Nat} {Q : Value → St → Prop} (hl : (l, lst vs n) ∈ st.news) (hb : (KF C.w).lookup b = some (lst ws k)) (hz : vs.length + ws.length ≤ sizeLine) (h : ∀ r, Q (.ref r) ⟨st.m, (r, lst (vs ++ ws) 0) :: st.news⟩) :
    Ev C E (binaryOp .Add (.ref l) (.ref b)) st Q := fun s H => by
  refine PyProof.Rows.add_lists H.F H.N (isList_of (H.get hl)) (isList_of (C.T.X.keeps H.F.keep _ _ hb)) (fun h' F N => ⟨⟨st.m, (s.heap.objs.size, lst (vs ++ ws) 0) :: st.news⟩, H.toHeld.upd (tk := s.toks) F N ?_, h _⟩) hz
  exact nd_lt H.nd fun p hp => Heap.lt_size (H.N p hp).1
end
def lawItems : List (Str × List Str) := [("a", ["a"]), (" x y\t", ["x y"]), ("a\"b, c\"d", ["a\"b, c\"d"]), ("", []), ("\"x\\y\"", ["xy"]), ("\"p, q\"", ["p, q"]), ("k=\"1, 2\"", ["k=\"1, 2\""]), (" ", []), ("\"\"", [""])]
/-- the items of the law, as they lie in the heap of the top -/
theorem law_items (w : World) : ∃ vs n, (KF w).lookup 268 = some (lst vs n) ∧ vs.length = 9 ∧ ∀ i : Nat, i < 9 → ∃ t l ws k m tk, vs[i]? = some (.ref t) ∧ (KF w).lookup t = some (tup [.str (lawItems.getD i ("", [])).1 tk, .ref l] m) ∧ (KF w).lookup l = some (lst ws k) ∧ TxA ws (lawItems.getD i ("", [])).2 := by
  refine ⟨_, _, by with_unfolding_all rfl, by rfl, ?_⟩
  intro i hi
  have : i = 0 ∨ i = 1 ∨ i = 2 ∨ i = 3 ∨ i = 4 ∨ i = 5 ∨ i = 6 ∨ i = 7 ∨ i = 8 := by omega
  rcases this with rfl | rfl | rfl | rfl | rfl | rfl | rfl | rfl | rfl
  · exact ⟨_, _, _, _, _, _, rfl, by with_unfolding_all rfl, by with_unfolding_all rfl, .cons .nil⟩
  · exact ⟨_, _, _, _, _, _, rfl, by with_unfolding_all rfl, by with_unfolding_all rfl, .cons .nil⟩
  · exact ⟨_, _, _, _, _, _, rfl, by with_unfolding_all rfl, by with_unfolding_all rfl, .cons .nil⟩
  · exact ⟨_, _, _, _, _, _, rfl, by with_unfolding_all rfl, by with_unfolding_all rfl, .nil⟩
  · exact ⟨_, _, _, _, _, _, rfl, by with_unfolding_all rfl, by with_unfolding_all rfl, .cons .nil⟩
  · exact ⟨_, _, _, _, _, _, rfl, by with_unfolding_all rfl, by with_unfolding_all rfl, .cons .nil⟩
  · exact ⟨_, _, _, _, _, _, rfl, by with_unfolding_all rfl, by with_unfolding_all rfl, .cons .nil⟩
  · exact ⟨_, _, _, _, _, _, rfl, by with_unfolding_all rfl, by with_unfolding_all rfl, .nil⟩
  · exact ⟨_, _, _, _, _, _, rfl, by with_unfolding_all rfl, by with_unfolding_all rfl, .cons .nil⟩
end Mine
end
section
open PySem PySem.W PyProof.Rows PySem.Calls PySem.Spec
namespace Mine
def ccode : Array Nat := #[14, 4, 0, 3, 4294967295, 17, 0, 24, 18, 0, 4294967295, 13, 13, 9, 0, 27770, 1073741824, 1342177281, 0, 0, 0, 0, 8, 4, 0, 1, 17, 1, 16, 39, 24, 18, 0, 4294967295, 13, 13, 9, 0, 27770, 1073741824, 1342177281, 0, 0, 0, 0, 8, 4, 0, 1, 16, 39, 17, 2, 24, 18, 1, 4294967295, 13, 13, 9, 0, 27898, 1073741824, 1342177281, 0, 0, 0, 0, 8, 4, 0, 1, 17, 3, 6, 5, 1]
abbrev crun (x : Str) : Sre.M := Sre.M.runFor 3000 (Sre.forMatch ccode x.cps 2 0 x.cps.size false false)
section
variable {C : Cx} {E : Value → Shared → Prop} {st : St}
abbrev csMatch (x : Str) (t : Tok) (T : Addr) : Obj := { cls := .type "re.Match", data := .fields #[.str x t, .ref 87, rawInt 0, rawInt x.cps.size, rawInt 2, .ref T] }
abbrev csSpans (a b n : Nat) : Obj := tup [rawInt (0 : Nat), rawInt (n : Nat), rawInt (0 : Nat), rawInt (a : Nat), rawInt (b : Nat), rawInt (n : Nat)] 0
theorem gm_pmatch {pl : Sem Bool} {Q : Value × List Value → St → Prop} (h : Q (.builtin "re.Pattern.match", [.ref 87]) st) : Ev C E (getMethod (.ref 87) "match" pl) st Q := fun s H => by
  obtain ⟨o1, e1, e2, e3⟩ : ∃ o, (KF C.w).lookup 87 = some o ∧ o.cls = .type "re.Pattern" ∧ o.dict = none := ⟨_, by with_unfolding_all rfl, rfl, rfl⟩
  have hh := C.T.X.keeps H.F.keep _ _ e1
  exact getMethod_builtin ⟨o1, hh, e2⟩ plainAttrs_pat slot_pmatch type_pmatch (fun a e => by cases e; exact ⟨o1, hh, e3⟩) ⟨st, H.toHeld, h⟩
theorem wp_ctarget {A' : Around} {s : Shared} {x : Str} {t : Tok} {Q : Builtin.Re.ReTarget → Shared → Prop} (X : (KF C.w).In s.heap) (hz : x.cps.size ≤ 1000)
    (h : Q { pattern := .ref 87, string := .str x t, code := ccode, text := x.cps, kind := 0, groups := 2, pos := 0, lim := x.cps.size } s) : wpAny (model prog C.w) A' (Builtin.Re.reTarget "re.Pattern.match" "match" ⟨[.ref 87, .str x t], []⟩) Q E s := by
  obtain ⟨o1, fs, e1, e2, e3, e4, e5⟩ : ∃ o fs, (KF C.w).lookup 87 = some o ∧ o.data = .fields fs ∧ fs.getD 5 .none = .ref 86 ∧ Builtin.Re.reRawNat (fs.getD 6 .none) = 0 ∧ Builtin.Re.reRawNat (fs.getD 2 .none) = 2 := ⟨_, _, by with_unfolding_all rfl, rfl, rfl, rfl, rfl⟩
  obtain ⟨o2, its, n, q1, q2, q3⟩ : ∃ o its n, (KF C.w).lookup 86 = some o ∧ o.data = .seq its n ∧ (its.map Builtin.Re.reRawOf).map (·.toNat) = ccode := ⟨_, _, _, by with_unfolding_all rfl, rfl, by kernel_rfl!⟩
  unfold Builtin.Re.reTarget
  dsimp only
  refine wpAny_bind (m := Builtin.Re.reNamed "re.Pattern.match" "match" ["string", "pos", "endpos"] 1 [.str x t] []) (wpAny_of_eq (a := [some (.str x t), none, none]) (by rfl) ?_)
  dsimp only
  refine wpAny_bind (wpAny_pure ?_)
  refine wpAny_bind (wpAny_pure ?_)
  refine wpAny_bind (wpAny_fieldsOf (X _ _ e1) e2 ?_)
  refine wpAny_bind (m := Builtin.Re.reTextOf (.str x t)) (wpAny_pure ?_)
  dsimp only
  rw [e3, e4, e5]
  rw [if_neg (by decide), if_neg (by decide)]
  refine wpAny_bind (wpAny_pure ?_)
  refine wpAny_bind (wpAny_bind (wpAny_seqItems (X _ _ q1) q2 (wpAny_pure ?_)))
  refine wpAny_pure ?_
  show Q { pattern := .ref 87, string := .str x t, code := (its.map Builtin.Re.reRawOf).map (·.toNat), text := x.cps, kind := 0, groups := 2, pos := min (0 : Int).toNat x.cps.size, lim := min ((2 ^ 63 - 1 : Int)).toNat x.cps.size } s
  rw [q3, show min (0 : Int).toNat x.cps.size = 0 by simp, show min ((2 ^ 63 - 1 : Int)).toNat x.cps.size = x.cps.size by omega]
  exact h
theorem pat_type {s : Shared} (X : (KF C.w).In s.heap) : s.TypeIs (.ref 87) "re.Pattern" := by
  obtain ⟨o1, e1, e2⟩ : ∃ o, (KF C.w).lookup 87 = some o ∧ o.cls = .type "re.Pattern" := ⟨_, by with_unfolding_all rfl, rfl⟩
  exact ⟨o1, X _ _ e1, e2⟩
theorem m_pmatch_none {x : Str} {t : Tok} {Q : Value → St → Prop} (hz : x.cps.size ≤ 1000) (ho : (crun x).outcome = some .failed) (h : Q .none st) : Ev C E (call (.builtin "re.Pattern.match") [.ref 87, .str x t]) st Q := fun s H => by
  have X := C.T.X.keeps H.F.keep
  refine wpAny_call_entry slot_pmatch (pat_type X) entry_pmatch ?_ (args_pmatch _ _)
  unfold Builtin.«re.Pattern.match»
  refine wpAny_bind (wp_ctarget X hz ?_)
  unfold Builtin.Re.reAnswer
  refine wpAny_bind (wp_toEnd (n := 3000) (by decide) rfl (.inr ⟨ho, ?_⟩))
  exact wpAny_pure ⟨_, rfl, st, H.toHeld, h⟩
theorem m_pmatch_some {x : Str} {t : Tok} {a b : Nat} {Q : Value → St → Prop} (hz : x.cps.size ≤ 1000) (ho : (crun x).outcome = some .matched) (h1 : (crun x).start = 0) (h2 : (crun x).handed = x.cps.size) (h3 : (crun x).marks = #[some 0, some a, some b, some x.cps.size]) (h4 : (crun x).lastmark = 3) (h5 : (crun x).lastindex = 2) (hb : b ≤ x.cps.size)
    (h : ∀ mt T, Q (.ref mt) ⟨st.m, (mt, csMatch x t T) :: (T, csSpans a b x.cps.size) :: st.news⟩) : Ev C E (call (.builtin "re.Pattern.match") [.ref 87, .str x t]) st Q := fun s H => by
  have X := C.T.X.keeps H.F.keep
  refine wpAny_call_entry slot_pmatch (pat_type X) entry_pmatch ?_ (args_pmatch _ _)
  unfold Builtin.«re.Pattern.match»
  refine wpAny_bind (wp_ctarget X hz ?_)
  unfold Builtin.Re.reAnswer
  refine wpAny_bind (wp_toEnd (n := 3000) (by decide) rfl (.inl ⟨ho, ?_⟩))
  dsimp only
  unfold Builtin.Re.reNewMatch
  rw [h1, h2, h3, h4, h5]
  have hlt : decide (x.cps.size < b) = false := decide_eq_false (by omega)
  dsimp only
  refine wpAny_bind ?_
  split
  · rename_i hc
    refine absurd (show ((decide (((2 * 0 + 1 : Nat) : Int) ≤ 3) && decide (a < 0)) || ((decide (((2 * 1 + 1 : Nat) : Int) ≤ 3) && decide (x.cps.size < b)) || false)) = true from hc) ?_
    rw [hlt]; simp
  refine wpAny_bind (wpAny_newObj_type ?_ (by show (6 : Nat) ≤ _; rw [sizeLine_eq]; decide))
  have D₁ := H.toHeld.alloc (tk := s.toks) (o := csSpans a b x.cps.size) rfl
  refine wpAny_newObj_type ?_ (by show (_ : Nat) ≤ _; rw [sizeLine_eq]; simp)
  have D₂ := D₁.alloc (tk := s.toks) (o := csMatch x t s.heap.objs.size) rfl
  exact wpAny_pure ⟨_, rfl, _, D₂, h _ _⟩
end
end Mine
end
section
open PySem PySem.W PyProof.Rows PySem.Calls PySem.Spec PySem.SeqAt
open PySem.NumText PySem.Builtin
namespace Mine
theorem typeCall_int_2 (a b : Value) : checkTypeCall "int" ⟨[a, b], []⟩ = pure () := by kernel_rfl
theorem newCall_int_2 (a b : Value) : checkBuiltinCall "int.__new__" ⟨[.type "int", a, b], []⟩ = pure () := by kernel_rfl
theorem args_object_init_3' (a b c : Value) : argsOk "object.__init__" ⟨[a, b, c], []⟩ := by
  unfold argsOk; kernel_rfl
/-- what int makes of a text in base 16 -/
def HexOk (y : Str) (n : Nat) : Prop := ∀ (u t : Tok), Builtin.«int.__new__» ⟨[.type "int", .str y u, .int 16 t], []⟩ = (mkInt n >>= fun v => ret v)
theorem hex_gen (y : Str) (u t : Tok) : Builtin.«int.__new__» ⟨[.type "int", .str y u, .int 16 t], []⟩ = ((int_private% "intFromText") (.str y u) (if y.cps.all (· < 128) then y.cps.toList else Unicode.numberText y.cps.toList) 16 >>= fun v => ret v) := by kernel_rfl
theorem hex_of {y : Str} {n : Nat} (h : ∀ u : Tok, (int_private% "intFromText") (.str y u) (if y.cps.all (· < 128) then y.cps.toList else Unicode.numberText y.cps.toList) 16 = mkInt n) : HexOk y n := fun u t => by rw [hex_gen, h]
theorem hex_C3 : HexOk "C3" 0xC3 := hex_of fun u => by kernel_rfl
theorem hex_A9 : HexOk "A9" 0xA9 := hex_of fun u => by kernel_rfl
theorem hex_20 : HexOk "20" 0x20 := hex_of fun u => by kernel_rfl
theorem hex_E9 : HexOk "E9" 0xE9 := hex_of fun u => by kernel_rfl
theorem hex_41 : HexOk "41" 0x41 := hex_of fun u => by kernel_rfl
theorem hex_7A : HexOk "7A" 0x7A := hex_of fun u => by kernel_rfl
theorem hex_E2 : HexOk "E2" 0xE2 := hex_of fun u => by kernel_rfl
theorem hex_82 : HexOk "82" 0x82 := hex_of fun u => by kernel_rfl
theorem hex_AC : HexOk "AC" 0xAC := hex_of fun u => by kernel_rfl
theorem decU_eq (c : UInt8) (cs : List UInt8) (t u v : Tok) : «bytes.decode» ⟨[.bytes (c :: cs).toArray t, .str "utf-8" u, .str "replace" v], []⟩ = (mkStr (PySem.Str.ofString "utf-8") >>= fun _ => mkStr (PySem.Str.ofString "utf-8") >>= fun e => mkStr "replace" >>= fun r => mkStr (PySem.Str.ofString "bytes.decode") >>= fun d =>
    call (.builtin "_codecs.decode.text") [.bytes (c :: cs).toArray t, e, r, d] >>= fun v => ret v) := by kernel_rfl
theorem decA_eq (c : UInt8) (cs : List UInt8) (t u v : Tok) : «bytes.decode» ⟨[.bytes (c :: cs).toArray t, .str "ascii" u, .str "replace" v], []⟩ = (mkStr (PySem.Str.ofString "utf-8") >>= fun _ => mkStr (PySem.Str.ofString "ascii") >>= fun e => mkStr "replace" >>= fun r => mkStr (PySem.Str.ofString "bytes.decode") >>= fun d =>
    call (.builtin "_codecs.decode.text") [.bytes (c :: cs).toArray t, e, r, d] >>= fun v => ret v) := by kernel_rfl
theorem decL_eq (c : UInt8) (cs : List UInt8) (t u : Tok) : «bytes.decode» ⟨[.bytes (c :: cs).toArray t, .str "iso-8859-1" u], []⟩ = (mkStr (PySem.Str.ofString "utf-8") >>= fun _ => mkStr (PySem.Str.ofString "iso-8859-1") >>= fun e => mkStr (PySem.Str.ofString "bytes.decode") >>= fun d =>
    call (.builtin "_codecs.decode.text") [.bytes (c :: cs).toArray t, e, .none, d] >>= fun v => ret v) := by kernel_rfl
theorem args_bytes_decode_2 (a b : Value) : argsOk "bytes.decode" ⟨[a, b], []⟩ := by
  unfold argsOk; kernel_rfl
theorem args_bytes_decode_3 (a b c : Value) : argsOk "bytes.decode" ⟨[a, b, c], []⟩ := by
  unfold argsOk; kernel_rfl
def errV (err : Option Str) (v : Tok) : Value := match err with | none => .none | some e => .str e v
/-- what the codec's road makes of the bytes -/
def RoadOk (c : UInt8) (cs : List UInt8) (enc : Str) (err : Option Str) (x : Str) : Prop := ∀ (t u v d : Tok), Builtin.«_codecs.decode.text» ⟨[.bytes (c :: cs).toArray t, .str enc u, errV err v, .str (PySem.Str.ofString "bytes.decode") d], []⟩ = (mkStr x >>= fun v => ret v)
theorem road1 : RoadOk 0xC3 [0xA9, 0x20] "utf-8" (some "replace") "é " := fun t u v d => by kernel_rfl
theorem road2 : RoadOk 0xE2 [0x82, 0xAC] "utf-8" (some "replace") "€" := fun t u v d => by kernel_rfl
theorem road3 : RoadOk 0xE9 [] "iso-8859-1" none "é" := fun t u v d => by kernel_rfl
theorem road4 : RoadOk 0x41 [] "ascii" (some "replace") "A" := fun t u v d => by kernel_rfl
theorem road5 : RoadOk 0x7A [] "ascii" (some "replace") "z" := fun t u v d => by kernel_rfl
section
variable {prog : Program} {w : World} {A : Around} {E : Value → Shared → Prop} {s : Shared}
theorem call_hex {y : Str} {n : Nat} {u t : Tok} {Q : Value → Shared → Prop} (hh : HexOk y n) (h : ∀ t' k, Q (.int n t') { s with toks := k }) : wpAny (model prog w) A (call (.type "int") [.str y u, .int 16 t]) Q E s := by
  have g : Gives (Builtin.«int.__new__» ⟨[.type "int", .str y u, .int 16 t], []⟩) (.int n) := .of_wp fun M A E s Q h => by
    rw [hh]
    exact wpAny_bind (wpAny_mkInt (wpAny_pure ⟨_, rfl, h⟩))
  exact callType_new F.called_int F.newNe_int (typeCall_int_2 _ _) (newCall_int_2 _ _) (fun obj => args_object_init_3' obj _ _) F.entry_int_new g.meets (show (Made.int n).post _ s from ⟨rfl, h _ _⟩)
theorem meets_road {c : UInt8} {cs : List UInt8} {enc : Str} {err : Option Str} {x : Str} {t u v d : Tok} (hr : RoadOk c cs enc err x) :
    Meets (Builtin.«_codecs.decode.text» ⟨[.bytes (c :: cs).toArray t, .str enc u, errV err v, .str (PySem.Str.ofString "bytes.decode") d], []⟩) (fun _ R s => x.length ≤ sizeLine ∧ R (.ok (.ret (.str x s.toks))) { s with toks := s.toks + 1 }) := by
  refine .of_wp fun prog w A R s hS => ?_
  obtain ⟨hsz, h⟩ := hS
  rw [hr]
  exact wpAny_bind (wpAny_mkStr (wpAny_pure ⟨_, rfl, h⟩) hsz)
theorem meets_decU {c : UInt8} {cs : List UInt8} {x : Str} {t u v : Tok} (hr : RoadOk c cs "utf-8" (some "replace") x) :
    Meets («bytes.decode» ⟨[.bytes (c :: cs).toArray t, .str "utf-8" u, .str "replace" v], []⟩) (fun _ R s => x.length ≤ sizeLine ∧ ∀ t' k, R (.ok (.ret (.str x t'))) { s with toks := k }) := by
  refine .of_wp fun prog w A R s hS => ?_
  obtain ⟨hsz, h⟩ := hS
  rw [decU_eq]
  refine wpAny_bind (wpAny_mkStr ?_ (by decide))
  refine wpAny_bind (wpAny_mkStr ?_ (by decide))
  refine wpAny_bind (wpAny_mkStr ?_ (by decide))
  refine wpAny_bind (wpAny_mkStr ?_ (by decide))
  exact wpAny_bind (call_function_meets KBd.kind_text KBd.plain_text KBd.entry_text (KBd.args_text _ _ _ _) (meets_road hr) ⟨hsz, wpAny_pure ⟨_, rfl, h _ _⟩⟩)
theorem meets_decA {c : UInt8} {cs : List UInt8} {x : Str} {t u v : Tok} (hr : RoadOk c cs "ascii" (some "replace") x) :
    Meets («bytes.decode» ⟨[.bytes (c :: cs).toArray t, .str "ascii" u, .str "replace" v], []⟩) (fun _ R s => x.length ≤ sizeLine ∧ ∀ t' k, R (.ok (.ret (.str x t'))) { s with toks := k }) := by
  refine .of_wp fun prog w A R s hS => ?_
  obtain ⟨hsz, h⟩ := hS
  rw [decA_eq]
  refine wpAny_bind (wpAny_mkStr ?_ (by decide))
  refine wpAny_bind (wpAny_mkStr ?_ (by decide))
  refine wpAny_bind (wpAny_mkStr ?_ (by decide))
  refine wpAny_bind (wpAny_mkStr ?_ (by decide))
  exact wpAny_bind (call_function_meets KBd.kind_text KBd.plain_text KBd.entry_text (KBd.args_text _ _ _ _) (meets_road hr) ⟨hsz, wpAny_pure ⟨_, rfl, h _ _⟩⟩)
theorem meets_decL {c : UInt8} {cs : List UInt8} {x : Str} {t u : Tok} (hr : RoadOk c cs "iso-8859-1" none x) :
    Meets («bytes.decode» ⟨[.bytes (c :: cs).toArray t, .str "iso-8859-1" u], []⟩) (fun _ R s => x.length ≤ sizeLine ∧ ∀ t' k, R (.ok (.ret (.str x t'))) { s with toks := k }) := by
  refine .of_wp fun prog w A R s hS => ?_
  obtain ⟨hsz, h⟩ := hS
  rw [decL_eq]
  refine wpAny_bind (wpAny_mkStr ?_ (by decide))
  refine wpAny_bind (wpAny_mkStr ?_ (by decide))
  refine wpAny_bind (wpAny_mkStr ?_ (by decide))
  exact wpAny_bind (call_function_meets KBd.kind_text KBd.plain_text KBd.entry_text (KBd.args_text _ _ _ _) (meets_road (v := 0) hr) ⟨hsz, wpAny_pure ⟨_, rfl, h _ _⟩⟩)
/-- the call of decode, as the arguments stand -/
def decArgs (enc : Str) (err : Option Str) (u v : Tok) : List Value := match err with | none => [.str enc u] | some e => [.str enc u, .str e v]
theorem call_decode {c : UInt8} {cs : List UInt8} {enc x : Str} {err : Option Str} {t u v : Tok} {Q : Value → Shared → Prop} (hr : RoadOk c cs enc err x) (he : (enc = "utf-8" ∧ err = some "replace") ∨ (enc = "ascii" ∧ err = some "replace") ∨ (enc = "iso-8859-1" ∧ err = none)) (hz : x.length ≤ 100) (h : ∀ t' k, Q (.str x t') { s with toks := k }) :
    wpAny (model prog w) A (call (.builtin "bytes.decode") (.bytes (c :: cs).toArray t :: decArgs enc err u v)) Q E s := by
  rcases he with ⟨rfl, rfl⟩ | ⟨rfl, rfl⟩ | ⟨rfl, rfl⟩
  · exact call_meets FB.slot_bytes_decode (typeIs_bytes _ _ _) FB.entry_bytes_decode (args_bytes_decode_3 _ _ _) (meets_decU hr) ⟨by rw [sizeLine_eq]; omega, h⟩
  · exact call_meets FB.slot_bytes_decode (typeIs_bytes _ _ _) FB.entry_bytes_decode (args_bytes_decode_3 _ _ _) (meets_decA hr) ⟨by rw [sizeLine_eq]; omega, h⟩
  · exact call_meets FB.slot_bytes_decode (typeIs_bytes _ _ _) FB.entry_bytes_decode (args_bytes_decode_2 _ _) (meets_decL hr) ⟨by rw [sizeLine_eq]; omega, h⟩
theorem noI_bytes_add : typeLookup (.type "bytes") (dunderI "add") = pure none := by rw [typeLookup_type, builtinLookup_eq_fast]; kernel_rfl
theorem iadd_bytes {b c : Array UInt8} {t u : Tok} {Q : Value → Shared → Prop} (hsz : b.size + c.size ≤ 1000) (h : ∀ t' k, Q (.bytes (b ++ c) t') { s with toks := k }) : wpAny (model prog w) A (inplaceOp .Add (.bytes b t) (.bytes c u)) Q E s := by
  refine iconcat_gives (typeIs_bytes s b t) (typeIs_bytes s c u) noI_bytes_add KBy.noFill_bytes_add KBy.seq_bytes_add FB.slot_bytes_add FB.entry_bytes_add (FB.args_bytes_add_2 _ _) (KBy.gives_bytes_add (KBy.tooLong_not (by omega))) ?_
  by_cases hb : b.isEmpty = true
  · rw [if_pos hb]
    have e : b = #[] := Array.isEmpty_iff.1 hb
    have h' := h u s.toks
    rw [e, Array.empty_append] at h'
    exact h'
  · rw [if_neg hb]
    by_cases hc : c.isEmpty = true
    · rw [if_pos hc]
      have e : c = #[] := Array.isEmpty_iff.1 hc
      have h' := h t s.toks
      rw [e, Array.append_empty] at h'
      exact h'
    · rw [if_neg hc]
      exact ⟨by rw [Array.size_append, sizeLine_eq]; omega, h s.toks (s.toks + 1)⟩
end
/-- keys: a text or None -/
def isOpt : Option Str → Value → Bool
  | none, .none => true
  | some x, .str y _ => y == x
  | _, _ => false
theorem isOpt_shape {o : Option Str} {v : Value} (h : isOpt o v = true) : (o = none ∧ v = .none) ∨ ∃ x t, o = some x ∧ v = .str x t := by
  cases o with
  | none => cases v <;> simp_all [isOpt]
  | some x => cases v <;> simp_all [isOpt]
theorem eqBool_none_str {prog : Program} {w : World} {A : Around} {E : Value → Shared → Prop} {s : Shared} {a : Str} {t : Tok} {Q : Bool → Shared → Prop} (h : Q false s) : wpAny (model prog w) A (eqBool .none (.str a t)) Q E s := by
  unfold eqBool
  refine wpAny_holding ?_
  show wpAny _ _ (if (Value.none == Value.str a t) = true then _ else _) Q E s
  rw [if_neg (by intro x; cases x)]
  refine wpAny_bind ((EqNone.eq_none_str (prog := prog) (w := w) (A := A) (E := E) (s := s) (a := a) (t := t) (Q := fun v s' => v = .bool false ∧ s' = s) ⟨rfl, rfl⟩) |> fun q => wpAny_mono (show wpAny _ A (richCompare .Eq _ _) _ E s from q) (fun v s' e => ?_) fun _ _ x => x)
  obtain ⟨rfl, rfl⟩ := e
  exact wpAny_truthy_bool h
theorem eqBool_str_none {prog : Program} {w : World} {A : Around} {E : Value → Shared → Prop} {s : Shared} {a : Str} {t : Tok} {Q : Bool → Shared → Prop} (h : Q false s) : wpAny (model prog w) A (eqBool (.str a t) .none) Q E s := by
  unfold eqBool
  refine wpAny_holding ?_
  show wpAny _ _ (if (Value.str a t == Value.none) = true then _ else _) Q E s
  rw [if_neg (by intro x; cases x)]
  refine wpAny_bind ((EqNone.eq_str_none (prog := prog) (w := w) (A := A) (E := E) (s := s) (a := a) (t := t) (Q := fun v s' => v = .bool false ∧ s' = s) ⟨rfl, rfl⟩) |> fun q => wpAny_mono (show wpAny _ A (richCompare .Eq _ _) _ E s from q) (fun v s' e => ?_) fun _ _ x => x)
  obtain ⟨rfl, rfl⟩ := e
  exact wpAny_truthy_bool h
def optKind (prog : Program) (w : World) : KeyKind prog w (Option Str) where
  is := isOpt
  hash := fun o => match o with | none => reduceHash 0xFCA86420 | some x => hashStr w x
  inj := fun v a b ha hb => by
    rcases isOpt_shape ha with ⟨rfl, rfl⟩ | ⟨x, t, rfl, rfl⟩ <;> rcases isOpt_shape hb with ⟨rfl, h⟩ | ⟨y, u, rfl, h⟩ <;> first | rfl | (cases h; done) | (injection h with h1; rw [h1])
  byValue := fun k v h => by rcases isOpt_shape h with ⟨rfl, rfl⟩ | ⟨x, t, rfl, rfl⟩ <;> rfl
  pyHash := fun hv h => by
    rcases isOpt_shape hv with ⟨rfl, rfl⟩ | ⟨x, t, rfl, rfl⟩
    · exact pyHash_slot (T := "NoneType") rfl F.slot_NoneType_hash F.entry_NoneType_hash (F.args_NoneType_hash_1 _) (beq_builtin_none _) (.inl rfl) (wpAny_bind (wpAny_pure (wpAny_bind (wpAny_mkInt (wpAny_pure ⟨_, _, rfl, h⟩)))))
    · exact wpAny_pyHash_str h
  eqBool := fun hu hv h => by
    rcases isOpt_shape hu with ⟨rfl, rfl⟩ | ⟨x, t, rfl, rfl⟩ <;> rcases isOpt_shape hv with ⟨rfl, rfl⟩ | ⟨y, u, rfl, rfl⟩
    · exact EqAt.same _ _ _ _ _ h
    · exact eqBool_none_str h
    · exact eqBool_str_none h
    · exact wpAny_eqBool_str (by simpa using h)
  «strs» := fun k x t v h => by
    rcases isOpt_shape h with ⟨_, h2⟩ | ⟨y, u, rfl, h2⟩
    · cases h2
    · injection h2 with h1
      subst h1
      cases v <;> rfl
end Mine
end
open PySem PySem.W PyProof.Rows PySem.Calls PySem.Spec Mine
section
local macro_rules | `(tactic| allgen_close2_more) => `(tactic| ((repeat first | with_reducible refine look_other (by kernel_rfl!) ?_ | with_reducible refine look_tl (by kernel_rfl!) ?_); first | with_reducible assumption | with_reducible exact look_same | with_reducible exact look_hd))
local macro_rules | `(tactic| krn_off) => `(tactic| ((repeat first | with_reducible refine look_other (by kernel_rfl!) ?_ | with_reducible refine look_tl (by kernel_rfl!) ?_); first | with_reducible assumption | with_reducible exact look_same | with_reducible exact look_hd | with_unfolding_all exact rfl))
local macro_rules | `(tactic| none_booked) => `(tactic| first | with_reducible assumption | decide | (simp only [List.length_cons, List.length_nil, List.length_append, sizeLine_eq]; omega) | (rw [sizeLine_eq]; omega))
local macro_rules | `(tactic| mem_news) => `(tactic| first | with_reducible_and_instances assumption | with_reducible_and_instances exact List.Mem.head _ | (with_reducible_and_instances refine List.Mem.tail _ ?_; mem_news))
local macro_rules | `(tactic| k_upd) => `(tactic| first | with_reducible_and_instances exact At.head | (with_reducible_and_instances apply At.tail; k_upd))
local macro_rules | `(tactic| got_up) => `(tactic| first | with_reducible exact Sub.refl _ | (with_reducible refine Sub.cons₂ _ ?_; got_up) | (with_reducible refine Sub.cons _ ?_; got_up))
local macro_rules | `(tactic| tb_start) => `(tactic| first
  | (with_reducible show Ev _ _ (eval _ _) _ _; first
    | (with_reducible refine e_loc (by kernel_rfl!) (by allgen_close2_more) ?_ (by kernel_rfl!) (by kernel_rfl!) (by kernel_rfl!))
    | (with_reducible refine e_cloc (by kernel_rfl!) (by mem_news) (by assumption) (by assumption) ?_ (by kernel_rfl!) (by kernel_rfl!))
    | (with_reducible refine e_int ?_; intro _)
    | (with_reducible refine e_str ?_; intro _)
    | (with_reducible refine e_method ?_ (by kernel_rfl!))
    | (with_reducible refine e_call ?_ (by kernel_rfl!))
    | (with_reducible refine e_glob (by kernel_rfl!) (by with_unfolding_all exact rfl) ?_ (by kernel_rfl!) (by kernel_rfl!) (by kernel_rfl!))
    | (with_reducible refine e_blt (by kernel_rfl!) (by with_unfolding_all exact rfl) ?_ (by kernel_rfl!) (by kernel_rfl!) (by kernel_rfl!) (by kernel_rfl!))
    | (with_reducible refine e_attr ?_ (by kernel_rfl!))
    | (with_reducible refine e_binop ?_)
    | (with_reducible refine e_compare ?_ (by kernel_rfl!))
    | (with_reducible refine e_sub ?_)
    | (with_reducible refine e_none ?_)
    | (with_reducible refine e_bool ?_)
    | (with_reducible refine e_list ?_)
    | (with_reducible refine e_tuple ?_)
    | (with_reducible refine e_unary ?_)
    | (with_reducible refine e_ifexp ?_)
    | (with_reducible refine e_joined ?_)
    | (with_reducible refine e_slice_ss ?_)
    | (with_reducible refine e_slice_sn ?_)
    | (with_reducible refine e_slice_ns ?_)
    | (with_reducible refine e_fmt ?_)
    | (with_reducible refine e_bool1 ?_)
    | (with_reducible refine e_and ?_)
    | (with_reducible refine e_or ?_))
  | (with_reducible show Ev _ _ (exec _ _) _ _; first
    | (with_reducible refine x_assign ?_ (by kernel_rfl!) (by kernel_rfl!) (by kernel_rfl!) (by kernel_rfl!))
    | (with_reducible refine x_if ?_)
    | (with_reducible refine x_return ?_)
    | (with_reducible refine x_expr ?_ (by kernel_rfl!) (by kernel_rfl!))
    | (with_reducible refine x_augassign (by allgen_close2_more) ?_ (by kernel_rfl!) (by kernel_rfl!) (by kernel_rfl!))
    | (with_reducible refine x_continue ?_)
    | (with_reducible refine x_break ?_)
    | (with_reducible refine x_pass ?_))
  | (with_reducible show Ev _ _ (execs _ _) _ _; first
    | (with_reducible refine x_cons ?_)
    | (with_reducible refine x_nil ?_))
  | (with_reducible show Ev _ _ (spliced _) _ _; first
    | (with_reducible refine sp_nil ?_)
    | (with_reducible refine sp_two ?_; intro _ _ _ _ _)
    | (with_reducible refine sp_cons ?_ (by kernel_rfl!)))
  | (with_reducible show Ev _ _ (isTrue _ _ _) _ _; first
    | (with_reducible refine t_compare ?_ (by kernel_rfl!))
    | (with_reducible refine t_not ?_)
    | (with_reducible refine t_and0 ?_)
    | (with_reducible refine t_or0 ?_)
    | (with_reducible refine t_and ?_)
    | (with_reducible refine t_or ?_)
    | (with_reducible refine t_plain ?_ (by kernel_rfl!)))
  | (with_reducible show Ev _ _ (callWith _ _ _ _ _) _ _; first
    | (with_reducible refine cw_builtin ?_ (by kernel_rfl!))
    | (with_reducible refine cw_def (by kernel_rfl!) ?_ (by kernel_rfl!))
    | (with_reducible refine cw_type ?_ (by kernel_rfl!))
    | (with_reducible refine cw_builtin0 ?_)
    | (with_reducible refine cw_def0 (by kernel_rfl!) ?_))
  | (with_reducible show Ev _ _ (compareOp _ _ _) _ _; first
    | (with_reducible refine o_eq_str ?_)
    | (with_reducible refine o_eq_int ?_)
    | (with_reducible refine o_ne_str ?_)
    | (with_reducible refine o_in_str ?_)
    | (with_reducible refine o_notin_str ?_)
    | (with_reducible refine o_ne_int ?_)
    | (with_reducible refine o_lt_int ?_)
    | (with_reducible refine o_gt_int ?_)
    | (with_reducible refine o_le_int ?_)
    | (with_reducible refine o_ge_int ?_)
    | (with_reducible refine o_is_none ?_)
    | (with_reducible refine o_isnot_none (by kernel_rfl!) ?_))
  | (with_reducible show Ev _ _ (call _ _ _) _ _; first
    | (with_reducible refine o_isinst_list_dict (by mem_news) ?_)
    | (with_reducible refine o_len_list (by mem_news) (by none_booked) ?_; intro _)
    | (with_reducible refine m_append (by k_upd) (by none_booked) ?_)
    | (with_reducible refine m_startswith ?_)
    | (with_reducible refine m_endswith ?_)
    | (with_reducible refine m_strip (by none_booked) ?_; intro _)
    | (with_reducible refine m_str ?_)
    | (with_reducible refine o_range1 ?_; intro _ _ _)
    | (with_reducible refine o_len_str (by none_booked) ?_; intro _)
    | (with_reducible refine o_ord ?_; intro _))
  | (with_reducible show Ev _ _ (getMethod _ _ _) _ _; first
    | (with_reducible refine gm_replace ?_)
    | (with_reducible refine gm_strip ?_)
    | (with_reducible refine gm_lower ?_)
    | (with_reducible refine gm_upper ?_)
    | (with_reducible refine gm_startswith ?_)
    | (with_reducible refine gm_endswith ?_)
    | (with_reducible refine gm_join ?_)
    | (with_reducible refine gm_partition ?_)
    | (with_reducible refine gm_append (by mem_news) ?_))
  | (with_reducible show Ev _ _ (truthy _) _ _; first
    | (with_reducible refine o_truthy_bool ?_)
    | (with_reducible refine o_truthy_str (by none_booked) ?_)
    | (with_reducible refine o_truthy_none ?_))
  | (with_reducible show Ev _ _ (binaryOp _ _ _) _ _; first
    | (with_reducible refine o_add_lists (by mem_news) (by mem_news) (by none_booked) ?_; intro _)
    | (with_reducible refine o_add_str (by none_booked) ?_; intro _)
    | (with_reducible refine o_add_int ?_; intro _)
    | (with_reducible refine o_mod_int (by decide) ?_; intro _)
    | (with_reducible refine o_floordiv_int (by decide) (by decide +kernel) ?_; intro _)
    | (with_reducible refine o_sub_int ?_; intro _))
  | (with_reducible show Ev _ _ (subscriptTail _ _ _ _) _ _; first
    | (with_reducible refine o_slice_str (by mem_news) (by with_unfolding_all exact rfl) (by none_booked) ?_ (by with_unfolding_all rfl); intro _))
  | (with_reducible show Ev _ _ (newList _) _ _; first
    | (with_reducible refine o_newList (by none_booked) ?_; intro _))
  | (with_reducible show Ev _ _ (newTuple _) _ _; first
    | (with_reducible refine o_newTuple (by none_booked) ?_; intro _))
  | (with_reducible show Ev _ _ (inplaceOp _ _ _) _ _; first
    | (with_reducible refine o_iadd_str (by none_booked) ?_; intro _)
    | (with_reducible refine o_iadd_int ?_; intro _))
  | (with_reducible show Ev _ _ (unaryOp _ _) _ _; first
    | (with_reducible refine o_not ?_)
    | (with_reducible refine o_neg_int ?_; intro _))
  | (with_reducible show Ev _ _ (joinParts _ _) _ _; first
    | (with_reducible refine j_cons ?_)
    | (with_reducible refine j_more ?_)
    | (with_reducible refine j_nil (by none_booked) ?_; intro _))
  | (with_reducible refine opt_int ?_; intro _)
  | (with_reducible refine opt_int2 ?_; intro _)
  | (with_reducible refine pl_intro ?_; intro _)
  | (with_reducible refine ite_t ?_)
  | (with_reducible refine ite_f ?_)
  | (with_reducible refine ite_nt ?_)
  | (with_reducible refine ite_nf ?_)
  | fail)
local macro_rules | `(tactic| tb_rel) => `(tactic| repeat' (tb_start; try dsimp only [List.cons_append, List.nil_append]))
section
open PySem PySem.W PyProof.Rows PySem.Calls PySem.Spec
namespace Mine
section
variable {C : Cx} {E : Value → Shared → Prop} {st : St}
theorem o_item_list {value slice : PySem.Expr} {l : Addr} {vs : List Value} {n : Nat} {k : Int} {u : Tok} {v : Value} {Q : Value → St → Prop} (hm : (l, lst vs n) ∈ st.news) (h0 : 0 ≤ k) (hi : k < 2 ^ 63) (hx : vs[k.toNat]? = some v) (h : Q v st)
    (hs : subscripted slice false (.ref l) (.int k u) = operate [.ref l, .int k u] (getItem (.ref l) (.int k u))) : Ev C E (subscriptTail value slice (.ref l) (.int k u)) st Q := fun s H =>
  have hl := isList_of (H.at hm).1
  tail_any hl.typeIs slot_list_getitem.lookup (wpAny_getItem_list hl h0 hi (by simpa using hx) ⟨st, H.toHeld, h⟩) hs

def signs : List Str := ["a", "B", "7", "-", "\"", "\\", ",", " ", ";", "=", "é", "\t", "*", "\n"]
theorem law_signs (hr : 0 < C.room) {Q : Value → St → Prop} (h : ∀ l vs, TxA vs signs → Q (.ref l) ⟨st.m, (l, lst vs 0) :: st.news⟩) : Ev C E (call (.ref 249) []) st Q := by
  refine call_def (name := _) (binds := []) (by with_unfolding_all rfl) (by with_unfolding_all rfl) hr (by intro S; with_unfolding_all rfl) (by rfl) (by rfl) (by rfl) (by rfl) (by rfl) (by rfl) ?_
  intro C' hw hr' hC'
  repeat' (tb_start; try dsimp only)
  refine ⟨_, Sub.refl _, h _ _ ?_⟩
  exact .cons (.cons (.cons (.cons (.cons (.cons (.cons (.cons (.cons (.cons (.cons (.cons (.cons (.cons .nil)))))))))))))

def lawCode (n : Int) (p : Int) : Int := (n.fdiv 6).fdiv (4 ^ p.toNat) + p * 5
def lawSign (c : Int) : Str := if c.fmod 2 == 0 then signs.getD ((c.fdiv 2).fmod 14).toNat "" else ⟨#[(33 + (c.fdiv 2).fmod 94).toNat]⟩
def lawTextTo (n : Int) : Nat → Str
  | 0 => ""
  | i + 1 => lawTextTo n i ++ lawSign (lawCode n i)
def lawText (n : Int) : Str := lawTextTo n (n.fmod 6).toNat

theorem lawSign_length (c : Int) : (lawSign c).length = 1 := by
  unfold lawSign
  split
  · have h0 := Int.fmod_nonneg_of_pos (c.fdiv 2) (b := 14) (by decide)
    have h1 := Int.fmod_lt_of_pos (c.fdiv 2) (b := 14) (by decide)
    obtain ⟨k, hk⟩ := Int.eq_ofNat_of_zero_le h0
    rw [hk] at h1 ⊢
    have : k < 14 := by omega
    have key : ∀ k, k < 14 → (signs.getD k "").length = 1 := by decide
    exact key k this
  · rfl
theorem str_length_append (x y : Str) : (x ++ y).length = x.length + y.length := Str.length_append x y
theorem lawTextTo_length (n : Int) (i : Nat) : (lawTextTo n i).length = i := by
  induction i with
  | zero => rfl
  | succ i ih => rw [lawTextTo, str_length_append, ih, lawSign_length]
theorem pow4_pos (i : Nat) : (0 : Int) < 4 ^ (i : Int).toNat := Int.pow_pos (by decide)
theorem pow4_small (i : Nat) (h : i < 6) : ((4 : Int) ^ (i : Int).toNat).natAbs.log2 < 11 := by
  have key : ∀ i : Nat, i < 6 → ((4 : Int) ^ (i : Int).toNat).natAbs.log2 < 11 := by decide
  exact key i h
theorem law_text {n : Int} {tn : Tok} (hr : 1 < C.room) {Q : Value → St → Prop} (h : ∀ t, Q (.str (lawText n) t) st) : Ev C E (call (.ref 289) [.int n tn]) st Q := by
  refine call_def (name := _) (binds := [("number", .int n tn)]) (by with_unfolding_all rfl) (by with_unfolding_all rfl) (by omega) (by intro S; with_unfolding_all rfl) (by rfl) (by rfl) (by rfl) (by rfl) (by rfl) (by rfl) ?_
  intro C' hw hr' hC'
  tb_rel
  refine x_for_range ?_ (fun _ => rfl) (by kernel_rfl!) (by kernel_rfl!) (by kernel_rfl!)
  tb_rel
  have hb0 := Int.fmod_nonneg_of_pos n (b := 6) (by decide)
  have hb1 := Int.fmod_lt_of_pos n (b := 6) (by decide)
  refine ⟨_, _, _, _, _, (fun i s => look s.m "number" = some (.int n tn) ∧ (∃ t, look s.m "text" = some (.str (lawTextTo n i) t)) ∧ s.news = st.news), rfl, by mem_news, ⟨hb0, by omega⟩, ?_⟩
  refine ⟨fun _ _ _ _ h => (by cases h), ?_, ?_, ?_⟩
  · exact ⟨st.news, .cons _ (.refl _), by krn_off, ⟨_, by krn_off⟩, rfl⟩
  · rintro i v st₂ I oI hi ⟨tv, rfl⟩ ⟨h1, ⟨tt, h2⟩, h3⟩
    obtain ⟨m₂, n₂⟩ := st₂
    dsimp only at h1 h2 h3 ⊢
    subst h3
    have hi5 : i < 6 := by omega
    have hlen : (lawTextTo n i).length = i := lawTextTo_length n i
    tb_rel
    refine o_pow_int (by omega) (by have : Builtin.Int.intBits 4 = 3 := (by decide); rw [this]; omega) fun t1 => ?_
    refine o_floordiv_int (by have := pow4_pos i; omega) (by have := pow4_small i hi5; omega) fun t2 => ?_
    tb_rel
    refine o_mul_int (IntMulOk.of_right (by decide)) fun t3 => ?_
    tb_rel
    have hcode : (n.fdiv 6).fdiv (4 ^ (i : Int).toNat) + (i : Int) * 5 = lawCode n i := rfl
    rw [hcode]
    generalize hc' : lawCode n i = c
    have hturn : lawTextTo n (i + 1) = lawTextTo n i ++ lawSign c := by rw [lawTextTo, hc']
    have hsg := lawSign_length c
    cases hc : c.fmod 2 == 0
    · simp only [Bool.false_eq_true, if_false]
      tb_rel
      have g0 := Int.fmod_nonneg_of_pos (c.fdiv 2) (b := 94) (by decide)
      have g1 := Int.fmod_lt_of_pos (c.fdiv 2) (b := 94) (by decide)
      refine o_chr (by omega) (by omega) fun t4 => ?_
      have e : (⟨#[(33 + (c.fdiv 2).fmod 94).toNat]⟩ : Str) = lawSign c := by unfold lawSign; rw [hc]; rfl
      rw [e]
      refine o_add_str (by rw [sizeLine_eq]; omega) fun t5 => ?_
      rw [← hturn]
      tb_rel
      exact ⟨st.news, .refl _, by krn_off, ⟨_, by krn_off⟩, rfl⟩
    · simp only [if_true]
      tb_rel
      refine law_signs (by omega) fun l vs hv => ?_
      tb_rel
      have g0 := Int.fmod_nonneg_of_pos (c.fdiv 2) (b := 14) (by decide)
      have g1 := Int.fmod_lt_of_pos (c.fdiv 2) (b := 14) (by decide)
      obtain ⟨k, hk⟩ := Int.eq_ofNat_of_zero_le g0
      rw [hk] at g1 ⊢
      have hk14 : k < signs.length := by show k < 14; omega
      obtain ⟨t4, ht4⟩ := hv.get (List.getElem?_eq_getElem hk14)
      refine o_item_list (by mem_news) (by omega) (by omega) ht4 ?_ (by with_unfolding_all rfl)
      have e : signs[k] = lawSign c := by unfold lawSign; rw [hc, hk]; simp [List.getD, hk14]
      rw [e]
      refine o_add_str (by rw [sizeLine_eq]; omega) fun t5 => ?_
      rw [← hturn]
      tb_rel
      exact ⟨st.news, by got_up, by krn_off, ⟨_, by krn_off⟩, rfl⟩
  · rintro ⟨m₂, n₂⟩ ⟨h1, ⟨tt, h2⟩, h3⟩
    dsimp only at h1 h2 h3 ⊢
    subst h3
    tb_rel
    exact ⟨_, .refl _, h _⟩
end
end Mine
end
section
open PySem PySem.W PyProof.Rows PySem.Calls PySem.Spec
namespace Mine
section
variable {C : Cx} {E : Value → Shared → Prop} {st : St}

theorem law_dumped {x : Str} {t : Tok} (hx : x.length ≤ 1000) (hr : 0 < C.room) {Q : Value → St → Prop} (h : ∀ t, Q (.str (dumped x) t) st) : Ev C E (call (.ref 296) [.str x t]) st Q := by
  refine call_def (name := _) (binds := [("text", .str x t)]) (by with_unfolding_all rfl) (by with_unfolding_all rfl) (by omega) (by intro S; with_unfolding_all rfl) (by rfl) (by rfl) (by rfl) (by rfl) (by rfl) (by rfl) ?_
  intro C' hw hr' hC'
  tb_rel
  refine x_for_str ?_ (fun _ => rfl) (by kernel_rfl!) (by kernel_rfl!) (by kernel_rfl!)
  tb_rel
  refine ⟨_, _, (fun i s => look s.m "text" = some (.str x t) ∧ look s.m "plain" = some (.bool (x != "" && (x.cps.toList.take i).all isTok)) ∧ s.news = st.news), rfl, ?_⟩
  refine ⟨fun _ _ _ _ h => (by cases h), ?_, ?_, ?_⟩
  · exact ⟨st.news, .refl _, by krn_off, by simp only [List.take_zero, List.all_nil, Bool.and_true]; krn_off, rfl⟩
  · rintro i v st₂ I oI hi ⟨c, u, hc, rfl⟩ ⟨h1, h2, h3⟩
    obtain ⟨m₂, n₂⟩ := st₂
    dsimp only at h1 h2 h3 ⊢
    subst h3
    have hnext : (x.cps.toList.take (i + 1)).all isTok = ((x.cps.toList.take i).all isTok && isTok c) := by
      rw [List.take_add_one, Array.getElem?_toList, hc]; simp
    rw [hnext]
    have hT := lawToks_ok c
    tb_rel
    rw [contains_one]
    change if (!(lawToks.cps.toList.contains c)) = true then _ else _
    cases hb : lawToks.cps.toList.contains c with
    | true =>
      rw [hb, Bool.true_or] at hT
      rw [← hT, Bool.and_true]
      tb_rel
      exact ⟨st.news, .refl _, by krn_off, by krn_off, rfl⟩
    | false =>
      rw [hb, Bool.false_or] at hT
      tb_rel
      refine o_chr (by decide) (by decide) fun t1 => ?_
      tb_rel
      rw [← hT]
      have e : ((⟨#[c]⟩ : Str) != ⟨#[(96 : Int).toNat]⟩) = !(c == 96) := by
        by_cases h96 : c = 96
        · subst h96; decide
        · have : (c == 96) = false := beq_eq_false_iff_ne.mpr h96
          rw [this]
          simp [h96]
      rw [e]
      cases h96 : c == 96 with
      | true =>
        rw [Bool.and_true]
        tb_rel
        exact ⟨st.news, .refl _, by krn_off, by krn_off, rfl⟩
      | false =>
        rw [Bool.and_false, Bool.and_false]
        tb_rel
        exact ⟨st.news, .refl _, by krn_off, by krn_off, rfl⟩
  · rintro ⟨m₂, n₂⟩ ⟨h1, h2, h3⟩
    dsimp only at h1 h2 h3 ⊢
    subst h3
    have e0 : x.cps.toList.take x.cps.size = x.cps.toList := by rw [← Array.length_toList, List.take_length]
    rw [e0] at h2
    have hd : dumped x = if (x != "" && x.cps.toList.all isTok) = true then x else quoted x := rfl
    tb_rel
    cases hb : (x != "" && x.cps.toList.all isTok) with
    | true =>
      rw [hb] at hd
      tb_rel
      exact ⟨_, .refl _, by rw [← show dumped x = x from hd]; exact h _⟩
    | false =>
      rw [hb] at hd
      tb_rel
      have zc := sz_c hx
      have zd := sz_d hx
      refine m_replace (by assumption) (by assumption) (by assumption) (sz_a hx) fun t1 => ?_
      tb_rel
      refine m_replace (by assumption) (by assumption) (by assumption) (sz_b hx) fun t2 => ?_
      tb_rel
      refine ⟨_, .refl _, ?_⟩
      have hd' : dumped x = quoted x := hd.trans (if_neg Bool.false_ne_true)
      change Q (.str (quoted x) _) _
      rw [← hd']
      exact h _
end
end Mine
end
section
open PySem PySem.W PyProof.Rows PySem.Calls PySem.Spec
namespace Mine
section
variable {C : Cx} {E : Value → Shared → Prop} {st : St}

theorem quote_header {x : Str} {t : Tok} (hx : x.length ≤ 1000) (hr : 0 < C.room) {Q : Value → St → Prop} (h : ∀ t, Q (.str (dumped x) t) st) : Ev C E (call (.ref 53) [.str x t]) st Q := by
  refine call_defC (name := _) (xc := "token_chars") (binds := [("value", .str x t), ("allow_token", .bool true)]) (by with_unfolding_all rfl) (by with_unfolding_all rfl) (by omega) (by intro S; with_unfolding_all rfl) (by rfl) (by rfl) (by intro n; rfl) (by rfl) (by rfl) (by rfl) ?_
  intro C' oc hw hr' hC' hoc
  have hxs : x.length ≤ sizeLine := by rw [sizeLine_eq]; omega
  tb_rel
  have hne : (((x.length : Nat) : Int) != 0) = (x != "") := by
    rw [Bool.eq_iff_iff]
    simp only [bne_iff_ne, ne_eq, Int.natCast_eq_zero]
    refine not_congr ⟨fun e => ?_, fun e => by rw [e]; rfl⟩
    obtain ⟨c⟩ := x
    have : c = #[] := Array.eq_empty_of_size_eq_zero e
    rw [this]; rfl
  rw [hne]
  cases hb : (x != "") with
  | false =>
    tb_rel
    have e : x = "" := by simpa using hb
    refine ⟨st.news, by got_up, ?_⟩
    subst e
    have e2 : dumped "" = "\"\"" := by decide +kernel
    rw [← e2]
    exact h _
  | true =>
    tb_rel
    refine x_assignC ?_ (by kernel_rfl!) (c := C'.L + 1) (by with_unfolding_all rfl) (by kernel_rfl!) (by kernel_rfl!)
    tb_rel
    refine ⟨[], st.news, oc, _, rfl, hoc, fun o' ho' => ?_⟩
    dsimp only [List.nil_append]
    repeat' ((fail_if_success (with_reducible show Ev _ _ (callWith _ _ _ _ _) _ _)); tb_start; try dsimp only [List.cons_append, List.nil_append])
    refine cw_all_str (y := x) (t := t) (z := tokenChars) (u := 307) (c := C'.L + 1) (oc := o') ?_ (by mem_news) ho' (by with_unfolding_all rfl) (by kernel_rfl!) (by kernel_rfl!) (by kernel_rfl!) (by kernel_rfl!) (by with_unfolding_all rfl) (fun _ => by with_unfolding_all rfl) ?_
    · tb_rel
      exact ⟨rfl, rfl⟩
    change Ev C' NoE (truthy (Value.bool (isTokS x))) _ _
    have hd : dumped x = if isTokS x = true then x else quoted x := by
      unfold dumped; rw [hb, Bool.true_and]
    tb_rel
    cases hq : isTokS x with
    | true =>
      rw [hq, if_pos rfl] at hd
      tb_rel
      exact ⟨st.news, by got_up, by rw [← show dumped x = x from hd]; exact h _⟩
    | false =>
      rw [hq, if_neg Bool.false_ne_true] at hd
      tb_rel
      have zc := sz_c hx
      have zd := sz_d hx
      refine m_replace (by assumption) (by assumption) (by assumption) (sz_a hx) fun t1 => ?_
      tb_rel
      refine m_replace (by assumption) (by assumption) (by assumption) (sz_b hx) fun t2 => ?_
      tb_rel
      refine ⟨_, _, rfl, by decide, ?_⟩
      rw [str_empty_append]
      tb_rel
      have zr := rep2_length x
      refine ⟨_, _, rfl, by rw [sizeLine_eq]; omega, fun t3 => ?_⟩
      refine ⟨_, _, rfl, by rw [str_length_append]; exact zc, ?_⟩
      tb_rel
      have zz : ("\"" ++ Txt.replace (Txt.replace x "\\" "\\\\") "\"" "\\\"" ++ "\"").length ≤ sizeLine := by rw [str_length_append]; exact zd
      refine ⟨_, _, rfl, zz, ?_⟩
      tb_rel
      refine ⟨st.news, by got_up, ?_⟩
      change Q (.str (quoted x) _) _
      rw [← hd]
      exact h _
end
end Mine
end
section
open PySem PySem.W PyProof.Rows PySem.Calls PySem.Spec
namespace Mine
section
variable {C : Cx} {E : Value → Shared → Prop} {st : St}

theorem lamQ_eq : (("unquote_header_value" : Str) ++ ".<locals>.") ++ "<lambda>" = lamQ := by decide +kernel
def uq (x : Str) : Str := if (decide ((2 : Int) ≤ x.length) && Txt.startswith x "\"" && Txt.endswith x "\"") then unslash ⟨x.cps.extract 1 (x.cps.size - 1)⟩ else x
theorem unquote_hv {x : Str} {t : Tok} (hx : x.length ≤ 100000) (hr : 2 < C.room) {Q : Value → St → Prop} (h : ∀ t, Q (.str (uq x) t) st) : Ev C E (call (.ref 65) [.str x t]) st Q := by
  refine call_def (name := _) (binds := [("value", .str x t)]) (by with_unfolding_all rfl) (by with_unfolding_all rfl) (by omega) (by intro S; with_unfolding_all rfl) (by rfl) (by rfl) (by rfl) (by rfl) (by rfl) (by rfl) ?_
  intro C' hw hr' hC'
  have hxs : x.length ≤ sizeLine := by rw [sizeLine_eq]; omega
  have hu : uq x = if (decide ((2 : Int) ≤ x.length) && Txt.startswith x "\"" && Txt.endswith x "\"") then unslash ⟨x.cps.extract 1 (x.cps.size - 1)⟩ else x := rfl
  tb_rel
  cases h1 : decide ((2 : Int) ≤ x.length) with
  | false =>
    rw [h1] at hu
    tb_rel
    exact ⟨st.news, by got_up, by rw [← show uq x = x from hu]; exact h _⟩
  | true =>
    rw [h1] at hu
    tb_rel
    cases h2 : Txt.startswith x "\"" with
    | false =>
      rw [h2] at hu
      tb_rel
      exact ⟨st.news, by got_up, by rw [← show uq x = x from hu]; exact h _⟩
    | true =>
      rw [h2] at hu
      tb_rel
      cases h3 : Txt.endswith x "\"" with
      | false =>
        rw [h3] at hu
        tb_rel
        exact ⟨st.news, by got_up, by rw [← show uq x = x from hu]; exact h _⟩
      | true =>
        rw [h3] at hu
        have h1' := of_decide_eq_true h1
        repeat' ((fail_if_success (with_reducible show Ev _ _ (getMethod (Value.ref _) _ _) _ _)); tb_start; try dsimp only [List.cons_append, List.nil_append])
        refine gm_sub ?_
        dsimp only
        have hin : (⟨x.cps.extract 1 (x.cps.size - 1)⟩ : Str).length ≤ 1000000 := by
          show (x.cps.extract 1 (x.cps.size - 1)).size ≤ _
          rw [Array.size_extract]
          have : x.cps.size ≤ 100000 := hx
          omega
        refine cw_sub (x := ⟨x.cps.extract 1 (x.cps.size - 1)⟩) (by kernel_rfl!) (by kernel_rfl!) (by kernel_rfl!) ?_ (by kernel_rfl!) (by kernel_rfl!) (by kernel_rfl!) ?_ hin (by omega) fun t1 => ?_
        · dsimp only [envOf]
          exact lamQ_eq
        · intro s0 δ0 f fo
          tb_rel
          exact ⟨⟨_, congrArg (fun z => Value.str z _) (slice_inner x (by omega))⟩, rfl, by got_up⟩
        · tb_rel
          refine ⟨st.news, by got_up, ?_⟩
          rw [← show uq x = unslash ⟨x.cps.extract 1 (x.cps.size - 1)⟩ from hu]; exact h _
end
end Mine
end
section
open PySem PySem.W PyProof.Rows PySem.Calls PySem.Spec
namespace Mine
section
variable {C : Cx} {E : Value → Shared → Prop} {st : St}
theorem len_ne (x : Str) : (((x.length : Nat) : Int) != 0) = (x != "") := by
  rw [Bool.eq_iff_iff]
  simp only [bne_iff_ne, ne_eq, Int.natCast_eq_zero]
  refine not_congr ⟨fun e => ?_, fun e => by rw [e]; rfl⟩
  obtain ⟨c⟩ := x
  have : c = #[] := Array.eq_empty_of_size_eq_zero e
  rw [this]; rfl
def strips (x : Str) : Str := Txt.stripChars x " \t"
def plist (x : Str) : List Str := if (prun x.cps.toList).quo then [] else ((((prun x.cps.toList).items ++ [(prun x.cps.toList).item]).map strips).filter (fun y => y != ("" : Str))).map uq
set_option maxHeartbeats 4000000 in
theorem parse_list {x : Str} {t : Tok} (hx : x.length ≤ 50000) (hr : 3 < C.room) {Q : Value → St → Prop} (h : ∀ l ys k, TxA ys (plist x) → Q (.ref l) ⟨st.m, (l, lst ys k) :: st.news⟩) : Ev C E (call (.ref 75) [.str x t]) st Q := by
  refine call_def (name := _) (binds := [("value", .str x t)]) (by with_unfolding_all rfl) (by with_unfolding_all rfl) (by omega) (by intro S; with_unfolding_all rfl) (by rfl) (by rfl) (by rfl) (by rfl) (by rfl) (by rfl) ?_
  intro C' hw hr' hC'
  have hxs : x.length ≤ sizeLine := by rw [sizeLine_eq]; omega
  have hxl : x.cps.toList.length = x.length := by rw [Array.length_toList]; rfl
  tb_rel
  rename_i l0 t0
  refine x_for_str ?_ (fun _ => rfl) (by kernel_rfl!) (by kernel_rfl!) (by kernel_rfl!)
  tb_rel
  refine ⟨_, _, (fun i s => ∃ ps k ti, look s.m "value" = some (.str x t) ∧ look s.m "items" = some (.ref l0) ∧ look s.m "item" = some (.str (prun (x.cps.toList.take i)).item ti) ∧ look s.m "escape" = some (.bool (prun (x.cps.toList.take i)).esc) ∧
    look s.m "quote" = some (.bool (prun (x.cps.toList.take i)).quo) ∧ TxA ps (prun (x.cps.toList.take i)).items ∧ s.news = (l0, lst ps k) :: st.news), rfl, ?_⟩
  refine ⟨fun _ _ _ _ h => (by cases h), ?_, ?_, ?_⟩
  · exact ⟨_, .refl _, [], 0, _, by krn_off, by krn_off, by rw [List.take_zero]; krn_off, by rw [List.take_zero]; krn_off, by rw [List.take_zero]; krn_off, by rw [List.take_zero]; exact .nil, rfl⟩
  · rintro i v st₂ I oI hi ⟨c, u, hc, rfl⟩ ⟨ps, k, ti, h0, h1, h2, h3, h4, h5, h6⟩
    obtain ⟨m₂, n₂⟩ := st₂
    dsimp only at h0 h1 h2 h3 h4 h5 h6 ⊢
    subst h6
    have hnext : prun (x.cps.toList.take (i + 1)) = pstep (prun (x.cps.toList.take i)) c := by
      rw [List.take_add_one, Array.getElem?_toList, hc]
      exact prun_snoc _ _
    have hsz := prun_sizes (x.cps.toList.take i)
    rw [List.length_take, hxl] at hsz
    have hi' : i < x.length := hi
    rw [hnext]
    generalize prun (x.cps.toList.take i) = S at h2 h3 h4 h5 hsz ⊢
    obtain ⟨items, item, esc, quo⟩ := S
    dsimp only at h2 h3 h4 h5 hsz
    have hpl := h5.length
    have hps : ps.length ≤ sizeLine := by rw [sizeLine_eq]; omega
    have e92 : (Str.ofString "\\") = ⟨#[92]⟩ := by decide
    have e34 : (Str.ofString "\"") = ⟨#[34]⟩ := by decide
    have e44 : (Str.ofString ",") = ⟨#[44]⟩ := by decide
    have hz1 : item.length + (⟨#[c]⟩ : Str).length ≤ sizeLine := by
      show item.length + 1 ≤ _
      rw [sizeLine_eq]; omega
    cases esc with
    | true =>
      tb_rel
      have e5 : pstep ⟨items, item, true, quo⟩ c = ⟨items, item ++ ⟨#[c]⟩, false, quo⟩ := by simp [pstep]
      rw [e5]
      exact ⟨_, .refl _, ps, k, _, by krn_off, by krn_off, by krn_off, by krn_off, by krn_off, h5, rfl⟩
    | false =>
      cases quo with
      | true =>
        tb_rel
        rw [e92, one_eq]
        cases h92 : c == 92 with
        | true =>
          tb_rel
          have ec : c = 92 := eq_of_beq h92
          subst ec
          have e5 : pstep ⟨items, item, false, true⟩ 92 = ⟨items, item ++ ⟨#[92]⟩, true, true⟩ := by simp [pstep]
          rw [e5]
          exact ⟨_, .refl _, ps, k, _, by krn_off, by krn_off, by krn_off, by krn_off, by krn_off, h5, rfl⟩
        | false =>
          tb_rel
          rw [e34, one_eq]
          cases h34 : c == 34 with
          | true =>
            tb_rel
            have ec : c = 34 := eq_of_beq h34
            subst ec
            have e5 : pstep ⟨items, item, false, true⟩ 34 = ⟨items, item ++ ⟨#[34]⟩, false, false⟩ := by simp [pstep]
            rw [e5]
            exact ⟨_, .refl _, ps, k, _, by krn_off, by krn_off, by krn_off, by krn_off, by krn_off, h5, rfl⟩
          | false =>
            tb_rel
            have e5 : pstep ⟨items, item, false, true⟩ c = ⟨items, item ++ ⟨#[c]⟩, false, true⟩ := by simp [pstep, h92, h34]
            rw [e5]
            exact ⟨_, .refl _, ps, k, _, by krn_off, by krn_off, by krn_off, by krn_off, by krn_off, h5, rfl⟩
      | false =>
        tb_rel
        rw [e44, one_eq]
        cases h44 : c == 44 with
        | true =>
          tb_rel
          have ec : c = 44 := eq_of_beq h44
          subst ec
          have e5 : pstep ⟨items, item, false, false⟩ 44 = ⟨items ++ [item], "", false, false⟩ := by simp [pstep]
          rw [e5]
          exact ⟨_, .refl _, _, _, _, by krn_off, by krn_off, by krn_off, by krn_off, by krn_off, h5.snoc _ _, rfl⟩
        | false =>
          tb_rel
          rw [e34, one_eq]
          cases h34 : c == 34 with
          | true =>
            tb_rel
            have e5 : pstep ⟨items, item, false, false⟩ c = ⟨items, item ++ ⟨#[c]⟩, false, true⟩ := by simp [pstep, h44, h34]
            rw [e5]
            exact ⟨_, .refl _, ps, k, _, by krn_off, by krn_off, by krn_off, by krn_off, by krn_off, h5, rfl⟩
          | false =>
            tb_rel
            have e5 : pstep ⟨items, item, false, false⟩ c = ⟨items, item ++ ⟨#[c]⟩, false, false⟩ := by simp [pstep, h44, h34]
            rw [e5]
            exact ⟨_, .refl _, ps, k, _, by krn_off, by krn_off, by krn_off, by krn_off, by krn_off, h5, rfl⟩
  · rintro ⟨m₂, n₂⟩ ⟨ps, k, ti, h0, h1, h2, h3, h4, h5, h6⟩
    dsimp only at h0 h1 h2 h3 h4 h5 h6 ⊢
    subst h6
    have e0 : x.cps.toList.take x.cps.size = x.cps.toList := by rw [← Array.length_toList, List.take_length]
    rw [e0] at h2 h3 h4 h5
    have hsz := prun_sizes x.cps.toList
    have hmem := prun_mem x.cps.toList
    have hd : plist x = if (prun x.cps.toList).quo then [] else ((((prun x.cps.toList).items ++ [(prun x.cps.toList).item]).map strips).filter (fun y => y != ("" : Str))).map uq := rfl
    rw [hxl] at hsz
    generalize prun x.cps.toList = S at h2 h3 h4 h5 hsz hmem hd
    obtain ⟨items, item, esc, quo⟩ := S
    dsimp only at h2 h3 h4 h5 hsz hmem hd
    have hpl := h5.length
    have hps : ps.length ≤ sizeLine := by rw [sizeLine_eq]; omega
    cases quo with
    | true =>
      rw [if_pos rfl] at hd
      tb_rel
      refine ⟨_, Sub.cons₂ _ (Sub.cons _ (.refl _)), h _ [] _ ?_⟩
      rw [hd]; exact .nil
    | false =>
      rw [if_neg Bool.false_ne_true] at hd
      tb_rel
      have hT := h5.snoc item ti
      have hlen : ∀ y ∈ items ++ [item], y.length ≤ 50000 := by
        intro y hy
        rcases List.mem_append.mp hy with hy | hy
        · exact Nat.le_trans (hmem y hy) (by rw [hxl]; omega)
        · rw [List.mem_singleton.mp hy]; omega
      refine e_lc_gen (xs := items ++ [item]) (pz := fun i => match (items ++ [item])[i]? with | some y => strips y != "" | none => false) (G := fun i y => ∃ a u, (items ++ [item])[i]? = some a ∧ y = .str (uq (strips a)) u)
        (by tb_rel; exact ⟨rfl, rfl⟩) (.head _) hT (fun y hy => by have := hlen y hy; rw [sizeLine_eq]; omega) (by rw [List.length_append, List.length_singleton, sizeLine_eq]; omega) (by kernel_rfl!) (by kernel_rfl!) (by kernel_rfl!) (by kernel_rfl!) (by kernel_rfl!) (fun _ => by with_unfolding_all rfl) (by kernel_rfl!) (fun _ => by with_unfolding_all rfl) (by kernel_rfl!) (by decide) (by with_unfolding_all rfl) (by decide) (by with_unfolding_all rfl) ⟨?_, ?_⟩ ?_
      · rintro C2 i v Cc oC rr mc hroom hw2 hi ⟨y, u, hy, rfl⟩ hns hmc
        refine tests_one ?_
        have hly := hlen y (List.mem_of_getElem? hy)
        have hls := PyProof.Rows.len_stripChars y " \t"
        have hzz : (Txt.stripChars y " \t").length ≤ sizeLine := by rw [sizeLine_eq]; omega
        tb_rel
        refine ⟨?_, rfl, .refl _⟩
        rw [hy]
        exact len_ne _
      · rintro C2 i v Cc oC rr mc hroom hw2 hi ⟨y, u, hy, rfl⟩ hpz hns hmc
        have hly := hlen y (List.mem_of_getElem? hy)
        have hls := PyProof.Rows.len_stripChars y " \t"
        tb_rel
        refine unquote_hv (by omega) (by omega) fun u' => ?_
        exact ⟨⟨y, u', hy, rfl⟩, rfl, .refl _⟩
      · intro D ys k' hIm
        refine ⟨_, Sub.cons₂ _ (Sub.cons _ (.refl _)), h _ ys _ ?_⟩
        rw [hd]
        have := Im.strs (S := items ++ [item]) (p := fun y => strips y != "") (f := fun y => uq (strips y)) (fun i a e => by rw [e]) (fun i y h => h) hIm (Nat.le_refl _)
        rw [List.take_length] at this
        rw [List.filter_map, List.map_map]
        exact this
end
end Mine
end
section
open PySem PySem.W PyProof.Rows PySem.Calls PySem.Spec
namespace Mine
section
variable {C : Cx} {E : Value → Shared → Prop} {st : St}
/-- the sum of the sizes of a join's texts, each with its separator -/
def jsum (sep : Str) (xs : List Str) : Nat := xs.foldl (fun a x => a + x.length + sep.length) 0
theorem joinOk_of {sep : Str} {xs : List Str} (h : jsum sep xs ≤ sizeLine) : JoinOk sep xs = true := by
  unfold JoinOk
  rw [← Array.foldl_toList]
  show (!Builtin.Str.tooLong (jsum sep xs)) = true
  unfold Builtin.Str.tooLong
  simp
  omega
theorem jsum_from (sep : Str) : ∀ (xs : List Str) (a : Nat), xs.foldl (fun a x => a + x.length + sep.length) a = a + jsum sep xs := by
  intro xs
  induction xs with
  | nil => intro a; rfl
  | cons x r ih =>
    intro a
    unfold jsum
    rw [List.foldl_cons, List.foldl_cons, ih, ih]
    omega
theorem jsum_le {sep : Str} {n : Nat} : ∀ {xs : List Str}, (∀ x ∈ xs, x.length ≤ n) → jsum sep xs ≤ xs.length * (n + sep.length)
  | [], _ => Nat.zero_le _
  | x :: r, h => by
    have h1 := h x (.head _)
    have ih := jsum_le (sep := sep) (xs := r) fun y hy => h y (.tail _ hy)
    unfold jsum
    rw [List.foldl_cons, jsum_from, List.length_cons, Nat.succ_mul]
    omega
theorem dump_list {l : Addr} {vs : List Value} {n : Nat} {xs : List Str} (hm : (l, lst vs n) ∈ st.news) (hx : TxA vs xs) (hxs : ∀ x ∈ xs, x.length ≤ 1000) (hlen : xs.length ≤ 1000) (hr : 1 < C.room) {Q : Value → St → Prop} (h : ∀ t, Q (.str (Txt.join ", " (xs.map dumped)) t) st) : Ev C E (call (.ref 70) [.ref l]) st Q := by
  refine call_def (name := _) (binds := [("iterable", .ref l)]) (by with_unfolding_all rfl) (by with_unfolding_all rfl) (by omega) (by intro S; with_unfolding_all rfl) (by rfl) (by rfl) (by rfl) (by rfl) (by rfl) (by rfl) ?_
  intro C' hw hr' hC'
  tb_rel
  refine x_assign_lc ?_ (by kernel_rfl!) (fun _ => by with_unfolding_all rfl) (by kernel_rfl!) (by decide) (by with_unfolding_all rfl) (by decide) (by with_unfolding_all rfl) (by kernel_rfl!) (by kernel_rfl!) (by kernel_rfl!)
  tb_rel
  have hl := hx.length
  refine ⟨l, vs, n, fun _ => true, fun i y => ∃ a u, xs[i]? = some a ∧ y = .str (dumped a) u, rfl, hm, by rw [sizeLine_eq]; omega, ⟨?_, ?_⟩, ?_⟩
  · rintro C2 i v Cc oC rr mc hroom hw2 hi hP hns hmc
    exact tests_nil
  · rintro C2 i v Cc oC rr mc hroom hw2 hi hP hpz hns hmc
    obtain ⟨y, u, hy, rfl⟩ := hx.at hP
    have := hxs y (List.mem_of_getElem? hy)
    tb_rel
    refine quote_header (by omega) (by omega) fun u' => ?_
    exact ⟨⟨y, u', hy, rfl⟩, rfl, .refl _⟩
  · intro D ys k hIm
    rw [hl] at hIm
    have hT := Im.all_strs (S := xs) (f := dumped) (fun i y h => h) hIm
    tb_rel
    refine m_join (.head _) hT ?_ fun t' => ?_
    · refine joinOk_of (Nat.le_trans (jsum_le (n := 2002) ?_) ?_)
      · intro z hz
        obtain ⟨x, hx', rfl⟩ := List.mem_map.mp hz
        have := hxs x hx'
        have := dumped_length x
        omega
      · rw [List.length_map, show (", " : Str).length = 2 by decide, sizeLine_eq]
        omega
    · exact ⟨st.news, by got_up, h _⟩
end
end Mine
end
section
open PySem PySem.W PyProof.Rows PySem.Calls PySem.Spec
namespace Mine
section
variable {C : Cx} {E : Value → Shared → Prop} {st : St}
def lawNames : List Str := ["Accept", "accept", "Vary", "x y", "VARY", "q\"r", "z"]
theorem law_names (hr : 0 < C.room) {Q : Value → St → Prop} (h : ∀ l vs, TxA vs lawNames → Q (.ref l) ⟨st.m, (l, lst vs 0) :: st.news⟩) : Ev C E (call (.ref 282) []) st Q := by
  refine call_def (name := _) (binds := []) (by with_unfolding_all rfl) (by with_unfolding_all rfl) hr (by intro S; with_unfolding_all rfl) (by rfl) (by rfl) (by rfl) (by rfl) (by rfl) (by rfl) ?_
  intro C' hw hr' hC'
  tb_rel
  refine ⟨_, Sub.refl _, h _ _ ?_⟩
  exact .cons (.cons (.cons (.cons (.cons (.cons (.cons .nil))))))
/-- the place of a name among rows, by its lower case; -1 if none -/
def placeIn (rows : List Str) (name : Str) : Int := match rows.findIdx? (fun r => Txt.lower r == Txt.lower name) with
  | some i => i
  | none => -1
theorem placeIn_hit {rows : List Str} {name r : Str} {i : Nat} (hno : ∀ (j : Nat) (x : Str), j < i → rows[j]? = some x → (Txt.lower x == Txt.lower name) = false) (hr : rows[i]? = some r) (h : (Txt.lower r == Txt.lower name) = true) : placeIn rows name = i := by
  have e : rows.findIdx? (fun r => Txt.lower r == Txt.lower name) = some i := by
    rw [List.findIdx?_eq_some_iff_getElem]
    obtain ⟨hi, rfl⟩ := List.getElem?_eq_some_iff.mp hr
    exact ⟨hi, h, fun j hj => by rw [hno j rows[j] hj (List.getElem?_eq_getElem (by omega))]; exact Bool.false_ne_true⟩
  unfold placeIn
  rw [e]
theorem placeIn_miss {rows : List Str} {name : Str} (hno : ∀ (j : Nat) (x : Str), rows[j]? = some x → (Txt.lower x == Txt.lower name) = false) : placeIn rows name = -1 := by
  have e : rows.findIdx? (fun r => Txt.lower r == Txt.lower name) = none := by
    rw [List.findIdx?_eq_none_iff]
    intro x hx
    obtain ⟨j, hj, rfl⟩ := List.mem_iff_getElem.mp hx
    exact hno j _ (List.getElem?_eq_getElem hj)
  unfold placeIn
  rw [e]
theorem law_place {l : Addr} {vs : List Value} {n : Nat} {rows : List Str} {name : Str} {u : Tok} (hm : (l, lst vs n) ∈ st.news) (hx : TxA vs rows) (hrows : ∀ x ∈ rows, x.length ≤ 1000) (hlen : rows.length ≤ 1000) (hn : name.length ≤ 1000) (hr : 0 < C.room) {Q : Value → St → Prop} (h : ∀ t, Q (.int (placeIn rows name) t) st) :
    Ev C E (call (.ref 315) [.ref l, .str name u]) st Q := by
  refine call_def (name := _) (binds := [("rows", .ref l), ("name", .str name u)]) (by with_unfolding_all rfl) (by with_unfolding_all rfl) (by omega) (by intro S; with_unfolding_all rfl) (by rfl) (by rfl) (by rfl) (by rfl) (by rfl) (by rfl) ?_
  intro C' hw hr' hC'
  have hl := hx.length
  have hz : vs.length ≤ sizeLine := by rw [sizeLine_eq]; omega
  tb_rel
  refine x_for_range ?_ (fun _ => rfl) (by kernel_rfl!) (by kernel_rfl!) (by kernel_rfl!)
  tb_rel
  refine ⟨_, _, _, _, _, (fun i s => look s.m "rows" = some (.ref l) ∧ look s.m "name" = some (.str name u) ∧ s.news = st.news ∧ ∀ j x, j < i → rows[j]? = some x → (Txt.lower x == Txt.lower name) = false), rfl, by mem_news, ⟨by omega, by omega⟩, ?_⟩
  refine ⟨fun _ _ _ _ h => (by cases h), ?_, ?_, ?_⟩
  · exact ⟨st.news, .cons _ (.refl _), by krn_off, by krn_off, rfl, fun j x hj => absurd hj (Nat.not_lt_zero _)⟩
  · rintro i v st₂ I oI hi ⟨tv, rfl⟩ ⟨h1, h2, h3, h4⟩
    obtain ⟨m₂, n₂⟩ := st₂
    dsimp only at h1 h2 h3 h4 ⊢
    subst h3
    have hi' : i < rows.length := by omega
    obtain ⟨t4, ht4⟩ := hx.get (List.getElem?_eq_getElem hi')
    have hry := hrows rows[i] (List.getElem_mem hi')
    tb_rel
    refine o_item_list (by mem_news) (by omega) (by omega) ht4 ?_ (by with_unfolding_all rfl)
    tb_rel
    refine m_lower (fit_lower (by omega)) fun t5 => ?_
    tb_rel
    refine m_lower (fit_lower (by omega)) fun t6 => ?_
    tb_rel
    cases hb : (Txt.lower rows[i] == Txt.lower name) with
    | true =>
      tb_rel
      refine ⟨st.news, by got_up, ?_⟩
      have e := placeIn_hit h4 (List.getElem?_eq_getElem hi') hb
      rw [← e]
      exact h _
    | false =>
      tb_rel
      refine ⟨_, .refl _, by krn_off, by krn_off, rfl, fun j x hj hx' => ?_⟩
      rcases Nat.lt_or_ge j i with hlt | hge
      · exact h4 j x hlt hx'
      · have : j = i := by omega
        subst this
        rw [List.getElem?_eq_getElem hi'] at hx'
        cases hx'; exact hb
  · rintro ⟨m₂, n₂⟩ ⟨h1, h2, h3, h4⟩
    dsimp only at h1 h2 h3 h4 ⊢
    subst h3
    tb_rel
    refine ⟨_, .refl _, ?_⟩
    have e := placeIn_miss (rows := rows) (name := name) fun j x hx' => h4 j x (by have := (List.getElem?_eq_some_iff.mp hx').1; omega) hx'
    rw [← e]
    exact h _
end
end Mine
end
section
open PySem PySem.W PyProof.Rows PySem.Calls PySem.Spec
namespace Mine
theorem str_ext {x y : Str} (h : x.cps.toList = y.cps.toList) : x = y := by
  obtain ⟨x⟩ := x; obtain ⟨y⟩ := y
  congr 1
  exact Array.toList_inj.mp h
def mkL (l : List Nat) : Str := ⟨l.toArray⟩
theorem mkL_toList (l : List Nat) : (mkL l).cps.toList = l := rfl
theorem app_toList (x y : Str) : (x ++ y).cps.toList = x.cps.toList ++ y.cps.toList := by rw [Str.cps_append, Array.toList_append]
/-- unquoting what was written -/
theorem unsl_esc : ∀ l : List Nat, unsl (esc l) = l
  | [] => rfl
  | d :: r => by
    show unsl ((if d = 92 then [92, 92] else if d = 34 then [92, 34] else [d]) ++ esc r) = _
    by_cases h : d = 92
    · subst h
      show unsl (92 :: 92 :: esc r) = _
      rw [unsl, if_pos ⟨rfl, by decide⟩, unsl_esc r]
    · rw [if_neg h]
      by_cases h' : d = 34
      · subst h'
        show unsl (92 :: 34 :: esc r) = _
        rw [unsl, if_pos ⟨rfl, by decide⟩, unsl_esc r]
      · rw [if_neg h']
        show unsl (d :: esc r) = _
        rw [unsl_cons (fun _ _ _ hc => h hc.1), unsl_esc r]
/-- a run over signs that are neither comma nor quote -/
theorem run_plain : ∀ (l : List Nat) (items : List Str) (it : Str), (∀ c ∈ l, c ≠ 44 ∧ c ≠ 34) → l.foldl pstep ⟨items, it, false, false⟩ = ⟨items, it ++ mkL l, false, false⟩
  | [], items, it, _ => by
    have : it ++ mkL [] = it := str_ext (by rw [app_toList, mkL_toList, List.append_nil])
    rw [this]; rfl
  | c :: r, items, it, h => by
    have hc := h c (.head _)
    rw [List.foldl_cons]
    have e : pstep ⟨items, it, false, false⟩ c = ⟨items, it ++ ⟨#[c]⟩, false, false⟩ := by simp [pstep, hc.1, hc.2]
    rw [e, run_plain r _ _ fun d hd => h d (.tail _ hd)]
    congr 1
    apply str_ext
    rw [app_toList, app_toList, app_toList, mkL_toList, mkL_toList]
    simp
theorem run_esc : ∀ (l : List Nat) (items : List Str) (it : Str), (esc l).foldl pstep ⟨items, it, false, true⟩ = ⟨items, it ++ mkL (esc l), false, true⟩
  | [], items, it => by
    have : it ++ mkL [] = it := str_ext (by rw [app_toList, mkL_toList, List.append_nil])
    show _ = (⟨items, it ++ mkL [], false, true⟩ : PS)
    rw [this]; rfl
  | d :: r, items, it => by
    show ((if d = 92 then [92, 92] else if d = 34 then [92, 34] else [d]) ++ esc r).foldl pstep _ = (⟨items, it ++ mkL ((if d = 92 then [92, 92] else if d = 34 then [92, 34] else [d]) ++ esc r), false, true⟩ : PS)
    rw [List.foldl_append]
    have step : ∀ p : List Nat, p.foldl pstep ⟨items, it, false, true⟩ = ⟨items, it ++ mkL p, false, true⟩ → (esc r).foldl pstep (p.foldl pstep ⟨items, it, false, true⟩) = ⟨items, it ++ mkL (p ++ esc r), false, true⟩ := by
      intro p hp
      rw [hp, run_esc r]
      congr 1
      apply str_ext
      rw [app_toList, app_toList, app_toList, mkL_toList, mkL_toList, mkL_toList, List.append_assoc]
    refine step _ ?_
    by_cases h : d = 92
    · subst h
      rw [if_pos rfl]
      simp only [List.foldl_cons, List.foldl_nil]
      have e1 : pstep ⟨items, it, false, true⟩ 92 = ⟨items, it ++ ⟨#[92]⟩, true, true⟩ := by simp [pstep]
      have e2 : pstep ⟨items, it ++ ⟨#[92]⟩, true, true⟩ 92 = ⟨items, it ++ ⟨#[92]⟩ ++ ⟨#[92]⟩, false, true⟩ := by simp [pstep]
      rw [e1, e2]
      congr 1
    · rw [if_neg h]
      by_cases h' : d = 34
      · subst h'
        rw [if_pos rfl]
        simp only [List.foldl_cons, List.foldl_nil]
        have e1 : pstep ⟨items, it, false, true⟩ 92 = ⟨items, it ++ ⟨#[92]⟩, true, true⟩ := by simp [pstep]
        have e2 : pstep ⟨items, it ++ ⟨#[92]⟩, true, true⟩ 34 = ⟨items, it ++ ⟨#[92]⟩ ++ ⟨#[34]⟩, false, true⟩ := by simp [pstep]
        rw [e1, e2]
        congr 1
      · rw [if_neg h']
        simp only [List.foldl_cons, List.foldl_nil]
        have e1 : pstep ⟨items, it, false, true⟩ d = ⟨items, it ++ ⟨#[d]⟩, false, true⟩ := by simp [pstep, h, h']
        rw [e1]
        rfl
theorem tok_plain : ∀ c, isTok c = true → c ≠ 44 ∧ c ≠ 34 ∧ c ≠ 32 ∧ c ≠ 9 := by
  have key : ∀ c ∈ tokenChars.cps.toList, c ≠ 44 ∧ c ≠ 34 ∧ c ≠ 32 ∧ c ≠ 9 := by decide +kernel
  intro c h
  exact key c (List.contains_iff_mem.mp h)
/-- a run over a written text -/
theorem run_dumped (x : Str) (items : List Str) (it : Str) : (dumped x).cps.toList.foldl pstep ⟨items, it, false, false⟩ = ⟨items, it ++ dumped x, false, false⟩ := by
  unfold dumped
  split
  · rename_i h
    have ht : x.cps.toList.all isTok = true := (Bool.and_eq_true_iff.mp h).2
    rw [run_plain _ _ _ fun c hc => let q := tok_plain c (List.all_eq_true.mp ht c hc); ⟨q.1, q.2.1⟩]
    rfl
  · rw [quoted_cps, List.foldl_cons, List.foldl_append]
    have e1 : pstep ⟨items, it, false, false⟩ 34 = ⟨items, it ++ ⟨#[34]⟩, false, true⟩ := by simp [pstep]
    rw [e1, run_esc]
    simp only [List.foldl_cons, List.foldl_nil]
    have e2 : ∀ y : Str, pstep ⟨items, y, false, true⟩ 34 = ⟨items, y ++ ⟨#[34]⟩, false, false⟩ := by intro y; simp [pstep]
    rw [e2]
    congr 1
    apply str_ext
    rw [app_toList, app_toList, app_toList, app_toList, mkL_toList, quoted_cps]
    simp
end Mine
end
section
open PySem PySem.W PyProof.Rows PySem.Calls PySem.Spec
namespace Mine
theorem nil_app (y : Str) : ("" : Str) ++ y = y := str_ext (by rw [app_toList]; rfl)
def blank (c : Nat) : Bool := c == 32 || c == 9
theorem blank_eq (c : Nat) : (" \t" : Str).cps.contains c = blank c := by
  show (#[32, 9] : Array Nat).contains c = _
  simp [blank]
  rfl
theorem takeWhile_all {p : Nat → Bool} : ∀ (a r : List Nat), (∀ c ∈ a, p c = true) → (a ++ r).takeWhile p = a ++ r.takeWhile p
  | [], r, _ => rfl
  | c :: a, r, h => by
    rw [List.cons_append, List.takeWhile_cons_of_pos (h c (.head _)), takeWhile_all a r fun d hd => h d (.tail _ hd)]; rfl
/-- bare: neither end is a blank -/
def Bare (m : List Nat) : Prop := (∀ c, m.head? = some c → blank c = false) ∧ ∀ c, m.getLast? = some c → blank c = false
theorem tw_bare {m : List Nat} (h : ∀ c, m.head? = some c → blank c = false) : m.takeWhile blank = [] := by
  cases m with
  | nil => rfl
  | cons c r => exact List.takeWhile_cons_of_neg (by rw [h c rfl]; simp)
theorem strips_core {a m b : List Nat} (ha : ∀ c ∈ a, blank c = true) (hb : ∀ c ∈ b, blank c = true) (hm : Bare m) : strips (mkL (a ++ m ++ b)) = mkL m := by
  have e : (fun c => (" \t" : Str).cps.contains c) = blank := funext blank_eq
  apply str_ext
  show (Txt.stripBy (fun c => (" \t" : Str).cps.contains c) true true (mkL (a ++ m ++ b))).cps.toList = m
  rw [e, PyProof.Rows.stripBy_eq]
  have hlo : ∃ a', stripLo blank true (mkL (a ++ m ++ b)) = a.length + a' ∧ (m ≠ [] → a' = 0) ∧ (m = [] → a' = b.length) := by
    refine ⟨((m ++ b).takeWhile blank).length, ?_, ?_, ?_⟩
    · show ((a ++ m ++ b).takeWhile blank).length = _
      rw [List.append_assoc, takeWhile_all _ _ ha, List.length_append]
    · intro hne
      have : (m ++ b).takeWhile blank = [] := tw_bare fun c hc => hm.1 c (by cases m with | nil => exact absurd rfl hne | cons d r => exact hc)
      rw [this]; rfl
    · intro he
      subst he
      have := takeWhile_all b [] hb
      rw [List.append_nil] at this
      rw [List.nil_append, this]; simp
  obtain ⟨a', h1, h2, h3⟩ := hlo
  rw [h1]
  by_cases hne : m = []
  · have := h3 hne
    subst hne
    show ((mkL (a ++ [] ++ b)).cps.extract _ _).toList = []
    simp [mkL]
    omega
  · have := h2 hne
    subst this
    have hhi : stripHi blank true (mkL (a ++ m ++ b)) a.length = a.length + m.length := by
      show (mkL (a ++ m ++ b)).length - (((a ++ m ++ b).drop a.length).reverse.takeWhile blank).length = _
      rw [List.append_assoc, List.drop_left, List.reverse_append, takeWhile_all _ _ (by simpa using hb)]
      rw [tw_bare (m := m.reverse) (by intro c hc; exact hm.2 c (by rw [List.head?_reverse] at hc; exact hc))]
      show (a ++ (m ++ b)).toArray.size - _ = _
      simp
      omega
    rw [Nat.add_zero, hhi]
    show ((a ++ m ++ b).toArray.extract a.length (a.length + m.length)).toList = m
    simp
theorem bare_split (l : List Nat) : ∃ a m b, l = a ++ m ++ b ∧ (∀ c ∈ a, blank c = true) ∧ (∀ c ∈ b, blank c = true) ∧ Bare m := by
  have first : ∀ l : List Nat, ∃ a m, l = a ++ m ∧ (∀ c ∈ a, blank c = true) ∧ ∀ c, m.head? = some c → blank c = false := by
    intro l
    induction l with
    | nil => exact ⟨[], [], rfl, nofun, nofun⟩
    | cons c r ih =>
      cases hc : blank c with
      | false => exact ⟨[], c :: r, rfl, nofun, fun d hd => by injection hd with hd; subst hd; exact hc⟩
      | true =>
        obtain ⟨a, m, e, h1, h2⟩ := ih
        exact ⟨c :: a, m, by rw [e]; rfl, fun d hd => by cases hd with | head => exact hc | tail _ h => exact h1 d h, h2⟩
  obtain ⟨a, r, e, h1, h2⟩ := first l
  obtain ⟨b, m, e', h3, h4⟩ := first r.reverse
  have er : r = m.reverse ++ b.reverse := by rw [← List.reverse_append, ← e', List.reverse_reverse]
  refine ⟨a, m.reverse, b.reverse, by rw [e, er, List.append_assoc], h1, by simpa using h3, ?_, ?_⟩
  · intro c hc
    cases hm : m.reverse with
    | nil => rw [hm] at hc; cases hc
    | cons d t =>
      rw [hm] at hc
      exact h2 c (by rw [er, hm]; exact hc)
  · intro c hc
    rw [List.getLast?_reverse] at hc
    exact h4 c hc
theorem strips_left {a : List Nat} (ha : ∀ c ∈ a, blank c = true) (x : Str) : strips (mkL a ++ x) = strips x := by
  obtain ⟨a', m, b, e, h1, h2, h3⟩ := bare_split x.cps.toList
  have e1 : x = mkL (a' ++ m ++ b) := str_ext (by rw [mkL_toList, e])
  have e2 : mkL a ++ x = mkL ((a ++ a') ++ m ++ b) := str_ext (by rw [app_toList, mkL_toList, mkL_toList, e]; simp)
  rw [e2, e1, strips_core h1 h2 h3, strips_core (by intro c hc; rcases List.mem_append.mp hc with h | h; exact ha c h; exact h1 c h) h2 h3]
theorem strips_right {a : List Nat} (ha : ∀ c ∈ a, blank c = true) (x : Str) : strips (x ++ mkL a) = strips x := by
  obtain ⟨a', m, b, e, h1, h2, h3⟩ := bare_split x.cps.toList
  have e1 : x = mkL (a' ++ m ++ b) := str_ext (by rw [mkL_toList, e])
  have e2 : x ++ mkL a = mkL (a' ++ m ++ (b ++ a)) := str_ext (by rw [app_toList, mkL_toList, mkL_toList, e]; simp)
  rw [e2, e1, strips_core h1 h2 h3, strips_core h1 (by intro c hc; rcases List.mem_append.mp hc with h | h; exact h2 c h; exact ha c h) h3]
theorem strips_bare {x : Str} (h : Bare x.cps.toList) : strips x = x := by
  have := strips_core (a := []) (b := []) nofun nofun h
  rw [List.nil_append, List.append_nil] at this
  exact this
/-- what a piece between two commas gives -/
def piece (x : Str) : List Str := if strips x = "" then [] else [uq (strips x)]
theorem piece_left {a : List Nat} (ha : ∀ c ∈ a, blank c = true) (x : Str) : piece (mkL a ++ x) = piece x := by unfold piece; rw [strips_left ha]
theorem piece_right {a : List Nat} (ha : ∀ c ∈ a, blank c = true) (x : Str) : piece (x ++ mkL a) = piece x := by unfold piece; rw [strips_right ha]
theorem piece_nil : piece "" = [] := by rfl
theorem piece_blank {a : List Nat} (ha : ∀ c ∈ a, blank c = true) : piece (mkL a) = [] := by
  have := piece_right ha ""
  rw [show ("" : Str) ++ mkL a = mkL a from str_ext (by rw [app_toList]; rfl)] at this
  rw [this]; rfl
def Rd (x : Str) (due : List Str) : Prop := ∃ items it, prun x.cps.toList = ⟨items, it, false, false⟩ ∧ (items ++ [it]).flatMap piece = due
theorem Rd.plist {x : Str} {due : List Str} (h : Rd x due) : plist x = due := by
  obtain ⟨items, it, e, h⟩ := h
  unfold Mine.plist
  rw [e, ← h]
  show (((items ++ [it]).map strips).filter (fun y => y != ("" : Str))).map uq = _
  induction items ++ [it] with
  | nil => rfl
  | cons y r ih =>
    rw [List.flatMap_cons, ← ih, List.map_cons]
    unfold piece
    by_cases hy : strips y = ""
    · rw [if_pos hy, hy]; rfl
    · rw [if_neg hy, List.filter_cons_of_pos (by simpa using hy)]; rfl
theorem Rd.nil : Rd "" [] := ⟨[], "", rfl, rfl⟩
def Cl (p : Str) : Prop := ∀ items it, p.cps.toList.foldl pstep ⟨items, it, false, false⟩ = ⟨items, it ++ p, false, false⟩
def Sep (s : Str) : Prop := ∃ a b, s = mkL (a ++ 44 :: b) ∧ (∀ c ∈ a, blank c = true) ∧ ∀ c ∈ b, blank c = true
theorem blank_plain {a : List Nat} (ha : ∀ c ∈ a, blank c = true) : ∀ c ∈ a, c ≠ 44 ∧ c ≠ 34 := by
  intro c hc
  constructor <;> (intro e; subst e; exact absurd (ha _ hc) (by decide))
theorem Rd.step {x s p : Str} {due : List Str} (h : Rd x due) (hs : Sep s) (hp : Cl p) : Rd (x ++ s ++ p) (due ++ piece p) := by
  obtain ⟨items, it, e, h⟩ := h
  obtain ⟨a, b, rfl, ha, hb⟩ := hs
  refine ⟨items ++ [it ++ mkL a], mkL b ++ p, ?_, ?_⟩
  · unfold prun at e ⊢
    rw [app_toList, app_toList, List.foldl_append, List.foldl_append, e, mkL_toList, List.foldl_append, run_plain a _ _ (blank_plain ha), List.foldl_cons]
    have e2 : pstep ⟨items, it ++ mkL a, false, false⟩ 44 = ⟨items ++ [it ++ mkL a], "", false, false⟩ := by simp [pstep]
    rw [e2, run_plain b _ _ (blank_plain hb), hp, nil_app]
  · rw [← h]
    simp only [List.flatMap_append, List.flatMap_cons, List.flatMap_nil, List.append_nil]
    rw [piece_left hb, piece_right ha]
def drop1 (x : Str) : Str := mkL (x.cps.toList.drop 1)
theorem Rd.first {s p : Str} (hs : Sep s) (hp : Cl p) : Rd (drop1 (s ++ p)) (piece p) := by
  obtain ⟨a, b, rfl, ha, hb⟩ := hs
  cases a with
  | nil =>
    refine ⟨[], mkL b ++ p, ?_, ?_⟩
    · show (List.foldl pstep _ (List.drop 1 (mkL (44 :: b) ++ p).cps.toList)) = _
      rw [app_toList, mkL_toList, List.cons_append, List.drop_one, List.tail_cons, List.foldl_append, run_plain b _ _ (blank_plain hb), hp, nil_app]
    · simp only [List.nil_append, List.flatMap_cons, List.flatMap_nil, List.append_nil]
      exact piece_left hb p
  | cons c a =>
    have ha' : ∀ c ∈ a, blank c = true := fun d hd => ha d (.tail _ hd)
    refine ⟨[mkL a], mkL b ++ p, ?_, ?_⟩
    · show (List.foldl pstep _ (List.drop 1 (mkL (c :: (a ++ 44 :: b)) ++ p).cps.toList)) = _
      rw [app_toList, mkL_toList, List.cons_append, List.drop_one, List.tail_cons, List.foldl_append, List.foldl_append, run_plain a _ _ (blank_plain ha'), List.foldl_cons]
      have e2 : pstep ⟨[], "" ++ mkL a, false, false⟩ 44 = ⟨[mkL a], "", false, false⟩ := by
        have : ("" : Str) ++ mkL a = mkL a := str_ext (by rw [app_toList]; rfl)
        rw [this]; simp [pstep]
      rw [e2, run_plain b _ _ (blank_plain hb), hp, nil_app]
    · simp only [List.cons_append, List.nil_append, List.flatMap_cons, List.flatMap_nil, List.append_nil]
      rw [piece_blank ha', piece_left hb]; rfl
end Mine
end
section
open PySem PySem.W PyProof.Rows PySem.Calls PySem.Spec
namespace Mine
/-- no comma stands outside quotes, and the quotes are closed at the end -/
def calm : List Nat → Bool → Bool → Bool
  | [], e, q => !e && !q
  | c :: r, e, q => if e then calm r false q else if q then calm r (c == 92) (!(c == 34)) else !(c == 44) && calm r false (c == 34)
theorem run_calm : ∀ (l : List Nat) (e q : Bool) (items : List Str) (it : Str), calm l e q = true → l.foldl pstep ⟨items, it, e, q⟩ = ⟨items, it ++ mkL l, false, false⟩
  | [], e, q, items, it, h => by
    have : it ++ mkL [] = it := str_ext (by rw [app_toList, mkL_toList, List.append_nil])
    rw [this]
    cases e <;> cases q <;> first | rfl | cases h
  | c :: r, e, q, items, it, h => by
    have key : ∀ e' q', pstep ⟨items, it, e, q⟩ c = ⟨items, it ++ ⟨#[c]⟩, e', q'⟩ → calm r e' q' = true → (c :: r).foldl pstep ⟨items, it, e, q⟩ = ⟨items, it ++ mkL (c :: r), false, false⟩ := by
      intro e' q' h1 h2
      rw [List.foldl_cons, h1, run_calm r _ _ _ _ h2]
      congr 1
      apply str_ext
      rw [app_toList, app_toList, app_toList, mkL_toList, mkL_toList]
      simp
    unfold calm at h
    cases e with
    | true => exact key false q (by simp [pstep]) h
    | false =>
      cases q with
      | true => exact key _ _ (by simp [pstep]) h
      | false =>
        rw [if_neg (by simp), if_neg (by simp), Bool.and_eq_true_iff] at h
        exact key _ _ (by simp [pstep, show (c == 44) = false by simpa using h.1]) h.2
theorem cl_calm {p : Str} (h : calm p.cps.toList false false = true) : Cl p := fun items it => by
  rw [run_calm _ _ _ _ _ h]; rfl
theorem cl_dumped (x : Str) : Cl (dumped x) := fun items it => run_dumped x items it
theorem cl_append {x y : Str} (h : Cl x) (h' : Cl y) : Cl (x ++ y) := fun items it => by
  rw [app_toList, List.foldl_append, h, h']
  congr 1
  exact str_ext (by rw [app_toList, app_toList, app_toList, app_toList, List.append_assoc])
theorem txt_join (s : Str) (xs : List Str) : Txt.join s xs = Str.join s xs := StrLaws.glued_eq_join s xs
theorem join_snoc (s y : Str) : ∀ (x : Str) (r : List Str), Txt.join s (x :: r ++ [y]) = Txt.join s (x :: r) ++ s ++ y
  | x, [] => rfl
  | x, z :: r => by
    have ih := join_snoc s y z r
    rw [txt_join] at ih ⊢
    rw [txt_join] at ih ⊢
    show x ++ s ++ Str.join s (z :: r ++ [y]) = x ++ s ++ Str.join s (z :: r) ++ s ++ y
    rw [ih]
    apply str_ext
    simp only [app_toList, List.append_assoc]
/-- texts with a separator between -/
theorem Rd.join {s : Str} (hs : Sep s) {α : Type} (f : α → Str) (hf : ∀ a, Cl (f a)) : ∀ (xs : List α), Rd (Txt.join s (xs.map f)) (xs.flatMap fun a => piece (f a)) := by
  intro xs
  induction xs using snoc_ind with
  | h0 => exact Rd.nil
  | h1 xs a ih =>
    cases xs with
    | nil =>
      refine ⟨[], f a, ?_, ?_⟩
      · show List.foldl pstep _ (f a).cps.toList = _
        rw [hf, nil_app]
      · simp
    | cons x r =>
      have := ih.step hs (hf a)
      rw [List.map_append, List.map_cons, List.map_singleton, join_snoc, List.flatMap_append]
      simpa using this
theorem sep1 : Sep ", " := ⟨[], [32], rfl, nofun, by decide⟩
theorem sep2 : Sep " ," := ⟨[32], [], rfl, by decide, nofun⟩
theorem sep3 : Sep "," := ⟨[], [], rfl, nofun, nofun⟩
theorem sep4 : Sep " ,\t" := ⟨[32], [9], rfl, by decide, by decide⟩
/-- open quotes make nothing -/
theorem open1 {x : Str} {due : List Str} (h : Rd x due) : plist (x ++ (", \"open, b" : Str)) = [] := by
  obtain ⟨items, it, e, _⟩ := h
  unfold Mine.plist prun
  unfold prun at e
  rw [app_toList, List.foldl_append, e]
  rfl
theorem open2 {x : Str} {due : List Str} (h : Rd x due) : plist (x ++ (",\"open" : Str)) = [] := by
  obtain ⟨items, it, e, _⟩ := h
  unfold Mine.plist prun
  unfold prun at e
  rw [app_toList, List.foldl_append, e]
  rfl
theorem open3 {x : Str} {due : List Str} (h : Rd x due) : plist (x ++ (",k=\"open" : Str)) = [] := by
  obtain ⟨items, it, e, _⟩ := h
  unfold Mine.plist prun
  unfold prun at e
  rw [app_toList, List.foldl_append, e]
  rfl
theorem lawItems_cl : ∀ i : Nat, i < 9 → Cl (lawItems.getD i ("", [])).1 ∧ piece (lawItems.getD i ("", [])).1 = (lawItems.getD i ("", [])).2 := by
  intro i hi
  have : i = 0 ∨ i = 1 ∨ i = 2 ∨ i = 3 ∨ i = 4 ∨ i = 5 ∨ i = 6 ∨ i = 7 ∨ i = 8 := by omega
  rcases this with rfl | rfl | rfl | rfl | rfl | rfl | rfl | rfl | rfl <;> exact ⟨cl_calm (by decide +kernel), by decide +kernel⟩
end Mine
end
section
open PySem PySem.W PyProof.Rows PySem.Calls PySem.Spec
namespace Mine
theorem starts_quote (x : Str) : Txt.startswith x "\"" = true ↔ x.cps.toList[0]? = some 34 := by
  rw [← StrLaws.subAt_one x 34 0]
  unfold Txt.startswith
  rw [Bool.and_eq_true_iff, decide_eq_true_iff]
  exact Iff.rfl
theorem ends_quote (x : Str) : Txt.endswith x "\"" = true ↔ 1 ≤ x.length ∧ x.cps.toList[x.length - 1]? = some 34 := by
  unfold Txt.endswith
  rw [Bool.and_eq_true_iff, decide_eq_true_iff]
  rw [← StrLaws.subAt_one x 34 (x.length - 1)]
  show (0 + 1 ≤ x.length ∧ Builtin.Str.subAt x ⟨#[34]⟩ (x.length - 1) = true) ↔ 1 ≤ x.length ∧ (x.length - 1 + 1 ≤ x.length ∧ _)
  constructor
  · rintro ⟨h1, h2⟩; exact ⟨by omega, by omega, h2⟩
  · rintro ⟨h1, _, h2⟩; exact ⟨by omega, h2⟩
theorem quoted_bare (x : Str) : Bare (quoted x).cps.toList := by
  rw [quoted_cps]
  constructor
  · intro c hc
    injection hc with hc; subst hc; rfl
  · intro c hc
    rw [← List.cons_append, List.getLast?_append] at hc
    injection hc with hc; subst hc; rfl
theorem dumped_bare (x : Str) : Bare (dumped x).cps.toList := by
  unfold dumped
  split
  · rename_i h
    have ht : x.cps.toList.all isTok = true := (Bool.and_eq_true_iff.mp h).2
    have key : ∀ c ∈ x.cps.toList, blank c = false := fun c hc => by
      have := tok_plain c (List.all_eq_true.mp ht c hc)
      simp [blank, this.2.2.1, this.2.2.2]
    exact ⟨fun c hc => key c (List.mem_of_mem_head? hc), fun c hc => key c (List.mem_of_getLast? hc)⟩
  · exact quoted_bare x
theorem dumped_ne (x : Str) : dumped x ≠ "" := by
  unfold dumped
  split
  · rename_i h
    simpa using (Bool.and_eq_true_iff.mp h).1
  · intro e
    have := congrArg (fun y : Str => y.cps.toList) e
    rw [show (quoted x).cps.toList = _ from quoted_cps x] at this
    cases this
theorem uq_dumped (x : Str) : uq (dumped x) = x := by
  unfold dumped
  split
  · rename_i h
    have ht : x.cps.toList.all isTok = true := (Bool.and_eq_true_iff.mp h).2
    unfold uq
    rw [if_neg]
    intro hc
    rw [Bool.and_eq_true_iff, Bool.and_eq_true_iff] at hc
    have h1 := (starts_quote x).mp hc.1.2
    exact (tok_plain 34 (List.all_eq_true.mp ht 34 (List.mem_of_getElem? h1))).2.1 rfl
  · have hl : (quoted x).length = (esc x.cps.toList).length + 2 := by
      show (quoted x).cps.size = _
      rw [← Array.length_toList, quoted_cps]; simp
    unfold uq
    rw [if_pos]
    · apply str_ext
      show unsl (Array.toList (Array.extract _ _ _)) = _
      rw [Array.toList_extract, quoted_cps]
      have hs : (quoted x).cps.size = (esc x.cps.toList).length + 2 := hl
      rw [hs, List.extract_eq_take_drop]
      simp [unsl_esc]
    · rw [Bool.and_eq_true_iff, Bool.and_eq_true_iff]
      refine ⟨⟨?_, ?_⟩, ?_⟩
      · rw [hl, decide_eq_true_iff]; omega
      · rw [starts_quote, quoted_cps]; rfl
      · rw [ends_quote, hl, quoted_cps]
        refine ⟨by omega, ?_⟩
        simp
theorem piece_dumped (x : Str) : piece (dumped x) = [x] := by
  unfold piece
  rw [strips_bare (dumped_bare x), if_neg (dumped_ne x), uq_dumped]
theorem plist_dumped {s : Str} (hs : Sep s) (xs : List Str) : plist (Txt.join s (xs.map dumped)) = xs := by
  rw [(Rd.join hs dumped cl_dumped xs).plist]
  induction xs with
  | nil => rfl
  | cons x r ih => rw [List.flatMap_cons, ih, piece_dumped]; rfl
end Mine
end
section
open PySem PySem.W PyProof.Rows PySem.Calls PySem.Spec
namespace Mine
theorem ownOf_keys {h : Heap} : ∀ {own : List Addr}, (∀ b ∈ own, ∃ o, h.get? b = some o) → (ownOf h own).map (·.1) = own
  | [], _ => rfl
  | b :: r, q => by
    obtain ⟨o, e⟩ := q b (.head _)
    unfold ownOf
    rw [e]
    show b :: (ownOf h r).map (·.1) = b :: r
    rw [ownOf_keys fun c hc => q c (.tail _ hc)]
theorem sub_app {X a b : Led} (h : Sub a b) : Sub (X ++ a) (X ++ b) := by
  induction X with
  | nil => exact h
  | cons p X ih => exact .cons₂ p ih
theorem sub_right (X a : Led) : Sub a (X ++ a) := by
  induction X with
  | nil => exact .refl _
  | cons p X ih => exact .cons p ih
theorem one_own {X : Led} {a : Addr} (h : X.map (·.1) = [a]) : ∃ I oI, X = [(I, oI)] := by
  cases X with
  | nil => cases h
  | cons p r =>
    cases r with
    | nil => exact ⟨p.1, p.2, rfl⟩
    | cons q r => simp at h
theorem two_own {X : Led} {a b : Addr} (h : X.map (·.1) = [a, b]) : ∃ I oI I' oI', X = [(I, oI), (I', oI')] := by
  cases X with
  | nil => cases h
  | cons p r =>
    cases r with
    | nil => simp at h
    | cons q r =>
      cases r with
      | nil => exact ⟨p.1, p.2, q.1, q.2, rfl⟩
      | cons z r => simp at h
section
variable {C : Cx} {E : Value → Shared → Prop} {st : St}
theorem Held.apart {m : List (Str × Value)} {X r : Led} {s : Shared} {δ : Tb} {own : List Addr} (D : HeldD C δ ⟨m, X ++ r⟩ s) (hX : X.map (·.1) = own) : Apart C own (r ++ tabsOf δ) := by
  have nd := D.nd
  have N := D.N
  rw [show (⟨m, X ++ r⟩ : St).news ++ tabsOf δ = X ++ (r ++ tabsOf δ) from List.append_assoc ..] at nd N
  rw [List.map_append] at nd
  obtain ⟨n1, n2, n3⟩ := List.nodup_append.mp nd
  subst hX
  refine ⟨n1, fun b hb => ?_, fun b hb => ?_, fun b hb p hp e => n3 b hb p.1 (List.mem_map_of_mem hp) e.symm⟩
  · obtain ⟨p, hp, rfl⟩ := List.mem_map.mp hb
    exact (N p (List.mem_append_left _ hp)).2.1
  · obtain ⟨p, hp, rfl⟩ := List.mem_map.mp hb
    exact (N p (List.mem_append_left _ hp)).2.2
/-- the iterator's own objects have changed -/
theorem Held.own {m : List (Str × Value)} {X r : Led} {s : Shared} {own : List Addr} {h' : Heap} {tk : Nat} (H : Held C ⟨m, X ++ r⟩ s) (hX : X.map (·.1) = own) (hk : ∀ b o, b ∉ own → s.heap.get? b = some o → h'.get? b = some o)
    (ho : ∀ b ∈ own, ∃ o, h'.get? b = some o) : ∃ X', X'.map (·.1) = own ∧ Held C ⟨m, X' ++ r⟩ { s with heap := h', toks := tk } := by
  obtain ⟨δ, D⟩ := H.ex
  exact ⟨ownOf h' own, ownOf_keys ho, ⟨δ, mv_held (wr := own) (s' := { s with heap := h', toks := tk }) D (Held.apart D hX) ⟨hk, rfl, id, fun _ _ => rfl⟩ fun _ h => h⟩⟩
/-- what a turn hands on: the state without the iterator's own objects -/
def TurnX (X : Led) (J : St → Prop) (Q : Flow → St → Prop) (f : Flow) (st₂ : St) : Prop := match f with
  | .ret v => Q (.ret v) st₂
  | .brk => Q .next st₂
  | _ => ∃ news, Sub (X ++ news) st₂.news ∧ J ⟨st₂.m, news⟩
theorem for_walkT {x y : Str} {px py pt : Pos} {kk : Nat} {body : List Stmt} {env : Env} {I : Addr} {fp own : List Addr} {n : Nat} {Pt : Nat → Array Value → Prop} {St' : Nat → Heap → Prop} {Mid : Nat → Addr → Heap → Prop} {P2 : Nat → Value → Value → Prop} {Q : Flow → St → Prop} {m₀ : List (Str × Value)} {news₀ X₀ : Led}
    (W : ∀ A' : Around, A'.handled = none → WalksT prog C.w A' I fp own n Pt St' Mid)
    (hown : ∀ i h, St' i h → ∀ b ∈ own, ∃ o, h.get? b = some o)
    (h2 : ∀ i vals, Pt i vals → ∃ a b, vals = #[a, b] ∧ P2 i a b)
    (Inv : Nat → St → Prop) (srcs : Led) (hsrc : ∀ i st₁, Inv i st₁ → ∀ p ∈ srcs, p ∈ st₁.news) (hfp : ∀ b ∈ fp, b ∈ own ∨ (∃ o, (b, o) ∈ srcs))
    (h0 : Inv 0 ⟨m₀, news₀⟩)
    (turn : ∀ i a b st₁ X, i < n → P2 i a b → Inv i st₁ → X.map (·.1) = own → Ev C NoE (execs body env) ⟨put y b (put x a st₁.m), X ++ st₁.news⟩ (TurnX X (Inv (i + 1)) Q))
    (done : ∀ st₁, Inv n st₁ → Q .next st₁)
    (hL : env.locals = C.L) (hlx : env.kindOf x = some .local) (hly : env.kindOf y = some .local) (hk : env.scope.kind = .function)
    {s : Shared} (H : Holds C ⟨m₀, X₀ ++ news₀⟩ s) (hX : X₀.map (·.1) = own) (hst : St' 0 s.heap) :
    codeAny (model prog C.w) C.A (.forLoop (.Tuple [.Name x px, .Name y py] kk pt) (.ref I) body [] env) (fun r s' => match r with | .ok f => Post C Q f s' | .error e => cameBackBy (model prog C.w) C.A env E e s') s := by
  refine codeAny_forLoop_any (fun k s' => ∃ i st₁ X, k = n + 1 - i ∧ i ≤ n ∧ X.map (·.1) = own ∧ Inv i st₁ ∧ Holds C ⟨st₁.m, X ++ st₁.news⟩ s' ∧ St' i s'.heap) ?_ (n + 1) ⟨0, ⟨m₀, news₀⟩, X₀, rfl, Nat.zero_le _, hX, h0, H, hst⟩
  rintro k s₁ ⟨i, st₁, X, rfl, hi, hX₁, hI, H₁, hst₁⟩
  by_cases hlt : i < n
  · refine wpAny_with_size H₁.sz (wpAny_with_toks H₁.tp ((W _ C.hh).item i _ _ _ hlt hst₁ fun T vals h₁ tk₁ hPt hTs hT hMid hk₁ hp₁ hz₁ => ?_))
    obtain ⟨a, b, rfl, hP2⟩ := h2 i vals hPt
    refine wpAny_with_size hz₁ (wpAny_with_toks hp₁ ((W _ C.hh).go _ kk pt i T _ _ _ hMid fun h₂ hst₂ hk₂ hp₂ hz₂ => ?_))
    have ht₂ : h₂.IsTuple T #[a, b] := hT.at fun o e => hk₂ T o ((W _ C.hh).apart i T h₁ hMid) e
    refine wpAny_with_size hz₂ (wpAny_with_toks hp₂ (wpAny_assign_Tuple C.hh ht₂ rfl rfl fun h₃ hx₃ => ?_))
    replace hx₃ : Heap.ExtBut h₂.objs.size h₂ h₃ := hx₃
    have up₃ : ∀ b o, h₂.get? b = some o → h₃.get? b = some o := fun b o x => hx₃ b o (Nat.ne_of_lt (Heap.lt_size x)) x
    obtain ⟨X', hX', H₃⟩ := H₁.toHeld.own (h' := h₃) (tk := tk₁) hX₁ (fun b o hb x => up₃ b o (hk₂ b o hb (hk₁ b o hb x))) fun b hb => let ⟨o, e⟩ := hown _ _ hst₂ b hb; ⟨o, up₃ b o e⟩
    show wpAny _ _ (assignInOrder [assign (.Name x px) env, assign (.Name y py) env] [a, b]) _ _ _
    refine assignInOrder_cons (PyProof.Rows.assign_Name (wp_store H₃ hL hlx hk fun s₂ H₄ => ?_))
    refine assignInOrder_cons (PyProof.Rows.assign_Name (wp_store H₄ hL hly hk fun s₃ H₅ => ?_))
    refine assignInOrder_nil fun hp₅ hz₅ => ?_
    have same : ∀ s₄ : Shared, (∀ p ∈ X', s₄.heap.get? p.1 = some p.2) → (∀ p ∈ srcs, s₄.heap.get? p.1 = some p.2) → St' (i + 1) s₄.heap := by
      intro s₄ q1 q2
      refine (W _ C.hh).frame _ _ _ hst₂ fun b hb o e => ?_
      rcases hfp b hb with hbI | ⟨o', ho'⟩
      · rw [← hX'] at hbI
        obtain ⟨p, hp, rfl⟩ := List.mem_map.mp hbI
        have e' := (H₃.at (List.mem_append_left _ hp)).1
        rw [up₃ _ _ e] at e'
        rw [q1 p hp, ← e']
      · have e' := (H₃.at (p := (b, o')) (List.mem_append_right _ (hsrc _ _ hI _ ho'))).1
        rw [up₃ _ _ e] at e'
        rw [q2 _ ho', ← e']
    have H₆ : Holds C ⟨put y b (put x a st₁.m), X' ++ st₁.news⟩ s₃ := ⟨H₅, hp₅, hz₅⟩
    refine wpAny_mono (wpAny_size_of H₆.sz (wpAny_toks_of H₆.tp (turn i a b st₁ X' hlt hP2 hI hX' s₃ H₆))) (fun f s₄ h₄ => ?_) (fun _ _ q => q.2.2.elim)
    obtain ⟨hz₄, hp₄, st₄, H₇, q⟩ := h₄
    have fin : (∃ news, Sub (X' ++ news) st₄.news ∧ Inv (i + 1) ⟨st₄.m, news⟩) → ∃ k' < n + 1 - i, ∃ i' st₁ X, k' = n + 1 - i' ∧ i' ≤ n ∧ X.map (·.1) = own ∧ Inv i' st₁ ∧ Holds C ⟨st₁.m, X ++ st₁.news⟩ s₄ ∧ St' i' s₄.heap := by
      rintro ⟨news, hs, hJ⟩
      have H₈ := H₇.sub hs
      refine ⟨n + 1 - (i + 1), by omega, i + 1, ⟨st₄.m, news⟩, X', rfl, hlt, hX', hJ, ⟨H₈, hp₄, hz₄⟩, ?_⟩
      exact same _ (fun p hp => (H₈.at (List.mem_append_left _ hp)).1) fun p hp => (H₈.at (List.mem_append_right _ (hsrc _ _ hJ p hp))).1
    cases f with
    | ret v => exact ⟨st₄, H₇, q⟩
    | brk => exact ⟨st₄, H₇, q⟩
    | next => exact fin q
    | cont => exact fin q
  · obtain rfl : i = n := Nat.le_antisymm hi (Nat.not_lt.mp hlt)
    refine (W _ C.hh).done _ _ _ hst₁ fun h₂ tk₂ hk₂ => ?_
    obtain ⟨δ, D⟩ := H₁.ex
    have D' := mv_held (wr := own) (s' := { s₁ with heap := h₂, toks := tk₂ }) D (Held.apart D hX₁) ⟨hk₂, rfl, id, fun _ _ => rfl⟩ fun _ h => h
    exact wpAny_execs_nil ⟨st₁, Held.sub ⟨δ, D'⟩ (sub_right _ _), done _ hI⟩

-- two names over the pairs of a dict
theorem dict_walks {d I : Addr} {kvs : List (Str × Value)} {ep : Nat} {A : Around} (hh : A.handled = none) (hdi : d ≠ I) :
    WalksT prog C.w A I [I, d] [I] kvs.length (fun i vals => ∃ k v key, kvs[i]? = some (k, v) ∧ (strKind prog C.w).is k key = true ∧ vals = #[key, v])
      (fun i h => (∃ ok ov, IsItemIter h I d i kvs.length ep ok ov) ∧ h.DictAt (strKind prog C.w) d kvs ep)
      (fun i T h => (∃ ok ov, IsItemIterOut h I d (i + 1) kvs.length ep ok ov T) ∧ h.DictAt (strKind prog C.w) d kvs ep ∧ T ≠ I) where
  sub := fun b hb => by rw [List.mem_singleton.mp hb]; exact .head _
  frame := fun i h h' ⟨⟨ok, ov, e⟩, hm⟩ hk => ⟨⟨ok, ov, hk I (.head _) _ e⟩, hm.at fun o x => hk d (.tail _ (.head _)) o x⟩
  item := fun i s Q E hi ⟨⟨ok, ov, e⟩, hm⟩ hQ => by
    have hx : kvs[i]? = some kvs[i] := List.getElem?_eq_getElem hi
    refine wpAny_pyNext_items_item (k := kvs[i].1) (v := kvs[i].2) e hm hx fun key h' hkey ho hT hsz hk => ?_
    have hilt : I < s.heap.objs.size := Heap.lt_size e
    exact hQ _ #[key, kvs[i].2] h' s.toks ⟨_, _, _, hx, hkey, rfl⟩ (Nat.le_refl _) ⟨_, hT, rfl, _, rfl⟩ ⟨⟨_, _, ho⟩, hm.at fun o x => hk d o hdi x, Nat.ne_of_gt hilt⟩
      fun b o hb x => hk b o (fun q => hb (by rw [q]; exact .head _)) x
  go := fun elts k pos i T s Q E ⟨⟨ok, ov, e⟩, hm, hT⟩ hQ => by
    refine wpAny_letOwnedTupleGo_items e fun h' he hs => hQ h' ⟨⟨ok, ov, he⟩, hm.at fun o x => (hs.2 d hdi).trans x⟩ fun b o hb x => (hs.2 b fun q => hb (by rw [q]; exact .head _)).trans x
  apart := fun i T h ⟨_, _, hT⟩ hm => hT (List.mem_singleton.mp hm)
  done := fun s Q E ⟨⟨ok, ov, e⟩, hm⟩ hQ => by
    refine wpAny_pyNext_items_end hh e hm (List.getElem?_eq_none (Nat.le_refl _)) fun h' he => hQ h' s.toks fun b o hb x => he b o (fun q => hb (by rw [q]; exact .head _)) x
  self := fun i s Q E ⟨⟨ok, ov, e⟩, hm⟩ hQ => kcp_self e hQ

abbrev itemIt (d : Addr) (n ep : Nat) : Obj := { cls := .type "dict_itemiterator", data := .fields #[.none, .bool false, .ref d, .int 0 0, .int n 0, .int ep 0, .none, .none] }
abbrev vwObj (d : Addr) : Obj := { cls := .type "dict_items", data := .fields #[.ref d] }
abbrev enumObj (it : Addr) : Obj := { cls := .type "enumerate", dict := none, data := .fields #[.none, .bool false, .ref it, rawInt 0, .none, .none], slots := #[] }
abbrev litObj (l : Addr) : Obj := { cls := .type "list_iterator", data := .fields #[.ref l, .int 0 0] }
structure LoopD (C : Cx) (env : Env) (x y : Str) (body : List Stmt) (Q : Flow → St → Prop) (P2 : Nat → Value → Value → Prop) (n : Nat) (srcs : Led) (st₁ : St) (Inv : Nat → St → Prop) : Prop where
  src : ∀ i st, Inv i st → ∀ p ∈ srcs, p ∈ st.news
  start : ∃ news, Sub news st₁.news ∧ Inv 0 ⟨st₁.m, news⟩
  turn : ∀ i a b st₂ I oI, i < n → P2 i a b → Inv i st₂ → Ev C NoE (execs body env) ⟨put y b (put x a st₂.m), (I, oI) :: st₂.news⟩ (Turn I oI (Inv (i + 1)) Q)
  done : ∀ st₂, Inv n st₂ → Q .next st₂
theorem turnX_one {I : Addr} {oI : Obj} {J : St → Prop} {Q : Flow → St → Prop} {f : Flow} {st₂ : St} (h : Turn I oI J Q f st₂) : TurnX [(I, oI)] J Q f st₂ := by cases f <;> exact h
theorem x_for_items {x y : Str} {px py pt pos : Pos} {kk : Nat} {iter : Expr} {body : List Stmt} {env : Env} {Q : Flow → St → Prop}
    (h : Ev C E (eval iter env) st fun v st₁ => ∃ vw d od kvs Inv, v = .ref vw ∧ (vw, vwObj d) ∈ st₁.news ∧ (d, od) ∈ st₁.news ∧ od.IsDictOf (strKind prog C.w) kvs ∧ LoopD C env x y body Q (fun i a b => ∃ k t, kvs[i]? = some (k, b) ∧ a = .str k t) kvs.length [(d, od)] st₁ Inv)
    (hs : ∀ x, foldedSetIterable iter env x = pure x) (hL : env.locals = C.L) (hlx : env.kindOf x = some .local) (hly : env.kindOf y = some .local) (hk : env.scope.kind = .function) : Ev C E (exec (.For (.Tuple [.Name x px, .Name y py] kk pt) iter body [] pos) env) st Q := by
  intro s H
  refine wpAny_For (L1q h (fun v st₁ s₁ H₁ h₁ => ?_) H) hs
  obtain ⟨vw, d, od, kvs, Inv, rfl, hv, hd, hod, L⟩ := h₁
  obtain ⟨news0, hs0, h00⟩ := L.start
  obtain ⟨ep, ha⟩ := KdkAt.of hod
  have hdm := ha.dictAt (H₁.at hd).1
  refine wpAny_pyIter_items (knd := strKind prog C.w) (ep := ep) ⟨_, (H₁.at hv).1, rfl, rfl⟩ hdm ?_
  have H₂ := H₁.alloc (o := itemIt d kvs.length ep) rfl
  have hne : d ≠ s₁.heap.objs.size := Nat.ne_of_lt (Heap.lt_size (H₁.at hd).1)
  have H₃ : Holds C ⟨st₁.m, [(s₁.heap.objs.size, itemIt d kvs.length ep)] ++ news0⟩ { s₁ with heap := s₁.heap.push (itemIt d kvs.length ep) } := H₂.sub (Sub.cons₂ _ hs0)
  have hst : (∃ ok ov, IsItemIter (s₁.heap.push (itemIt d kvs.length ep)) s₁.heap.objs.size d 0 kvs.length ep ok ov) ∧ (s₁.heap.push (itemIt d kvs.length ep)).DictAt (strKind prog C.w) d kvs ep := ⟨⟨_, _, Heap.get?_push_size _ rfl⟩, hdm.push _⟩
  have hfp : ∀ b ∈ [s₁.heap.objs.size, d], b ∈ [s₁.heap.objs.size] ∨ (∃ o, (b, o) ∈ [(d, od)]) := fun b hb => by
      rcases List.mem_cons.mp hb with rfl | hb
      · exact .inl (.head _)
      · exact .inr ⟨_, by rw [List.mem_singleton.mp hb]; exact .head _⟩
  have hown : ∀ (i : Nat) (h : Heap), ((∃ ok ov, IsItemIter h s₁.heap.objs.size d i kvs.length ep ok ov) ∧ h.DictAt (strKind prog C.w) d kvs ep) → ∀ b ∈ [s₁.heap.objs.size], ∃ o, h.get? b = some o := by
    rintro i h ⟨⟨ok, ov, e⟩, _⟩ b hb
    exact (List.mem_singleton.mp hb) ▸ ⟨_, e⟩
  have h2 : ∀ (i : Nat) (vals : Array Value), (∃ k v key, kvs[i]? = some (k, v) ∧ (strKind prog C.w).is k key = true ∧ vals = #[key, v]) → ∃ a b, vals = #[a, b] ∧ (∃ k t, kvs[i]? = some (k, b) ∧ a = .str k t) := by
    rintro i vals ⟨k, v, key, hx, hkey, e⟩
    obtain ⟨t, rfl⟩ := Value.isStrOf_shape hkey
    exact ⟨_, v, e, k, t, hx, rfl⟩
  have turn : ∀ (i : Nat) (a b : Value) (st₂ : St) (X : Led), i < kvs.length → (∃ k t, kvs[i]? = some (k, b) ∧ a = .str k t) → Inv i st₂ → X.map (·.1) = [s₁.heap.objs.size] → Ev C NoE (execs body env) ⟨put y b (put x a st₂.m), X ++ st₂.news⟩ (TurnX X (Inv (i + 1)) Q) := by
    intro i a b st₂ X hi hP hI hX
    obtain ⟨I, oI, rfl⟩ := one_own hX
    exact (L.turn i a b st₂ I oI hi hP hI).mono fun f st' q => turnX_one q
  exact for_walkT (C := C) (P2 := fun i a b => ∃ k t, kvs[i]? = some (k, b) ∧ a = .str k t) (fun A' hA => dict_walks (C := C) (kvs := kvs) (ep := ep) hA hne) hown h2 Inv [(d, od)] L.src hfp h00 turn L.done hL hlx hly hk H₃ rfl hst
structure LoopE (C : Cx) (env : Env) (x y : Str) (body : List Stmt) (Q : Flow → St → Prop) (P2 : Nat → Value → Value → Prop) (n : Nat) (srcs : Led) (st₁ : St) (Inv : Nat → St → Prop) : Prop where
  src : ∀ i st, Inv i st → ∀ p ∈ srcs, p ∈ st.news
  start : ∃ news, Sub news st₁.news ∧ Inv 0 ⟨st₁.m, news⟩
  turn : ∀ i a b st₂ I oI I' oI', i < n → P2 i a b → Inv i st₂ → Ev C NoE (execs body env) ⟨put y b (put x a st₂.m), (I, oI) :: (I', oI') :: st₂.news⟩ (TurnX [(I, oI), (I', oI')] (Inv (i + 1)) Q)
  done : ∀ st₂, Inv n st₂ → Q .next st₂
/-- for over enumerate(a list) -/
theorem x_for_enum {x y : Str} {px py pt pos : Pos} {kk : Nat} {iter : Expr} {body : List Stmt} {env : Env} {Q : Flow → St → Prop}
    (h : Ev C E (eval iter env) st fun v st₁ => ∃ e it oi l vs k news1 Inv, v = .ref e ∧ st₁.news = (e, enumObj it) :: (it, oi) :: news1 ∧ (oi.cls = .type "list_iterator" ∧ oi.data = .fields #[.ref l, .int 0 0]) ∧ (l, lst vs k) ∈ news1 ∧ LoopE C env x y body Q (fun i a b => vs[i]? = some b ∧ ∃ t, a = .int i t) vs.length [(l, lst vs k)] ⟨st₁.m, news1⟩ Inv)
    (hs : ∀ x, foldedSetIterable iter env x = pure x) (hL : env.locals = C.L) (hlx : env.kindOf x = some .local) (hly : env.kindOf y = some .local) (hk : env.scope.kind = .function) : Ev C E (exec (.For (.Tuple [.Name x px, .Name y py] kk pt) iter body [] pos) env) st Q := by
  intro s H
  refine wpAny_For (L1q h (fun v st₁ s₁ H₁ h₁ => ?_) H) hs
  obtain ⟨e, it, oi, l, vs, k, news1, Inv, rfl, hn, ⟨hoc, hod⟩, hl, L⟩ := h₁
  obtain ⟨m₁, n₁⟩ := st₁
  dsimp only at hn
  subst hn
  obtain ⟨news0, hs0, h00⟩ := L.start
  have he := (H₁.at (p := (e, enumObj it)) (.head _)).1
  have hit := (H₁.at (p := (it, oi)) (.tail _ (.head _))).1
  have hl' := (H₁.at (p := (l, lst vs k)) (.tail _ (.tail _ hl))).1
  refine wpAny_pyIter_enum he ?_
  obtain ⟨hei, hle, hli⟩ : e ≠ it ∧ l ≠ e ∧ l ≠ it := by
    obtain ⟨δ, D⟩ := H₁.ex
    have nd := D.nd
    simp only [List.cons_append, List.map_cons, List.nodup_cons, List.mem_cons, not_or] at nd
    have hm : l ∈ (news1 ++ tabsOf δ).map (·.1) := List.mem_map.mpr ⟨_, List.mem_append_left _ hl, rfl⟩
    exact ⟨nd.1.1, fun q => nd.1.2 (by rw [← q]; exact hm), fun q => nd.2.1 (by rw [← q]; exact hm)⟩
  have H₃ : Holds C ⟨m₁, [(e, enumObj it), (it, oi)] ++ news0⟩ s₁ := H₁.sub (Sub.cons₂ _ (Sub.cons₂ _ hs0))
  have hst : (∃ old, IsEnum s₁.heap e it ((0 : Nat) : Int) old) ∧ s₁.heap.IsListIter it l 0 ∧ s₁.heap.IsList l vs.toArray := ⟨⟨_, he⟩, ⟨_, hit, hoc, hod⟩, isList_of hl'⟩
  have hfp : ∀ b ∈ [e, it, l], b ∈ [e, it] ∨ (∃ o, (b, o) ∈ [(l, lst vs k)]) := fun b hb => by
      rcases List.mem_cons.mp hb with rfl | hb
      · exact .inl (.head _)
      rcases List.mem_cons.mp hb with rfl | hb
      · exact .inl (.tail _ (.head _))
      · exact .inr ⟨_, by rw [List.mem_singleton.mp hb]; exact .head _⟩
  have hsz : vs.toArray.size = vs.length := List.size_toArray
  have hown : ∀ (i : Nat) (h : Heap), ((∃ old, IsEnum h e it ((i : Nat) : Int) old) ∧ h.IsListIter it l i ∧ h.IsList l vs.toArray) → ∀ b ∈ [e, it], ∃ o, h.get? b = some o := by
    rintro i h ⟨⟨old, q⟩, ⟨oi, q2, _⟩, _⟩ b hb
    rcases List.mem_cons.mp hb with rfl | hb
    · exact ⟨_, q⟩
    · exact (List.mem_singleton.mp hb) ▸ ⟨_, q2⟩
  have h2 : ∀ (i : Nat) (vals : Array Value), (∃ t x, vs.toArray[i]? = some x ∧ vals = #[.int i t, x]) → ∃ a b, vals = #[a, b] ∧ (vs[i]? = some b ∧ ∃ t, a = .int i t) := by
    rintro i vals ⟨t, x, hx, e⟩
    exact ⟨_, _, e, by simpa using hx, t, rfl⟩
  have turn : ∀ (i : Nat) (a b : Value) (st₂ : St) (X : Led), i < vs.toArray.size → (vs[i]? = some b ∧ ∃ t, a = .int i t) → Inv i st₂ → X.map (·.1) = [e, it] → Ev C NoE (execs body env) ⟨put y b (put x a st₂.m), X ++ st₂.news⟩ (TurnX X (Inv (i + 1)) Q) := by
    intro i a b st₂ X hi hP hI hX
    rw [hsz] at hi
    obtain ⟨I, oI, I', oI', rfl⟩ := two_own hX
    exact L.turn i a b st₂ I oI I' oI' hi hP hI
  exact for_walkT (C := C) (P2 := fun i a b => vs[i]? = some b ∧ ∃ t, a = .int i t) (fun A' hA => WalksT.enumerate (prog := prog) (w := C.w) hA e it l hei hle hli vs.toArray) hown h2 Inv [(l, lst vs k)] L.src hfp h00 turn (fun st₂ hI => L.done st₂ (by rw [hsz] at hI; exact hI)) hL hlx hly hk H₃ rfl hst
theorem o_enum {l : Addr} {vs : List Value} {k : Nat} {Q : Value → St → Prop} (hm : (l, lst vs k) ∈ st.news) (h : ∀ e it oi, (oi.cls = .type "list_iterator" ∧ oi.data = .fields #[.ref l, .int 0 0]) → Q (.ref e) ⟨st.m, (e, enumObj it) :: (it, oi) :: st.news⟩) : Ev C E (call (.type "enumerate") [.ref l]) st Q := fun s H => by
  refine call_enumerate_list (isList_of (H.get hm)) fun h' he hi hsz hk => ?_
  obtain ⟨oi, hoi, hc, hd⟩ := hi
  have fresh : ∀ a, s.heap.objs.size ≤ a → C.h₀.get? a = none ∧ a ≠ C.L := fun a ha => by
    refine ⟨?_, Nat.ne_of_gt (Nat.lt_of_lt_of_le H.F.ns.lt ha)⟩
    cases q : C.h₀.get? a with
    | none => rfl
    | some o => exact absurd (Nat.lt_of_lt_of_le (Heap.lt_size (H.F.keep _ _ q)) ha) (Nat.lt_irrefl _)
  refine ⟨⟨st.m, (s.heap.objs.size + 1, enumObj s.heap.objs.size) :: (s.heap.objs.size, oi) :: st.news⟩, H.toHeld.upd (tk := s.toks) (H.F.keeps hk) (fun p hp => ?_) ?_, h _ _ oi ⟨hc, hd⟩⟩
  · rcases List.mem_cons.mp hp with rfl | hp
    · exact ⟨he, (fresh _ (Nat.le_succ _)).2, (fresh _ (Nat.le_succ _)).1⟩
    rcases List.mem_cons.mp hp with rfl | hp
    · exact ⟨hoi, (fresh _ (Nat.le_refl _)).2, (fresh _ (Nat.le_refl _)).1⟩
    · exact ⟨hk _ _ (H.N p hp).1, (H.N p hp).2⟩
  · have lt : ∀ p ∈ st.news ++ tabsOf H.δ, p.1 < s.heap.objs.size := fun p hp => Heap.lt_size (H.N p hp).1
    refine nd_lt (nd_lt H.nd lt) fun p hp => ?_
    rcases List.mem_cons.mp hp with rfl | hp
    · exact Nat.lt_succ_self _
    · exact Nat.lt_succ_of_lt (lt p hp)
end
end Mine
end
section
open PySem PySem.W PyProof.Rows PySem.Calls PySem.Spec
namespace Mine
def byText (w : World) : Bool := w.params.followText "set-order"
/-- what stays true of a set's table -/
structure TbOk (w : World) (t : SetTable) (n : Nat) : Prop where
  plain : n = 0 ∨ t.plain = false
  led : byText w = false → t.led = true
/-- a set of these texts -/
def SetO (w : World) (o : Obj) (xs : List Str) : Prop :=
  o.ExactSet ∧ ∃ es ep t ys, o.data = .set es ep t ∧ ElemsOf (strKind prog w) es.toList ∧ TxA (es.toList.map (·.2)) ys ∧ ys.Perm xs ∧ xs.Nodup ∧ t.fits es.size = true ∧ TbOk w t es.size
section
variable {w : World} {o : Obj} {xs : List Str}
theorem txa_is {l : List (Int × Value)} {ys : List Str} (h : TxA (l.map (·.2)) ys) (k : Str) : k ∈ ys ↔ ∃ e ∈ l, (strKind prog w).is k e.2 = true := by
  induction l generalizing ys with
  | nil => cases h; simp
  | cons e r ih =>
    obtain ⟨hh, v⟩ := e
    cases h with
    | @cons x t vs zs h' =>
      rw [List.mem_cons, ih h']
      constructor
      · rintro (rfl | ⟨e, he, hk⟩)
        · exact ⟨_, .head _, show Value.isStrOf k (.str k t) = true by simp [Value.isStrOf]⟩
        · exact ⟨e, .tail _ he, hk⟩
      · rintro ⟨e, he, hk⟩
        rcases List.mem_cons.mp he with rfl | he
        · left
          have hk' : Value.isStrOf k (.str x t) = true := hk
          simp [Value.isStrOf] at hk'
          exact hk'.symm
        · exact .inr ⟨e, he, hk⟩
theorem SetO.objOf (h : SetO w o xs) : o.SetObjOf (strKind prog w) (fun k => decide (k ∈ xs)) xs.length := by
  obtain ⟨hex, es, ep, t, ys, hd, hel, hT, hp, hn, hf, _⟩ := h
  refine ⟨hex, es, ep, t, hd, hel, fun k => ?_, ?_, hf⟩
  · rw [decide_eq_true_eq, ← hp.mem_iff]
    exact txa_is hT k
  · have := hT.length
    rw [List.length_map, Array.length_toList, hp.length_eq] at this
    exact this
theorem layNew_led (t : SetTable) (es : Array (Int × Value)) (h : Int) (x : Value) : (layNew t es h x).2.1.led = t.led := by
  unfold layNew
  split
  · show (SetTable.orStandIn _ _).led = _
    unfold SetTable.orStandIn
    split <;> rfl
  · rfl
theorem relayAll_led (t : SetTable) (es : Array (Int × Value)) (n : Nat) : (relayAll t es n).2.1.led = t.led ∧ (t.plain = false → (relayAll t es n).2.1.plain = false) := by
  unfold relayAll
  cases e : t.relaid (es.map (·.1)) n with
  | none => exact ⟨rfl, fun _ => rfl⟩
  | some p =>
    obtain ⟨t', order⟩ := p
    dsimp only
    split
    · unfold SetTable.relaid SetTable.laid at e
      rw [Option.bind_eq_bind, Option.bind_eq_some_iff] at e
      obtain ⟨owner, _, e⟩ := e
      cases e
      exact ⟨rfl, id⟩
    · exact ⟨rfl, fun _ => rfl⟩
theorem hashByValue_str (n : Nat) (x : Str) (t : Tok) : hashByValue n (.str x t) = pure false := by cases n <;> rfl
variable {A : Around} {E : Value → Shared → Prop} {s : Shared}
theorem txa_perm {l l' : List (Int × Value)} {ys : List Str} (h : TxA (l.map (·.2)) ys) (p : List.Perm l' l) : ∃ ys', TxA (l'.map (·.2)) ys' ∧ ys'.Perm ys := by
  induction p generalizing ys with
  | nil => exact ⟨ys, h, .refl _⟩
  | @cons a l₁ l₂ p ih =>
    obtain ⟨a1, a2⟩ := a
    cases h with
    | cons h' => obtain ⟨zs, q1, q2⟩ := ih h'; exact ⟨_, .cons q1, q2.cons _⟩
  | swap a b l =>
    obtain ⟨a1, a2⟩ := a
    obtain ⟨b1, b2⟩ := b
    cases h with
    | cons h' => cases h' with
      | cons h'' => exact ⟨_, .cons (.cons h''), .swap ..⟩
  | trans p q ih ih' =>
    obtain ⟨z1, q1, q2⟩ := ih' h
    obtain ⟨z2, q3, q4⟩ := ih q1
    exact ⟨z2, q3, q4.trans q2⟩
theorem SetO.store {a : Addr} {es : Array (Int × Value)} {ep : Nat} {t : SetTable} (ho : s.heap.get? a = some o) (hex : o.ExactSet) (hd : o.data = .set es ep t) {es' : Array (Int × Value)} {t' : SetTable} {ys : List Str}
    (hel : ElemsOf (strKind prog w) es'.toList) (hT : TxA (es'.toList.map (·.2)) ys) (hp : ys.Perm xs) (hn : xs.Nodup) (hf : t'.fits es'.size = true) (hok : TbOk w t' es'.size) :
    (s.heap.update a (Obj.putSet es' t')).get? a = some { o with data := .set es' (ep + 1) t' } ∧ SetO w { o with data := .set es' (ep + 1) t' } xs := by
  have hg : (s.heap.update a (Obj.putSet es' t')).get? a = some { o with data := .set es' (ep + 1) t' } := by
    have := Heap.get?_update_self (Obj.putSet es' t') ho (by rw [putSet_of es' t' hd]; rfl)
    rw [putSet_of es' t' hd] at this; exact this
  exact ⟨hg, hex, es', ep + 1, t', ys, rfl, hel, hT, hp, hn, hf, hok⟩
theorem txa_push {l : List (Int × Value)} {ys : List Str} (h : TxA (l.map (·.2)) ys) (hh : Int) (x : Str) (t : Tok) : TxA ((l ++ [(hh, Value.str x t)]).map (·.2)) (ys ++ [x]) := by
  rw [List.map_append]
  exact h.append (.cons .nil)
theorem SetO.isStr (x : Str) (t : Tok) : (strKind prog w).is x (.str x t) = true := by show Value.isStrOf x (.str x t) = true; simp [Value.isStrOf]
theorem wp_addTail {g : Bool → Sem Unit} (hg : ∀ (b : Bool) (s₁ : Shared) (Q' : Unit → Shared → Prop), Q' () s₁ → wpAny (model prog w) A (g b) Q' E s₁)
    {a : Addr} {es : Array (Int × Value)} {ep : Nat} {t : SetTable} (ho : s.heap.get? a = some o) (hex : o.ExactSet) (hd : o.data = .set es ep t)
    {es1 : Array (Int × Value)} {t2 : SetTable} {ys : List Str} (hel1 : ElemsOf (strKind prog w) es1.toList) (hT : TxA (es1.toList.map (·.2)) ys) (hp : ys.Perm xs) (hn : xs.Nodup)
    (hb1 : es1.size < scanBound) (hf2 : t2.fits es1.size = true) (hpl : t2.plain = false) (hled : byText w = false → t2.led = true) {wasDummy : Bool} {R : Option Bool → Shared → Prop}
    (h : ∀ h' o', Heap.SameBut a s.heap h' → h'.get? a = some o' → SetO w o' xs → R (some true) { s with heap := h' }) :
    wpAny (model prog w) A (do
        storeSet a es1 t2
        if (!wasDummy && t2.tooFull) = true then do
            g (relayAll t2 es1 (SetTable.grown es1.size)).2.2
            storeSet a (relayAll t2 es1 (SetTable.grown es1.size)).1 (relayAll t2 es1 (SetTable.grown es1.size)).2.1
            pure (some true)
          else pure (some true)) R E s := by
  refine wpAny_bind (wpAny_storeSet_of ho hd ?_ (fits_of_scanBound hb1))
  obtain ⟨ho1, hS1⟩ := SetO.store (w := w) ho hex hd hel1 hT hp hn hf2 ⟨.inr hpl, hled⟩
  have hsb1 := Heap.SameBut.update s.heap a (Obj.putSet es1 t2)
  split
  · have hpm := relayAll_perm t2 es1 (SetTable.grown es1.size)
    have hfr := relayAll_fits t2 es1 (SetTable.grown es1.size)
    have hrl := relayAll_led t2 es1 (SetTable.grown es1.size)
    generalize relayAll t2 es1 (SetTable.grown es1.size) = Rl at hpm hfr hrl ⊢
    obtain ⟨es2, t3, gave2⟩ := Rl
    dsimp only at hpm hfr hrl ⊢
    obtain ⟨ys', hT', hp'⟩ := txa_perm hT hpm
    have hsz : es2.size = es1.size := by rw [← Array.length_toList, hpm.length_eq, Array.length_toList]
    refine wpAny_bind (hg _ _ _ ?_)
    refine wpAny_bind (wpAny_storeSet_of ho1 rfl ?_ (fits_of_scanBound (by rw [hsz]; exact hb1)))
    obtain ⟨ho2, hS2⟩ := SetO.store (w := w) (s := { s with heap := s.heap.update a (Obj.putSet es1 t2) }) ho1 hex rfl (hel1.perm hpm) hT' (hp'.trans hp) hn hfr ⟨.inr (hrl.2 hpl), fun e => hrl.1.trans (hled e)⟩
    exact wpAny_pure (h _ _ (hsb1.trans (Heap.SameBut.update _ a _)) ho2 hS2)
  · exact wpAny_pure (h _ _ hsb1 ho1 hS1)
theorem wp_setAdd {a : Addr} {x : Str} {tk : Tok} {Q : Bool → Shared → Prop} (ho : s.heap.get? a = some o) (hS : SetO w o xs) (hroom : xs.length + 1 < scanBound)
    (h : ∀ h' o', Heap.SameBut a s.heap h' → h'.get? a = some o' → SetO w o' (if x ∈ xs then xs else xs ++ [x]) → Q (!decide (x ∈ xs)) { s with heap := h' }) :
    wpAny (model prog w) A (setAddHashed a (.str x tk) (hashStr w x)) Q E s := by
  have hO := hS.objOf
  have hlen : xs.length = _ := rfl
  obtain ⟨hex, es, ep, t, ys, hd, hel, hT, hp, hn, hf, hok⟩ := id hS
  have hkey := SetO.isStr (w := w) x tk
  have hsc : (Value.str x tk).scannable = true := rfl
  have hsz : es.size = xs.length := by
    have := hT.length
    rw [List.length_map, Array.length_toList, hp.length_eq] at this
    exact this
  have hb : es.size < scanBound := by omega
  show wpAny _ _ (setAddHashed a (.str x tk) ((strKind prog w).hash x)) _ _ _
  unfold setAddHashed setAddHashedIn
  refine wpAny_holding (wpAny_bind (wpAny_setState_of ho hd hf ?_))
  dsimp only
  rw [byScan_of hsc hb hel]
  simp only [↓reduceIte]
  unfold setAddByScan
  refine wpAny_bind ?_
  refine wpAny_bind (wpAny_rule ?_)
  refine wpAny_bind (wpAny_setScan_of hkey ho hd hf hel ?_)
  have hmem := fun k => txa_is (w := w) hT k
  cases hr : List.findIdx? (fun e => (strKind prog w).is x e.2) es.toList with
  | some j =>
    dsimp only
    obtain ⟨hj, hpj, _⟩ := List.findIdx?_eq_some_iff_getElem.mp hr
    have hx : x ∈ xs := hp.mem_iff.mp ((hmem x).mpr ⟨es.toList[j], List.getElem_mem hj, hpj⟩)
    refine wpAny_pure (wpAny_pure ?_)
    have e : s = { s with heap := s.heap } := by cases s; rfl
    have := h s.heap o (Heap.SameBut.refl a s.heap) ho (by rw [if_pos hx]; exact hS)
    rw [decide_eq_true hx] at this; rw [e]; exact this
  | none =>
    dsimp only
    have hx : x ∉ xs := fun q => by
      obtain ⟨e, he, hpe⟩ := (hmem x).mp (hp.mem_iff.mpr q)
      have := List.findIdx?_eq_none_iff.mp hr e he
      rw [hpe] at this; exact Bool.noConfusion this
    have hgw : ∀ (b : Bool) {s₁ : Shared} {Q' : Unit → Shared → Prop}, Q' () s₁ → wpAny (model prog w) A (match b with | true => rule "set.scan.the-table-gave-way" | false => pure ()) Q' E s₁ :=
      fun b s₁ Q' hq => by cases b <;> first | exact wpAny_pure hq | exact wpAny_rule hq
    have hperm := layNew_perm t es ((strKind prog w).hash x) (.str x tk)
    have hfits := layNew_fits t es ((strKind prog w).hash x) (.str x tk)
    have hld := layNew_led t es ((strKind prog w).hash x) (.str x tk)
    generalize layNew t es ((strKind prog w).hash x) (.str x tk) = L at hperm hfits hld ⊢
    obtain ⟨es1, t1, wasDummy, gave⟩ := L
    dsimp only at hperm hfits hld ⊢
    rw [Array.toList_push] at hperm
    have hel1 : ElemsOf (strKind prog w) es1.toList := (hel.push hkey hsc).perm hperm
    obtain ⟨ys1, hT1, hp1⟩ := txa_perm (txa_push hT ((strKind prog w).hash x) x tk) hperm
    have hb1' : es1.size < scanBound := by
      rw [← Array.length_toList, hperm.length_eq, List.length_append, Array.length_toList, hsz]; exact hroom
    have hnd : (xs ++ [x]).Nodup := List.nodup_append.mpr ⟨hn, by simp, fun a ha b hb' e => hx (by rw [List.mem_singleton.mp hb'] at e; rw [← e]; exact ha)⟩
    have hperm2 : ys1.Perm (xs ++ [x]) := hp1.trans (hp.append_right _)
    refine wpAny_bind (hgw _ ?_)
    have hend : ∀ h' o', Heap.SameBut a s.heap h' → h'.get? a = some o' → SetO w o' (xs ++ [x]) → Q true { s with heap := h' } := by
      intro h' o' hsb ho' hS'
      have := h h' o' hsb ho' (by rw [if_neg hx]; exact hS')
      rw [decide_eq_false hx] at this; exact this
    split
    · rw [hashByValue_str]
      refine wpAny_bind (wpAny_pure ?_)
      simp only [Bool.false_eq_true, ↓reduceIte]
      refine wp_addTail (xs := xs ++ [x]) ?_ ho hex hd hel1 hT1 hperm2 hnd hb1' ?_ ?_ ?_ ?_
      · intro b s₁ Q' hq; cases b <;> first | exact wpAny_pure hq | exact wpAny_rule hq
      · exact SetTable.fits_plain_off hfits
      · rfl
      · exact fun e => hld.trans (hok.led e)
      · intro h' o' hsb ho' hS'; dsimp only; exact wpAny_pure (hend h' o' hsb ho' hS')
    · rename_i hpl
      refine wpAny_bind (wpAny_pure ?_)
      simp only [↓reduceIte]
      refine wp_addTail (xs := xs ++ [x]) ?_ ho hex hd hel1 hT1 hperm2 hnd hb1' hfits (by simpa using hpl) (fun e => hld.trans (hok.led e)) ?_
      · intro b s₁ Q' hq; cases b <;> first | exact wpAny_pure hq | exact wpAny_rule hq
      · intro h' o' hsb ho' hS'; dsimp only; exact wpAny_pure (hend h' o' hsb ho' hS')
end
end Mine
end
section
open PySem PySem.W PyProof.Rows PySem.Calls PySem.Spec
namespace Mine
section
variable {M0 : Model} {A : Around} {E : Value → Shared → Prop} {s : Shared}
theorem wp_choose {src : Source} {n : Nat} {Q : Nat → Shared → Prop} (hn : 0 < n) (h : ∀ k d, k < n → Q k { s with drawn := d }) : wpAny M0 A (choose src n) Q E s :=
  fun _ _ _ => ⟨Nat.ne_of_gt hn, h _ _ (Nat.mod_lt _ hn)⟩
theorem perm_pick {α : Type} : ∀ {xs : List α} {i : Nat} {x : α}, xs[i]? = some x → List.Perm (x :: xs.eraseIdx i) xs
  | [], i, x, h => by simp at h
  | y :: r, 0, x, h => by simp at h; subst h; exact .refl _
  | y :: r, i + 1, x, h => by
    simp at h
    exact (List.Perm.swap y x _).trans ((perm_pick h).cons y)
theorem wp_drawOrder {α : Type} {Q : List α → Shared → Prop} : ∀ (n : Nat) (xs : List α) (s : Shared), xs.length = n → (∀ ys d, ys.Perm xs → Q ys { s with drawn := d }) → wpAny M0 A (drawOrder n xs) Q E s
  | 0, [], s, _, h => by
    have := h [] s.drawn (.refl _)
    have e : s = { s with drawn := s.drawn } := rfl
    exact wpAny_pure this
  | n + 1, x :: r, s, hl, h => by
    show wpAny _ _ (choose .order (x :: r).length >>= fun i => match (x :: r)[i]? with | some z => drawOrder n ((x :: r).eraseIdx i) >>= fun q => pure (z :: q) | none => unsupported "internal:drawOrder") _ _ _
    refine wpAny_bind (wp_choose (by simp) fun k d hk => ?_)
    have e : (x :: r)[k]? = some (x :: r)[k] := List.getElem?_eq_getElem hk
    rw [e]
    dsimp only
    refine wpAny_bind (wp_drawOrder n _ _ (by rw [List.length_eraseIdx]; simp only [List.length_cons] at hl hk ⊢; split <;> omega) fun ys d' hp => ?_)
    exact wpAny_pure (h _ d' ((hp.cons _).trans (perm_pick e)))
end
section
variable {w : World} {o : Obj} {xs : List Str} {A : Around} {E : Value → Shared → Prop} {s : Shared}
theorem SetO.perm {ys : List Str} (h : SetO w o xs) (p : xs.Perm ys) : SetO w o ys := by
  obtain ⟨a, es, ep, t, zs, b, c, d, e, f, g⟩ := h
  exact ⟨a, es, ep, t, zs, b, c, d, e.trans p, p.nodup_iff.mp f, g⟩
theorem SetO.nodup (h : SetO w o xs) : xs.Nodup := let ⟨_, _, _, _, _, _, _, _, _, f, _⟩ := h; f
theorem SetO.setOf {a : Addr} (h : SetO w o xs) (ho : s.heap.get? a = some o) (hb : xs.length < scanBound) : s.heap.SetOf (strKind prog w) a (fun k => decide (k ∈ xs)) xs.length := h.objOf.setOf ho hb
theorem eraseAt_list {α : Type} (es : Array α) (i : Nat) : (SetTable.eraseAt es i).toList = es.toList.take i ++ es.toList.drop (i + 1) := by
  simp [SetTable.eraseAt, List.extract_eq_take_drop, List.take_of_length_le]
theorem drop_ok (t : SetTable) (i : Nat) : (t.drop i).led = t.led ∧ (t.drop i).plain = t.plain := by
  unfold SetTable.drop
  split <;> exact ⟨rfl, rfl⟩
theorem insertAt_size {α : Type} (xs : Array α) (p : Nat) (x : α) : (SetTable.insertAt xs p x).size = xs.size + 1 := by
  have := (SetTable.insertAt_perm xs p x).length_eq
  simpa using this
theorem eraseAt_size {α : Type} {xs : Array α} {p : Nat} (h : p < xs.size) : (SetTable.eraseAt xs p).size = xs.size - 1 := by
  rw [← Array.length_toList, eraseAt_list, List.length_append, List.length_take, List.length_drop, Array.length_toList]
  omega
theorem drop_fits {t : SetTable} {n i : Nat} (h : t.fits n = true) (hi : i < n) : (t.drop i).fits (n - 1) = true := by
  simp only [SetTable.fits, Bool.and_eq_true, beq_iff_eq, decide_eq_true_eq] at h ⊢
  unfold SetTable.drop
  have hp : i < t.place.size := by omega
  rw [Array.getElem?_eq_getElem hp]
  dsimp only
  unfold SetTable.fill at *
  dsimp only
  rw [eraseAt_size hp, insertAt_size]
  omega
theorem wp_setFind {a : Addr} {x : Str} {tk : Tok} {es : Array (Int × Value)} {ep : Nat} {t : SetTable} {Q : Option Nat → Shared → Prop} (ho : s.heap.get? a = some o) (hd : o.data = .set es ep t) (hf : t.fits es.size = true) (hel : ElemsOf (strKind prog w) es.toList) (hb : es.size < scanBound)
    (h : Q (es.toList.findIdx? fun e => (strKind prog w).is x e.2) s) : wpAny (model prog w) A (setFind a (.str x tk) (hashStr w x)) Q E s := by
  have hkey := SetO.isStr (w := w) x tk
  have hsc : (Value.str x tk).scannable = true := rfl
  show wpAny _ _ (setFind a (.str x tk) ((strKind prog w).hash x)) _ _ _
  unfold setFind setFindIn
  refine wpAny_bind (wpAny_setState_of ho hd hf ?_)
  dsimp only
  rw [byScan_of hsc hb hel]
  simp only [↓reduceIte]
  refine wpAny_bind (wpAny_rule ?_)
  refine wpAny_bind (wpAny_setScan_of hkey ho hd hf hel ?_)
  cases hr : List.findIdx? (fun e => (strKind prog w).is x e.2) es.toList with
  | none => dsimp only; exact wpAny_pure (hr ▸ h)
  | some j => dsimp only; rw [Nat.zero_add]; exact wpAny_pure (hr ▸ h)
theorem txa_idx {l : List (Int × Value)} {ys : List Str} (h : TxA (l.map (·.2)) ys) (x : Str) : l.findIdx? (fun e => (strKind prog w).is x e.2) = ys.findIdx? (· == x) := by
  induction l generalizing ys with
  | nil => cases h; rfl
  | cons e r ih =>
    obtain ⟨e1, e2⟩ := e
    cases h with
    | @cons y t vs zs h' =>
      rw [List.findIdx?_cons, List.findIdx?_cons, ih h']
      have : (strKind prog w).is x (.str y t) = (y == x) := rfl
      rw [this]
theorem perm_erase_at {ys : List Str} {j : Nat} {x : Str} (h : ys.findIdx? (· == x) = some j) : ys.take j ++ ys.drop (j + 1) = ys.erase x := by
  induction ys generalizing j with
  | nil => simp at h
  | cons y r ih =>
    rw [List.findIdx?_cons] at h
    cases e : y == x with
    | true => rw [e, if_pos rfl] at h; cases h; rw [eq_of_beq e]; simp
    | false =>
      rw [e, if_neg Bool.false_ne_true] at h
      obtain ⟨i, hi, rfl⟩ := Option.map_eq_some_iff.mp h
      rw [List.erase_cons, e, if_neg Bool.false_ne_true, ← ih hi]
      rfl
theorem wp_setDiscard {a : Addr} {x : Str} {tk : Tok} {Q : Bool → Shared → Prop} (ho : s.heap.get? a = some o) (hS : SetO w o xs) (hx : x ∈ xs) (hb : xs.length < scanBound)
    (h : ∀ h' o', Heap.SameBut a s.heap h' → h'.get? a = some o' → SetO w o' (xs.erase x) → Q true { s with heap := h' }) :
    wpAny (model prog w) A (setDiscardHashed a (.str x tk) (hashStr w x)) Q E s := by
  obtain ⟨hex, es, ep, t, ys, hd, hel, hT, hp, hn, hf, hok⟩ := id hS
  have hsz : es.size = xs.length := by
    have := hT.length
    rw [List.length_map, Array.length_toList, hp.length_eq] at this
    exact this
  unfold setDiscardHashed
  refine wpAny_bind (wp_setFind ho hd hf hel (by omega) ?_)
  rw [txa_idx hT]
  cases hr : ys.findIdx? (· == x) with
  | none =>
    exfalso
    have := List.findIdx?_eq_none_iff.mp hr x (hp.mem_iff.mpr hx)
    simp at this
  | some j =>
    dsimp only
    have hj : j < es.size := by
      obtain ⟨hj, _⟩ := List.findIdx?_eq_some_iff_getElem.mp hr
      rw [hsz, ← hp.length_eq]; exact hj
    refine wpAny_bind (wpAny_setState_of ho hd hf ?_)
    dsimp only
    have hz' := eraseAt_size hj
    refine wpAny_bind (wpAny_storeSet_of ho hd ?_ (fits_of_scanBound (by omega)))
    refine wpAny_bind (wpAny_point ?_)
    have hel' : ElemsOf (strKind prog w) (SetTable.eraseAt es j).toList := by
      rw [eraseAt_list]
      intro e he
      rcases List.mem_append.mp he with he | he
      · exact hel e (List.mem_of_mem_take he)
      · exact hel e (List.mem_of_mem_drop he)
    have hT' : TxA ((SetTable.eraseAt es j).toList.map (·.2)) (ys.erase x) := by
      rw [eraseAt_list, List.map_append, List.map_take, List.map_drop, ← perm_erase_at hr]
      exact (hT.take j).append (hT.drop (j + 1))
    have hpl : (SetTable.eraseAt es j).size = 0 ∨ (t.drop j).plain = false := by
      rcases hok.plain with e | e
      · exact .inl (by omega)
      · exact .inr ((drop_ok t j).2.trans e)
    obtain ⟨ho1, hS1⟩ := SetO.store (w := w) ho hex hd hel' hT' (hp.erase x) (hn.erase x) (hz' ▸ drop_fits hf hj) (t' := t.drop j) ⟨hpl, fun e => (drop_ok t j).1.trans (hok.led e)⟩
    exact wpAny_pure (h _ _ (Heap.SameBut.update s.heap a _) ho1 hS1)
theorem pick_perm {α : Type} (next : Nat → Nat) (xs : Array α) : (pickOrder next xs).toList.Perm xs.toList := by
  have key : ∀ (fuel k : Nat) (left : List α) (out : Array α), left.length ≤ fuel → (pickOrder.go next fuel k left out).toList.Perm (out.toList ++ left) := by
    intro fuel
    induction fuel with
    | zero =>
      intro k left out h
      have : left = [] := List.eq_nil_of_length_eq_zero (by omega)
      subst this
      unfold pickOrder.go
      simp
    | succ fuel ih =>
      intro k left out h
      unfold pickOrder.go
      cases left with
      | nil => simp
      | cons y r =>
        have hk : next k % (y :: r).length < (y :: r).length := Nat.mod_lt _ (by simp)
        have e : (y :: r)[next k % (y :: r).length]? = some (y :: r)[next k % (y :: r).length] := List.getElem?_eq_getElem hk
        rw [e]
        dsimp only
        refine (ih _ _ _ (by rw [List.length_eraseIdx]; simp only [List.length_cons] at h hk ⊢; split <;> omega)).trans ?_
        rw [Array.toList_push, List.append_assoc]
        exact (perm_pick e).append_left _
  have := key xs.size 0 xs.toList #[] (by rw [Array.length_toList]; exact Nat.le_refl _)
  simpa [pickOrder] using this
theorem txa_perm_vals {l l' : List Value} {ys : List Str} (h : TxA l ys) (p : List.Perm l' l) : ∃ ys', TxA l' ys' ∧ ys'.Perm ys := by
  induction p generalizing ys with
  | nil => exact ⟨ys, h, .refl _⟩
  | cons a p ih =>
    cases h with
    | cons h' => obtain ⟨zs, q1, q2⟩ := ih h'; exact ⟨_, .cons q1, q2.cons _⟩
  | swap a b l =>
    cases h with
    | cons h' => cases h' with
      | cons h'' => exact ⟨_, .cons (.cons h''), .swap ..⟩
  | trans p q ih ih' =>
    obtain ⟨z1, q1, q2⟩ := ih' h
    obtain ⟨z2, q3, q4⟩ := ih q1
    exact ⟨z2, q3, q4.trans q2⟩
end
end Mine
end
section
open PySem PySem.W PyProof.Rows PySem.Calls PySem.Spec
namespace Mine
theorem slot_sit_next : Slot "set_iterator" "__next__" "set_iterator.__next__" :=
  .of (owner := "set_iterator") (n := "__next__") (by rw [typeLookup_type, builtinLookup_eq_fast]; kernel_rfl) (by decide +kernel) (by decide +kernel) (by decide +kernel)
    (by first | exact .inl (by decide +kernel) | exact .inr (by decide +kernel)) (by rw [isSubtype_type]; kernel_rfl)
theorem slot_sit_iter : Slot "set_iterator" "__iter__" "set_iterator.__iter__" :=
  .of (owner := "set_iterator") (n := "__iter__") (by rw [typeLookup_type, builtinLookup_eq_fast]; kernel_rfl) (by decide +kernel) (by decide +kernel) (by decide +kernel)
    (by first | exact .inl (by decide +kernel) | exact .inr (by decide +kernel)) (by rw [isSubtype_type]; kernel_rfl)
theorem entry_sit_next : entryFor table "set_iterator.__next__" = some Builtin.«set_iterator.__next__» := entryFor_of_tree (by kernel_rfl)
theorem entry_sit_iter : entryFor table "set_iterator.__iter__" = some Builtin.«dict_keyiterator.__iter__» := entryFor_alias (id' := "dict_keyiterator.__iter__") (by kernel_rfl) rfl (by decide +kernel) (by kernel_rfl)
theorem entry_set_iter : entryFor table "set.__iter__" = some Builtin.«frozenset.__iter__» := entryFor_alias (id' := "frozenset.__iter__") (by kernel_rfl) rfl (by decide +kernel) (by kernel_rfl)
theorem args_sit_next (a : Value) : argsOk "set_iterator.__next__" ⟨[a], []⟩ := by unfold argsOk; kernel_rfl
theorem args_sit_iter (a : Value) : argsOk "set_iterator.__iter__" ⟨[a], []⟩ := by unfold argsOk; kernel_rfl
theorem args_set_iter (a : Value) : argsOk "set.__iter__" ⟨[a], []⟩ := by unfold argsOk; kernel_rfl
abbrev sitObj (first : Value) (i : Nat) (a : Addr) (n ep : Nat) : Obj := { cls := .type "set_iterator", data := .fields #[first, rawInt (i : Int), .ref a, rawInt (n : Int), rawInt (ep : Int)] }
section
variable {w : World} {o : Obj} {xs : List Str} {A : Around} {E : Value → Shared → Prop} {s : Shared} {a I T : Addr} {es : Array (Int × Value)} {ep : Nat} {t : SetTable}
theorem wp_byText {Q : Bool → Shared → Prop} (h : Q (byText w) s) : wpAny (model prog w) A setsByText Q E s := by
  unfold setsByText
  exact wpAny_bind (wpAny_askSetting (wpAny_pure h))
theorem wp_setDrawn {Q : Bool → Shared → Prop} (ho : s.heap.get? a = some o) (hd : o.data = .set es ep t) (hf : t.fits es.size = true) (h : Q (!byText w && (!t.plain && decide (es.size > 1))) s) : wpAny (model prog w) A (setDrawn a) Q E s := by
  unfold setDrawn
  refine wpAny_bind (wpAny_setState_of ho hd hf ?_)
  dsimp only
  refine wpAny_bind (wp_byText ?_)
  exact wpAny_pure h
theorem sit_int_at {x : Int} {y : Int} {tk : Tok} (h : rawInt x = .int y tk) : x = y := by injection h
/-- a step of a walk by slots -/
theorem wp_sit_next1 {first : Nat} {i n next : Nat} {x : Value} {Q : Option Value → Shared → Prop} (hit : s.heap.get? I = some (sitObj (rawInt (first : Int)) i a n ep)) (ho : s.heap.get? a = some o) (hd : o.data = .set es ep t) (hf : t.fits es.size = true) (hn : es.size = n)
    (hnext : ∀ {A' : Around} {E' : Value → Shared → Prop} {Q' : Option (Value × Nat) → Shared → Prop}, Q' (some (x, next)) s → wpAny (model prog w) A' (setNext a first i ep) Q' E' s)
    (hQ : ∀ h', h'.get? I = some (sitObj (rawInt (next : Int)) (i + 1) a n ep) → Heap.SameBut I s.heap h' → Q (some x) { s with heap := h' }) : wpAny (model prog w) A (pyNext (.ref I)) Q E s := by
  have hT : s.TypeIs (.ref I) "set_iterator" := ⟨_, hit, rfl⟩
  unfold pyNext
  refine wpAny_bind (wpAny_attempt (wpAny_callSpecial?_slot (name := Str.ofString "__next__") hT slot_sit_next
    (wpAny_call_entry slot_sit_next hT entry_sit_next ?_ (args_sit_next _))))
  unfold Builtin.«set_iterator.__next__»
  refine wpAny_bind (m := slotArgs "__next__" 0 ⟨[.ref I], []⟩) (wpAny_pure ?_)
  refine wpAny_bind (wpAny_fieldsOf hit rfl ?_)
  show wpAny _ _ (setEntries a >>= _) _ _ s
  refine wpAny_bind (wpAny_setEntries_of ho hd hf ?_)
  rw [if_neg (by rw [hn]; simp)]
  show wpAny _ _ (setNext a (Int.toNat first) (Int.toNat i) (Int.toNat ep) >>= _) _ _ s
  simp only [Int.toNat_natCast]
  refine wpAny_bind (hnext ?_)
  dsimp only
  refine wpAny_bind (wpAny_setField_rec hit (by simp) fun h₁ he₁ hs₁ => ?_)
  refine wpAny_bind (wpAny_setField_rec he₁ (by simp) fun h₂ he₂ hs₂ => ?_)
  refine wpAny_pure ⟨_, rfl, wpAny_pure (hQ h₂ ?_ (Heap.SameBut.trans hs₁ hs₂))⟩
  rw [he₂]
  rfl
theorem wp_sit_end1 {first : Nat} {i n : Nat} {Q : Option Value → Shared → Prop} (hh : A.handled = none) (hit : s.heap.get? I = some (sitObj (rawInt (first : Int)) i a n ep)) (ho : s.heap.get? a = some o) (hd : o.data = .set es ep t) (hf : t.fits es.size = true) (hn : es.size = n)
    (hnext : ∀ {A' : Around} {E' : Value → Shared → Prop} {Q' : Option (Value × Nat) → Shared → Prop}, Q' none s → wpAny (model prog w) A' (setNext a first i ep) Q' E' s)
    (hQ : ∀ h', Heap.ExtBut I s.heap h' → Q none { s with heap := h' }) : wpAny (model prog w) A (pyNext (.ref I)) Q E s := by
  have hT : s.TypeIs (.ref I) "set_iterator" := ⟨_, hit, rfl⟩
  unfold pyNext
  refine wpAny_bind (wpAny_attempt (wpAny_callSpecial?_slot (name := Str.ofString "__next__") hT slot_sit_next
    (wpAny_call_entry slot_sit_next hT entry_sit_next ?_ (args_sit_next _))))
  unfold Builtin.«set_iterator.__next__»
  refine wpAny_bind (m := slotArgs "__next__" 0 ⟨[.ref I], []⟩) (wpAny_pure ?_)
  refine wpAny_bind (wpAny_fieldsOf hit rfl ?_)
  show wpAny _ _ (setEntries a >>= _) _ _ s
  refine wpAny_bind (wpAny_setEntries_of ho hd hf ?_)
  rw [if_neg (by rw [hn]; simp)]
  show wpAny _ _ (setNext a (Int.toNat first) (Int.toNat i) (Int.toNat ep) >>= _) _ _ s
  simp only [Int.toNat_natCast]
  refine wpAny_bind (hnext ?_)
  dsimp only
  refine wpAny_bind (wpAny_setField_rec hit (by simp) fun h₁ he₁ hs₁ => ?_)
  show wpAny _ _ (newExc (.type "StopIteration") [] >>= _) _ _ _
  refine wpAny_bind ?_
  simp only [newExc, newTuple]
  refine wpAny_bind (wpAny_newObj_type ?_ (by size_fits))
  refine wpAny_bind (m := firstArgMember _ _) (wpAny_of_eq (a := Value.none) (by first | rfl | (simp only [firstArgMember]; rfl)) ?_)
  refine wpAny_newObj_type ?_ (by size_fits)
  simp only [raiseNew]
  refine wpAny_bind (wpAny_handled ?_)
  rw [show A.in1.handled = none from hh]
  refine wpAny_bind (wpAny_pure (wpAny_throw ?_))
  refine wpAny_bind (wpAny_isInstance (T := "StopIteration") (b := true) ⟨_, Heap.get?_push_size _ rfl, rfl⟩ isSubtype_stop ?_)
  exact wpAny_pure (hQ _ ((hs₁.extBut.push _).push _))
abbrev placesObj (ps : List Nat) : Obj := { cls := .type "tuple", data := .seq (ps.map fun (i : Nat) => rawInt (i : Int)).toArray }
theorem wp_sit_next2 {ps : List Nat} {i n p : Nat} {hh' : Int} {x : Value} {Q : Option Value → Shared → Prop} (hit : s.heap.get? I = some (sitObj (.ref T) i a n ep)) (hTt : s.heap.get? T = some (placesObj ps)) (hp : ps[i]? = some p) (ho : s.heap.get? a = some o) (hd : o.data = .set es ep t) (hf : t.fits es.size = true) (hn : es.size = n)
    (hx : es[p]? = some (hh', x)) (hQ : ∀ h', h'.get? I = some (sitObj (.ref T) (i + 1) a n ep) → Heap.SameBut I s.heap h' → Q (some x) { s with heap := h' }) : wpAny (model prog w) A (pyNext (.ref I)) Q E s := by
  have hT : s.TypeIs (.ref I) "set_iterator" := ⟨_, hit, rfl⟩
  unfold pyNext
  refine wpAny_bind (wpAny_attempt (wpAny_callSpecial?_slot (name := Str.ofString "__next__") hT slot_sit_next
    (wpAny_call_entry slot_sit_next hT entry_sit_next ?_ (args_sit_next _))))
  unfold Builtin.«set_iterator.__next__»
  refine wpAny_bind (m := slotArgs "__next__" 0 ⟨[.ref I], []⟩) (wpAny_pure ?_)
  refine wpAny_bind (wpAny_fieldsOf hit rfl ?_)
  show wpAny _ _ (setEntries a >>= _) _ _ s
  refine wpAny_bind (wpAny_setEntries_of ho hd hf ?_)
  rw [if_neg (by rw [hn]; simp)]
  dsimp only
  refine wpAny_bind (wpAny_seqItems hTt rfl ?_)
  dsimp only
  have hpl : (ps.map fun (i : Nat) => rawInt (i : Int)).toArray[(Int.toNat (i : Int))]? = some (rawInt (p : Int)) := by
    rw [Int.toNat_natCast, List.getElem?_toArray, List.getElem?_map, hp]; rfl
  rw [hpl]
  show wpAny _ _ (setNextDrawn a (Int.toNat p) (Int.toNat ep) >>= _) _ _ s
  simp only [Int.toNat_natCast]
  refine wpAny_bind ?_
  unfold setNextDrawn
  refine wpAny_bind (wpAny_setState_of ho hd hf ?_)
  dsimp only
  rw [if_neg (by simp), hx]
  refine wpAny_bind (wpAny_pure ?_)
  refine wpAny_pure ?_
  refine wpAny_bind (wpAny_setField_rec hit (by simp) fun h₁ he₁ hs₁ => ?_)
  refine wpAny_pure ⟨_, rfl, wpAny_pure (hQ h₁ ?_ hs₁)⟩
  rw [he₁]
  rfl
theorem wp_sit_end2 {ps : List Nat} {i n : Nat} {Q : Option Value → Shared → Prop} (hh : A.handled = none) (hit : s.heap.get? I = some (sitObj (.ref T) i a n ep)) (hTt : s.heap.get? T = some (placesObj ps)) (hp : ps[i]? = none) (ho : s.heap.get? a = some o) (hd : o.data = .set es ep t) (hf : t.fits es.size = true) (hn : es.size = n)
    (hQ : ∀ h', Heap.ExtBut I s.heap h' → Q none { s with heap := h' }) : wpAny (model prog w) A (pyNext (.ref I)) Q E s := by
  have hT : s.TypeIs (.ref I) "set_iterator" := ⟨_, hit, rfl⟩
  unfold pyNext
  refine wpAny_bind (wpAny_attempt (wpAny_callSpecial?_slot (name := Str.ofString "__next__") hT slot_sit_next
    (wpAny_call_entry slot_sit_next hT entry_sit_next ?_ (args_sit_next _))))
  unfold Builtin.«set_iterator.__next__»
  refine wpAny_bind (m := slotArgs "__next__" 0 ⟨[.ref I], []⟩) (wpAny_pure ?_)
  refine wpAny_bind (wpAny_fieldsOf hit rfl ?_)
  show wpAny _ _ (setEntries a >>= _) _ _ s
  refine wpAny_bind (wpAny_setEntries_of ho hd hf ?_)
  rw [if_neg (by rw [hn]; simp)]
  dsimp only
  refine wpAny_bind (wpAny_seqItems hTt rfl ?_)
  dsimp only
  have hpl : (ps.map fun (i : Nat) => rawInt (i : Int)).toArray[(Int.toNat (i : Int))]? = none := by
    rw [Int.toNat_natCast, List.getElem?_toArray, List.getElem?_map, hp]; rfl
  rw [hpl]
  refine wpAny_bind (wpAny_setField_rec hit (by simp) fun h₁ he₁ hs₁ => ?_)
  refine wpAny_bind (wpAny_setField_rec he₁ (by simp) fun h₂ he₂ hs₂ => ?_)
  show wpAny _ _ (newExc (.type "StopIteration") [] >>= _) _ _ _
  refine wpAny_bind ?_
  simp only [newExc, newTuple]
  refine wpAny_bind (wpAny_newObj_type ?_ (by size_fits))
  refine wpAny_bind (m := firstArgMember _ _) (wpAny_of_eq (a := Value.none) (by first | rfl | (simp only [firstArgMember]; rfl)) ?_)
  refine wpAny_newObj_type ?_ (by size_fits)
  simp only [raiseNew]
  refine wpAny_bind (wpAny_handled ?_)
  rw [show A.in1.handled = none from hh]
  refine wpAny_bind (wpAny_pure (wpAny_throw ?_))
  refine wpAny_bind (wpAny_isInstance (T := "StopIteration") (b := true) ⟨_, Heap.get?_push_size _ rfl, rfl⟩ isSubtype_stop ?_)
  exact wpAny_pure (hQ _ (((Heap.SameBut.trans hs₁ hs₂).extBut.push _).push _))
theorem wp_sit_self {first : Value} {i n : Nat} {Q : Value → Shared → Prop} (hit : s.heap.get? I = some (sitObj first i a n ep)) (h : Q (.ref I) s) : wpAny (model prog w) A (pyIter (.ref I)) Q E s := by
  have hT : s.TypeIs (.ref I) "set_iterator" := ⟨_, hit, rfl⟩
  refine wpAny_pyIter_slot hT slot_sit_iter (wpAny_call_entry slot_sit_iter hT entry_sit_iter ?_ (args_sit_iter _))
  show wpAny _ _ (ret (.ref I)) _ _ s
  exact wpAny_pure ⟨_, rfl, "set_iterator", _, hT, slot_sit_next.lookup, h⟩
theorem sit_walks1 (hh : A.handled = none) {f : Nat → Nat} {n : Nat} {vals : List Value} (hv : vals.length = n) (hI : a ≠ I) (hd : o.data = .set es ep t) (hf : t.fits es.size = true) (hn : es.size = n)
    (hnext : ∀ (i : Nat) (x : Value), vals[i]? = some x → ∀ (s : Shared), s.heap.get? a = some o → ∀ {A' : Around} {E' : Value → Shared → Prop} {Q' : Option (Value × Nat) → Shared → Prop}, Q' (some (x, f (i + 1))) s → wpAny (model prog w) A' (setNext a (f i) i ep) Q' E' s)
    (hend : ∀ (s : Shared), s.heap.get? a = some o → ∀ {A' : Around} {E' : Value → Shared → Prop} {Q' : Option (Value × Nat) → Shared → Prop}, Q' none s → wpAny (model prog w) A' (setNext a (f n) n ep) Q' E' s) :
    Walks prog w A I [I, a] [I] n (fun i v => vals[i]? = some v) (fun i h => h.get? I = some (sitObj (rawInt (f i : Int)) i a n ep) ∧ h.get? a = some o) where
  sub := fun b hb => by rw [List.mem_singleton.mp hb]; exact .head _
  frame := fun i h h' st hk => ⟨hk I (.head _) _ st.1, hk a (.tail _ (.head _)) _ st.2⟩
  item := fun i s Q E hi st hQ => by
    have hx : vals[i]? = some vals[i] := List.getElem?_eq_getElem (by omega)
    refine wp_sit_next1 st.1 st.2 hd hf hn (hnext i _ hx s st.2) fun h' he hs => ?_
    exact hQ _ h' s.toks hx ⟨he, hs.extBut a o hI st.2⟩ fun b ob hb e => hs.extBut b ob (fun q => hb (by rw [q]; exact .head _)) e
  done := fun s Q E st hQ => wp_sit_end1 hh st.1 st.2 hd hf hn (hend s st.2) fun h' he => hQ h' s.toks fun b ob hb e => he b ob (fun q => hb (by rw [q]; exact .head _)) e
  self := fun i s Q E st hQ => wp_sit_self st.1 hQ
theorem sit_walks2 (hh : A.handled = none) {ps : List Nat} {n : Nat} {vals : List Value} (hl : ps.length = n) (hI : a ≠ I) (hTI : T ≠ I) (hd : o.data = .set es ep t) (hf : t.fits es.size = true) (hn : es.size = n)
    (hx : ∀ (i p : Nat), ps[i]? = some p → ∃ hh' x, es[p]? = some (hh', x) ∧ vals[i]? = some x) :
    Walks prog w A I [I, T, a] [I] n (fun i v => vals[i]? = some v) (fun i h => h.get? I = some (sitObj (.ref T) i a n ep) ∧ h.get? T = some (placesObj ps) ∧ h.get? a = some o) where
  sub := fun b hb => by rw [List.mem_singleton.mp hb]; exact .head _
  frame := fun i h h' st hk => ⟨hk I (.head _) _ st.1, hk T (.tail _ (.head _)) _ st.2.1, hk a (.tail _ (.tail _ (.head _))) _ st.2.2⟩
  item := fun i s Q E hi st hQ => by
    have hp : ps[i]? = some ps[i] := List.getElem?_eq_getElem (by omega)
    obtain ⟨hh', x, h1, h2⟩ := hx i _ hp
    refine wp_sit_next2 st.1 st.2.1 hp st.2.2 hd hf hn h1 fun h' he hs => ?_
    exact hQ _ h' s.toks h2 ⟨he, hs.extBut T _ hTI st.2.1, hs.extBut a o hI st.2.2⟩ fun b ob hb e => hs.extBut b ob (fun q => hb (by rw [q]; exact .head _)) e
  done := fun s Q E st hQ => wp_sit_end2 hh st.1 st.2.1 (List.getElem?_eq_none (by omega)) st.2.2 hd hf hn fun h' he => hQ h' s.toks fun b ob hb e => he b ob (fun q => hb (by rw [q]; exact .head _)) e
  self := fun i s Q E st hQ => wp_sit_self st.1 hQ
end
end Mine
end
section
open PySem PySem.W PyProof.Rows PySem.Calls PySem.Spec
namespace Mine
theorem txa_range {l : List (Int × Value)} {ys : List Str} (h : TxA (l.map (·.2)) ys) {ps : List Nat} (hp : ps.Perm (List.range l.length)) :
    ∃ vals zs, vals.length = l.length ∧ (∀ (i p : Nat), ps[i]? = some p → ∃ hh' x, l[p]? = some (hh', x) ∧ vals[i]? = some x) ∧ TxA vals zs ∧ zs.Perm ys := by
  have hmem : ∀ p ∈ ps, p < l.length := fun p hm => List.mem_range.mp (hp.mem_iff.mp hm)
  have hperm : (ps.filterMap fun i => (l.map (·.2))[i]?).Perm (l.map (·.2)) := by
    refine (hp.filterMap _).trans ?_
    have e := PySem.List.filterMap_getElem?_range_length (l.map (·.2))
    rw [List.length_map] at e
    rw [e]
  obtain ⟨zs, h1, h2⟩ := txa_perm_vals h hperm
  have key : ∀ (qs : List Nat), (∀ p ∈ qs, p < l.length) → (qs.filterMap fun i => (l.map (·.2))[i]?) = qs.map fun i => ((l.map (·.2))[i]?).getD .none := by
    intro qs
    induction qs with
    | nil => intro _; rfl
    | cons q r ih =>
      intro hq
      have hq' : q < (l.map (·.2)).length := by rw [List.length_map]; exact hq q (.head _)
      rw [List.filterMap_cons, List.getElem?_eq_getElem hq', List.map_cons, List.getElem?_eq_getElem hq', ih fun p hp => hq p (.tail _ hp)]
      rfl
  refine ⟨_, zs, ?_, fun i p hi => ?_, h1, h2⟩
  · rw [key ps hmem, List.length_map, hp.length_eq, List.length_range]
  · have hpl := hmem p (List.mem_of_getElem? hi)
    refine ⟨l[p].1, l[p].2, List.getElem?_eq_getElem hpl, ?_⟩
    rw [key ps hmem, List.getElem?_map, hi]
    simp [hpl]
section
variable {w : World} {o : Obj} {xs : List Str} {A : Around} {E : Value → Shared → Prop} {s : Shared} {a : Addr}
theorem wp_setWalk {es : Array (Int × Value)} {ep : Nat} {t : SetTable} {Q : Array (Int × Value) → Shared → Prop} (ho : s.heap.get? a = some o) (hd : o.data = .set es ep t) (hf : t.fits es.size = true) (hb : byText w = true) (h : Q (pickOrder (w.params.setOrder a ep) es) s) : wpAny (model prog w) A (setWalk a) Q E s := by
  unfold setWalk
  refine wpAny_bind (wpAny_setState_of ho hd hf ?_)
  dsimp only
  refine wpAny_bind (wp_byText ?_)
  rw [hb]
  simp only [if_true]
  refine wpAny_bind (wpAny_askSetting ?_)
  exact wpAny_pure h
theorem below_zero (x : Nat) : SetTable.below #[x] 0 = 0 := by
  unfold SetTable.below
  simp [SetTable.below.go]
theorem below_succ (x : Nat) : SetTable.below #[x] (x + 1) = 1 := by
  unfold SetTable.below
  simp [SetTable.below.go]
theorem below_nil (x : Nat) : SetTable.below #[] x = 0 := by
  unfold SetTable.below
  simp [SetTable.below.go]
/-- a walk over a set begins -/
theorem wp_setIter {Q : Value → Shared → Prop} (hh : A.handled = none) (ho : s.heap.get? a = some o) (hS : SetO w o xs) (hb : xs.length < 4000)
    (h : ∀ h' d I fp St n vs ys, (∀ b o, s.heap.get? b = some o → h'.get? b = some o) → s.heap.objs.size ≤ I → h'.get? I ≠ none → (∀ A' : Around, A'.handled = none → Walks prog w A' I fp [I] n (fun i v => vs[i]? = some v) St) → vs.length = n → TxA vs ys → ys.Perm xs → St 0 h' →
      (∀ b ∈ fp, b = a ∨ (s.heap.objs.size ≤ b ∧ ∃ o, h'.get? b = some o)) → Q (.ref I) { s with heap := h', drawn := d }) : wpAny (model prog w) A (pyIter (.ref a)) Q E s := by
  obtain ⟨hex, es, ep, t, ys, hd, hel, hT, hp, hn, hf, hok⟩ := id hS
  have hsz : es.size = xs.length := by
    have := hT.length
    rw [List.length_map, Array.length_toList, hp.length_eq] at this
    exact this
  have hTy : s.TypeIs (.ref a) "set" := ⟨o, ho, hex.1⟩
  have hal : a < s.heap.objs.size := Heap.lt_size ho
  refine wpAny_pyIter_slot hTy PySem.F.slot_set_iter (wpAny_call_entry PySem.F.slot_set_iter hTy entry_set_iter ?_ (args_set_iter _))
  unfold Builtin.«frozenset.__iter__» Builtin.Frozenset.slot0
  refine wpAny_bind (wpAny_bind (m := slotArgs "__iter__" 0 ⟨[.ref a], []⟩) (wpAny_pure ?_))
  refine wpAny_pure ?_
  unfold Builtin.Frozenset.sizeOf
  refine wpAny_bind (wpAny_bind (wpAny_setEntries_of ho hd hf (wpAny_pure ?_)))
  refine wpAny_bind (wp_setDrawn ho hd hf ?_)
  cases hdr : (!byText w && (!t.plain && decide (es.size > 1))) with
  | true =>
    simp only [if_true]
    refine wpAny_bind (wp_drawOrder _ _ _ (by rw [List.length_range]) fun ps d hps => ?_)
    refine wpAny_bind (wpAny_newTuple (items := ps.map fun (i : Nat) => rawInt (i : Int)) ?_ (by rw [List.length_map, hps.length_eq, List.length_range, hsz, sizeLine_eq]; omega))
    have ho1 : (s.heap.push (placesObj ps)).get? a = some o := Heap.get?_push_of_some _ ho
    refine wpAny_bind ?_
    unfold setEpoch
    refine wpAny_bind (wpAny_setState_of (s := { s with heap := s.heap.push (placesObj ps), drawn := d }) ho1 hd hf (wpAny_pure ?_))
    dsimp only
    refine wpAny_bind (wpAny_newObj_type (wpAny_pure ⟨_, rfl, "set_iterator", _, ⟨_, Heap.get?_push_size _ rfl, rfl⟩, slot_sit_next.lookup, ?_⟩))
    have hz1 : (s.heap.push (placesObj ps)).objs.size = s.heap.objs.size + 1 := Heap.size_push ..
    rw [← Array.length_toList] at hps
    obtain ⟨vals, zs, q1, q2, q3, q4⟩ := txa_range hT hps
    rw [Array.length_toList] at q1
    refine h _ d (s.heap.push (placesObj ps)).objs.size [(s.heap.push (placesObj ps)).objs.size, s.heap.objs.size, a] _ es.size vals zs (fun b ob e => Heap.get?_push_of_some _ (Heap.get?_push_of_some _ e)) (by rw [hz1]; exact Nat.le_succ _) ?_
      (fun A' hA' => sit_walks2 (ps := ps) (n := es.size) (vals := vals) (t := t) (es := es) (ep := ep) (o := o) hA' (by rw [hps.length_eq, List.length_range, Array.length_toList]) ?_ ?_ hd hf rfl (by intro i p hi; have := q2 i p hi; simpa using this)) (q1.trans Array.length_toList) q3 (q4.trans hp) ⟨Heap.get?_push_size _ rfl, Heap.get?_push_of_some _ (Heap.get?_push_size _ rfl), Heap.get?_push_of_some _ ho1⟩ (fun b hb => ?_)
    · rw [Heap.get?_push_size _ rfl]; exact fun q => nomatch q
    · rw [hz1]; exact Nat.ne_of_lt (Nat.lt_succ_of_lt hal)
    · rw [hz1]; exact Nat.ne_of_lt (Nat.lt_succ_self _)
    · rcases List.mem_cons.mp hb with rfl | hb
      · exact .inr ⟨by rw [hz1]; exact Nat.le_succ _, _, Heap.get?_push_size _ rfl⟩
      rcases List.mem_cons.mp hb with rfl | hb
      · exact .inr ⟨Nat.le_refl _, _, Heap.get?_push_of_some _ (Heap.get?_push_size _ rfl)⟩
      · exact .inl (List.mem_singleton.mp hb)
  | false =>
    simp only [Bool.false_eq_true, if_false]
    refine wpAny_bind (wpAny_pure ?_)
    refine wpAny_bind ?_
    unfold setEpoch
    refine wpAny_bind (wpAny_setState_of ho hd hf (wpAny_pure ?_))
    dsimp only
    refine wpAny_bind (wpAny_newObj_type (wpAny_pure ⟨_, rfl, "set_iterator", _, ⟨_, Heap.get?_push_size _ rfl, rfl⟩, slot_sit_next.lookup, ?_⟩))
    have hfp : ∀ b ∈ [s.heap.objs.size, a], b = a ∨ (s.heap.objs.size ≤ b ∧ ∃ o, (s.heap.push (sitObj (rawInt 0) 0 a es.size ep)).get? b = some o) := fun b hb => by
      rcases List.mem_cons.mp hb with rfl | hb
      · exact .inr ⟨Nat.le_refl _, _, Heap.get?_push_size _ rfl⟩
      · exact .inl (List.mem_singleton.mp hb)
    have hkeep : ∀ b ob, s.heap.get? b = some ob → (s.heap.push (sitObj (rawInt 0) 0 a es.size ep)).get? b = some ob := fun b ob e => Heap.get?_push_of_some _ e
    have hI : (s.heap.push (sitObj (rawInt 0) 0 a es.size ep)).get? s.heap.objs.size ≠ none := by rw [Heap.get?_push_size _ rfl]; exact fun q => nomatch q
    have hst : (s.heap.push (sitObj (rawInt 0) 0 a es.size ep)).get? s.heap.objs.size = some (sitObj (rawInt 0) 0 a es.size ep) := Heap.get?_push_size _ rfl
    cases hbt : byText w with
    | true =>
      obtain ⟨zs, q1, q2⟩ := txa_perm_vals hT ((pick_perm (w.params.setOrder a ep) es).map (·.2))
      have hl : ((pickOrder (w.params.setOrder a ep) es).toList.map (·.2)).length = es.size := by
        rw [List.length_map, (pick_perm _ _).length_eq, Array.length_toList]
      refine h _ s.drawn s.heap.objs.size [s.heap.objs.size, a] _ es.size _ zs hkeep (Nat.le_refl _) hI (fun A' hA' => sit_walks1 (f := fun _ => 0) (n := es.size) (t := t) (es := es) (ep := ep) (o := o) hA' hl (Nat.ne_of_lt hal) hd hf rfl (fun i x hx s₁ ho₁ => ?_) fun s₁ ho₁ => ?_) hl q1 (q2.trans hp) ⟨hst, Heap.get?_push_of_some _ ho⟩ hfp
      · intro A' E' Q' hQ'
        unfold setNext
        refine wpAny_bind (wpAny_setState_of ho₁ hd hf ?_)
        dsimp only
        refine wpAny_bind (wp_byText ?_)
        rw [hbt]
        simp only [if_true]
        rw [if_neg (by simp)]
        refine wpAny_bind (wp_setWalk ho₁ hd hf hbt ?_)
        refine wpAny_pure ?_
        rw [List.getElem?_map, Array.getElem?_toList] at hx
        obtain ⟨e, he, rfl⟩ := Option.map_eq_some_iff.mp hx
        rw [he]
        exact hQ'
      · intro A' E' Q' hQ'
        unfold setNext
        refine wpAny_bind (wpAny_setState_of ho₁ hd hf ?_)
        dsimp only
        refine wpAny_bind (wp_byText ?_)
        rw [hbt]
        simp only [if_true]
        rw [if_neg (by simp)]
        refine wpAny_bind (wp_setWalk ho₁ hd hf hbt ?_)
        refine wpAny_pure ?_
        have : (pickOrder (w.params.setOrder a ep) es)[es.size]? = none := by
          rw [← Array.getElem?_toList]
          exact List.getElem?_eq_none (by rw [(pick_perm _ _).length_eq, Array.length_toList]; exact Nat.le_refl _)
        rw [this]
        exact hQ'
    | false =>
      rw [hbt] at hdr
      have hled := hok.led hbt
      have hsmall : es.size ≤ 1 := by
        rcases hok.plain with e | e
        · omega
        · rw [e] at hdr
          simpa using hdr
      have hfs := hf
      simp only [SetTable.fits, Bool.and_eq_true, beq_iff_eq, decide_eq_true_eq] at hfs
      have hdn : (!t.plain && decide (es.size > 1)) = false := by
        have : decide (es.size > 1) = false := decide_eq_false (by omega)
        rw [this, Bool.and_false]
      have hnx : ∀ (slot given : Nat) (s₁ : Shared), s₁.heap.get? a = some o → ∀ {A' : Around} {E' : Value → Shared → Prop} {Q' : Option (Value × Nat) → Shared → Prop},
          Q' (match es[SetTable.below t.place slot]?, t.place[SetTable.below t.place slot]? with | some (_, x), some j => some (x, j + 1) | _, _ => none) s₁ → wpAny (model prog w) A' (setNext a slot given ep) Q' E' s₁ := by
        intro slot given s₁ ho₁ A' E' Q' hQ'
        unfold setNext
        refine wpAny_bind (wpAny_setState_of ho₁ hd hf ?_)
        dsimp only
        refine wpAny_bind (wp_byText ?_)
        rw [hbt]
        simp only [Bool.false_eq_true, if_false]
        show wpAny _ _ (if (!t.plain && decide (es.size > 1)) = true then _ else _) _ _ _
        rw [hdn]
        simp only [Bool.false_eq_true, if_false]
        refine wpAny_bind ?_
        show wpAny _ _ (if (!t.led && !es.isEmpty) = true then _ else _) _ _ _
        rw [hled]
        simp only [Bool.not_true, Bool.false_and, Bool.false_eq_true, if_false]
        exact wpAny_pure (wpAny_pure hQ')
      rcases Nat.lt_or_ge es.size 1 with hlt | hge
      · have he : es = #[] := Array.eq_empty_of_size_eq_zero (by omega)
        have hpl : t.place = #[] := Array.eq_empty_of_size_eq_zero (by omega)
        refine h _ s.drawn s.heap.objs.size [s.heap.objs.size, a] _ es.size (es.toList.map (·.2)) ys hkeep (Nat.le_refl _) hI (fun A' hA' => sit_walks1 (f := fun _ => 0) (n := es.size) (t := t) (es := es) (ep := ep) (o := o) (vals := es.toList.map (·.2)) hA' (by rw [List.length_map, Array.length_toList]) (Nat.ne_of_lt hal) hd hf rfl (fun i x hx s₁ ho₁ => ?_) fun s₁ ho₁ => ?_) (by rw [List.length_map, Array.length_toList]) hT hp ⟨hst, Heap.get?_push_of_some _ ho⟩ hfp
        · subst he; simp at hx
        · intro A' E' Q' hQ'
          refine hnx _ _ s₁ ho₁ ?_
          subst he
          exact hQ'
      · obtain ⟨⟨h0, x0⟩, he⟩ : ∃ e, es = #[e] := Array.size_eq_one_iff.mp (by omega)
        obtain ⟨j0, hpl⟩ : ∃ j, t.place = #[j] := Array.size_eq_one_iff.mp (by omega)
        refine h _ s.drawn s.heap.objs.size [s.heap.objs.size, a] _ es.size (es.toList.map (·.2)) ys hkeep (Nat.le_refl _) hI (fun A' hA' => sit_walks1 (f := fun i => if i = 0 then 0 else j0 + 1) (n := es.size) (t := t) (es := es) (ep := ep) (o := o) (vals := es.toList.map (·.2)) hA' (by rw [List.length_map, Array.length_toList]) (Nat.ne_of_lt hal) hd hf rfl (fun i x hx s₁ ho₁ => ?_) fun s₁ ho₁ => ?_) (by rw [List.length_map, Array.length_toList]) hT hp ⟨hst, Heap.get?_push_of_some _ ho⟩ hfp
        · intro A' E' Q' hQ'
          refine hnx _ _ s₁ ho₁ ?_
          subst he
          have hi : i = 0 := by
            rcases Nat.eq_zero_or_pos i with e | e
            · exact e
            · exfalso
              have := (List.getElem?_eq_some_iff.mp hx).1
              simp at this
              omega
          subst hi
          simp at hx
          subst hx
          rw [hpl, if_pos rfl, below_zero]
          exact hQ'
        · intro A' E' Q' hQ'
          refine hnx _ _ s₁ ho₁ ?_
          subst he
          rw [hpl]
          have e1 : (if (#[(h0, x0)] : Array (Int × Value)).size = 0 then 0 else j0 + 1) = j0 + 1 := rfl
          rw [e1]
          rw [below_succ]
          exact hQ'
end
end Mine
end
section
open PySem PySem.W PyProof.Rows PySem.Calls PySem.Spec
namespace Mine
-- laying a table anew
def lcg (m : Nat) : Nat → Nat → Nat
  | 0, x => x
  | s + 1, x => lcg m s ((x * 5 + 1) % (m + 1))
def leapIt (m : Nat) : Nat → Nat × Nat → Nat × Nat
  | 0, p => p
  | s + 1, p => leapIt m s (SetTable.leap m p.1 p.2)
theorem lcg_add (m : Nat) : ∀ a b x, lcg m (a + b) x = lcg m b (lcg m a x)
  | 0, b, x => by rw [Nat.zero_add]; rfl
  | a + 1, b, x => by rw [show a + 1 + b = (a + b) + 1 by omega]; exact lcg_add m a b _
theorem leapIt_add (m : Nat) : ∀ a b x, leapIt m (a + b) x = leapIt m b (leapIt m a x)
  | 0, b, x => by rw [Nat.zero_add]; rfl
  | a + 1, b, x => by rw [show a + 1 + b = (a + b) + 1 by omega]; exact leapIt_add m a b _
theorem leapIt_pert (m : Nat) : ∀ (s : Nat) (p : Nat × Nat), (leapIt m s p).2 = p.2 / 32 ^ s
  | 0, p => by simp [leapIt]
  | s + 1, p => by
    rw [leapIt, leapIt_pert m s]
    show p.2 / 32 / 32 ^ s = p.2 / 32 ^ (s + 1)
    rw [Nat.div_div_eq_div_mul, Nat.pow_succ, Nat.mul_comm]
theorem leapIt_zero (m : Nat) : ∀ (s i : Nat), leapIt m s (i, 0) = (lcg m s i, 0)
  | 0, i => rfl
  | s + 1, i => by
    rw [leapIt, lcg]
    show leapIt m s ((i * 5 + 1 + 0 / 32) % (m + 1), 0 / 32) = _
    rw [Nat.zero_div, Nat.add_zero]
    exact leapIt_zero m s _
theorem leapIt_lt (m : Nat) : ∀ (s : Nat) (p : Nat × Nat), p.1 ≤ m → (leapIt m s p).1 ≤ m
  | 0, p, h => h
  | s + 1, p, h => by
    rw [leapIt]
    exact leapIt_lt m s _ (Nat.lt_succ_iff.mp (Nat.mod_lt _ (Nat.succ_pos m)))
def maskOk (m : Nat) : Bool := (lcg m (m + 1) 0 == 0) && (List.range (m + 1)).all fun j => (List.range (m + 1)).any fun s => lcg m s 0 == j
theorem maskOk_all : maskOk 7 = true ∧ maskOk 15 = true ∧ maskOk 31 = true ∧ maskOk 63 = true := by decide +kernel
theorem lcg_reach {m : Nat} (h : maskOk m = true) {x j : Nat} (hx : x ≤ m) (hj : j ≤ m) : ∃ s ≤ m, lcg m s x = j := by
  unfold maskOk at h
  rw [Bool.and_eq_true, beq_iff_eq, List.all_eq_true] at h
  obtain ⟨h0, h1⟩ := h
  have key : ∀ j ≤ m, ∃ s ≤ m, lcg m s 0 = j := fun j hj => by
    have := h1 j (List.mem_range.mpr (Nat.lt_succ_of_le hj))
    obtain ⟨s, hs, e⟩ := List.any_eq_true.mp this
    exact ⟨s, Nat.lt_succ_iff.mp (List.mem_range.mp hs), eq_of_beq e⟩
  obtain ⟨a, ha, ea⟩ := key x hx
  obtain ⟨b, hb, eb⟩ := key j hj
  rcases Nat.le_total a b with hab | hab
  · refine ⟨b - a, by omega, ?_⟩
    rw [← ea, ← lcg_add, show a + (b - a) = b by omega, eb]
  · by_cases hz : a = 0
    · subst hz
      exact ⟨b, hb, by rw [← ea]; exact eb⟩
    · by_cases hab' : a = b
      · subst hab'
        exact ⟨0, Nat.zero_le _, by rw [← eb, ← ea]; rfl⟩
      · refine ⟨(m + 1 - a) + b, by omega, ?_⟩
        rw [← ea, ← lcg_add, show a + (m + 1 - a + b) = (m + 1) + b by omega, lcg_add, h0, eb]
def emptyAt (owner : Array (Option Nat)) (j : Nat) : Bool := (owner.getD j (some 0)).isNone
theorem free_ok {m : Nat} {owner : Array (Option Nat)} : ∀ (fuel i p : Nat), (∃ t < fuel, emptyAt owner (leapIt m t (i, p)).1 = true) → ∃ j, SetTable.layClean.free m owner fuel i p = some j ∧ emptyAt owner j = true
  | 0, i, p, ⟨t, ht, _⟩ => absurd ht (Nat.not_lt_zero _)
  | fuel + 1, i, p, ⟨t, ht, he⟩ => by
    unfold SetTable.layClean.free
    cases hf : (List.range (SetTable.runEnd m i + 1 - i)).find? (fun k => (owner.getD (i + k) (some 0)).isNone) with
    | some k =>
      have := List.find?_some hf
      exact ⟨i + k, rfl, this⟩
    | none =>
      dsimp only
      cases t with
      | zero =>
        exfalso
        have := List.find?_eq_none.mp hf 0 (List.mem_range.mpr (by unfold SetTable.runEnd; split <;> omega))
        exact this he
      | succ t => exact free_ok fuel _ _ ⟨t, by omega, he⟩
theorem free_found {m : Nat} (hm : maskOk m = true) {owner : Array (Option Nat)} {j0 : Nat} (hj : j0 ≤ m) (h0 : emptyAt owner j0 = true) (h : Int) : ∃ j, SetTable.layClean.free m owner (SetTable.turns m) (SetTable.bits h % (m + 1)) (SetTable.bits h) = some j ∧ emptyAt owner j = true := by
  have hb : SetTable.bits h < 2 ^ 64 := by
    unfold SetTable.bits
    have := Int.emod_lt_of_pos h (show (0 : Int) < 2 ^ 64 by decide)
    omega
  refine free_ok _ _ _ ?_
  have hi : SetTable.bits h % (m + 1) ≤ m := Nat.lt_succ_iff.mp (Nat.mod_lt _ (Nat.succ_pos m))
  have hz : (leapIt m 13 (SetTable.bits h % (m + 1), SetTable.bits h)).2 = 0 := by
    rw [leapIt_pert]
    exact Nat.div_eq_of_lt (Nat.lt_trans hb (by decide))
  have hl := leapIt_lt m 13 (SetTable.bits h % (m + 1), SetTable.bits h) hi
  generalize hx : leapIt m 13 (SetTable.bits h % (m + 1), SetTable.bits h) = q at hz hl
  obtain ⟨x, y⟩ := q
  dsimp only at hz hl
  subst hz
  obtain ⟨s, hs, es⟩ := lcg_reach hm hl hj
  refine ⟨13 + s, by unfold SetTable.turns; omega, ?_⟩
  rw [leapIt_add, hx, leapIt_zero, es]
  exact h0
theorem fmap_congr {α β : Type} {f g : α → Option β} : ∀ {l : List α}, (∀ x ∈ l, f x = g x) → l.filterMap f = l.filterMap g
  | [], _ => rfl
  | x :: r, h => by rw [List.filterMap_cons, List.filterMap_cons, h x (.head _), fmap_congr fun y hy => h y (.tail _ hy)]
/-- the table's places, owned by the first k -/
def LInv (m : Nat) (owner : Array (Option Nat)) (k : Nat) : Prop := owner.size = m + 1 ∧ ((List.range (m + 1)).filterMap fun j => owner.getD j none).Perm (List.range k)
theorem filterMap_upd {L : List Nat} (hn : L.Nodup) {f g : Nat → Option Nat} {j k : Nat} (hj : j ∈ L) (h0 : f j = none) (h1 : g j = some k) (h2 : ∀ i, i ≠ j → g i = f i) : (L.filterMap g).Perm (k :: L.filterMap f) := by
  induction L with
  | nil => cases hj
  | cons x r ih =>
    rw [List.nodup_cons] at hn
    rcases List.mem_cons.mp hj with rfl | hj
    · rw [List.filterMap_cons, h1, List.filterMap_cons, h0]
      have : r.filterMap g = r.filterMap f := by
        refine fmap_congr fun i hi => h2 i fun e => hn.1 (e ▸ hi)
      rw [this]
    · have hx : x ≠ j := fun e => hn.1 (e ▸ hj)
      rw [List.filterMap_cons, h2 x hx, List.filterMap_cons]
      cases f x with
      | none => exact ih hn.2 hj
      | some z => exact ((ih hn.2 hj).cons z).trans (List.Perm.swap ..)
theorem LInv.step {m k j : Nat} {owner : Array (Option Nat)} (h : LInv m owner k) (he : emptyAt owner j = true) : LInv m (owner.setIfInBounds j (some k)) (k + 1) := by
  obtain ⟨hs, hp⟩ := h
  have hj : j < owner.size := by
    rcases Nat.lt_or_ge j owner.size with q | q
    · exact q
    · unfold emptyAt at he
      rw [Array.getD_eq_getD_getElem?, Array.getElem?_eq_none q] at he
      cases he
  have hjn : owner[j] = none := by
    unfold emptyAt at he
    rw [Array.getD_eq_getD_getElem?, Array.getElem?_eq_getElem hj] at he
    simpa using he
  refine ⟨by rw [Array.size_setIfInBounds, hs], ?_⟩
  refine (filterMap_upd (f := fun j => owner.getD j none) (j := j) (k := k) List.nodup_range (List.mem_range.mpr (by omega)) ?_ ?_ fun i hi => ?_).trans ?_
  · simp [hj, hjn]
  · simp [hj]
  · simp only [Array.getD_eq_getD_getElem?]
    rw [Array.getElem?_setIfInBounds_ne (Ne.symm hi)]
  · rw [show List.range (k + 1) = List.range k ++ [k] from List.range_succ]
    exact (hp.cons k).trans (List.perm_append_comm (l₁ := [k]) (l₂ := List.range k))
theorem LInv.empty {m k : Nat} {owner : Array (Option Nat)} (h : LInv m owner k) (hk : k ≤ m) : ∃ j ≤ m, emptyAt owner j = true := by
  obtain ⟨hs, hp⟩ := h
  refine Classical.byContradiction fun hno => ?_
  have all : ∀ j ∈ List.range (m + 1), (owner.getD j none).isSome = true := fun j hj => by
    have hj' : j ≤ m := Nat.lt_succ_iff.mp (List.mem_range.mp hj)
    have hjs : j < owner.size := by omega
    cases e : owner[j] with
    | none => exact absurd ⟨j, hj', by unfold emptyAt; simp [hjs, e]⟩ hno
    | some z => simp [hjs, e]
  have hl : ∀ L : List Nat, (∀ j ∈ L, (owner.getD j none).isSome = true) → (L.filterMap fun j => owner.getD j none).length = L.length := by
    intro L
    induction L with
    | nil => intro _; rfl
    | cons x r ih =>
      intro q
      obtain ⟨z, hz⟩ := Option.isSome_iff_exists.mp (q x (.head _))
      rw [List.filterMap_cons, hz, List.length_cons, ih fun j hj => q j (.tail _ hj), List.length_cons]
  have := hl _ all
  rw [hp.length_eq, List.length_range, List.length_range] at this
  omega
theorem layClean_ok {m : Nat} (hm : maskOk m = true) {hashes : Array Int} (hn : hashes.size ≤ m) : ∃ owner, SetTable.layClean m hashes = some owner ∧ LInv m owner hashes.size := by
  have key : ∀ (l : List Int) (owner : Array (Option Nat)) (k : Nat), LInv m owner k → k + l.length ≤ m → ∃ owner', l.foldl (fun acc h => do
      let (owner, k) ← acc
      let j ← SetTable.layClean.free m owner (SetTable.turns m) (SetTable.bits h % (m + 1)) (SetTable.bits h)
      pure (owner.setIfInBounds j (some k), k + 1)) (some (owner, k)) = some (owner', k + l.length) ∧ LInv m owner' (k + l.length) := by
    intro l
    induction l with
    | nil => intro owner k h _; exact ⟨owner, rfl, h⟩
    | cons x r ih =>
      intro owner k h hk
      rw [List.length_cons] at hk
      obtain ⟨j0, hj0, e0⟩ := h.empty (by omega)
      obtain ⟨j, hj, ej⟩ := free_found hm hj0 e0 x
      obtain ⟨owner', q1, q2⟩ := ih _ (k + 1) (h.step ej) (by omega)
      refine ⟨owner', ?_, by rw [List.length_cons, show k + (r.length + 1) = k + 1 + r.length by omega]; exact q2⟩
      rw [List.foldl_cons, List.length_cons, show k + (r.length + 1) = k + 1 + r.length by omega, ← q1]
      congr 1
      show (SetTable.layClean.free m owner (SetTable.turns m) (SetTable.bits x % (m + 1)) (SetTable.bits x)).bind _ = _
      rw [hj]
      rfl
  have h0 : LInv m (Array.replicate (m + 1) none) 0 := by
    refine ⟨Array.size_replicate, ?_⟩
    have : ((List.range (m + 1)).filterMap fun j => (Array.replicate (m + 1) (none : Option Nat)).getD j none) = [] := by
      rw [List.filterMap_eq_nil_iff]
      intro j hj
      simp only [Array.getD_eq_getD_getElem?, Array.getElem?_replicate]
      split <;> rfl
    rw [this]
    exact .refl _
  obtain ⟨owner, q1, q2⟩ := key hashes.toList _ 0 h0 (by rw [Array.length_toList]; omega)
  refine ⟨owner, ?_, by rw [Array.length_toList, Nat.zero_add] at q2; exact q2⟩
  unfold SetTable.layClean
  rw [← Array.foldl_toList]
  show Option.map _ (List.foldl _ _ _) = _
  rw [q1]
  rfl
theorem laid_ok {m : Nat} (hm : maskOk m = true) (finger moves : Nat) (led plain : Bool) {hashes : Array Int} (hn : hashes.size ≤ m) :
    ∃ t order, SetTable.laid m finger moves led plain hashes = some (t, order) ∧ t.fits hashes.size = true ∧ t.led = led ∧ t.plain = plain ∧ order.toList.Perm (List.range hashes.size) := by
  obtain ⟨owner, q1, q2⟩ := layClean_ok hm hn
  unfold SetTable.laid
  rw [q1]
  have e2 : (((List.range (m + 1)).filterMap fun j => (owner.getD j none).map (j, ·)).map (·.2)) = (List.range (m + 1)).filterMap fun j => owner.getD j none := by
    rw [List.map_filterMap]
    refine fmap_congr fun j _ => ?_
    cases owner.getD j none <;> rfl
  have hlen : ((List.range (m + 1)).filterMap fun j => (owner.getD j none).map (j, ·)).length = hashes.size := by
    rw [← List.length_map (f := (·.2)), e2, q2.2.length_eq, List.length_range]
  refine ⟨_, _, rfl, ?_, rfl, rfl, ?_⟩
  · simp only [SetTable.fits, SetTable.fill, Bool.and_eq_true, beq_iff_eq, decide_eq_true_eq, List.size_toArray, List.length_map]
    rw [hlen]
    exact ⟨rfl, by simpa using hn⟩
  · show List.Perm (((List.range (m + 1)).filterMap fun j => (owner.getD j none).map (j, ·)).map (·.2)) _
    rw [e2]
    exact q2.2
end Mine
end
section
open PySem PySem.W PyProof.Rows PySem.Calls PySem.Spec
namespace Mine
abbrev freshSet (w : World) : Obj := { cls := .type "set", dict := none, data := .set #[] 0 (.fresh 0 0 (!byText w)) }
theorem freshSet_ok (w : World) : SetO w (freshSet w) [] :=
  ⟨⟨rfl, rfl, rfl⟩, #[], 0, _, [], rfl, fun e he => by simp at he, .nil, .refl _, List.nodup_nil, by rfl, .inl rfl, fun e => by show (!byText w) = true; rw [e]; rfl⟩
theorem room_masks : ∀ n : Nat, n < 31 → n * 5 ≥ 21 → (SetTable.sizeAbove (n * 2) - 1 = 15 ∨ SetTable.sizeAbove (n * 2) - 1 = 31 ∨ SetTable.sizeAbove (n * 2) - 1 = 63) ∧ n ≤ SetTable.sizeAbove (n * 2) - 1 ∧ SetTable.sizeAbove (n * 2) ≤ 64 := by decide +kernel
section
variable {w : World} {o : Obj} {xs : List Str} {A : Around} {E : Value → Shared → Prop} {s : Shared} {a S : Addr}
theorem perm_order {es : Array (Int × Value)} {order : Array Nat} (h : order.toList.Perm (List.range es.size)) : (order.filterMap (es[·]?)).toList.Perm es.toList ∧ (order.filterMap (es[·]?)).size = es.size := by
  have p : (order.filterMap (es[·]?)).toList.Perm es.toList := by
    rw [Array.toList_filterMap]
    exact (h.filterMap _).trans (by rw [filterMap_getElem?_range])
  exact ⟨p, by rw [← Array.length_toList, p.length_eq, Array.length_toList]⟩
/-- an empty table takes the elements of another set -/
theorem wp_mergeTail {o1 : Obj} {ep1 : Nat} {t1 : SetTable} {es : Array (Int × Value)} {t : SetTable} {ys : List Str} {Q : Unit → Shared → Prop}
    (hS : s.heap.get? S = some o1) (hex : o1.ExactSet) (hd1 : o1.data = .set #[] ep1 t1) (hf1 : t1.fits 0 = true) (h0 : t1.fill = 0) (hm : maskOk t1.mask = true) (hm2 : es.size ≤ t1.mask) (hled1 : byText w = false → t1.led = true)
    (hel : ElemsOf (strKind prog w) es.toList) (hT : TxA (es.toList.map (·.2)) ys) (hp : ys.Perm xs) (hn : xs.Nodup) (hf : t.fits es.size = true) (hok : TbOk w t es.size) (hsz : es.size ≤ 30)
    {T : Sem Unit} (h : ∀ h' o', Heap.SameBut S s.heap h' → h'.get? S = some o' → SetO w o' xs → Q () { s with heap := h' }) :
    wpAny (model prog w) A (do
      let (_, _, ts) ← setState S
      match ts.road t with
      | .slotForSlot => storeSet S es { t with finger := ts.finger, led := ts.led && t.led, moves := ts.moves, plain := ts.plain && t.plain }
      | .clean => do
        let (es', t') ← (do
          let some (t', order) := SetTable.laid ts.mask ts.finger ts.moves (led := ts.led && t.led) (plain := ts.plain && t.plain) (es.map (·.1)) | unsupported "internal:set-table-without-room"
          let es' := order.filterMap (es[·]?)
          if es'.size != es.size then unsupported "internal:set-table-lost-an-element"
          pure (es', t'))
        storeSet S es' t'
      | .oneByOne => T) Q E s := by
  refine wpAny_bind (wpAny_setState_of hS hd1 (by simpa using hf1) ?_)
  dsimp only
  have hplain : es.size = 0 ∨ (t1.plain && t.plain) = false := by
    rcases hok.plain with e | e
    · exact .inl e
    · exact .inr (by rw [e, Bool.and_false])
  have hled : byText w = false → (t1.led && t.led) = true := fun e => by rw [hled1 e, hok.led e]; rfl
  unfold SetTable.road
  rw [if_neg (by rw [h0]; simp)]
  split
  · rename_i heq
    split at heq
    · refine wpAny_storeSet_of hS hd1 ?_ (by rw [sizeLine_eq]; omega)
      obtain ⟨ho1, hS1⟩ := SetO.store (w := w) (t' := { t with finger := t1.finger, led := t1.led && t.led, moves := t1.moves, plain := t1.plain && t.plain }) hS hex hd1 hel hT hp hn hf ⟨hplain, hled⟩
      exact h _ _ (Heap.SameBut.update ..) ho1 hS1
    · cases heq
  · obtain ⟨t', order, hl, hf', hl1, hl2, hord⟩ := laid_ok hm t1.finger t1.moves (t1.led && t.led) (t1.plain && t.plain) (hashes := es.map (·.1)) (by rw [Array.size_map]; exact hm2)
    rw [Array.size_map] at hf' hord
    obtain ⟨q1, q2⟩ := perm_order hord
    rw [hl]
    dsimp only
    rw [if_neg (by rw [q2]; simp)]
    refine wpAny_bind (wpAny_pure ?_)
    dsimp only
    obtain ⟨ys', hT', hp'⟩ := txa_perm hT q1
    refine wpAny_storeSet_of hS hd1 ?_ (by rw [q2, sizeLine_eq]; omega)
    obtain ⟨ho1, hS1⟩ := SetO.store (w := w) (t' := t') hS hex hd1 (hel.perm q1) hT' (hp'.trans hp) hn (by rw [q2]; exact hf') ⟨by rw [q2, hl2]; exact hplain, fun e => hl1.trans (hled e)⟩
    exact h _ _ (Heap.SameBut.update ..) ho1 hS1
  · rename_i heq
    split at heq <;> cases heq
theorem wp_merge {each : Sem Unit} {Q : Unit → Shared → Prop} (hne : S ≠ a) (hS : s.heap.get? S = some (freshSet w)) (ho : s.heap.get? a = some o) (hO : SetO w o xs) (hb : xs.length ≤ 30)
    (h : ∀ h' o', Heap.SameBut S s.heap h' → h'.get? S = some o' → SetO w o' xs → Q () { s with heap := h' }) : wpAny (model prog w) A (setMerge S a each) Q E s := by
  obtain ⟨hex, es, ep, t, ys, hd, hel, hT, hp, hn, hf, hok⟩ := id hO
  have hsz : es.size = xs.length := by
    have := hT.length
    rw [List.length_map, Array.length_toList, hp.length_eq] at this
    exact this
  unfold setMerge
  rw [if_neg (by simpa using hne)]
  refine wpAny_bind (wpAny_setState_of ho hd hf ?_)
  dsimp only
  by_cases he : es.isEmpty = true
  · rw [if_pos he]
    have hx0 : xs = [] := List.eq_nil_of_length_eq_zero (by rw [← hsz]; simpa using he)
    subst hx0
    have e : s = { s with heap := s.heap } := rfl
    exact wpAny_pure (h s.heap _ (Heap.SameBut.refl _ _) hS (freshSet_ok w))
  · rw [if_neg he]
    unfold setRoomFor
    refine wpAny_bind (wpAny_bind (wpAny_setState_of hS rfl (by rfl) ?_))
    dsimp only
    have hroom : (SetTable.fresh 0 0 (!byText w)).roomFor es.size = if es.size * 5 ≥ 21 then some (es.size * 2) else none := by
      unfold SetTable.roomFor
      show (if (0 + es.size) * 5 ≥ 7 * 3 then some ((0 + es.size) * 2) else none) = _
      rw [Nat.zero_add]
    rw [hroom]
    by_cases hr : es.size * 5 ≥ 21
    · rw [if_pos hr]
      dsimp only
      obtain ⟨m1, m2, m3⟩ := room_masks es.size (by omega) hr
      have hmask : maskOk (SetTable.sizeAbove (es.size * 2) - 1) = true := by
        rcases m1 with e | e | e <;> rw [e]
        · exact maskOk_all.2.1
        · exact maskOk_all.2.2.1
        · exact maskOk_all.2.2.2
      unfold setRelay
      refine wpAny_bind (wpAny_setState_of hS rfl (by rfl) ?_)
      dsimp only
      rw [if_neg (by rw [sizeLine_eq]; omega)]
      obtain ⟨t', order, hl, hf', hl1, hl2, hord⟩ := laid_ok hmask 0 ((SetTable.fresh 0 0 (!byText w)).movedTo (SetTable.sizeAbove (es.size * 2) - 1)) (!byText w) true (hashes := (#[] : Array (Int × Value)).map (·.1)) (by simp)
      rw [Array.size_map] at hf' hord
      have hrel : (SetTable.fresh 0 0 (!byText w)).relaid ((#[] : Array (Int × Value)).map (·.1)) (es.size * 2) = some (t', order) := hl
      obtain ⟨q1, q2⟩ := perm_order (es := #[]) hord
      have hq : order.filterMap ((#[] : Array (Int × Value))[·]?) = #[] := Array.eq_empty_of_size_eq_zero q2
      have hmk : t'.mask = SetTable.sizeAbove (es.size * 2) - 1 ∧ t'.fill = 0 := by
        unfold SetTable.laid at hl
        obtain ⟨owner, _, e⟩ := Option.bind_eq_some_iff.mp hl
        cases e
        simp only [SetTable.fits, Bool.and_eq_true, beq_iff_eq] at hf'
        refine ⟨rfl, ?_⟩
        unfold SetTable.fill
        rw [hf'.1]
        rfl
      refine wpAny_bind (wpAny_of_eq (a := ((#[] : Array (Int × Value)), t')) ?_ ?_)
      · rw [hrel]
        show (if (order.filterMap ((#[] : Array (Int × Value))[·]?)).size != (#[] : Array (Int × Value)).size then _ else _) = _
        rw [if_neg (by rw [q2]; simp), hq]
      dsimp only
      refine wpAny_storeSet_of hS rfl ?_ (by simp)
      obtain ⟨ho1, _⟩ := SetO.store (w := w) (ys := []) (xs := []) (es' := #[]) (t' := t') hS ⟨rfl, rfl, rfl⟩ rfl (fun e he => by simp at he) .nil (.refl _) List.nodup_nil hf' ⟨.inl rfl, fun e => by rw [hl1, e]; rfl⟩
      have hs1 := Heap.SameBut.update s.heap S (Obj.putSet #[] t')
      refine wp_mergeTail (xs := xs) ho1 ⟨rfl, rfl, rfl⟩ rfl hf' hmk.2 (hmk.1 ▸ hmask) (hmk.1 ▸ m2) (fun e => by rw [hl1, e]; rfl) hel hT hp hn hf hok (by omega) ?_
      exact fun h' o' hs2 => h h' o' (hs1.trans hs2)
    · rw [if_neg hr]
      dsimp only
      refine wpAny_pure ?_
      refine wp_mergeTail (xs := xs) hS ⟨rfl, rfl, rfl⟩ rfl (by rfl) rfl maskOk_all.1 (by show es.size ≤ 7; omega) (fun e => by show (!byText w) = true; rw [e]; rfl) hel hT hp hn hf hok (by omega) ?_
      exact fun h' o' hs2 => h h' o' hs2
end
end Mine
end
section
open PySem PySem.W PyProof.Rows PySem.Calls PySem.Spec
namespace Mine
section
variable {w : World} {o : Obj} {xs : List Str} {A : Around} {E : Value → Shared → Prop} {s : Shared} {a S : Addr}
theorem code_set_new (v : Value) {Q₁ : Value → Shared → Prop} (h : Q₁ (.ref s.heap.objs.size) { s with heap := s.heap.push (freshSet w) }) :
    codeAny (model prog w) A (.call (.builtin "set.__new__") ⟨[.type "set", v], []⟩) (wants Q₁ E) s := by
  refine codeAny_of_tree ?_
  show wpAny _ A.in1 (do checkBuiltinCall "set.__new__" ⟨[.type "set", v], []⟩; again (.builtin "set.__new__" ⟨[.type "set", v], []⟩)) _ _ s
  refine wpAny_bind (wpAny_of_eq (PySem.F.newCall_set_1 v) (wpAny_pure ⟨plainId_quiet PySem.F.plain_set_new _, codeAny_builtin PySem.F.entry_set_new ?_⟩))
  rw [Around.under_plainId PySem.F.plain_set_new _]
  unfold Builtin.«set.__new__» Builtin.Frozenset.newClass
  have hsub := sub_set_self
  obtain ⟨hp, g, d, tk, os⟩ := s
  dsimp only
  wp_walk
  refine wpAny_askSetting (wpAny_pure ?_)
  dsimp only
  simp only [newObj]
  refine wpAny_bind (wpAny_alloc (wpAny_pure ?_))
  exact wpAny_pure h
theorem wp_newSet {Q : Value → Shared → Prop} (h : Q (.ref s.heap.objs.size) { s with heap := s.heap.push (freshSet w) }) : wpAny (model prog w) A (newSet (.type "set")) Q E s := by
  unfold newSet
  refine wpAny_bind (wp_byText ?_)
  dsimp only
  simp only [newObj]
  exact wpAny_bind (wpAny_alloc (wpAny_pure h))
set_option maxHeartbeats 3200000 in
/-- set(r), as far as its filling is known -/
theorem call_set_r {r : Addr} {Q : Value → Shared → Prop}
    (hupd : ∀ (K : Unit → Shared → Prop) (E' : Value → Shared → Prop), (∀ h' d tk o', (∀ b o, s.heap.get? b = some o → h'.get? b = some o) → h'.get? s.heap.objs.size = some o' → SetO w o' xs → K () { s with heap := h', drawn := d, toks := tk }) →
      wpAny (model prog w) A.in1.in1 (Builtin.Frozenset.updateFrom "set.__init__" s.heap.objs.size (.ref r)) K E' { s with heap := s.heap.push (freshSet w) })
    (hQ : ∀ h' d tk o', (∀ b o, s.heap.get? b = some o → h'.get? b = some o) → h'.get? s.heap.objs.size = some o' → SetO w o' xs → Q (.ref s.heap.objs.size) { s with heap := h', drawn := d, toks := tk }) :
    wpAny (model prog w) A (call (.type "set") [.ref r]) Q E s := by
  obtain ⟨c, tl, hmro⟩ := PySem.F.called_set.mro
  have hmade := PySem.F.called_set.made
  have hsub := PySem.F.called_set.sub
  refine wpAny_call (codeAny_of_tree ?_)
  show wpAny _ _ (callAny (.type "set") _) _ _ _
  refine wpAny_pure ⟨Code.quiet_builtin _ (by decide +kernel), codeAny_builtin PySem.F.entry_type_call ?_⟩
  rw [Around.under_plain (weight_type_call_type "set" [.ref r] []) rfl]
  have h1 := PySem.F.called_set.notType
  have h2 := PySem.F.called_set.canCreate
  have hct := PySem.F.typeCall_set_1 (.ref r)
  repeat (any_goals (first | assumption | wp_step))
  refine codeAny_mono (code_set_new (w := w) (.ref r) (E := E) (Q₁ := fun obj s₁ => obj = .ref s.heap.objs.size ∧ s₁ = { s with heap := s.heap.push (freshSet w) }) ⟨rfl, rfl⟩) fun q s₁ hq => ?_
  cases q with
  | error e => exact hq
  | ok fl =>
    cases fl with
    | ret obj =>
      obtain ⟨rfl, rfl⟩ := hq
      have hS : (s.heap.push (freshSet w)).get? s.heap.objs.size = some (freshSet w) := Heap.get?_push_size _ rfl
      have hT : Shared.TypeIs { s with heap := s.heap.push (freshSet w) } (.ref s.heap.objs.size) "set" := ⟨_, hS, rfl⟩
      have hli := PySem.F.called_set.init.lookup
      have hbi := PySem.F.called_set.init.bind (.ref s.heap.objs.size)
      repeat (any_goals (first | assumption | wp_step))
      refine codeAny_mono (codeAny_call_builtin (R := wants (fun q s₂ => q = .none ∧ ∃ h' d tk o', s₂ = { s with heap := h', drawn := d, toks := tk } ∧ (∀ b o, s.heap.get? b = some o → h'.get? b = some o) ∧ h'.get? s.heap.objs.size = some o' ∧ SetO w o' xs) E)
        PySem.F.called_set.init.plain PySem.F.entry_set_init (check_set_init_1 hT ?_)) fun r₂ s₂ hr₂ => ?_
      · have hupd' := fun K E' => hupd K E'
        unfold Builtin.«set.__init__» noKeywords
        generalize hU : Builtin.Frozenset.updateFrom = U at hupd'
        wp_walk
        refine hupd' _ _ fun h' d tk o' hk hS' hO => ?_
        exact wpAny_pure ⟨rfl, h', d, tk, o', rfl, hk, hS', hO⟩
      · cases r₂ with
        | error e => exact hr₂
        | ok fl =>
          cases fl with
          | ret v =>
            obtain ⟨rfl, h', d, tk, o', rfl, hk, hS', hO⟩ := hr₂
            repeat (any_goals (first | assumption | wp_step))
            exact hQ _ _ _ _ hk hS' hO
          | next => exact hr₂.elim
          | brk => exact hr₂.elim
          | cont => exact hr₂.elim
    | next => exact hq.elim
    | brk => exact hq.elim
    | cont => exact hq.elim
theorem wp_isAnySet {v : Value} {Q : Bool → Shared → Prop} (hT : s.TypeIs v "set") (h : Q true s) : wpAny (model prog w) A (Builtin.Frozenset.isAnySet v) Q E s := by
  unfold Builtin.Frozenset.isAnySet
  refine wpAny_bind (m := isInstance v (.type "set")) (wpAny_isInstance hT sub_set_self ?_)
  exact wpAny_pure h
/-- set(a set) -/
theorem call_set_set {Q : Value → Shared → Prop} (ho : s.heap.get? a = some o) (hO : SetO w o xs) (hb : xs.length ≤ 30)
    (hQ : ∀ h' d tk o', (∀ b o, s.heap.get? b = some o → h'.get? b = some o) → h'.get? s.heap.objs.size = some o' → SetO w o' xs → Q (.ref s.heap.objs.size) { s with heap := h', drawn := d, toks := tk }) :
    wpAny (model prog w) A (call (.type "set") [.ref a]) Q E s := by
  refine call_set_r (xs := xs) (fun K E' hK => ?_) hQ
  obtain ⟨hex, es, ep, t, ys, hd, hel, hT, hp, hn, hf, hok⟩ := id hO
  have ho1 : (s.heap.push (freshSet w)).get? a = some o := Heap.get?_push_of_some _ ho
  unfold Builtin.Frozenset.updateFrom
  refine wpAny_bind (wp_isAnySet (s := { s with heap := s.heap.push (freshSet w) }) ⟨o, ho1, hex.1⟩ ?_)
  simp only [if_true]
  refine wpAny_bind (wpAny_pure ?_)
  unfold Builtin.Frozenset.merge
  refine wpAny_bind ?_
  unfold setEpoch
  refine wpAny_bind (wpAny_setState_of (s := { s with heap := s.heap.push (freshSet w) }) ho1 hd hf (wpAny_pure ?_))
  refine wp_merge (w := w) (o := o) (xs := xs) (s := { s with heap := s.heap.push (freshSet w) }) (Nat.ne_of_gt (Heap.lt_size ho)) (Heap.get?_push_size _ rfl) ho1 hO hb fun h' o' hs hS' hO' => ?_
  exact hK h' s.drawn s.toks o' (fun b ob e => hs.extBut b ob (Nat.ne_of_lt (Heap.lt_size e)) (Heap.get?_push_of_some _ e)) hS' hO'
def setStep (xs : List Str) (y : Str) : List Str := if y ∈ xs then xs else xs ++ [y]
theorem setStep_len (ys : List Str) : (ys.foldl setStep []).length ≤ ys.length := by
  have key : ∀ (ys acc : List Str), (ys.foldl setStep acc).length ≤ acc.length + ys.length := by
    intro ys
    induction ys with
    | nil => intro acc; exact Nat.le_refl _
    | cons y r ih =>
      intro acc
      rw [List.foldl_cons, List.length_cons]
      have h1 := ih (setStep acc y)
      have h2 : (setStep acc y).length ≤ acc.length + 1 := by
        unfold setStep
        split
        · omega
        · rw [List.length_append]; exact Nat.le_refl _
      omega
  simpa using key ys []
theorem setStep_nodup {ys : List Str} (h : ys.Nodup) : ys.foldl setStep [] = ys := by
  have key : ∀ (ys acc : List Str), (acc ++ ys).Nodup → ys.foldl setStep acc = acc ++ ys := by
    intro ys
    induction ys with
    | nil => intro acc _; simp
    | cons y r ih =>
      intro acc hn
      rw [List.foldl_cons]
      have hy : y ∉ acc := fun q => by
        have := (List.nodup_append.mp hn).2.2 y q y (.head _)
        exact this rfl
      have e : setStep acc y = acc ++ [y] := by unfold setStep; rw [if_neg hy]
      rw [e, ih (acc ++ [y]) (by rw [List.append_assoc]; exact hn), List.append_assoc]
      rfl
  simpa using key ys [] (by simpa using h)
/-- texts poured into a set -/
theorem set_loop {I : Addr} {fp : List Addr} {n : Nat} {vs : List Value} {ys : List Str} {St : Nat → Heap → Prop} {R : Result → Shared → Prop} (hT : TxA vs ys) (hl : vs.length = n) (hz : n < 4000)
    (W : Walks prog w A.in1 I fp [I] n (fun i v => vs[i]? = some v) St) (hSf : S ∉ fp) (hSI : S ≠ I) :
    ∀ (k i : Nat) (s : Shared) (o : Obj), n - i = k → i ≤ n → St i s.heap → s.heap.get? S = some o → SetO w o ((ys.take i).foldl setStep []) →
      (∀ h' tk o', (∀ b ob, b ≠ S → b ≠ I → s.heap.get? b = some ob → h'.get? b = some ob) → h'.get? S = some o' → SetO w o' (ys.foldl setStep []) → R (.ok (.ret .none)) { s with heap := h', toks := tk }) →
      codeAny (model prog w) A (.builtin "set.update.loop" ⟨[.ref S, .ref I], []⟩) R s := by
  have hyl : ys.length = n := by rw [← hT.length, hl]
  intro k
  induction k with
  | zero =>
    intro i s o hk hi hst hS hO hR
    have hin : i = n := by omega
    subst hin
    refine codeAny_builtin PyProof.Rows.F.entry_set_update_loop ?_
    rw [Around.under_plainId PyProof.Rows.F.plain_set_update_loop _]
    show wpAny _ A.in1 (pyNext (.ref I) >>= _) _ _ s
    refine wpAny_bind (W.done s _ _ hst fun h' tk hm => ?_)
    show wpAny _ A.in1 (ret Value.none) _ _ _
    refine wpAny_pure (hR h' tk o (fun b ob _ hb e => hm b ob (fun q => hb (List.mem_singleton.mp q)) e) (hm S o (fun q => hSI (List.mem_singleton.mp q)) hS) ?_)
    rw [List.take_of_length_le (by omega)] at hO
    exact hO
  | succ k ih =>
    intro i s o hk hi hst hS hO hR
    have hlt : i < n := by omega
    refine codeAny_builtin PyProof.Rows.F.entry_set_update_loop ?_
    rw [Around.under_plainId PyProof.Rows.F.plain_set_update_loop _]
    show wpAny _ A.in1 (pyNext (.ref I) >>= _) _ _ s
    refine wpAny_bind (W.item i s _ _ hlt hst fun v h₁ tk₁ hP hst' hm => ?_)
    obtain ⟨y, t, hy, rfl⟩ := hT.at hP
    have hS₁ := hm S o (fun q => hSI (List.mem_singleton.mp q)) hS
    show wpAny _ A.in1 (holding [Value.str y t] (setAdd S (.str y t)) >>= _) _ _ _
    refine wpAny_bind (wpAny_holding ?_)
    unfold setAdd
    refine wpAny_holding ?_
    refine wpAny_bind (wpAny_pyHash_str ?_)
    have hroom : ((ys.take i).foldl setStep []).length + 1 < scanBound := by
      have h1 := setStep_len (ys.take i)
      have h2 := List.length_take_le i ys
      show _ + 1 < 4096
      omega
    refine wp_setAdd (s := { s with heap := h₁, toks := tk₁ + 1 }) hS₁ hO hroom fun h₂ o₂ hs₂ hS₂ hO₂ => ?_
    have hnext : (ys.take (i + 1)).foldl setStep [] = if y ∈ (ys.take i).foldl setStep [] then (ys.take i).foldl setStep [] else (ys.take i).foldl setStep [] ++ [y] := by
      rw [List.take_add_one, hy, List.foldl_append]
      rfl
    rw [← hnext] at hO₂
    refine wpAny_pure ⟨plainId_quiet PyProof.Rows.F.plain_set_update_loop _, ih (i + 1) _ o₂ (by omega) hlt (W.frame _ _ _ hst' fun b hb ob e => ?_) hS₂ hO₂ fun h' tk o' hk' hS' hO' => ?_⟩
    · exact hs₂.extBut b ob (fun q => hSf (q ▸ hb)) e
    · exact hR h' tk o' (fun b ob hb1 hb2 e => hk' b ob hb1 hb2 (hs₂.extBut b ob hb1 (hm b ob (fun q => hb2 (List.mem_singleton.mp q)) e))) hS' hO'
end
end Mine
end
section
open PySem PySem.W PyProof.Rows PySem.Calls PySem.Spec
namespace Mine
theorem strs_of_txa {vs : List Value} {ys : List Str} (h : TxA vs ys) : StrsAre vs ys := by
  induction h with
  | nil => exact .nil
  | cons _ ih => exact .cons _ _ ih
theorem txa_of_strs {vs : List Value} {ys : List Str} (h : StrsAre vs ys) : TxA vs ys := by
  induction h with
  | nil => exact .nil
  | cons _ _ _ ih => exact .cons ih
section
variable {w : World} {o : Obj} {xs : List Str} {A : Around} {E : Value → Shared → Prop} {s : Shared} {a S r : Addr}
theorem hint_set {Q : Bool → Shared → Prop} (hT : s.TypeIs (.ref r) "set") (h : Q false s) : wpAny (model prog w) A (Builtin.List.listLengthHint (.ref r)) Q E s := by
  unfold Builtin.List.listLengthHint
  refine wpAny_bind (wpAny_specialOf hT PySem.F.slot_set_len.lookup ?_)
  generalize hid : ("set.__len__" : String) = id0
  wp_delta
  rw [show splitId id0 = some ("set", "__len__") from by subst hid; decide +kernel]
  subst hid
  refine wpAny_bind (wpAny_isInstance (T := "set") (b := true) hT sub_set_self ?_)
  refine wpAny_ite_split (fun hab => absurd hab (by decide)) (fun _ => ?_)
  refine wpAny_ite_split (fun _ => ?_) (fun hab => absurd (by decide +kernel) hab)
  refine wpAny_bind (wpAny_typeOf hT ?_)
  exact wpAny_pure h
theorem extend_set {R : Result → Shared → Prop} (hh : A.handled = none) (ho : s.heap.get? a = some o) (hO : SetO w o xs) (hb : xs.length < 4000) (hSa : S ≠ a) (res : Value) (hS : s.heap.get? S = some { cls := .type "list", data := .seq #[] 0 })
    (hR : ∀ h' d tk acc' c' ys, (∀ b ob, b ≠ S → s.heap.get? b = some ob → h'.get? b = some ob) → h'.get? S = some { cls := .type "list", dict := none, data := .seq acc' c', slots := #[] } → TxA acc'.toList ys → ys.Perm xs → R (.ok (.ret res)) { s with heap := h', drawn := d, toks := tk }) :
    wpAny (model prog w) A.in1 (Builtin.List.listExtendWith (.ref S) (.ref a) res)
      (fun fin s' => match fin with | .done f => R (.ok f) s' | .again c' => c'.quiet = true ∧ codeAny (model prog w) A c' R s') (fun e s' => R (.error e) s') s := by
  have hex : o.ExactSet := hO.1
  unfold Builtin.List.listExtendWith
  refine wpAny_bind (wpAny_typeOf (T := "set") ⟨o, ho, hex.1⟩ ?_)
  have h1 : Builtin.List.listSameRef (.ref S) (.ref a) = false := by simp [Builtin.List.listSameRef, hSa]
  have h2 : (Value.type "set" == Value.type "list") = false := by decide
  have h3 : (Value.type "set" == Value.type "tuple") = false := by decide
  simp only [h1, h2, h3, Bool.or_false, Bool.false_eq_true, if_false]
  refine wpAny_bind (wp_setIter (A := A.in1) hh ho hO hb fun h' d I fp St n vs ys hk hI hIs W hl hT hp hst hfp => ?_)
  have hSI : S ≠ I := Nat.ne_of_lt (Nat.lt_of_lt_of_le (Heap.lt_size hS) hI)
  have hSf : S ∉ fp := fun q => by
    rcases hfp S q with e | e
    · exact hSa e
    · exact absurd (Heap.lt_size hS) (Nat.not_lt.mpr e.1)
  have hS₁ := hk _ _ hS
  have hyl : vs.length ≤ 4000 := by rw [hT.length, hp.length_eq]; omega
  have key : ∀ (h₂ : Heap) (c₁ tk : Nat), St 0 h₂ → (∀ b ob, b ≠ S → s.heap.get? b = some ob → h₂.get? b = some ob) →
      h₂.get? S = some { cls := .type "list", data := .seq #[] c₁ } → codeAny (model prog w) A (.builtin "list.extend.loop" ⟨[.ref S, .ref I, res], []⟩) R { s with heap := h₂, drawn := d, toks := tk } := by
    intro h₂ c₁ tk hst₂ hk₂ hS₂
    refine codeAny_extend_loopS (W A.in1 hh).toS (by rw [sizeLine_eq]; omega) S hSf res n 0 _ #[] c₁ rfl (Nat.zero_le _) hst₂ hS₂ (ItemsOf.nil _) fun s' acc' c' hm hS' hacc => ?_
    rw [Moved.eq_with hm]
    have hvs : acc'.toList = vs := by
      apply List.ext_getElem?
      intro j
      rcases Nat.lt_or_ge j acc'.size with hj | hj
      · have := hacc.2 j acc'[j] (Array.getElem?_eq_getElem hj)
        rw [this, Array.getElem?_toList, Array.getElem?_eq_getElem hj]
      · rw [List.getElem?_eq_none (by rw [Array.length_toList]; exact hj), List.getElem?_eq_none (by have := hacc.1; omega)]
    refine hR s'.heap d s'.toks acc' c' ys (fun b ob hb' e => hm.heap b ob (fun hmem => ?_) (hk₂ b ob hb' e)) hS' (hvs ▸ hT) hp
    rcases List.mem_cons.mp hmem with e' | hmem
    · exact hb' e'
    · exact absurd (Heap.lt_size e) (Nat.not_lt.mpr (by rw [List.mem_singleton.mp hmem]; exact hI))
  have ho₁ := hk _ _ ho
  refine wpAny_bind (wpAny_holding (hint_set ⟨o, ho₁, hex.1⟩ ?_))
  refine wpAny_ite_split (fun _ => ?_) (fun _ => wpAny_pure ⟨plainId_quiet PySem.F.plain_extend_loop _, key _ 0 _ hst (fun b ob _ e => hk b ob e) hS₁⟩)
  refine wpAny_bind (wpAny_rule ?_)
  refine wpAny_bind ?_
  show wpAny _ _ (updateSeq S (·.push .none) >>= fun _ => updateSeq S (·.pop)) _ _ _
  refine wpAny_bind (wpAny_updateSeq hS₁ rfl ?_)
  have hS₂ := Heap.get?_update_self (Obj.mapSeq (·.push Value.none)) hS₁ rfl
  refine wpAny_updateSeq (hz := by seq_fits) hS₂ rfl ?_
  have hS₃ := Heap.get?_update_self (Obj.mapSeq (·.pop)) hS₂ rfl
  refine wpAny_pure ⟨plainId_quiet PySem.F.plain_extend_loop _, key _ _ _ ?_ (fun b ob hb' e => ?_) hS₃⟩
  · refine (W A.in1 hh).frame 0 _ _ hst fun b hb' ob e => ?_
    have hbS : b ≠ S := fun q => hSf (q ▸ hb')
    exact (Heap.get?_update_other _ _ (Ne.symm hbS)).trans ((Heap.get?_update_other _ _ (Ne.symm hbS)).trans e)
  · exact (Heap.get?_update_other _ _ (Ne.symm hb')).trans ((Heap.get?_update_other _ _ (Ne.symm hb')).trans (hk b ob e))
theorem collect_set {R : List Value → Shared → Prop} (hh : A.handled = none) (ho : s.heap.get? a = some o) (hO : SetO w o xs) (hb : xs.length < 4000)
    (h : ∀ h' d tk vs ys, (∀ b ob, s.heap.get? b = some ob → h'.get? b = some ob) → TxA vs ys → ys.Perm xs → R vs { s with heap := h', drawn := d, toks := tk }) :
    wpAny (model prog w) A (collect (.ref a)) R E s := by
  unfold collect
  refine wpAny_bind (wpAny_runValue (codeAny_builtin PySem.F.entry_proto_collect ?_))
  rw [Around.under_plainId PySem.F.plain_proto_collect _]
  show wpAny _ A.in1 (newList [] >>= fun l => again (.builtin "list.__iadd__" ⟨[l, .ref a], []⟩)) _ _ s
  refine wpAny_bind (wpAny_newObj_type ?_)
  refine wpAny_pure ⟨plainId_quiet PySem.F.plain_list_iadd _, codeAny_builtin PySem.F.entry_list_iadd ?_⟩
  rw [Around.under_plainId PySem.F.plain_list_iadd _]
  have hS₁ : (s.heap.push { cls := .type "list", data := .seq ([] : List Value).toArray }).get? s.heap.objs.size = some { cls := .type "list", data := .seq #[] } := Heap.get?_push_size _ rfl
  show wpAny _ A.in1 (Builtin.List.listExtendWith (.ref s.heap.objs.size) (.ref a) (.ref s.heap.objs.size)) _ _ _
  have key := extend_set (A := A) (a := a) (s := { s with heap := s.heap.push { cls := .type "list", data := .seq ([] : List Value).toArray } })
    (R := fun (q : Result) (s' : Shared) => ∃ (h' : Heap) (d : Drawn) (tk : Nat) (acc' : Array Value) (c' : Nat) (ys : List Str), q = .ok (.ret (.ref s.heap.objs.size)) ∧ s' = { s with heap := h', drawn := d, toks := tk } ∧
      (∀ b ob, s.heap.get? b = some ob → h'.get? b = some ob) ∧ h'.get? s.heap.objs.size = some { cls := .type "list", dict := none, data := .seq acc' c', slots := #[] } ∧ TxA acc'.toList ys ∧ ys.Perm xs)
    hh (Heap.get?_push_of_some _ ho) hO hb (Nat.ne_of_gt (Heap.lt_size ho)) (.ref s.heap.objs.size) hS₁
    (fun h' d tk acc' c' ys hk hS' hT hp => ⟨h', d, tk, acc', c', ys, rfl, rfl, fun b ob e => hk b ob (Nat.ne_of_lt (Heap.lt_size e)) (Heap.get?_push_of_some _ e), hS', hT, hp⟩)
  refine wpAny_mono key (fun fin s' x => ?_) fun e s' x => ?_
  · cases fin with
    | done f =>
      obtain ⟨h', d, tk, acc', c', ys, e, rfl, hk, hS', hT, hp⟩ := x
      cases e
      show wpAny _ A (load s.heap.objs.size >>= _) _ _ _
      refine wpAny_bind (wpAny_load hS' ?_)
      exact wpAny_pure (h h' d tk acc'.toList ys hk hT hp)
    | again c₁ =>
      refine ⟨x.1, codeAny_mono x.2 fun q s₂ y => ?_⟩
      obtain ⟨h', d, tk, acc', c', ys, rfl, rfl, hk, hS', hT, hp⟩ := y
      show wpAny _ A (load s.heap.objs.size >>= _) _ _ _
      refine wpAny_bind (wpAny_load hS' ?_)
      exact wpAny_pure (h h' d tk acc'.toList ys hk hT hp)
  · obtain ⟨_, _, _, _, _, _, e', _⟩ := x
    cases e'
/-- sorted(a set) -/
theorem sorted_set {Q : Value → Shared → Prop} (hh : A.handled = none) (ho : s.heap.get? a = some o) (hO : SetO w o xs) (hb : xs.length < 64)
    (h : ∀ h' d tk D vs ss e, (∀ b ob, s.heap.get? b = some ob → h'.get? b = some ob) → s.heap.get? D = none → h'.get? D = some (lst vs e) → TxA vs ss → ss.Perm xs → sortedS ss = true → Q (.ref D) { s with heap := h', drawn := d, toks := tk }) :
    wpAny (model prog w) A (call (.builtin "sorted") [.ref a]) Q E s := by
  refine Calls.call_function_entry kind_sorted plain_sorted entry_sorted (args_sorted1 _) ?_
  unfold Builtin.«sorted»
  refine wpAny_bind (m := checkCount "sorted" 1 1 _) (wpAny_pure ?_)
  refine wpAny_bind (collect_set (A := A.in1) hh ho hO (by omega) fun h' d tk vs ys hk hT hp => ?_)
  have hvl : vs.length < 64 := by rw [hT.length, hp.length_eq]; exact hb
  refine wpAny_bind (wpAny_newList ?_ (by rw [sizeLine_eq]; omega))
  have hoL : (h'.push (seqObj "list" vs.toArray 0)).get? h'.objs.size = some (seqObj "list" vs.toArray 0) := Heap.get?_push_size _ rfl
  have hS := strs_of_txa hT
  refine wpAny_bind (wpAny_holding (wpAny_call_entry slot_list_sort ⟨_, hoL, rfl⟩ entry_list_sort (list_sort_treeK (κ := PyProof.Rows.strKind) strKind_oneLt (a := h'.objs.size) (vs := vs) (n := 0) hoL hS.keysOf (fun v₁ v₂ rest e => keyKind_strs (by rw [← e]; exact hS)) hvl fun st' a1 a2 => ⟨_, rfl, ?_⟩) (args_list_sort _)))
  obtain ⟨ss', q1, q2, q3⟩ := sorted_out_str hS a1 a2
  obtain ⟨e, he⟩ := sortedHeap_at (h := h'.push (seqObj "list" vs.toArray 0)) (vs := vs) (out := (arrOf st').map (·.2)) hoL
  refine wpAny_pure ⟨_, rfl, h _ d tk h'.objs.size ((arrOf st').map (·.2)).toList ss' e (fun b ob eb => ?_) ?_ (by rw [he]) (txa_of_strs q1) (q2.trans hp) q3⟩
  · have eb' := hk _ _ eb
    have hlt := Heap.lt_size eb'
    rw [sortedHeap_old (Nat.ne_of_lt hlt) (by rw [Heap.size_push]; exact Nat.lt_succ_of_lt hlt)]
    exact Heap.get?_push_of_some _ eb'
  · cases q : s.heap.get? h'.objs.size with
    | none => rfl
    | some ob => exact absurd (Heap.lt_size (hk _ _ q)) (Nat.lt_irrefl _)
end
end Mine
end
section
open PySem PySem.W PyProof.Rows PySem.Calls PySem.Spec
namespace Mine
section
variable {w : World} {o : Obj} {xs : List Str} {A : Around} {E : Value → Shared → Prop} {s : Shared} {a : Addr}
theorem wp_set_add {x : Str} {tk : Tok} {Q : Value → Shared → Prop} (ho : s.heap.get? a = some o) (hO : SetO w o xs) (hb : xs.length < 4000)
    (h : ∀ h' o', Heap.SameBut a s.heap h' → h'.get? a = some o' → SetO w o' (setStep xs x) → Q .none { s with heap := h', toks := s.toks + 1 }) : wpAny (model prog w) A (call (.builtin "set.add") [.ref a, .str x tk]) Q E s := by
  have hT : s.TypeIs (.ref a) "set" := ⟨o, ho, hO.1.1⟩
  refine wpAny_call_entry PySem.F.slot_set_add hT PySem.F.entry_set_add ?_ (PySem.F.args_set_add_2 _ _)
  unfold Builtin.«set.add» Builtin.Frozenset.oneOther
  simp only [List.isEmpty_nil, bind_assoc]
  unfold Builtin.Frozenset.addrOf setAdd
  refine wpAny_bind (wpAny_pure ?_)
  try dsimp only
  refine wpAny_bind (wpAny_pure ?_)
  try dsimp only
  refine wpAny_bind ?_
  refine wpAny_holding ?_
  refine wpAny_bind (wpAny_pyHash_str ?_)
  refine wp_setAdd (s := { s with toks := s.toks + 1 }) ho hO (by show _ < 4096; omega) fun h' o' hs ho' hO' => ?_
  show wpAny _ _ (ret Value.none) _ _ _
  exact wpAny_pure ⟨_, rfl, h h' o' hs ho' hO'⟩
theorem wp_set_remove {x : Str} {tk : Tok} {Q : Value → Shared → Prop} (ho : s.heap.get? a = some o) (hO : SetO w o xs) (hx : x ∈ xs) (hb : xs.length < 4000)
    (h : ∀ h' o', Heap.SameBut a s.heap h' → h'.get? a = some o' → SetO w o' (xs.erase x) → Q .none { s with heap := h', toks := s.toks + 1 }) : wpAny (model prog w) A (call (.builtin "set.remove") [.ref a, .str x tk]) Q E s := by
  have hT : s.TypeIs (.ref a) "set" := ⟨o, ho, hO.1.1⟩
  refine wpAny_call_entry PySem.F.slot_set_remove hT PySem.F.entry_set_remove ?_ (PySem.F.args_set_remove_2 _ _)
  unfold Builtin.«set.remove» Builtin.Frozenset.oneOther
  simp only [List.isEmpty_nil, bind_assoc]
  unfold Builtin.Frozenset.addrOf
  refine wpAny_bind (wpAny_pure ?_)
  try dsimp only
  refine wpAny_bind (wpAny_pure ?_)
  try dsimp only
  unfold Builtin.Frozenset.withSetAsKey setDiscard
  refine wpAny_bind (wpAny_tryCatch ?_)
  refine wpAny_holding ?_
  refine wpAny_bind (wpAny_pyHash_str ?_)
  refine wp_setDiscard (s := { s with toks := s.toks + 1 }) ho hO hx (by show _ < 4096; omega) fun h' o' hs ho' hO' => ?_
  show wpAny _ _ (ret Value.none) _ _ _
  exact wpAny_pure ⟨_, rfl, h h' o' hs ho' hO'⟩
theorem wp_set_clear {Q : Value → Shared → Prop} (ho : s.heap.get? a = some o) (hO : SetO w o xs) (hb : xs.length < 4000)
    (h : ∀ h' o', Heap.SameBut a s.heap h' → h'.get? a = some o' → SetO w o' [] → Q .none { s with heap := h' }) : wpAny (model prog w) A (call (.builtin "set.clear") [.ref a]) Q E s := by
  have hT : s.TypeIs (.ref a) "set" := ⟨o, ho, hO.1.1⟩
  obtain ⟨hex, es, ep, t, ys, hd, hel, hTx, hp, hn, hf, hok⟩ := id hO
  refine wpAny_call_entry PySem.F.slot_set_clear hT PySem.F.entry_set_clear ?_ (PySem.F.args_set_clear_1 _)
  unfold Builtin.«set.clear» Builtin.Frozenset.noArgs
  simp only [List.isEmpty_nil, bind_assoc]
  unfold Builtin.Frozenset.addrOf
  refine wpAny_bind (wpAny_pure ?_)
  try dsimp only
  unfold Builtin.Frozenset.clearAll
  have fin : ∀ (s' : Shared), s' = s → ∀ (old : Option (List Value)) (K : Option (List Value) → Shared → Prop) (E' : Value → Shared → Prop), (∀ h' o', Heap.SameBut a s.heap h' → h'.get? a = some o' → SetO w o' [] → K old { s with heap := h' }) →
      wpAny (model prog w) A.in1 (do
        let t := (← setState a).2.2
        storeSet a #[] (t.cleared (led := !(← setsByText) && (t.led || t.finger == 0)))
        return old) K E' s' := by
    rintro s' rfl old K E' hK
    refine wpAny_bind (wpAny_setState_of ho hd hf ?_)
    dsimp only
    refine wpAny_bind (wp_byText ?_)
    refine wpAny_bind (wpAny_storeSet_of ho hd ?_ (by simp))
    obtain ⟨ho1, hS1⟩ := SetO.store (w := w) (ys := []) (xs := []) (es' := #[]) (t' := t.cleared (led := !byText w && (t.led || t.finger == 0))) ho hex hd (fun e he => by simp at he) .nil (.refl _) List.nodup_nil (by rfl) ⟨.inl rfl, fun e => by
      show (!byText w && (t.led || t.finger == 0)) = true
      rw [e, hok.led e]; rfl⟩
    exact wpAny_pure (hK _ _ (Heap.SameBut.update ..) ho1 hS1)
  refine wpAny_bind (wpAny_bind (m := setClear a) ?_)
  unfold setClear
  refine wpAny_bind ?_
  unfold setDeathsKnown
  refine wpAny_bind (wpAny_setState_of ho hd hf ?_)
  dsimp only
  refine wpAny_bind (wp_byText (wpAny_pure ?_))
  have out : ∀ (old : Option (List Value)) (h' : Heap) (o' : Obj), Heap.SameBut a s.heap h' → h'.get? a = some o' → SetO w o' [] → wpAny (model prog w) A.in1 (match old with | some old => letGo (old.filter fun | .ref _ => true | _ => false) | none => point)
      (fun _ s' => wpAny (model prog w) A.in1 (ret Value.none) (fun fin s' => ∃ v, fin = .done (.ret v) ∧ Q v s') E s') E { s with heap := h' } := by
    intro old h' o' h1 h2 h3
    cases old with
    | none => exact wpAny_point (wpAny_pure ⟨_, rfl, h h' o' h1 h2 h3⟩)
    | some old => exact wpAny_letGo (wpAny_pure ⟨_, rfl, h h' o' h1 h2 h3⟩)
  cases hk : (byText w || (t.led && t.plain) || decide (es.size ≤ 1)) with
  | false =>
    simp only [Bool.false_eq_true, if_false]
    refine wpAny_bind (wpAny_pure ?_)
    exact fin s rfl none _ _ fun h' o' h1 h2 h3 => out none h' o' h1 h2 h3
  | true =>
    simp only [if_true]
    refine wpAny_bind ?_
    unfold setItems
    have items : ∀ (K : List Value → Shared → Prop) (E' : Value → Shared → Prop), (∀ vs, K vs s) → wpAny (model prog w) A.in1 (do return (← setWalk a).toList.map (·.2)) K E' s := by
      intro K E' hK
      refine wpAny_bind ?_
      cases hbt : byText w with
      | true => exact wp_setWalk ho hd hf hbt (wpAny_pure (hK _))
      | false =>
        rw [hbt, Bool.false_or] at hk
        unfold setWalk
        refine wpAny_bind (wpAny_setState_of ho hd hf ?_)
        dsimp only
        refine wpAny_bind (wp_byText ?_)
        rw [hbt]
        simp only [Bool.false_eq_true, if_false]
        show wpAny _ _ (if (!t.plain && decide (es.size > 1)) = true then _ else _) _ _ _
        have hdn : (!t.plain && decide (es.size > 1)) = false := by
          rcases Bool.or_eq_true .. ▸ hk with e | e
          · rw [Bool.and_eq_true] at e
            rw [e.2]; rfl
          · have := of_decide_eq_true e
            rw [decide_eq_false (by omega), Bool.and_false]
        rw [hdn]
        simp only [Bool.false_eq_true, if_false]
        refine wpAny_bind ?_
        show wpAny _ _ (if (!t.led && decide (es.size > 1)) = true then _ else _) _ _ _
        rw [hok.led hbt]
        simp only [Bool.not_true, Bool.false_and, Bool.false_eq_true, if_false]
        exact wpAny_pure (wpAny_pure (wpAny_pure (hK _)))
    refine items _ _ fun vs => ?_
    refine wpAny_bind (wpAny_pure ?_)
    exact fin s rfl (some vs) _ _ fun h' o' h1 h2 h3 => out (some vs) h' o' h1 h2 h3
end
end Mine
end
section
open PySem PySem.W PyProof.Rows PySem.Calls PySem.Spec
namespace Mine
theorem noBool_set : typeLookup (.type "set") "__bool__" = pure none := by rw [typeLookup_type, builtinLookup_eq_fast]; kernel_rfl
section
variable {w : World} {o : Obj} {xs : List Str} {A : Around} {E : Value → Shared → Prop} {s : Shared} {a : Addr}
theorem SetO.size (hO : SetO w o xs) : ∃ es ep t, o.data = .set es ep t ∧ t.fits es.size = true ∧ es.size = xs.length := by
  obtain ⟨hex, es, ep, t, ys, hd, hel, hTx, hp, hn, hf, hok⟩ := hO
  refine ⟨es, ep, t, hd, hf, ?_⟩
  have := hTx.length
  rw [List.length_map, Array.length_toList, hp.length_eq] at this
  exact this
theorem wp_truthy_set {Q : Bool → Shared → Prop} (ho : s.heap.get? a = some o) (hO : SetO w o xs) (hb : xs.length < 4000) (h : Q (!xs.isEmpty) { s with toks := s.toks + 1 + 1 }) : wpAny (model prog w) A (truthy (.ref a)) Q E s := by
  obtain ⟨es, ep, t, hd, hf, hsz⟩ := hO.size
  have hT : s.TypeIs (.ref a) "set" := ⟨o, ho, hO.1.1⟩
  have hne : ((es.size : Int) != 0) = !xs.isEmpty := by
    rw [hsz]
    cases xs with
    | nil => rfl
    | cons x r => simp; omega
  have key : wpAny (model prog w) A (runValue (.builtin "len" ⟨[.ref a], []⟩)) (fun r s' => r = .int es.size (s.toks + 1) ∧ Q (!xs.isEmpty) s') E s := by
    refine wpAny_runValue (codeAny_builtin entry_len ?_)
    rw [Around.under_plainId plain_len _]
    exact wpAny_mono (wpAny_len_body_set (Q := fun r s' => r = .int es.size (s.toks + 1) ∧ Q (!xs.isEmpty) s') ho hO.1 hd hf (by omega) ⟨rfl, h⟩)
      (fun fin s' h' => by obtain ⟨r, rfl, hq⟩ := h'; exact hq) fun _ _ e => e
  unfold truthy
  refine wpAny_bind (wpAny_callSpecial?_none (name := Str.ofString "__bool__") hT noBool_set ?_)
  refine wpAny_bind (wpAny_specialOf (name := Str.ofString "__len__") hT PySem.F.slot_set_len.lookup ?_)
  exact wpAny_bind (wpAny_mono key (fun r s' h' => by obtain ⟨rfl, hq⟩ := h'; exact wpAny_pure (hne ▸ hq)) fun _ _ e => e)
theorem code_bool_new {v : Value} {Q : Value → Shared → Prop} (h : wpAny (model prog w) A.in1 (truthy v) (fun b s' => Q (.bool b) s') E s) :
    codeAny (model prog w) A (.call (.builtin "bool.__new__") ⟨[.type "bool", v], []⟩) (wants Q E) s := by
  refine codeAny_of_tree ?_
  show wpAny _ A.in1 (do checkBuiltinCall "bool.__new__" ⟨[.type "bool", v], []⟩; again (.builtin "bool.__new__" ⟨[.type "bool", v], []⟩)) _ _ s
  refine wpAny_bind (wpAny_of_eq (PySem.F.newCall_bool_1 v) (wpAny_pure ⟨plainId_quiet (by decide +kernel) _, codeAny_builtin PySem.F.entry_bool_new ?_⟩))
  rw [Around.under_plainId (show plainId "bool.__new__" = true by decide +kernel) _]
  have f1 := PySem.F.conv_sub_bool
  unfold Builtin.«bool.__new__»
  generalize hTr : truthy = Tr at h
  obtain ⟨hp, g, d, tk, os⟩ := s
  repeat (any_goals (first | assumption | wp_step))
  refine wpAny_mono h (fun b s' hq => ?_) fun _ _ e => e
  exact wpAny_pure hq
theorem call_bool_wp {v : Value} {Q : Value → Shared → Prop} (h : wpAny (model prog w) A.in1.in1 (truthy v) (fun b s' => Q (.bool b) s') E s) : wpAny (model prog w) A (call (.type "bool") [v]) Q E s := by
  refine callType_codes (Q₁ := fun obj s₁ => ∃ b, obj = .bool b ∧ Q (.bool b) s₁) PySem.F.called_bool (PySem.F.typeCall_bool_1 v) PySem.F.entry_object_init (code_bool_new (wpAny_mono h (fun b s' hq => ⟨b, rfl, hq⟩) fun _ _ e => e)) fun obj s₁ hq => ?_
  obtain ⟨b, rfl, hq⟩ := hq
  refine ⟨rfl, PySem.F.args_object_init_2 _ _, ?_⟩
  exact object_init_meets (T := "bool") PySem.F.called_bool.init.lookup PySem.F.called_bool.made PySem.F.newNe_bool prog w A.in1 _ s₁ ⟨rfl, rfl, hq⟩
end
section
variable {C : Cx} {E : Value → Shared → Prop} {st : St}
theorem Held.to {st' : St} {s s' : Shared} (H : Held C st s) (os : s'.os = s.os) (g : s'.gens = s.gens) (F : Fr C.h₀ C.L s'.heap (look st'.m)) (N : News C.h₀ C.L s'.heap (st'.news ++ tabsOf H.δ)) (nd : ((st'.news ++ tabsOf H.δ).map (·.1)).Nodup) : Held C st' s' :=
  ⟨H.δ, F, N, nd, H.ok, os.trans H.os, g ▸ H.gens, g ▸ H.gp, H.us, H.uk⟩
theorem Held.drawn {s : Shared} {d : Drawn} (H : Held C st s) : Held C st { s with drawn := d } := H.to rfl rfl H.F H.N H.nd
/-- a new object at a place that nothing had -/
theorem Held.grow {s : Shared} {h' : Heap} {d : Drawn} {tk : Nat} {D : Addr} {o : Obj} (H : Held C st s) (hk : ∀ b ob, s.heap.get? b = some ob → h'.get? b = some ob) (hD : s.heap.get? D = none) (ho : h'.get? D = some o) :
    Held C ⟨st.m, (D, o) :: st.news⟩ { s with heap := h', drawn := d, toks := tk } := by
  have hL : D ≠ C.L := fun e => by
    obtain ⟨oL, _, _, hL, _⟩ := H.F.ns
    rw [e, hL] at hD; cases hD
  have h0 : C.h₀.get? D = none := by
    cases q : C.h₀.get? D with
    | none => rfl
    | some ob => have := H.F.keep _ _ q; rw [hD] at this; cases this
  refine H.to rfl rfl (H.F.keeps hk) (fun p hp => ?_) ?_
  · rcases List.mem_cons.mp hp with rfl | hp
    · exact ⟨ho, hL, h0⟩
    · exact ⟨hk _ _ (H.N p hp).1, (H.N p hp).2⟩
  · show (((D, o) :: (st.news ++ tabsOf H.δ)).map (·.1)).Nodup
    rw [List.map_cons, List.nodup_cons]
    refine ⟨fun hm => ?_, H.nd⟩
    obtain ⟨p, hp, e⟩ := List.mem_map.mp hm
    have := (H.N p hp).1
    rw [e, hD] at this; cases this
theorem Held.writeD {m : List (Str × Value)} {r r' : Led} {s : Shared} {h' : Heap} {tk : Nat} {d : Addr} {o o' : Obj} (H : Held C ⟨m, r⟩ s) (h : At d o o' r r') (hs : Heap.SameBut d s.heap h') (ho : h'.get? d = some o') : Held C ⟨m, r'⟩ { s with heap := h', toks := tk } := H.write h hs ho
section
variable {sa : Addr} {so : Obj} {xs : List Str} {x : Str} {t : Tok}
theorem o_in_set {Q : Value → St → Prop} (hm : (sa, so) ∈ st.news) (hO : SetO C.w so xs) (hb : xs.length < 4000) (h : Q (.bool (decide (x ∈ xs))) st) : Ev C E (compareOp .In (.str x t) (.ref sa)) st Q := fun s H =>
  wpAny_inSet_of (SetO.isStr x t) rfl (hO.setOf (H.get hm) (by show _ < 4096; omega)) ⟨st, H.toHeld.tok, h⟩
theorem o_notin_set {Q : Value → St → Prop} (hm : (sa, so) ∈ st.news) (hO : SetO C.w so xs) (hb : xs.length < 4000) (h : Q (.bool (!decide (x ∈ xs))) st) : Ev C E (compareOp .NotIn (.str x t) (.ref sa)) st Q := fun s H =>
  wpAny_notInSet_of (SetO.isStr x t) rfl (hO.setOf (H.get hm) (by show _ < 4096; omega)) ⟨st, H.toHeld.tok, h⟩
theorem m_set_add {g : Obj → Led} {Q : Value → St → Prop} (hO : SetO C.w so xs) (hb : xs.length < 4000) (hg : ∀ so', At sa so so' st.news (g so')) (h : ∀ so', SetO C.w so' (setStep xs x) → Q .none ⟨st.m, g so'⟩) : Ev C E (call (.builtin "set.add") [.ref sa, .str x t]) st Q := fun s H => by
  obtain ⟨m, r⟩ := st
  exact wp_set_add (H.get (hg so).mem) hO hb fun h' o' hs ho' hO' => ⟨⟨m, g o'⟩, H.toHeld.write (hg o') hs ho', h o' hO'⟩
theorem m_set_remove {g : Obj → Led} {Q : Value → St → Prop} (hO : SetO C.w so xs) (hb : xs.length < 4000) (hx : x ∈ xs) (hg : ∀ so', At sa so so' st.news (g so')) (h : ∀ so', SetO C.w so' (xs.erase x) → Q .none ⟨st.m, g so'⟩) : Ev C E (call (.builtin "set.remove") [.ref sa, .str x t]) st Q := fun s H => by
  obtain ⟨m, r⟩ := st
  exact wp_set_remove (H.get (hg so).mem) hO hx hb fun h' o' hs ho' hO' => ⟨⟨m, g o'⟩, H.toHeld.write (hg o') hs ho', h o' hO'⟩
theorem m_set_clear {g : Obj → Led} {Q : Value → St → Prop} (hO : SetO C.w so xs) (hb : xs.length < 4000) (hg : ∀ so', At sa so so' st.news (g so')) (h : ∀ so', SetO C.w so' [] → Q .none ⟨st.m, g so'⟩) : Ev C E (call (.builtin "set.clear") [.ref sa]) st Q := fun s H => by
  obtain ⟨m, r⟩ := st
  exact wp_set_clear (H.get (hg so).mem) hO hb fun h' o' hs ho' hO' => ⟨⟨m, g o'⟩, H.toHeld.write (tk := s.toks) (hg o') hs ho', h o' hO'⟩
theorem gm_set {name : Str} {id : String} {pl : Sem Bool} {Q : Value × List Value → St → Prop} (slot : Slot "set" name id) (ty : typeOf (.builtin id) = pure (.type "method_descriptor")) (hm : (sa, so) ∈ st.news) (hO : SetO C.w so xs) (h : Q (.builtin id, [.ref sa]) st) : Ev C E (getMethod (.ref sa) name pl) st Q := fun s H =>
  getMethod_builtin (T := "set") ⟨so, H.get hm, hO.1.1⟩ PySem.F.plainAttrs_set slot ty (fun b e => by injection e with e; subst e; exact ⟨so, H.get hm, hO.1.2.1⟩) ⟨st, H.toHeld, h⟩
theorem o_len_set {Q : Value → St → Prop} (hm : (sa, so) ∈ st.news) (hO : SetO C.w so xs) (hb : xs.length < 4000) (h : ∀ t, Q (.int xs.length t) st) : Ev C E (call (.builtin "len") [.ref sa]) st Q := fun s H => by
  obtain ⟨es, ep, tt, hd, hf, hsz⟩ := hO.size
  exact call_len_set (H.get hm) hO.1 hd hf (by omega) ⟨st, H.toHeld.tok, hsz ▸ h _⟩
theorem o_truthy_set {Q : Bool → St → Prop} (hm : (sa, so) ∈ st.news) (hO : SetO C.w so xs) (hb : xs.length < 4000) (h : Q (!xs.isEmpty) st) : Ev C E (truthy (.ref sa)) st Q := fun s H =>
  wp_truthy_set (H.get hm) hO hb ⟨st, H.toHeld.tok, h⟩
theorem o_bool_set {Q : Value → St → Prop} (hm : (sa, so) ∈ st.news) (hO : SetO C.w so xs) (hb : xs.length < 4000) (h : Q (.bool (!xs.isEmpty)) st) : Ev C E (call (.type "bool") [.ref sa]) st Q := fun s H =>
  call_bool_wp (wp_truthy_set (H.get hm) hO hb ⟨st, H.toHeld.tok, h⟩)
theorem fresh_none {h : Heap} : h.get? h.objs.size = none := by
  cases q : h.get? h.objs.size with
  | none => rfl
  | some ob => exact absurd (Heap.lt_size q) (Nat.lt_irrefl _)
theorem o_set_set {Q : Value → St → Prop} (hm : (sa, so) ∈ st.news) (hO : SetO C.w so xs) (hb : xs.length ≤ 30) (h : ∀ D so', SetO C.w so' xs → Q (.ref D) ⟨st.m, (D, so') :: st.news⟩) : Ev C E (call (.type "set") [.ref sa]) st Q := fun s H =>
  call_set_set (H.get hm) hO hb fun h' d tk o' hk ho' hO' => ⟨_, H.toHeld.grow hk fresh_none ho', h _ o' hO'⟩
theorem o_sorted_set {Q : Value → St → Prop} (hm : (sa, so) ∈ st.news) (hO : SetO C.w so xs) (hb : xs.length < 64) (h : ∀ D vs ss e, TxA vs ss → ss.Perm xs → sortedS ss = true → Q (.ref D) ⟨st.m, (D, lst vs e) :: st.news⟩) : Ev C E (call (.builtin "sorted") [.ref sa]) st Q := fun s H =>
  sorted_set C.hh (H.get hm) hO hb fun h' d tk D vs ss e hk hD ho' hT hp hs => ⟨_, H.toHeld.grow hk hD ho', h D vs ss e hT hp hs⟩
theorem o_sorted_list {l : Addr} {vs : List Value} {n : Nat} {Q : Value → St → Prop} (hm : (l, lst vs n) ∈ st.news) (hT : TxA vs xs) (hb : xs.length < 64) (h : ∀ D vs' ss e, TxA vs' ss → ss.Perm xs → sortedS ss = true → Q (.ref D) ⟨st.m, (D, lst vs' e) :: st.news⟩) : Ev C E (call (.builtin "sorted") [.ref l]) st Q := fun s H => by
  refine sorted_strs (isList_of (H.get hm)) (strs_of_txa hT) (by rw [hT.length]; exact hb) fun out ss' a1 a2 a3 => ?_
  obtain ⟨e, he⟩ := sortedAll_at s.heap vs out
  refine ⟨_, H.toHeld.grow (d := s.drawn) (tk := s.toks) (D := s.heap.objs.size + 1) (o := lst out.toList e) (fun b ob eb => sortedAll_old eb) ?_ (by rw [he]), h _ out.toList ss' e (txa_of_strs a1) a2 a3⟩
  cases q : s.heap.get? (s.heap.objs.size + 1) with
  | none => rfl
  | some ob => exact absurd (Heap.lt_size q) (Nat.not_lt.mpr (Nat.le_succ _))
/-- set(a list of texts) -/
theorem o_set_list {l : Addr} {vs : List Value} {n : Nat} {Q : Value → St → Prop} (hm : (l, lst vs n) ∈ st.news) (hT : TxA vs xs) (hn : xs.Nodup) (hb : xs.length < 4000) (h : ∀ D so', SetO C.w so' xs → Q (.ref D) ⟨st.m, (D, so') :: st.news⟩) : Ev C E (call (.type "set") [.ref l]) st Q := fun s H => by
  have hl := H.get hm
  refine call_set_r (xs := xs) (fun K E' hK => ?_) fun h' d tk o' hk ho' hO' => ⟨_, H.toHeld.grow hk fresh_none ho', h _ o' hO'⟩
  have hl1 : (s.heap.push (freshSet C.w)).get? l = some (lst vs n) := Heap.get?_push_of_some _ hl
  have hS1 : (s.heap.push (freshSet C.w)).get? s.heap.objs.size = some (freshSet C.w) := Heap.get?_push_size _ rfl
  have hz1 : (s.heap.push (freshSet C.w)).objs.size = s.heap.objs.size + 1 := Heap.size_push ..
  have hlS := Heap.lt_size hl
  unfold Builtin.Frozenset.updateFrom Builtin.Frozenset.isAnySet
  refine wpAny_bind (wpAny_bind (m := isInstance (.ref l) (.type "set")) (wpAny_isInstance (T := "list") (b := false) ⟨_, hl1, rfl⟩ PySem.F.sub_list_set ?_))
  refine wpAny_isInstance (T := "list") (b := false) ⟨_, hl1, rfl⟩ PySem.F.sub_list_frozenset ?_
  simp only [Bool.false_eq_true, if_false]
  refine wpAny_bind (wpAny_typeOf (T := "list") ⟨_, hl1, rfl⟩ ?_)
  rw [if_neg (by decide)]
  refine wpAny_bind (wpAny_pyIter_list (isList_of hl1) ?_)
  refine wpAny_bind (wpAny_runValue ?_)
  have W := Walks.list (prog := prog) (w := C.w) (A := C.A.in1.in1.in1) C.hh (s.heap.push (freshSet C.w)).objs.size l (by rw [hz1]; exact Nat.ne_of_lt (Nat.lt_succ_of_lt hlS)) vs.toArray
  rw [show vs.toArray.size = vs.length from List.size_toArray (as := vs)] at W
  have e : (fun (i : Nat) (v : Value) => vs.toArray[i]? = some v) = fun i v => vs[i]? = some v := by funext i v; simp
  rw [e] at W
  refine set_loop (w := C.w) (S := s.heap.objs.size) (A := C.A.in1.in1) hT rfl (by rw [hT.length]; exact hb) W ?_ ?_ vs.length 0 _ (freshSet C.w) (by omega) (Nat.zero_le _) ⟨⟨_, Heap.get?_push_size _ rfl, rfl, rfl⟩, (isList_of hl1).push _⟩ (Heap.get?_push_of_some _ hS1) (freshSet_ok C.w) fun h' tk o' hk' hS' hO' => ?_
  · rw [hz1]
    simp only [List.mem_cons, List.not_mem_nil, or_false, not_or]
    exact ⟨Nat.ne_of_lt (Nat.lt_succ_self _), Nat.ne_of_gt hlS⟩
  · rw [hz1]; exact Nat.ne_of_lt (Nat.lt_succ_self _)
  · rw [setStep_nodup hn] at hO'
    refine wpAny_pure (hK h' s.drawn tk o' (fun b ob eb => hk' b ob ?_ ?_ (Heap.get?_push_of_some _ (Heap.get?_push_of_some _ eb))) hS' hO')
    · exact Nat.ne_of_lt (Heap.lt_size eb)
    · rw [hz1]; exact Nat.ne_of_lt (Nat.lt_succ_of_lt (Heap.lt_size eb))
end
end
end Mine
end
section
open PySem PySem.W PyProof.Rows PySem.Calls PySem.Spec
namespace Mine
theorem compTurn_set (elt target iter : Expr) (scope : Scope) (pos : Pos) (it acc : Value) (env : Env) :
    compTurn (.SetComp elt [⟨target, iter, [], 0⟩] scope pos) 0 it acc env = (do
      standAt iter.pos
      match ← pyNext it with
      | none => pure (.done .next)
      | some v =>
        letOwnedTupleGo target it v
        assign target env v
        (do let v ← eval elt env; standAt elt.pos; let _ ← call (.builtin "set.add") [acc, v])
        again (.compLoop (.SetComp elt [⟨target, iter, [], 0⟩] scope pos) 0 it acc env)) := by rfl
section
variable {w : World} {A : Around} {E : Value → Shared → Prop} {R : Result → Shared → Prop} {s : Shared}
theorem codeAny_compStart_set {elt target iter : Expr} {ifs : List Expr} {rest : List Comprehension} {scope : Scope} {pos : Pos} {it acc : Value} {env : Env}
    (h0 : codeAny (model prog w) A (.compLoop (.SetComp elt (⟨target, iter, ifs, 0⟩ :: rest) scope pos) 0 it acc env) R s)
    (h : wpAny (model prog w) A (pyIter it) (fun it' s' => codeAny (model prog w) A (.compLoop (.SetComp elt (⟨target, iter, ifs, 0⟩ :: rest) scope pos) 0 it' acc env) R s')
      (notedBy (model prog w) A env fun x s' => R (.error x) s') s) :
    codeAny (model prog w) A (.compStart (.SetComp elt (⟨target, iter, ifs, 0⟩ :: rest) scope pos) 0 it acc env) R s := by
  refine codeAny_of_tree ?_
  show wpAny _ _ ((compStart (.SetComp elt (⟨target, iter, ifs, 0⟩ :: rest) scope pos) 0 it acc env).onRaise (fun x => do noteFrame x env; standAt theWindowsPlace)) _ _ s
  refine wpAny_notedAt ?_
  unfold compStart
  show wpAny _ _ (ask >>= _) _ _ s
  refine wpAny_bind (wpAny_askSetting (wpAny_ite ?_))
  split
  · first
      | exact wpAny_bind (wpAny_pure (wpAny_pure (And.intro rfl h0)))
      | exact wpAny_pure (And.intro rfl h0)
  · first
      | exact wpAny_bind (wpAny_rule (wpAny_bind (wpAny_standAt (wpAny_bind (wpAny_mono h (fun it' s' h' => wpAny_pure (And.intro rfl h')) fun _ _ x => x)))))
      | (refine wpAny_bind (wpAny_rule ?_); show wpAny _ _ (standAt iter.pos >>= _) _ _ s; exact wpAny_bind (wpAny_standAt (wpAny_bind (wpAny_mono h (fun it' s' h' => wpAny_pure (And.intro rfl h')) fun _ _ x => x))))
theorem codeAny_compLoop_set {elt target iter : Expr} {scope : Scope} {pos : Pos} {it acc : Value} {env : Env} (I : Nat → Shared → Prop)
    (turn : ∀ n s, I n s → wpAny (model prog w) A (pyNext it) (fun r s₁ => match r with
      | none => R (.ok .next) s₁
      | some v => wpAny (model prog w) A (assign target env v) (fun _ s₂ =>
          wpAny (model prog w) A (eval elt env) (fun x s₄ =>
              wpAny (model prog w) A (call (.builtin "set.add") [acc, x]) (fun _ s₅ => ∃ m, m < n ∧ I m s₅) (notedBy (model prog w) A env fun e s' => R (.error e) s') s₄) (notedBy (model prog w) A env fun e s' => R (.error e) s') s₂)
          (notedBy (model prog w) A env fun e s' => R (.error e) s') s₁) (notedBy (model prog w) A env fun e s' => R (.error e) s') s)
    (n : Nat) (h : I n s) (ht : ∀ v, letOwnedTupleGo target it v = pure () := by intro _; rfl) :
    codeAny (model prog w) A (.compLoop (.SetComp elt [⟨target, iter, [], 0⟩] scope pos) 0 it acc env) R s := by
  refine codeAny_loop rfl I (fun n s hI => ?_) n h
  show wpAny _ A ((compTurn (.SetComp elt [⟨target, iter, [], 0⟩] scope pos) 0 it acc env).onRaise (fun x => do noteFrame x env; theTreesLotGoes x)) _ _ s
  refine wpAny_noted ?_
  rw [compTurn_set]
  refine wpAny_bind (wpAny_standAt (wpAny_bind (wpAny_mono (turn n s hI) (fun r s₁ h₁ => ?_) fun _ _ h' => h')))
  cases r with
  | none => exact wpAny_pure h₁
  | some v =>
    refine wpAny_bind (wpAny_of_eq (ht v) ?_)
    refine wpAny_bind (wpAny_mono h₁ (fun _ s₂ h₂ => ?_) fun _ _ h' => h')
    exact wpAny_bind (wpAny_bind (wpAny_mono h₂ (fun x s₄ h₄ => wpAny_bind (wpAny_standAt (wpAny_bind (wpAny_mono h₄ (fun _ s₅ h₅ => wpAny_pure (wpAny_pure ⟨rfl, h₅⟩)) fun _ _ h' => h')))) fun _ _ h' => h'))
end
section
variable {C : Cx} {E : Value → Shared → Prop} {st : St}
theorem sc_block {elt iter : Expr} {x : Str} {px : Pos} {scope : Scope} {pos : Pos} {env : Env} {it : Value} {n : Nat} {P : Nat → Value → Prop} {m : List (Str × Value)} {R F : Led} {s₂ : Shared}
    {zs : List Str} {RR : Value → Addr → Result → Shared → Prop}
    (hI : CompI C m R F it n P s₂) (hsz : n ≤ sizeLine)
    (hcell : ∀ y ∈ scope.names, y.2 ≠ .cell) (hkind : scope.kind = .function) (hx : scope.names.lookup x = some .local)
    (hzs : zs.length = n) (hn4 : n < 4000) (T : CompT C env x elt [] scope m P (fun _ => true) (fun i y => ∃ z t, zs[i]? = some z ∧ y = .str z t) n)
    (hRR : ∀ Dl Cc oC mc so s', LCg.NsObj oC mc → SetO C.w so (zs.foldl setStep []) → Holds C ⟨m, (Cc, oC) :: (Dl, so) :: R⟩ s' → RR (.ref Dl) Cc (.ok .next) s') :
    wpAny (model prog C.w) C.A (newSet (.type "set")) (fun acc s₃ => wpAny (model prog C.w) C.A (newFunctionEnv scope env.globals [] [] env.qual none .none (some env)) (fun cenv s₄ =>
      codeAny (model prog C.w) C.A (.compStart (.SetComp elt [⟨.Name x px, iter, [], 0⟩] scope pos) 0 it acc { cenv with scope := relabel scope env }) (RR acc cenv.locals) s₄) E s₃) E s₂ := by
  obtain ⟨I, own, fp, wr, K, δ₂, X, rfl, It, hw, S₂⟩ := hI.ex
  have hFR := S₂.hF
  refine wp_newSet (wpAny_newFunctionEnv hcell (by intro y hy; simp at hy) (fun h₁ hns₁ hsb₁ => ?_) hkind)
  dsimp only at hns₁ hsb₁ ⊢
  have HD := Held.allocD (C := C) (st := ⟨m, X ++ R⟩) (o := freshSet C.w) ⟨_, S₂.D⟩ rfl
  have hDn : C.h₀.get? s₂.heap.objs.size = none ∧ s₂.heap.objs.size ≠ C.L := let q := HD.N _ (.head _); ⟨q.2.2, q.2.1⟩
  have hPg := Heap.get?_push_size s₂.heap (o := freshSet C.w) rfl
  have hPo : ∀ b o, s₂.heap.get? b = some o → (s₂.heap.push (freshSet C.w)).get? b = some o := fun b o e => Heap.get?_push_of_some _ e
  generalize hH2 : s₂.heap.push (freshSet C.w) = H2 at hns₁ hsb₁ HD hPg hPo ⊢
  have hC : H2.objs.size = s₂.heap.objs.size + 1 := by rw [← hH2, Heap.size_push]
  obtain ⟨oC, heC, hoC⟩ := LCg.ns_obj hns₁
  have hsz1 : h₁.objs.size = H2.objs.size + 1 := by rw [hsb₁.1, Heap.size_push]
  have old : ∀ b o, s₂.heap.get? b = some o → h₁.get? b = some o := fun b o e => hsb₁.extBut b o (by rw [hC]; exact Nat.ne_of_lt (Nat.lt_succ_of_lt (Heap.lt_size e))) (Heap.get?_push_of_some _ (hPo b o e))
  have fresh₀ : ∀ a, s₂.heap.objs.size ≤ a → C.h₀.get? a = none := fun a ha => by
    cases e : C.h₀.get? a with
    | none => rfl
    | some o' => exact absurd (Heap.lt_size (S₂.D.F.keep a o' e)) (Nat.not_lt.mpr ha)
  have hLlt : C.L < s₂.heap.objs.size := S₂.D.F.ns.lt
  have lt : ∀ p ∈ (X ++ R) ++ tabsOf δ₂, p.1 < s₂.heap.objs.size := fun p hp => Heap.lt_size (S₂.D.N p hp).1
  have S₁ : LcS C own fp (K 0) m ((H2.objs.size, oC) :: (s₂.heap.objs.size, freshSet C.w) :: R) F δ₂ X s₂ { s₂ with heap := h₁, toks := s₂.toks + ([] : List (Str × Value)).length } := by
    have D₁ : HeldD C δ₂ ⟨m, (H2.objs.size, oC) :: (s₂.heap.objs.size, freshSet C.w) :: (X ++ R)⟩ { s₂ with heap := h₁, toks := s₂.toks + ([] : List (Str × Value)).length } := by
      refine ⟨⟨S₂.D.F.ns.keeps old, fun b o e => old b o (S₂.D.F.keep b o e), S₂.D.F.above⟩, ?_, ?_, S₂.D.ok, S₂.D.os, S₂.D.gens, S₂.D.gp, S₂.D.us, S₂.D.uk⟩
      · intro p hp
        rcases List.mem_cons.mp hp with rfl | hp
        · exact ⟨heC, by rw [hC]; exact Nat.ne_of_gt (Nat.lt_succ_of_lt hLlt), fresh₀ _ (by rw [hC]; exact Nat.le_succ _)⟩
        · rcases List.mem_cons.mp hp with rfl | hp
          · exact ⟨hsb₁.extBut _ _ (by rw [hC]; exact Nat.ne_of_lt (Nat.lt_succ_self _)) (Heap.get?_push_of_some _ hPg), hDn.2, hDn.1⟩
          · exact ⟨old _ _ (S₂.D.N p hp).1, (S₂.D.N p hp).2⟩
      · show (((H2.objs.size, oC) :: (s₂.heap.objs.size, freshSet C.w) :: ((X ++ R) ++ tabsOf δ₂)).map (·.1)).Nodup
        refine nd_lt (nd_lt S₂.D.nd lt) fun a ha => ?_
        rw [hC]
        rcases List.mem_cons.mp ha with rfl | ha
        · exact Nat.lt_succ_self _
        · exact Nat.lt_succ_of_lt (lt a ha)
    have D₁' : HeldD C δ₂ ⟨m, X ++ ((H2.objs.size, oC) :: (s₂.heap.objs.size, freshSet C.w) :: R)⟩ { s₂ with heap := h₁, toks := s₂.toks + ([] : List (Str × Value)).length } := D₁.sub (.perm (List.perm_middle.trans (List.Perm.cons _ List.perm_middle)))
    refine ⟨D₁', Nat.lt_of_lt_of_le S₂.tp (Nat.le_add_right _ _), Nat.le_trans S₂.sz ?_, S₂.hs, S₂.ha, S₂.hf, fun p hp => .tail _ (.tail _ (S₂.hF p hp)), S₂.h0, S₂.hfp, S₂.hg, ⟨S₂.hA.nd, S₂.hA.L, S₂.hA.new, fun b hb p hp => ?_⟩, fun b hb => Nat.lt_of_lt_of_le (S₂.lt b hb) ?_, S₂.hK⟩
    · dsimp only; rw [hsz1, hC]; omega
    · have hb' := S₂.lt b hb
      rcases List.mem_cons.mp hp with rfl | hp
      · rw [hC]; exact Nat.ne_of_gt (Nat.lt_succ_of_lt hb')
      · rcases List.mem_cons.mp hp with rfl | hp
        · exact Nat.ne_of_gt hb'
        · exact S₂.hA.off b hb p hp
    · dsimp only; rw [hsz1, hC]; omega
  generalize hCc : H2.objs.size = Cc at S₁ ⊢
  generalize hDl : s₂.heap.objs.size = Dl at S₁ ⊢
  generalize { s₂ with heap := h₁, toks := s₂.toks + ([] : List (Str × Value)).length } = s₃ at S₁ ⊢
  have loop : ∀ s₃ : Shared, (∃ sA oC mc X, LCg.NsObj oC mc ∧ LcS C own fp (K 0) m ((Cc, oC) :: (Dl, freshSet C.w) :: R) F δ₂ X sA s₃) →
      codeAny (model prog C.w) C.A (.compLoop (.SetComp elt [⟨.Name x px, iter, [], 0⟩] scope pos) 0 (.ref I) (.ref Dl) (compEnvC scope [] Cc env)) (RR (.ref Dl) Cc) s₃ := by
    rintro s₃ ⟨sA, oC, mc, X, hoC, S₁⟩
    refine codeAny_compLoop_set (fun k' s' => ∃ i δ X sA oC mc so, k' = n + 1 - i ∧ i ≤ n ∧ LCg.NsObj oC mc ∧ SetO C.w so ((zs.take i).foldl setStep []) ∧ LcS C own fp (K i) m ((Cc, oC) :: (Dl, so) :: R) F δ X sA s') ?_ (n + 1) ⟨0, δ₂, X, sA, oC, mc, _, rfl, Nat.zero_le _, hoC, freshSet_ok _, S₁⟩
    rintro k' s ⟨i, δ, X, sA, oC, mc, so, rfl, hi, hoC, hIm, S⟩
    by_cases hlt : i < n
    · refine S.item It hw hlt fun v s₁ hP S₁ => ?_
      have N₁ := S₁.D.N
      have hCe := S₁.D.N (Cc, oC) (List.mem_append_left _ (List.mem_append_right _ (.head _)))
      refine wpAny_assign_Name (wpAny_storeName_local (lookup_relabel_local hx) (hoC.ns hCe.1) (fun h₂ hn₂ hs₂ => ?_) (by simp [compEnvC, relabel, hkind]))
      obtain ⟨oC₂, e₂, hoC₂⟩ := LCg.ns_obj hn₂
      have S₂ := S₁.write (tk := s₁.toks + 1) (fun p hp => .tail _ (.tail _ (hFR p hp))) (At.head (o' := oC₂)) hs₂ e₂ (Nat.le_succ _)
      refine S₂.ev (R' := (Cc, oC₂) :: (ownOf s₁.heap own ++ (Dl, so) :: R)) (G := fun y => ∃ z t, zs[i]? = some z ∧ y = .str z t) (List.perm_middle.symm) (T.elt _ i v Cc oC₂ _ _ rfl rfl hlt hP rfl hoC₂ (by simp)) fun y δ₄ s₄ hy S₄ => ?_
      obtain ⟨z, t, hz, rfl⟩ := hy
      have hDe := S₄.D.N (Dl, so) (List.mem_append_left _ (List.mem_append_right _ (.tail _ (.head _))))
      have hl := setStep_len (zs.take i)
      have hl2 := List.length_take_le i zs
      refine wp_set_add hDe.1 hIm (by omega) fun h₅ so' hs₅ hD₅ hO₅ => ?_
      have S₅ := S₄.write (tk := s₄.toks + 1) (R' := (Cc, oC₂) :: (Dl, so') :: R) (fun p hp => .tail _ (.tail _ (hFR p hp))) (At.tail (At.head (o' := so'))) hs₅ hD₅ (Nat.le_succ _)
      refine ⟨n + 1 - (i + 1), by omega, i + 1, δ₄, _, _, oC₂, _, so', rfl, hlt, hoC₂, ?_, S₅⟩
      rw [List.take_add_one, hz, List.foldl_append]
      exact hO₅
    · obtain rfl : i = n := Nat.le_antisymm hi (Nat.not_lt.mp hlt)
      rw [List.take_of_length_le (by omega)] at hIm
      exact S.done It hw fun s' H => hRR Dl Cc oC mc so s' hoC hIm H
  exact codeAny_compStart_set (loop _ ⟨_, _, _, _, hoC, S₁⟩) (It.self 0 _ _ _ (S₁.now It) (loop _ ⟨_, _, _, _, hoC, S₁⟩))

/-- a set comprehension over a list, its elements texts -/
theorem e_setcomp {env : Env} {elt iter : Expr} {x : Str} {px : Pos} {scope : Scope} {pos : Pos} {Q : Value → St → Prop}
    (h : Ev C E (eval iter env) st fun v st₁ => ∃ l vs k, ∃ zs : List Str, v = .ref l ∧ (l, lst vs k) ∈ st₁.news ∧ zs.length = vs.length ∧ vs.length < 4000 ∧ CompT C env x elt [] scope st₁.m (fun i v => vs[i]? = some v) (fun _ => true) (fun i y => ∃ z t, zs[i]? = some z ∧ y = .str z t) vs.length ∧
      ∀ D so, SetO C.w so (zs.foldl setStep []) → Q (.ref D) ⟨st₁.m, (D, so) :: st₁.news⟩)
    (hs : ∀ x, foldedSetIterable iter env x = pure x) (hclos : closureFor scope env = pure []) (hcell : ∀ y ∈ scope.names, y.2 ≠ .cell) (hkind : scope.kind = .function)
    (hnames : ∀ y ∈ scope.names, y.2 = .local → scope.names.lookup y.1 = some .local) (hx : scope.names.lookup x = some .local) :
    Ev C E (eval (.SetComp elt [⟨.Name x px, iter, [], 0⟩] scope pos) env) st Q := by
  intro s H
  rw [arm_eval_SetComp]
  refine wpAny_comprehension_free (use := none) rfl hs hclos hkind hnames (L1q h (fun v st₁ s₁ H₁ h₁ => ?_) H)
  obtain ⟨l, vs, k, zs, rfl, hm, hzs, hn4, T, hQ⟩ := h₁
  refine wpAny_pyIter_list (isList_of (H₁.at hm).1) ?_
  refine sc_block (RR := fun acc C' => compPost (model prog C.w) C.A E none (Post C Q) acc C') (compI_list H₁ hm) (by rw [sizeLine_eq]; omega) hcell hkind hx hzs hn4 T ?_
  intro Dl Cc oC mc so s' hoC hO H'
  exact lc_end hoC H' (hQ Dl so hO)
end
end Mine
end
section
open PySem PySem.W PyProof.Rows PySem.Calls PySem.Spec
namespace Mine
section
variable {C : Cx} {E : Value → Shared → Prop} {st : St}
/-- an exception made in this frame, nothing else done -/
def Fresh (C : Cx) (st : St) (X : String) (e : Value) (s : Shared) : Prop := ∃ a h, e = .ref a ∧ Heap.NewExc h s.heap a X ∧ Held C st { s with heap := h }
theorem x_raise1 {X N I : String} {x : Str} {np cpos pos : Pos} {arg : Expr} {Q : Flow → St → Prop} (hc : ExcClass X N I) (hl : env.kindOf x = some .globalImplicit) (hv : bltTab.lookup x = some (.type X)) (hg : env.globals = mainGlobals) (heb : env.builtins = builtinsNs) (hk : env.scope.kind = .function)
    (hd : (x == ("__debug__" : Str)) = false) (he : noStar [arg] = true) (h : Ev C E (eval arg env) st fun v st₁ => ∀ e s', Fresh C st₁ X e s' → E e s') : Ev C E (exec (.Raise (some (.Call (.Name x np) [arg] [] cpos)) none pos) env) st Q := fun s H => by
  refine Raise_new C.hh ?_
  refine Call_ (L1q (Q := fun f st₁ => f = .type X ∧ st₁ = st) (e_blt hl hv ⟨rfl, rfl⟩ hg heb hk hd) (fun f st₁ s₁ H₁ h₁ => ?_) H) rfl
  obtain ⟨rfl, rfl⟩ := h₁
  refine PyProof.Rows.callWith_type1 ?_ (starEach_cons env he) (backTo_plain cpos env (noStar_tail he))
  refine spliced_more (L1q h (fun v st₂ s₂ H₂ h₂ => ?_) H₁) (starEach_cons env he)
  refine Calls.spliced_nil ?_
  exact call_exc_raise hc (fun h' e hx => h₂ _ _ ⟨e, s₂.heap, rfl, hx, H₂.toHeld⟩) (by show (1 : Nat) ≤ _; rw [sizeLine_eq]; omega)
/-- an exception that has left a called frame -/
def Raised (C : Cx) (st : St) (X : String) (e : Value) (s : Shared) : Prop :=
  ∃ a G δ, e = .ref a ∧ RaisedSN C.base G (C.env :: C.outer) a (.type X) (st.news ++ tabsOf δ) s.heap ∧ Fr C.h₀ C.L G (look st.m) ∧ G.UpToSlots s.heap ∧
    ((st.news ++ tabsOf δ).map (·.1)).Nodup ∧ okU δ.u ∧ s.os = C.os ∧ AllBare s.gens ∧ (∀ k, k < C.gb.size → s.gens[k]? = C.gb[k]?) ∧ (∀ q, δ.u = some q → C.u0 = some q ∨ C.sb ≤ q.1) ∧ ∀ q, C.u0 = some q → δ.u = some q
theorem raisedSN_sub {base G : Heap} {l : List Env} {a : Addr} {cls : Value} {news news' : Led} {h : Heap} (R : RaisedSN base G l a cls news h) (hs : ∀ p ∈ news', p ∈ news) : RaisedSN base G l a cls news' h := by
  obtain ⟨B, a0, h1, h2, h3, h4⟩ := R
  exact ⟨B, a0, h1, h2, fun q hq => h3 q (hs q hq), h4⟩
theorem code_defR {name qual : Str} {params : Arguments} {body : List Stmt} {scope : Scope} {dV kV doc pm cdv ct oc : Value} {an od : Option Addr} {osl : Array (Option Value)} {f : Addr} {pos : List Value} {kw : List (Str × Value)} {binds : List (Str × Value)} {Q : Value → St → Prop} {QE : String → St → Prop}
    (ho : (KF C.w).lookup f = some ⟨oc, od, .func (fnOf name qual params body scope dV kV doc pm an cdv ct), osl⟩) (hcd : codeIn (KF C.w) cdv qual = true) (hroom : 0 < C.room)
    (hbind : ∀ S, peek (KF C.w) S (bindArgs (fnOf name qual params body scope dV kV doc pm an cdv ct) ⟨pos, kw⟩) = some binds)
    (hloc : (binds.all fun y => decide (scope.names.lookup y.1 = some .local)) = true) (hnd : decide ((binds.map (·.1)).Nodup) = true) (hcell : (scope.names.all fun x => decide (x.2 ≠ .cell)) = true)
    (hco : scope.isCoroutine = false) (hgen : scope.isGenerator = false) (hk : scope.kind = .function)
    (h : ∀ C' : Cx, C'.w = C.w → C'.room + 1 = C.room → C'.env = envOf qual scope C'.L f cdv → Ev C' (fun e s' => ∃ X st', Fresh C' st' X e s' ∧ ∃ news', Sub news' st'.news ∧ QE X ⟨st.m, news'⟩) (execs body (envOf qual scope C'.L f cdv)) ⟨binds, st.news⟩ fun fl st' => ∃ news', Sub news' st'.news ∧ Q (retOf fl) ⟨st.m, news'⟩)
    (hE : ∀ X st₂ e s', QE X st₂ → Raised C st₂ X e s' → E e s') :
    ∀ s, Holds C st s → codeAny (model prog C.w) C.A (.call (.ref f) ⟨pos, kw⟩) (fun r s' => match r with | .ok (.ret v) => Post C Q v s' | .ok _ => False | .error e => E e s') s := by
  intro s H
  have hX := C.T.X.keeps H.F.keep
  obtain ⟨FG, BG, stay, lv⟩ := groundX (R := fun r s' => match r with | .ok (.ret v) => Post C Q v s' | .error e => E e s' | _ => False) C.B H.F H.N C.fr C.ef C.ek
  refine codeAny_call_def (fd := fnOf name qual params body scope dV kV doc pm an cdv ct) (body := body) (binds := binds) (by have := C.dp; omega) (hX _ _ ho) rfl (C.T.nolimit.keeps H.F.keep) (codeRec_of hX hcd) rfl (kp_binds hX hbind)
    (fun x hx => of_decide_eq_true (List.all_eq_true.mp hcell x hx)) (fun y hy => of_decide_eq_true (List.all_eq_true.mp hloc y hy)) (fun h₁ hns hk₁ => ?_) hco hgen hk
  rw [lookup_rev (of_decide_eq_true hnd)] at hns
  have lt : ∀ p ∈ st.news ++ tabsOf H.δ, p.1 < s.heap.objs.size := fun p hp => Heap.lt_size (H.N p hp).1
  let C' : Cx := { C with
    A₀ := C.A, A := C.A.deeper (envOf qual scope s.heap.objs.size f cdv), outer := C.env :: C.outer, h₀ := hideAll s.heap ((st.news ++ tabsOf H.δ).map (·.1)), L := s.heap.objs.size, env := envOf qual scope s.heap.objs.size f cdv, room := C.room - 1, gb := s.gens, u0 := H.δ.u, sb := s.heap.objs.size
    B := BG, T := C.T.keeps stay, kd := kd_enter H.F H.N C.kd C.ef, fr := by show C.A.frames.map _ = _; rw [C.fr]; rfl
    ef := rfl, el := rfl, eg := rfl, eb := rfl, ek := hk, hh := C.hh, gd := C.gd
    dp := by show C.A.depth + 1 + (C.room - 1) < recursionLimit; have := C.dp; omega
    un := by show C.A.units + 3 + 8 * (C.room - 1) + 8 < cLine; have := C.un; omega }
  refine wpAny_mono (h C' rfl (by show C.room - 1 + 1 = C.room; omega) rfl _ ⟨⟨H.δ, ⟨hns, fun b o e => hk₁ b o (of_hideAll _ e), Nat.le_of_eq (hideAll_size _ _)⟩,
    fun p hp => ⟨hk₁ _ _ (H.N p hp).1, Nat.ne_of_lt (lt p hp), hideAll_none _ (List.mem_map_of_mem hp)⟩, H.nd, H.ok, H.os, H.gens, fun _ _ => rfl, fun _ e => .inl e, fun _ e => e⟩, Nat.lt_of_lt_of_le H.tp (Nat.le_add_right _ _), Nat.le_of_lt hns.lt⟩) (fun fl s' hq => ?_) (fun e s' hq => ?_)
  · obtain ⟨st', H', news', hs, q⟩ := hq
    refine lv _ _ (leaveK_ H'.F H'.N fun F₂ N₂ => ?_)
    have H₂ : Held C ⟨st.m, st'.news⟩ s' := ⟨H'.δ, F₂, N₂, H'.nd, H'.ok, H'.os, H'.gens, gp_trans H.gp H'.gp, us_trans H.us H.sz H'.us, fun q e => H'.uk q (H.uk q e)⟩
    cases fl <;> exact ⟨⟨st.m, news'⟩, H₂.sub hs, q⟩
  · obtain ⟨X, st', ⟨a, h₃, rfl, hx, H'⟩, news', hs, q⟩ := hq
    refine leave_newS (A := C.A) (base := C.base) (g := C'.h₀) (outer := C.env :: C.outer) (L := s.heap.objs.size) C'.B hx H'.F H'.N (fun h₄ R _ sm => ?_) hk
    refine hE X ⟨st.m, news'⟩ _ _ q ⟨a, C'.h₀, H'.δ, rfl, raisedSN_sub R ((hs.app _).mem), FG, sm, (hs.app _).nodup H'.nd, H'.ok, H'.os, H'.gens, gp_trans H.gp H'.gp, us_trans H.us H.sz H'.us, fun q e => H'.uk q (H.uk q e)⟩
end
end Mine
end
section
open PySem PySem.W PyProof.Rows PySem.Calls PySem.Spec
namespace Mine
/-- the activation over a ground whose frames have other slots -/
abbrev Cx.turn (C : Cx) (g : Heap) (B : Below C.A₀ C.base C.outer g) (T : Bs C.w C.mg C.mb g) (kd : KtsDicts (C.outer.filterMap (·.frame)) g) : Cx := { C with h₀ := g, B := B, T := T, kd := kd }
def Turned (C C₂ : Cx) : Prop := ∃ g B T kd, KtsTurn (C.outer.filterMap (·.frame)) C.h₀ g ∧ C₂ = C.turn g B T kd
theorem Turned.refl (C : Cx) : Turned C C := ⟨C.h₀, C.B, C.T, C.kd, KtsTurn.refl, rfl⟩
theorem Turned.trans {C C₂ C₃ : Cx} (h : Turned C C₂) (k : Turned C₂ C₃) : Turned C C₃ := by
  obtain ⟨g, B, T, kd, t, rfl⟩ := h
  obtain ⟨g', B', T', kd', t', rfl⟩ := k
  exact ⟨g', B', T', kd', t.trans t', rfl⟩
abbrev PostS {α : Type} (C : Cx) (Q : Cx → α → St → Prop) : α → Shared → Prop := fun v s' => ∃ C₂ st', Turned C C₂ ∧ Held C₂ st' s' ∧ Q C₂ v st'
/-- as Ev, but the ground may be turned -/
def EvS {α : Type} (C : Cx) (E : Value → Shared → Prop) (t : Sem α) (st : St) (Q : Cx → α → St → Prop) : Prop := ∀ s, Holds C st s → wpAny (model prog C.w) C.A t (PostS C Q) E s
section
variable {α β : Type} {C : Cx} {E : Value → Shared → Prop} {st : St}
theorem EvS.of {t : Sem α} {Q : Cx → α → St → Prop} (h : Ev C E t st (Q C)) : EvS C E t st Q := fun s H =>
  wpAny_mono (h s H) (fun v s' ⟨st', H', q⟩ => ⟨C, st', Turned.refl C, H', q⟩) fun _ _ e => e
theorem L1S {t : Sem α} {Q : Cx → α → St → Prop} {R : α → Shared → Prop} (h : EvS C E t st Q) (k : ∀ C₂ a st' s', Turned C C₂ → Holds C₂ st' s' → Q C₂ a st' → R a s') {s : Shared} (H : Holds C st s) : wpAny (model prog C.w) C.A t R E s :=
  wpAny_mono (wpAny_size_of H.sz (wpAny_toks_of H.tp (h s H))) (fun a s₁ ⟨hz, hp, C₂, st₁, T, H₁, h₁⟩ => k C₂ _ _ _ T ⟨H₁, hp, by obtain ⟨g, B, T, kd, t, rfl⟩ := T; exact hz⟩ h₁) fun _ _ e => e.2.2
theorem postS_trans {C₂ : Cx} {Q : Cx → α → St → Prop} {v : α} {s : Shared} (T : Turned C C₂) (h : PostS C₂ Q v s) : PostS C Q v s := let ⟨C₃, st', T', H, q⟩ := h; ⟨C₃, st', T.trans T', H, q⟩
/-- behind a turn -/
theorem L1T {C₂ : Cx} {t : Sem α} {st' : St} {Q : Cx → α → St → Prop} (T : Turned C C₂) (h : EvS C₂ E t st' Q) {s : Shared} (H : Holds C₂ st' s) : wpAny (model prog C.w) C.A t (PostS C Q) E s := by
  have hw : C₂.w = C.w := by obtain ⟨g, B, T, kd, t, rfl⟩ := T; rfl
  have hA : C₂.A = C.A := by obtain ⟨g, B, T, kd, t, rfl⟩ := T; rfl
  have := h s H
  rw [hw, hA] at this
  exact wpAny_mono this (fun v s' q => postS_trans T q) fun _ _ e => e
theorem EvS.mono {t : Sem α} {Q Q' : Cx → α → St → Prop} (h : EvS C E t st Q) (k : ∀ C₂ a st', Turned C C₂ → Q C₂ a st' → Q' C₂ a st') : EvS C E t st Q' := fun s H =>
  wpAny_mono (h s H) (fun v s' ⟨C₂, st', T, H', q⟩ => ⟨C₂, st', T, H', k _ _ _ T q⟩) fun _ _ e => e
theorem xs_nil {env : Env} {Q : Cx → Flow → St → Prop} (h : Q C .next st) : EvS C E (execs [] env) st Q := .of (x_nil h)
theorem xs_cons {env : Env} {x : Stmt} {rest : List Stmt} {Q : Cx → Flow → St → Prop} (h : EvS C E (exec x env) st fun C₂ f st' => match f with | .next => EvS C₂ E (execs rest env) st' Q | f => Q C₂ f st') : EvS C E (execs (x :: rest) env) st Q :=
  fun s H => wpAny_execs_cons (L1S h (fun C₂ f st₁ s₁ T H₁ h₁ => by cases f <;> first | exact L1T T h₁ H₁ | exact ⟨C₂, _, T, H₁.toHeld, h₁⟩) H)
theorem xs_return {env : Env} {e pos} {Q : Cx → Flow → St → Prop} (h : EvS C E (eval e env) st fun C₂ v st' => Q C₂ (.ret v) st') : EvS C E (exec (.Return (some e) pos) env) st Q := fun s H => wpAny_Return_some (h s H)
theorem L1E {C₂ : Cx} (T : Turned C C₂) {t : Sem α} {st' : St} {P : α → St → Prop} {R : α → Shared → Prop} (h : Ev C₂ E t st' P) (k : ∀ a st₂ s', Holds C₂ st₂ s' → P a st₂ → R a s') {s : Shared} (H : Holds C₂ st' s) : wpAny (model prog C.w) C.A t R E s := by
  have hw : C₂.w = C.w := by obtain ⟨g, B, T, kd, t, rfl⟩ := T; rfl
  have hA : C₂.A = C.A := by obtain ⟨g, B, T, kd, t, rfl⟩ := T; rfl
  have := L1q h k H
  rwa [hw, hA] at this
theorem Turned.L {C₂ : Cx} (T : Turned C C₂) : C₂.L = C.L := by obtain ⟨g, B, T, kd, t, rfl⟩ := T; rfl
theorem Turned.w {C₂ : Cx} (T : Turned C C₂) : C₂.w = C.w := by obtain ⟨g, B, T, kd, t, rfl⟩ := T; rfl
theorem Turned.room {C₂ : Cx} (T : Turned C C₂) : C₂.room = C.room := by obtain ⟨g, B, T, kd, t, rfl⟩ := T; rfl
theorem Turned.env {C₂ : Cx} (T : Turned C C₂) : C₂.env = C.env := by obtain ⟨g, B, T, kd, t, rfl⟩ := T; rfl
theorem xs_assign {env : Env} {x : Str} {pos' value pos} {Q : Cx → Flow → St → Prop} (h : EvS C E (eval value env) st fun C₂ v st' => Q C₂ .next ⟨put x v st'.m, st'.news⟩) (hs : swapsWith value (some (.Name x pos')) pos.line env = pure false) (hL : env.locals = C.L) (hl : env.kindOf x = some .local)
    (hk : env.scope.kind = .function) : EvS C E (exec (.Assign [.Name x pos'] value pos) env) st Q := fun s H =>
  wpAny_Assign_Name (L1S h (fun C₂ v st₁ s₁ T H₁ h₁ => L1E (E := E) T (storeName_local' (C := C₂) (E := E) (Q := fun _ st' => Q C₂ .next st') h₁ (hL.trans T.L.symm) hl hk) (fun _ st₂ s₂ H₂ q => ⟨C₂, st₂, T, H₂.toHeld, q⟩) H₁) H) hs
/-- first what turns nothing -/
theorem EvS.first {t : Sem α} {Q : Cx → α → St → Prop} {R : Prop} (h : EvS C E t st Q) : EvS C E t st Q := h
theorem es_and {env : Env} {e₁ e₂ rest pos} {Q : Cx → Value → St → Prop} (h : Ev C E (eval e₁ env) st fun v st₁ => Ev C E (truthy v) st₁ fun c st₂ => if c then EvS C E (eval (.BoolOp .And (e₂ :: rest) pos) env) st₂ Q else Q C v st₂) : EvS C E (eval (.BoolOp .And (e₁ :: e₂ :: rest) pos) env) st Q :=
  fun s H => BoolOp_and (L1q h (fun v st₁ s₁ H₁ h₁ => L1q h₁ (fun c st₂ s₂ H₂ h₂ => by cases c; exact ⟨C, _, Turned.refl C, H₂.toHeld, h₂⟩; exact h₂ s₂ H₂) H₁) H)
theorem es_bool1 {env : Env} {op e pos} {Q : Cx → Value → St → Prop} (h : EvS C E (eval e env) st Q) : EvS C E (eval (.BoolOp op [e] pos) env) st Q := h
theorem es_call {env : Env} {func : Expr} {args : List Expr} {pos : Pos} {Q : Cx → Value → St → Prop} (h : Ev C E (eval func env) st fun f st₁ => EvS C E (callWith pos f [] (backTo pos (starEach args env)) []) st₁ Q)
    (he : notAttr func = true) : EvS C E (eval (.Call func args [] pos) env) st Q := fun s H => Call_ (L1q h (fun f st₁ s₁ H₁ h₁ => h₁ s₁ H₁) H) (by cases func <;> first | rfl | cases he)
theorem cws_def {env : Env} {pos : Pos} {f : Value} {first : List Value} {e : Expr} {rest : List Expr} {Q : Cx → Value → St → Prop} (hk : keepIn (KF C.w) f = true) (h : Ev C E (spliced (backTo pos (starEach (e :: rest) env))) st fun vs st₁ => EvS C E (call f (first ++ vs)) st₁ Q)
    (he : noStar (e :: rest) = true) : EvS C E (callWith pos f first (backTo pos (starEach (e :: rest) env)) []) st Q := fun s H =>
  callWith_K C.T.X hk (L1q h (fun vs st₁ s₁ H₁ h₁ => ⟨C.T.X.keeps H₁.F.keep, h₁ s₁ H₁⟩) H) (starEach_cons env he) (backTo_plain pos env (noStar_tail he))
-- exceptions caught
/-- a suite that only gives a flow -/
def SuiteGives (w : World) (env : Env) (b : List Stmt) (P : Flow → Prop) : Prop := ∀ (A : Around) (E : Value → Shared → Prop) (s : Shared) (Q : Flow → Shared → Prop), (∀ f tk, P f → s.toks ≤ tk → Q f { s with toks := tk }) → wpAny (model prog w) A (execs b env) Q E s
theorem suite_pass {w : World} {env : Env} {pos : Pos} : SuiteGives w env [.Pass pos] (fun f => f = .next) := fun A E s Q h =>
  wpAny_execs_cons (wpAny_Pass (wpAny_execs_nil (h .next s.toks rfl (Nat.le_refl _))))
theorem suite_text {w : World} {env : Env} {x : Str} {k : Nat} {p1 pos : Pos} : SuiteGives w env [.Return (some (.Constant (.str x) k p1)) pos] (fun f => ∃ t, f = .ret (.str x t)) := fun A E s Q h =>
  wpAny_execs_cons (wpAny_Return_some (wpAny_Constant_str (h _ _ ⟨_, rfl⟩ (Nat.le_succ _))))
theorem wp_look {name : Str} {scope : Scope} {a' : Addr} {cd : Value} {X : String} {e : Value} {hs : List ExceptHandler} {Q : Flow → Shared → Prop} {s : Shared} (he : C.env = envOf name scope C.L a' cd) (hA : C.A = C.A₀.deeper C.env) (R : Raised C st X e s)
    (k : ∀ s', Raised C st X e s' → wpAny (model prog C.w) C.A (handleBy e C.env hs) Q E s') :
    wpAny (model prog C.w) C.A (noteFrame e C.env) (fun _ s₂ => wpAny (model prog C.w) C.A (setFlight e none) (fun _ s₃ => wpAny (model prog C.w) C.A (handleBy e C.env hs) Q E s₃) E s₂) E s := by
  obtain ⟨a, G, δ, rfl, R, F, sm, rest⟩ := R
  rw [he] at R
  have := kts_lookSN (prog := prog) (w := C.w) (hs := hs) (Q := Q) (E := E) R F C.B sm C.kd fun h' R' sm' => by
    have q := k { s with heap := h' } ⟨a, G, δ, rfl, he ▸ R', F, sm', rest⟩
    rw [hA, he] at q
    exact q
  rw [hA, he]
  exact this
theorem wp_name_blt {A : Around} {M : Model} {g : Heap} {L : Addr} {m : Str → Option Value} {w : World} {mg mb : Str → Option Value} {env : Env} {x : Str} {pos : Pos} {v : Value} {s : Shared} {Q : Value → Shared → Prop} (F : Fr g L s.heap m) (T : Bs w mg mb g) (hl : env.kindOf x = some .globalImplicit) (hv : bltTab.lookup x = some v) (hg : env.globals = mainGlobals) (heb : env.builtins = builtinsNs) (hk : env.scope.kind = .function)
    (hd : (x == ("__debug__" : Str)) = false) (h : Q v s) : wpAny M A (eval (.Name x pos) env) Q E s := by
  have q := List.all_eq_true.mp (blt_all w) _ (mem_of_lookup hv)
  simp only [Bool.and_eq_true, decide_eq_true_eq] at q
  exact Name_function_global hk hl (loadGlobal_builtin (env := env) (by rw [hg]; exact T.g.keeps F.keep) (mg_none_of T.X T.g q.1.1) (by rw [heb]; exact T.b.keeps F.keep) ((T.builtins x q.2).trans q.1.2) h) hd
structure ClauseOk (env : Env) (x : Str) (T : String) : Prop where
  hl : env.kindOf x = some .globalImplicit
  hv : bltTab.lookup x = some (.type T)
  hg : env.globals = mainGlobals
  heb : env.builtins = builtinsNs
  hk : env.scope.kind = .function
  hd : (x == ("__debug__" : Str)) = false
  hexc : isSubtype (.type T) (.type "BaseException") = pure true
  hnt : isSubtype (.type ((Manifest.find? T).elim "type" fun x => x.metatype)) (.type "tuple") = pure false
theorem wp_miss {name : Str} {scope : Scope} {a' : Addr} {cd : Value} {X T : String} {e : Value} {x : Str} {np pos : Pos} {b₀ : Stmt} {suite : List Stmt} {rest : List ExceptHandler} {Q : Flow → Shared → Prop} {s : Shared} (he : C.env = envOf name scope C.L a' cd) (hc : ClauseOk C.env x T)
    (hsub : isSubtype (.type X) (.type T) = pure false) (R : Raised C st X e s) (k : wpAny (model prog C.w) C.A (handleBy e C.env rest) Q E s) : wpAny (model prog C.w) C.A (handleBy e C.env (.ExceptHandler (some (.Name x np)) none (b₀ :: suite) pos :: rest)) Q E s := by
  obtain ⟨a, G, δ, rfl, ⟨B, a0, hB, hBG, hl, hfl⟩, F, sm, _⟩ := R
  rw [he] at hBG
  obtain ⟨g₅, T₅, F₅, K₅⟩ := kts_ground C.B F hBG hfl.1 sm
  obtain ⟨ob, hob, hobc⟩ := hfl.there
  refine wpAny_handleBy_builtin (X := X) (T := T) (b := false) hc.hexc hc.hnt hsub (wp_name_blt F₅ (C.Tg.keeps K₅.stays) hc.hl hc.hv hc.hg hc.heb hc.hk hc.hd ⟨rfl, ⟨ob, hob, hobc⟩, ?_⟩)
  simp only [Bool.false_eq_true, if_false]
  exact k
theorem wp_hit {name : Str} {scope : Scope} {a' : Addr} {cd : Value} {X T : String} {e : Value} {x : Str} {np pos : Pos} {b₀ : Stmt} {suite : List Stmt} {rest : List ExceptHandler} {Q : Cx → Flow → St → Prop} {P : Flow → Prop} {s : Shared} (he : C.env = envOf name scope C.L a' cd) (hc : ClauseOk C.env x T)
    (hsub : isSubtype (.type X) (.type T) = pure true) (hs : SuiteGives C.w C.env (b₀ :: suite) P) (R : Raised C st X e s) (k : ∀ C₂ f, Turned C C₂ → P f → Q C₂ f st) : wpAny (model prog C.w) C.A (handleBy e C.env (.ExceptHandler (some (.Name x np)) none (b₀ :: suite) pos :: rest)) (PostS C Q) E s := by
  obtain ⟨a, G, δ, rfl, ⟨B, a0, hB, hBG, hl, hfl⟩, F, sm, nd, ok, os, gens, gp, us, uk⟩ := R
  rw [he] at hBG
  have hfl' := hfl
  rw [he] at hfl'
  have hL : B.get? C.L = none := by
    obtain ⟨_, ⟨L', _, hf, hn', _⟩, _⟩ := hfl'.2.2.1
    obtain rfl : C.L = L' := Option.some.inj hf
    exact hn'
  obtain ⟨g₅, T₅, F₅, K₅⟩ := kts_ground C.B F hBG hfl.1 sm
  obtain ⟨ob, hob, hobc⟩ := hfl.there
  refine wpAny_handleBy_builtin (X := X) (T := T) (b := true) hc.hexc hc.hnt hsub (wp_name_blt F₅ (C.Tg.keeps K₅.stays) hc.hl hc.hv hc.hg hc.heb hc.hk hc.hd ⟨rfl, ⟨ob, hob, hobc⟩, ?_⟩)
  simp only [if_true]
  refine lands_againW hfl fun h₆ hfl₆ hsm₆ => ?_
  obtain ⟨g₆, T₆, F₆, K₆⟩ := kts_ground C.B F hBG hfl₆.1 (sm.trans hsm₆)
  have Nl : News g₆ C.L h₆ (st.news ++ tabsOf δ) := fun q hq => ⟨hfl₆.1 _ _ (hl q hq).1, (fun z => by have := (hl q hq).1; rw [z, hL] at this; cases this), T₆.none_ _ (kts_none F.keep (hl q hq).2.1)⟩
  refine hs _ _ _ _ fun f tk hP _ => ⟨C.turn g₆ K₆ (C.Tg.keeps K₆.stays) (C.kd.turn T₆), st, ⟨g₆, _, _, _, T₆, rfl⟩, ⟨δ, F₆, Nl, nd, ok, os, gens, gp, us, uk⟩, k _ f ⟨g₆, _, _, _, T₆, rfl⟩ hP⟩
/-- try with clauses alone -/
theorem xs_try {body : List Stmt} {h₀ : ExceptHandler} {hs : List ExceptHandler} {pos : Pos} {Q : Cx → Flow → St → Prop} {QX : String → St → Prop} {name : Str} {scope : Scope} {a' : Addr} {cd : Value} (he : C.env = envOf name scope C.L a' cd) (hA : C.A = C.A₀.deeper C.env)
    (hb : Ev C (fun e s' => ∃ X st₂, Raised C st₂ X e s' ∧ QX X st₂) (execs body C.env) st fun f st' => Q C f st')
    (hx : ∀ X st₂ e s', QX X st₂ → Raised C st₂ X e s' → wpAny (model prog C.w) C.A (handleBy e C.env (h₀ :: hs)) (PostS C Q) E s') :
    EvS C E (exec (.Try body (h₀ :: hs) [] [] pos) C.env) st Q := fun s H => by
  refine wpAny_Try_except (wpAny_mono (hb s H) (fun f s₁ hq => ?_) fun e s₁ hq => ?_)
  · obtain ⟨st', H', q⟩ := hq
    cases f <;> first | exact ⟨C, st', Turned.refl C, H', q⟩ | exact wpAny_execs_nil ⟨C, st', Turned.refl C, H', q⟩
  · obtain ⟨X, st₂, R, q⟩ := hq
    exact wp_look he hA R fun s' R' => hx X st₂ e s' q R'
end
end Mine
end
section
open PySem PySem.W PyProof.Rows PySem.Calls PySem.Spec
namespace Mine
section
variable {C : Cx} {E : Value → Shared → Prop} {st : St}
theorem frame_mem {b : Addr} (h : b ∈ (C.env :: C.outer).filterMap (·.frame)) : b = C.L ∨ b ∈ C.outer.filterMap (·.frame) := by
  obtain ⟨env, he, hf⟩ := List.mem_filterMap.mp h
  rcases List.mem_cons.mp he with rfl | he
  · rw [C.ef] at hf
    exact .inl (Option.some.inj hf).symm
  · exact .inr (List.mem_filterMap.mpr ⟨env, he, hf⟩)
theorem call_defS {name qual : Str} {params : Arguments} {body : List Stmt} {scope : Scope} {dV kV doc pm cdv ct oc : Value} {an od : Option Addr} {osl : Array (Option Value)} {f : Addr} {pos : List Value} {kw : List (Str × Value)} {binds : List (Str × Value)} {Q : Cx → Value → St → Prop}
    (ho : (KF C.w).lookup f = some ⟨oc, od, .func (fnOf name qual params body scope dV kV doc pm an cdv ct), osl⟩) (hcd : codeIn (KF C.w) cdv qual = true) (hroom : 0 < C.room)
    (hbind : ∀ S, peek (KF C.w) S (bindArgs (fnOf name qual params body scope dV kV doc pm an cdv ct) ⟨pos, kw⟩) = some binds)
    (hloc : (binds.all fun y => decide (scope.names.lookup y.1 = some .local)) = true) (hnd : decide ((binds.map (·.1)).Nodup) = true) (hcell : (scope.names.all fun x => decide (x.2 ≠ .cell)) = true)
    (hco : scope.isCoroutine = false) (hgen : scope.isGenerator = false) (hk : scope.kind = .function)
    (h : ∀ C' : Cx, C'.w = C.w → C'.room + 1 = C.room → C'.env = envOf qual scope C'.L f cdv → C'.A = C'.A₀.deeper C'.env → EvS C' NoE (execs body C'.env) ⟨binds, st.news⟩ fun _ fl st' => ∃ news', Sub news' st'.news ∧ ∀ C₂, Turned C C₂ → Q C₂ (retOf fl) ⟨st.m, news'⟩) :
    EvS C E (call (.ref f) pos kw) st Q := by
  intro s H
  refine wpAny_call ?_
  have hX := C.T.X.keeps H.F.keep
  obtain ⟨FG, BG, stay, lv⟩ := groundX (R := fun r s' => match r with | .ok (.ret v) => PostS C Q v s' | .error e => E e s' | _ => False) C.B H.F H.N C.fr C.ef C.ek
  refine codeAny_call_def (fd := fnOf name qual params body scope dV kV doc pm an cdv ct) (body := body) (binds := binds) (by have := C.dp; omega) (hX _ _ ho) rfl (C.T.nolimit.keeps H.F.keep) (codeRec_of hX hcd) rfl (kp_binds hX hbind)
    (fun x hx => of_decide_eq_true (List.all_eq_true.mp hcell x hx)) (fun y hy => of_decide_eq_true (List.all_eq_true.mp hloc y hy)) (fun h₁ hns hk₁ => ?_) hco hgen hk
  rw [lookup_rev (of_decide_eq_true hnd)] at hns
  have lt : ∀ p ∈ st.news ++ tabsOf H.δ, p.1 < s.heap.objs.size := fun p hp => Heap.lt_size (H.N p hp).1
  let C' : Cx := { C with
    A₀ := C.A, A := C.A.deeper (envOf qual scope s.heap.objs.size f cdv), outer := C.env :: C.outer, h₀ := hideAll s.heap ((st.news ++ tabsOf H.δ).map (·.1)), L := s.heap.objs.size, env := envOf qual scope s.heap.objs.size f cdv, room := C.room - 1, gb := s.gens, u0 := H.δ.u, sb := s.heap.objs.size
    B := BG, T := C.T.keeps stay, kd := kd_enter H.F H.N C.kd C.ef, fr := by show C.A.frames.map _ = _; rw [C.fr]; rfl
    ef := rfl, el := rfl, eg := rfl, eb := rfl, ek := hk, hh := C.hh, gd := C.gd
    dp := by show C.A.depth + 1 + (C.room - 1) < recursionLimit; have := C.dp; omega
    un := by show C.A.units + 3 + 8 * (C.room - 1) + 8 < cLine; have := C.un; omega }
  refine wpAny_mono (h C' rfl (by show C.room - 1 + 1 = C.room; omega) rfl rfl _ ⟨⟨H.δ, ⟨hns, fun b o e => hk₁ b o (of_hideAll _ e), Nat.le_of_eq (hideAll_size _ _)⟩,
    fun p hp => ⟨hk₁ _ _ (H.N p hp).1, Nat.ne_of_lt (lt p hp), hideAll_none _ (List.mem_map_of_mem hp)⟩, H.nd, H.ok, H.os, H.gens, fun _ _ => rfl, fun _ e => .inl e, fun _ e => e⟩, Nat.lt_of_lt_of_le H.tp (Nat.le_add_right _ _), Nat.le_of_lt hns.lt⟩) (fun fl s' hq => ?_) (fun e s' hq => hq.elim)
  obtain ⟨C₂, st', ⟨g', B', TT', kd', T', rfl⟩, H', news', hs, q⟩ := hq
  obtain ⟨δ', D'⟩ := H'.ex
  have F' := D'.F
  have N' := D'.N
  replace T' : KtsTurn ((C.env :: C.outer).filterMap (·.frame)) (hideAll s.heap ((st.news ++ tabsOf H.δ).map (·.1))) g' := T'
  obtain ⟨oL, es, ep, hL, hLd, hLk, hLf⟩ := H.F.ns
  have nL : C.L ∉ (st.news ++ tabsOf H.δ).map (·.1) := fun q => by
    obtain ⟨p, hp, e⟩ := List.mem_map.mp q
    exact (H.N p hp).2.1 e
  have hLg := hideAll_get ((st.news ++ tabsOf H.δ).map (·.1)) hL nL
  have nL₀ : C.h₀.get? C.L = none := kts_self H.F
  have stS : ∀ b o, C.h₀.get? b = some o → (hideAll s.heap ((st.news ++ tabsOf H.δ).map (·.1))).get? b = some o := fun b o e => hideAll_get _ (H.F.keep b o e) fun hm => by
    obtain ⟨p, hp, rfl⟩ := List.mem_map.mp hm
    rw [(H.N p hp).2.2] at e; cases e
  obtain ⟨sl, hsl⟩ := T'.up hLg
  obtain ⟨T₁, S₁⟩ := kts_turn_at (h := s'.heap) (fs := C.outer.filterMap (·.frame)) (g := C.h₀)
    (fun b hb => by
      obtain ⟨_, o, ho', _⟩ := C.B.frames.mem hb
      exact ⟨o, ho'⟩)
    (fun b o e nmem => F'.keep b o (T'.other b o (stS b o e) (fun q => by
      rcases frame_mem q with z | z
      · rw [z, nL₀] at e
        cases e
      · exact nmem z)))
    (fun b o e hm => by
      obtain ⟨sl', hs'⟩ := T'.up (stS b o e)
      exact ⟨sl', F'.keep _ _ hs'⟩)
  have B₃ : Below C.A₀ C.base C.outer (ktsHeap s'.heap (C.outer.filterMap (·.frame)) C.h₀) := ⟨C.B.stack, fun b o e => T₁.other b o (C.B.stays b o e) (fun hm => by
    rw [(C.B.frames.mem hm).1] at e
    cases e), C.B.frames.of_keeps fun b o e _ => by
    obtain ⟨sl', hs'⟩ := T₁.up e
    exact ⟨_, hs', rfl⟩⟩
  have TU : Turned C (C.turn _ B₃ (C.Tg.keeps B₃.stays) (C.kd.turn T₁)) := ⟨_, _, _, _, T₁, rfl⟩
  have H₂ : Held (C.turn _ B₃ (C.Tg.keeps B₃.stays) (C.kd.turn T₁)) ⟨st.m, st'.news⟩ s' := by
    refine ⟨δ', ⟨⟨_, es, ep, F'.keep _ _ hsl, hLd, hLk, hLf⟩, S₁, by rw [T₁.size]; exact H.F.above⟩, fun p hp => ⟨(N' p hp).1, fun q => ?_, ?_⟩, D'.nd, D'.ok, D'.os, D'.gens, gp_trans H.gp D'.gp, us_trans H.us H.sz D'.us, fun q e => D'.uk q (H.uk q e)⟩
    · have := (N' p hp).2.2
      replace this : g'.get? p.1 = none := this
      rw [q] at this
      replace hsl : g'.get? C.L = some { oL with slots := sl } := hsl
      have q2 : p.1 = C.L := q
      rw [hsl] at this; cases this
    · refine T₁.none_ _ ?_
      cases q : C.h₀.get? p.1 with
      | none => rfl
      | some o =>
        obtain ⟨sl', hs'⟩ := T'.up (stS _ _ q)
        have := (N' p hp).2.2
        replace this : g'.get? p.1 = none := this
        rw [hs'] at this
        cases this
  cases fl <;> exact ⟨_, ⟨st.m, news'⟩, TU, H₂.sub hs, q _ TU⟩
/-- what a turn of a loop hands on, over turned grounds -/
def TurnS (I : Addr) (oI : Obj) (J : St → Prop) (Q : Cx → Flow → St → Prop) (C₂ : Cx) (f : Flow) (st₂ : St) : Prop := match f with
  | .ret v => Q C₂ (.ret v) st₂
  | .brk => Q C₂ .next st₂
  | _ => ∃ news, Sub ((I, oI) :: news) st₂.news ∧ J ⟨st₂.m, news⟩
structure LoopS (C : Cx) (env : Env) (x : Str) (body : List Stmt) (Q : Cx → Flow → St → Prop) (n : Nat) (st₁ : St) (Inv : Nat → St → Prop) : Prop where
  start : ∃ news, Sub news st₁.news ∧ Inv 0 ⟨st₁.m, news⟩
  turn : ∀ C₁ i t st₂ I oI, Turned C C₁ → i < n → Inv i st₂ → EvS C₁ NoE (execs body env) ⟨put x (.int i t) st₂.m, (I, oI) :: st₂.news⟩ (TurnS I oI (Inv (i + 1)) Q)
  done : ∀ C₁ st₂, Turned C C₁ → Inv n st₂ → Q C₁ .next st₂
theorem xs_for_range {x : Str} {px pos : Pos} {iter : Expr} {body : List Stmt} {env : Env} {Q : Cx → Flow → St → Prop}
    (h : Ev C E (eval iter env) st fun v st₁ => ∃ r b t u t' Inv, v = .ref r ∧ (r, rng 0 b 1 t u t') ∈ st₁.news ∧ (0 ≤ b ∧ b < 2 ^ 62) ∧ LoopS C env x body Q b.toNat st₁ Inv)
    (hs : ∀ x, foldedSetIterable iter env x = pure x) (hL : env.locals = C.L) (hl : env.kindOf x = some .local) (hk : env.scope.kind = .function) : EvS C E (exec (.For (.Name x px) iter body [] pos) env) st Q := by
  intro s H
  refine wpAny_For (L1q h (fun v st₁ s₁ H₁ h₁ => ?_) H) hs
  obtain ⟨r, b, t, u, t', Inv, rfl, hm, ⟨b3, b4⟩, L⟩ := h₁
  obtain ⟨news0, hs0, h00⟩ := L.start
  have hl₁ := (H₁.at hm).1
  refine wpAny_pyIter_range hl₁ (small_one (by decide) (by decide) (by omega) b4) ?_
  have e : Builtin.Range.rangeSize 0 b 1 = (((b - 0).toNat : Nat) : Int) := by rw [rangeSize_one]; split <;> omega
  have e' : (b - 0).toNat = b.toNat := by rw [Int.sub_zero]
  have W : ∀ A' : Around, A'.handled = none → _ := fun A' hA => LCg.range_walks (prog := prog) (w := C.w) (A := A') (I := s₁.heap.objs.size) hA 0 b.toNat
  have H₂ := (H₁.alloc (o := { cls := .type "range_iterator", data := .fields #[rawInt 0, rawInt (Builtin.Range.rangeSize 0 b 1), rawInt 1] }) rfl).sub (Sub.cons₂ _ hs0)
  have hst : IsRangeIter (s₁.heap.push { cls := .type "range_iterator", data := .fields #[rawInt 0, rawInt (Builtin.Range.rangeSize 0 b 1), rawInt 1] }) s₁.heap.objs.size (0 + ((0 : Nat) : Int) * 1) ((b.toNat : Int) - ((0 : Nat) : Int)) 1 := by
    show Heap.get? _ _ = some _
    rw [Heap.get?_push_size _ rfl, e, e']
    simp [rawInt]
  generalize s₁.heap.objs.size = I at *
  generalize b.toNat = n at *
  refine codeAny_forLoop_any (fun k s' => ∃ C₁ i st₁ oI, Turned C C₁ ∧ k = n + 1 - i ∧ i ≤ n ∧ Inv i st₁ ∧ Holds C₁ ⟨st₁.m, (I, oI) :: st₁.news⟩ s' ∧ IsRangeIter s'.heap I (0 + (i : Nat) * 1) ((n : Int) - (i : Nat)) 1) ?_ (n + 1) ⟨C, 0, ⟨st₁.m, news0⟩, _, Turned.refl C, rfl, Nat.zero_le _, h00, H₂, hst⟩
  clear hst H₂
  rintro k s₁ ⟨C₁, i, st₁, oI, TU, rfl, hi, hI, H₁, hst₁⟩
  have hIL : C₁.L ≠ I := ((H₁.at (p := (I, oI)) (.head _)).2.1).symm
  have hI0 : C₁.h₀.get? I = none := (H₁.at (p := (I, oI)) (.head _)).2.2
  obtain ⟨δ₁, D₁⟩ := H₁.ex
  have nd := D₁.nd
  simp only [List.cons_append, List.map_cons, List.nodup_cons] at nd
  have step : ∀ (h' : Heap), (∀ b o, b ∉ [I] → s₁.heap.get? b = some o → h'.get? b = some o) → Fr C₁.h₀ C₁.L h' (look st₁.m) ∧ News C₁.h₀ C₁.L h' (st₁.news ++ tabsOf δ₁) := fun h' hk' =>
    ⟨LCg.fr_but D₁.F hk' hIL hI0, LCg.news_but (fun p hp => D₁.N p (.tail _ hp)) hk' fun p hp e => nd.1 (e ▸ List.mem_map_of_mem hp)⟩
  by_cases hlt : i < n
  · refine wpAny_with_size H₁.sz (wpAny_with_toks H₁.tp ((W _ C.hh).item i _ _ _ hlt hst₁ fun v h₂ tk₂ hP hst₂ hk₂ hp₂ hz₂ => ?_))
    obtain ⟨t, rfl⟩ := hP
    obtain ⟨F₂, N₂⟩ := step h₂ hk₂
    obtain ⟨oI', hoI'⟩ : ∃ o, h₂.get? I = some o := ⟨_, hst₂⟩
    have H₂ : Holds C₁ ⟨st₁.m, (I, oI') :: st₁.news⟩ { s₁ with heap := h₂, toks := tk₂ } := ⟨⟨δ₁, F₂, fun p hp => by
      rcases List.mem_cons.mp hp with rfl | hp
      · exact ⟨hoI', hIL.symm, hI0⟩
      · exact N₂ p hp, D₁.nd, D₁.ok, D₁.os, D₁.gens, D₁.gp, D₁.us, D₁.uk⟩, hp₂, hz₂⟩
    show wpAny _ _ (letOwnedTupleGo (.Name x px) (.ref I) _) _ _ _
    refine wpAny_pure ?_
    refine wpAny_assign_Name ?_
    rw [Int.zero_add]
    refine wpAny_mono (L1E (C := C) (E := NoE) TU (R := fun _ s₃ => Holds C₁ ⟨put x _ st₁.m, (I, oI') :: st₁.news⟩ s₃) (storeName_local' (C := C₁) (E := NoE) (Q := fun _ st' => st' = ⟨put x _ st₁.m, (I, oI') :: st₁.news⟩) rfl (hL.trans TU.L.symm) hl hk) (fun _ _ _ H q => q ▸ H) H₂) (fun _ s₃ H₃ => ?_) (fun _ _ q => q.elim)
    have tn := L.turn C₁ i t st₁ I oI' TU hlt hI
    refine wpAny_mono (wpAny_size_of H₃.sz (wpAny_toks_of H₃.tp (L1T (C := C) TU tn H₃))) (fun f s₄ h₄ => ?_) (fun _ _ q => q.2.2.elim)
    obtain ⟨hz₄, hp₄, C₄, st₄, TU₄, H₄, q⟩ := h₄
    have sb₄ : C₄.sb = C₁.sb := by
      obtain ⟨_, _, _, _, _, rfl⟩ := TU₄
      obtain ⟨_, _, _, _, _, rfl⟩ := TU
      rfl
    have fin : (∃ news, Sub ((I, oI') :: news) st₄.news ∧ Inv (i + 1) ⟨st₄.m, news⟩) → ∃ k' < n + 1 - i, ∃ C₁ i' st₁ oI, Turned C C₁ ∧ k' = n + 1 - i' ∧ i' ≤ n ∧ Inv i' st₁ ∧ Holds C₁ ⟨st₁.m, (I, oI) :: st₁.news⟩ s₄ ∧ IsRangeIter s₄.heap I (0 + (i' : Nat) * 1) ((n : Int) - (i' : Nat)) 1 := by
      rintro ⟨news, hs, hJ⟩
      refine ⟨n + 1 - (i + 1), by omega, C₄, i + 1, ⟨st₄.m, news⟩, oI', TU₄, rfl, hlt, hJ, ⟨H₄.sub hs, hp₄, by rw [sb₄]; exact hz₄⟩, ?_⟩
      have e := (H₄.at (hs.mem _ (.head _))).1
      show _ = _
      rw [← hst₂, hoI']
      exact e
    cases f with
    | ret v => exact ⟨C₄, st₄, TU₄, H₄, q⟩
    | brk => exact ⟨C₄, st₄, TU₄, H₄, q⟩
    | next => exact fin q
    | cont => exact fin q
  · obtain rfl : i = n := Nat.le_antisymm hi (Nat.not_lt.mp hlt)
    refine (W _ C.hh).done _ _ _ hst₁ fun h₂ tk₂ hk₂ => ?_
    obtain ⟨F₂, N₂⟩ := step h₂ hk₂
    exact wpAny_execs_nil ⟨C₁, st₁, TU, ⟨δ₁, F₂, N₂, nd.2, D₁.ok, D₁.os, D₁.gens, D₁.gp, D₁.us, D₁.uk⟩, L.done _ _ TU hI⟩
end
end Mine
end
section
open PySem PySem.W PyProof.Rows PySem.Calls PySem.Spec
namespace Mine
section
variable {C : Cx} {E : Value → Shared → Prop} {st : St}
theorem o_list_list {l : Addr} {vs : List Value} {n : Nat} {Q : Value → St → Prop} (hm : (l, lst vs n) ∈ st.news) (hz : vs.length ≤ sizeLine) (h : ∀ r k, Q (.ref r) ⟨st.m, (r, lst vs k) :: st.news⟩) : Ev C E (call (.type "list") [.ref l]) st Q := fun s H =>
  call_list_seq (T := "list") (items := vs.toArray) (n := n) l (.inl rfl) (H.get hm) rfl rfl (fun h' c' hk ho' => ⟨_, H.toHeld.grow (d := s.drawn) (tk := s.toks) hk fresh_none ho', h _ _⟩) (by rw [List.size_toArray]; exact hz)
theorem o_list_tup {l : Addr} {vs : List Value} {n : Nat} {Q : Value → St → Prop} (hm : (l, tup vs n) ∈ st.news) (hz : vs.length ≤ sizeLine) (h : ∀ r k, Q (.ref r) ⟨st.m, (r, lst vs k) :: st.news⟩) : Ev C E (call (.type "list") [.ref l]) st Q := fun s H =>
  call_list_seq (T := "tuple") (items := vs.toArray) (n := n) l (.inr rfl) (H.get hm) rfl rfl (fun h' c' hk ho' => ⟨_, H.toHeld.grow (d := s.drawn) (tk := s.toks) hk fresh_none ho', h _ _⟩) (by rw [List.size_toArray]; exact hz)
theorem Held.fresh {s : Shared} {h' : Heap} {tk : Nat} {e : Addr} {X : String} (H : Held C st s) (hx : Heap.NewExc s.heap h' e X) : Fresh C st X (.ref e) { s with heap := h', toks := tk } :=
  ⟨e, s.heap, rfl, hx, H.tok⟩
/-- an item by any index that is there -/
theorem o_item_neg {value slice : PySem.Expr} {l : Addr} {vs : List Value} {n : Nat} {k : Int} {u : Tok} {v : Value} {Q : Value → St → Prop} (hm : (l, lst vs n) ∈ st.news) (h0 : k < 0) (h1 : -(vs.length : Int) ≤ k) (hi : -(2 ^ 63) ≤ k) (hx : vs[(k + vs.length).toNat]? = some v) (h : Q v st)
    (hs : subscripted slice false (.ref l) (.int k u) = operate [.ref l, .int k u] (getItem (.ref l) (.int k u))) : Ev C E (subscriptTail value slice (.ref l) (.int k u)) st Q := fun s H =>
  have hl := isList_of (H.get hm)
  tail_any hl.typeIs slot_list_getitem.lookup (wpAny_getItem_list_neg hl h0 (by rw [List.size_toArray]; exact h1) hi (by rw [List.size_toArray]; simpa using hx) ⟨st, H.toHeld, h⟩) hs
theorem o_item_out {value slice : PySem.Expr} {l : Addr} {vs : List Value} {n : Nat} {k : Int} {u : Tok} {Q : Value → St → Prop} (hm : (l, lst vs n) ∈ st.news) (hout : k < -(vs.length : Int) ∨ (vs.length : Int) ≤ k) (hlo : -(2 ^ 63) ≤ k) (hhi : k < 2 ^ 63) (hE : ∀ e s', Fresh C st "IndexError" e s' → E e s')
    (hs : subscripted slice false (.ref l) (.int k u) = operate [.ref l, .int k u] (getItem (.ref l) (.int k u))) : Ev C E (subscriptTail value slice (.ref l) (.int k u)) st Q := fun s H =>
  item_outK C.hh (isList_of (H.get hm)) (by rw [List.size_toArray]; exact hout) hlo hhi (fun h' tk e hx => hE _ _ (H.toHeld.fresh hx)) hs
theorem gm_list {name : Str} {id : String} {l : Addr} {vs : List Value} {n : Nat} {pl : Sem Bool} {Q : Value × List Value → St → Prop} (slot : Slot "list" name id) (ty : typeOf (.builtin id) = pure (.type "method_descriptor")) (hm : (l, lst vs n) ∈ st.news) (h : Q (.builtin id, [.ref l]) st) : Ev C E (getMethod (.ref l) name pl) st Q := fun s H =>
  getMethod_builtin (T := "list") ⟨_, H.get hm, rfl⟩ PySem.F.plainAttrs_list slot ty (fun b e => by injection e with e; subst e; exact ⟨_, H.get hm, rfl⟩) ⟨st, H.toHeld, h⟩
theorem fitsIdx {k : Int} (h0 : -(2 ^ 63) ≤ k) (h1 : k < 2 ^ 63) : Builtin.List.listFitsIndex k = true := by
  simp only [Builtin.List.listFitsIndex, Bool.and_eq_true, decide_eq_true_eq]; omega
theorem erase_lst {vs : List Value} {n k : Nat} (hk : k < vs.length) {h : Heap} {l : Addr} (ho : h.get? l = some (lst vs n)) : (h.update l (Obj.mapSeq fun xs => xs.eraseIdxIfInBounds k)).get? l = some (lst (vs.eraseIdx k) (n + 1)) := by
  have e := mapSeq_erase vs.toArray n k (by rw [List.size_toArray]; exact hk)
  rw [Heap.get?_update_self _ ho (by rw [e]; rfl), e]
theorem m_pop_at {l : Addr} {vs : List Value} {n k : Nat} {i : Int} {u : Tok} {v : Value} {g : Led} {Q : Value → St → Prop} (h0 : -(2 ^ 63) ≤ i) (h1 : i < 2 ^ 63) (hk : seqIndex? i vs.length = some k) (hv : vs[k]? = some v) (hz : vs.length ≤ sizeLine)
    (ha : At l (lst vs n) (lst (vs.eraseIdx k) (n + 1)) st.news g) (h : Q v ⟨st.m, g⟩) : Ev C E (call (.builtin "list.pop") [.ref l, .int i u]) st Q := fun s H => by
  obtain ⟨m, r⟩ := st
  have hl := H.get ha.mem
  have hk' : k < vs.length := (List.getElem?_eq_some_iff.mp hv).1
  refine call_meets PySem.F.slot_list_pop ⟨_, hl, rfl⟩ PySem.F.entry_list_pop (PySem.F.args_list_pop_2 _ _) (PySem.MeetsSeq.list_pop_at l vs.toArray n i u k v (fitsIdx h0 h1) (by rw [List.size_toArray]; exact hk) (by simpa using hv) (by rw [List.size_toArray]; exact hz)) ⟨hl, ⟨m, g⟩, H.toHeld.write (tk := s.toks) ha (Heap.SameBut.update ..) (erase_lst hk' hl), h⟩
theorem m_pop_out {l : Addr} {vs : List Value} {n : Nat} {i : Int} {u : Tok} {Q : Value → St → Prop} (hm : (l, lst vs n) ∈ st.news) (h0 : -(2 ^ 63) ≤ i) (h1 : i < 2 ^ 63) (hk : seqIndex? i vs.length = none) (hE : ∀ e s', Fresh C st "IndexError" e s' → E e s') : Ev C E (call (.builtin "list.pop") [.ref l, .int i u]) st Q := fun s H => by
  have hl := H.get hm
  cases hv : vs.isEmpty with
  | true => exact call_meets PySem.F.slot_list_pop ⟨_, hl, rfl⟩ PySem.F.entry_list_pop (PySem.F.args_list_pop_2 _ _) (PySem.AutoSeq1.list_pop_list_int_1 l vs.toArray n i u (by simp [fitsIdx h0 h1]) (by rw [List.isEmpty_toArray]; exact hv)) ⟨hl, C.hh, fun h' tk e hx => hE _ _ (H.toHeld.fresh hx)⟩
  | false => exact call_meets PySem.F.slot_list_pop ⟨_, hl, rfl⟩ PySem.F.entry_list_pop (PySem.F.args_list_pop_2 _ _) (PySem.MeetsSeq.list_pop_out l vs.toArray n i u (fitsIdx h0 h1) (by rw [List.isEmpty_toArray, hv]; exact Bool.false_ne_true) (by rw [List.size_toArray]; exact hk)) ⟨hl, C.hh, fun h' tk e hx => hE _ _ (H.toHeld.fresh hx)⟩
theorem m_lclear {l : Addr} {vs : List Value} {n : Nat} {g : Nat → Led} {Q : Value → St → Prop} (hz : vs.length ≤ sizeLine) (ha : ∀ k, At l (lst vs n) (lst [] k) st.news (g k)) (h : ∀ k, Q .none ⟨st.m, g k⟩) : Ev C E (call (.builtin "list.clear") [.ref l]) st Q := fun s H => by
  obtain ⟨m, r⟩ := st
  have hl := H.get (ha 0).mem
  refine call_meets PySem.F.slot_list_clear ⟨_, hl, rfl⟩ PySem.F.entry_list_clear (PySem.F.args_list_clear_1 _) (PySem.AutoSeq1.list_clear_list_0 l vs.toArray n (by rw [List.size_toArray]; exact hz)) ⟨hl, ⟨m, g _⟩, H.toHeld.write (tk := s.toks) (ha _) (Heap.SameBut.update ..) (PySem.IsL.update (n := n) hl _), h _⟩
theorem o_delitem_list {l : Addr} {vs : List Value} {n k : Nat} {i : Int} {u : Tok} {g : Led} {Q : Unit → St → Prop} (h0 : -(2 ^ 63) ≤ i) (h1 : i < 2 ^ 63) (hk : seqIndex? i vs.length = some k) (hz : vs.length ≤ sizeLine)
    (ha : At l (lst vs n) (lst (vs.eraseIdx k) (n + 1)) st.news g) (h : Q () ⟨st.m, g⟩) : Ev C E (delItem (.ref l) (.int i u)) st Q := fun s H => by
  obtain ⟨m, r⟩ := st
  have hl := H.get ha.mem
  exact delItem_at (its := vs.toArray) hl (fitsIdx h0 h1) (by rw [List.size_toArray]; exact hk) (fun h' hs ho' => ⟨⟨m, g⟩, H.toHeld.write (tk := s.toks) ha hs ho', h⟩) (by rw [List.size_toArray]; exact hz)
theorem set_lst {vs : List Value} {n k : Nat} {v : Value} {h : Heap} {l : Addr} (ho : h.get? l = some (lst vs n)) : (h.update l (Obj.mapSeq (·.setIfInBounds k v))).get? l = some (lst (vs.set k v) n) := by
  have e := PySem.IsL.update (n := n) ho (·.setIfInBounds k v)
  rw [if_pos (by simp)] at e
  rw [show (vs.toArray.setIfInBounds k v) = (vs.set k v).toArray from by apply Array.toList_inj.mp; simp] at e
  exact e
theorem o_setitem_list {l : Addr} {vs : List Value} {n k : Nat} {i : Int} {u : Tok} {v : Value} {g : Led} {Q : Unit → St → Prop} (h0 : -(2 ^ 63) ≤ i) (h1 : i < 2 ^ 63) (hk : seqIndex? i vs.length = some k)
    (ha : At l (lst vs n) (lst (vs.set k v) n) st.news g) (h : Q () ⟨st.m, g⟩) : Ev C E (setItem (.ref l) (.int i u) v) st Q := fun s H => by
  obtain ⟨m, r⟩ := st
  have ho := H.get ha.mem
  have hfin : ∃ st', Held C st' { s with heap := s.heap.update l (Obj.mapSeq (·.setIfInBounds k v)) } ∧ Q () st' := ⟨⟨m, g⟩, H.toHeld.write (tk := s.toks) ha (Heap.SameBut.update ..) (set_lst ho), h⟩
  by_cases hn : i < 0
  · have hl := isList_of ho
    have hk' := lt_of_seqIndex hk
    unfold setItem
    refine wpAny_holding ?_
    refine wpAny_bind (wpAny_sequenceKey hl.typeIs (by decide) ?_)
    have hd : (lst vs n).data = .seq vs.toArray n := rfl
    refine wpAny_bind (wpAny_callSpecial?_slot (name := Str.ofString "__setitem__") hl.typeIs slot_list_setitem
      (wpAny_call_entry slot_list_setitem hl.typeIs entry_list_setitem ?_ (args_list_setitem _ _ _)))
    show wpAny _ _ (Builtin.List.listSubscript? (.int i u) >>= _) _ _ s
    refine wpAny_bind (wpAny_listSubscript_int (fitsIdx h0 h1) ?_)
    obtain ⟨j, rfl⟩ : ∃ j : Nat, i = Int.negSucc j := by
      cases i with
      | ofNat n => exact absurd hn (Int.not_lt.mpr (Int.natCast_nonneg n))
      | negSucc n => exact ⟨n, rfl⟩
    show wpAny _ _ ((Builtin.List.listItems (.ref l) >>= fun xs => pure ((seqIndex? (Int.negSucc j) xs.size).bind fun i => xs[i]?.map (i, ·))) >>= _) _ _ s
    refine wpAny_bind (wpAny_bind ?_)
    show wpAny _ _ (seqItems? (.ref l) >>= _) _ _ s
    refine wpAny_bind (wpAny_seqItems ho hd (wpAny_pure (wpAny_pure ?_)))
    rw [List.size_toArray, hk]
    simp only [Option.bind_some, List.getElem?_toArray, List.getElem?_eq_getElem hk', Option.map_some]
    show wpAny _ _ (setSeqItemAt l k v >>= _) _ _ s
    refine wpAny_bind (wpAny_setSeqItemAt ho rfl ?_)
    first
      | exact wpAny_bind (wpAny_pure (wpAny_pure ⟨.none, rfl, wpAny_pure hfin⟩))
      | exact wpAny_pure ⟨.none, rfl, wpAny_pure hfin⟩
  · have hk' := lt_of_seqIndex hk
    have e : k = i.toNat := by
      rw [seqIndex_at (by omega) (by
        unfold seqIndex? at hk
        simp only [hn, if_false] at hk
        split at hk
        · rename_i hc
          simp only [Bool.and_eq_true, decide_eq_true_eq] at hc
          exact hc.2
        · cases hk)] at hk
      exact (Option.some.inj hk).symm
    subst e
    exact ki_setAt ho (by omega) h1 (by rw [List.size_toArray]; omega) hfin
/-- stores and deletions by subscript -/
theorem x_setitem {env : Env} {o i value : Expr} {pos' pos : Pos} {Q : Flow → St → Prop} (h : Ev C E (eval value env) st fun v st₁ => Ev C E (eval o env) st₁ fun ov st₂ => Ev C E (eval i env) st₂ fun iv st₃ => Ev C E (setItem ov iv v) st₃ fun _ st₄ => Q .next st₄)
    (hs : swapsWith value (some (.Subscript o i pos')) pos.line env = pure false) : Ev C E (exec (.Assign [.Subscript o i pos'] value pos) env) st Q := fun s H =>
  wpAny_Assign_Subscript (L1q h (fun v st₁ s₁ H₁ h₁ => L1q h₁ (fun ov st₂ s₂ H₂ h₂ => L1q h₂ (fun iv st₃ s₃ H₃ h₃ => h₃ s₃ H₃) H₂) H₁) H) hs
theorem x_delitem {env : Env} {o i : Expr} {pos' pos : Pos} {Q : Flow → St → Prop} (h : Ev C E (eval o env) st fun ov st₂ => Ev C E (eval i env) st₂ fun iv st₃ => Ev C E (delItem ov iv) st₃ fun _ st₄ => Q .next st₄) : Ev C E (exec (.Delete [.Subscript o i pos'] pos) env) st Q := fun s H => by
  refine wpAny_Delete ?_
  rw [arm_deleteEach_cons]
  exact wpAny_bind (wpAny_delete_Subscript (L1q h (fun ov st₂ s₂ H₂ h₂ => L1q h₂ (fun iv st₃ s₃ H₃ h₃ => L1q h₃ (fun _ st₄ s₄ H₄ h₄ => wpAny_deleteEach_nil ⟨st₄, H₄.toHeld, h₄⟩) H₃) H₂) H))
/-- reordering of the ledger -/
theorem Ev.sub {α : Type} {t : Sem α} {m : List (Str × Value)} {r r' : Led} {Q : α → St → Prop} (hs : Sub r' r) (h : Ev C E t ⟨m, r'⟩ Q) : Ev C E t ⟨m, r⟩ Q := fun s H => h s (H.sub hs)
theorem EvS.sub {α : Type} {t : Sem α} {m : List (Str × Value)} {r r' : Led} {Q : Cx → α → St → Prop} (hs : Sub r' r) (h : EvS C E t ⟨m, r'⟩ Q) : EvS C E t ⟨m, r⟩ Q := fun s H => h s (H.sub hs)
end
end Mine
end
section
open PySem PySem.W PyProof.Rows PySem.Calls PySem.Spec
namespace Mine
/-- the same activation, n builtin bodies further in -/
abbrev Cx.ins (C : Cx) (A' : Around) (k : Nat) (hr : 0 < C.room) (h1 : A'.frames = C.A.frames) (h2 : A'.handled = C.A.handled) (h3 : A'.guards = C.A.guards) (h4 : A'.depth = C.A.depth) (h5 : A'.units = C.A.units + k) (hk : k ≤ 8) : Cx :=
  { C with A := A', room := C.room - 1, fr := h1.trans C.fr, hh := h2.trans C.hh, gd := h3.trans C.gd, dp := (by show A'.depth + (C.room - 1) < recursionLimit; rw [h4]; have := C.dp; omega), un := (by show A'.units + 8 * (C.room - 1) + 8 < cLine; rw [h5]; have := C.un; omega) }
abbrev Cx.j1 (C : Cx) (hr : 0 < C.room) : Cx := C.ins C.A.in1 1 hr rfl rfl rfl rfl rfl (by omega)
abbrev Cx.j2 (C : Cx) (hr : 0 < C.room) : Cx := C.ins C.A.in1.in1 2 hr rfl rfl rfl rfl rfl (by omega)
abbrev Cx.j3 (C : Cx) (hr : 0 < C.room) : Cx := C.ins C.A.in1.in1.in1 3 hr rfl rfl rfl rfl rfl (by omega)
section
variable {C : Cx} {E : Value → Shared → Prop} {st : St}
theorem Held.ins {s : Shared} {A' : Around} {k : Nat} {hr : 0 < C.room} {h1 h2 h3 h4 h5 hk} (H : Held C st s) : Held (C.ins A' k hr h1 h2 h3 h4 h5 hk) st s := ⟨H.δ, H.F, H.N, H.nd, H.ok, H.os, H.gens, H.gp, H.us, H.uk⟩
theorem Held.outs {s : Shared} {A' : Around} {k : Nat} {hr : 0 < C.room} {h1 h2 h3 h4 h5 hk} (H : Held (C.ins A' k hr h1 h2 h3 h4 h5 hk) st s) : Held C st s := ⟨H.δ, H.F, H.N, H.nd, H.ok, H.os, H.gens, H.gp, H.us, H.uk⟩
theorem in_ev {α : Type} {t : Sem α} {A' : Around} {k : Nat} {hr : 0 < C.room} {h1 h2 h3 h4 h5 hk} {Q : α → St → Prop} (h : Ev (C.ins A' k hr h1 h2 h3 h4 h5 hk) E t st Q) {s : Shared} (H : Holds C st s) {R : α → Shared → Prop} (kk : ∀ a st' s', Holds C st' s' → Q a st' → R a s') : wpAny (model prog C.w) A' t R E s :=
  L1q h (fun a st' s' H' q => kk a st' s' ⟨H'.toHeld.outs, H'.tp, H'.sz⟩ q) ⟨H.toHeld.ins, H.tp, H.sz⟩
section
variable {x dx : Addr} {es : List DictEntry} {n : Nat}
theorem Holds.inst {s : Shared} (H : Holds C st s) (hx : (x, instObj HS dx) ∈ st.news) (hd : (dx, dictOf es n) ∈ st.news) : InstAt s.heap x (instObj HS dx) HS (some (dictOf es n)) :=
  InstAt.of_news H.N (List.mem_append_left _ hx) (List.mem_append_left _ hd)
theorem o_in_inst {v : Value} {Q : Value → St → Prop} (hx : (x, instObj HS dx) ∈ st.news) (hd : (dx, dictOf es n) ∈ st.news) (h : Ev C E (call (.ref 200) [.ref x, v]) st fun r st' => ∃ b, r = .bool b ∧ Q (.bool b) st') : Ev C E (compareOp .In v (.ref x)) st Q := fun s H =>
  in_K H.F C.T.X (H.inst hx hd) (by kernel_rfl!) (by kernel_rfl!) (L1q h (fun r st' s' H' q => by
    obtain ⟨b, rfl, q⟩ := q
    exact o_truthy_bool (E := E) (Q := fun c st'' => Q (.bool c) st'') q s' H') H)
theorem o_notin_inst {v : Value} {Q : Value → St → Prop} (hx : (x, instObj HS dx) ∈ st.news) (hd : (dx, dictOf es n) ∈ st.news) (h : Ev C E (call (.ref 200) [.ref x, v]) st fun r st' => ∃ b, r = .bool b ∧ Q (.bool (!b)) st') : Ev C E (compareOp .NotIn v (.ref x)) st Q := fun s H =>
  notIn_K H.F C.T.X (H.inst hx hd) (by kernel_rfl!) (by kernel_rfl!) (L1q h (fun r st' s' H' q => by
    obtain ⟨b, rfl, q⟩ := q
    exact o_truthy_bool (E := E) (Q := fun c st'' => Q (.bool (!c)) st'') q s' H') H)
theorem o_truthy_inst {Q : Bool → St → Prop} (hx : (x, instObj HS dx) ∈ st.news) (hd : (dx, dictOf es n) ∈ st.news) (h : Ev C E (call (.ref 221) [.ref x]) st fun r st' => ∃ b, r = .bool b ∧ Q b st') : Ev C E (truthy (.ref x)) st Q := fun s H =>
  truthy_K H.F C.T.X (H.inst hx hd) (by kernel_rfl!) (by kernel_rfl!) (L1q h (fun r st' s' H' q => by
    obtain ⟨b, rfl, q⟩ := q
    exact ⟨st', H'.toHeld, q⟩) H)
theorem o_bool_inst {Q : Value → St → Prop} (hr : 0 < C.room) (hx : (x, instObj HS dx) ∈ st.news) (hd : (dx, dictOf es n) ∈ st.news) (h : Ev (C.j2 hr) E (call (.ref 221) [.ref x]) st fun r st' => ∃ b, r = .bool b ∧ Q (.bool b) st') : Ev C E (call (.type "bool") [.ref x]) st Q := fun s H =>
  call_bool_wp (truthy_K H.F C.T.X (H.inst hx hd) (by kernel_rfl!) (by kernel_rfl!) (in_ev h H fun r st' s' H' q => by
    obtain ⟨b, rfl, q⟩ := q
    exact ⟨st', H'.toHeld, q⟩))
theorem o_len_inst {Q : Value → St → Prop} (hr : 0 < C.room) (hx : (x, instObj HS dx) ∈ st.news) (hd : (dx, dictOf es n) ∈ st.news) (h : Ev (C.j1 hr) E (call (.ref 207) [.ref x]) st fun r st' => ∃ (k : Nat) (t : Tok), r = .int k t ∧ k < 2 ^ 60 ∧ ∀ t, Q (.int k t) st') : Ev C E (call (.builtin "len") [.ref x]) st Q := fun s H =>
  len_K H.F C.T.X (H.inst hx hd) (by kernel_rfl!) (by kernel_rfl!) (in_ev h H fun r st' s' H' q => by
    obtain ⟨k, t, rfl, hk, q⟩ := q
    exact ⟨⟨by omega, by omega⟩, st', H'.toHeld.tok, q _⟩)
theorem o_sub_inst {value slice : PySem.Expr} {i : Value} {Q : Value → St → Prop} (hr : 0 < C.room) (hx : (x, instObj HS dx) ∈ st.news) (hd : (dx, dictOf es n) ∈ st.news) (h : Ev (C.j1 hr) E (call (.ref 179) [.ref x, i]) st Q)
    (hs : subscripted slice true (.ref x) i = runValue (.builtin "lifetime.subscript" ⟨[.ref x, i], []⟩)) : Ev C E (subscriptTail value slice (.ref x) i) st Q := fun s H =>
  sub_K H.F C.T.X (H.inst hx hd) (by kernel_rfl!) (by kernel_rfl!) (by kernel_rfl!) (in_ev h H fun r st' s' H' q => ⟨st', H'.toHeld, q⟩) hs
theorem o_setitem_inst {i v : Value} {Q : Unit → St → Prop} (hx : (x, instObj HS dx) ∈ st.news) (hd : (dx, dictOf es n) ∈ st.news) (h : Ev C E (call (.ref 193) [.ref x, i, v]) st fun _ st' => Q () st') : Ev C E (setItem (.ref x) i v) st Q := fun s H =>
  ksp_setItem H.F C.T.X (H.inst hx hd) (by kernel_rfl!) (by kernel_rfl!) (by kernel_rfl!) (h s H)
theorem o_delitem_inst {i : Value} {Q : Unit → St → Prop} (hx : (x, instObj HS dx) ∈ st.news) (hd : (dx, dictOf es n) ∈ st.news) (h : Ev C E (call (.ref 186) [.ref x, i]) st fun _ st' => Q () st') : Ev C E (delItem (.ref x) i) st Q := fun s H => by
  have X := C.T.X.keeps H.F.keep
  have I := H.inst hx hd
  unfold delItem sequenceKey
  refine wpAny_holding (wpAny_bind (wpAny_bind (I.type.here ?_)))
  refine wpAny_bind ((anyM_none X (C := HS) (by kernel_rfl!)).here ?_)
  rw [if_pos (show (!false) = true from rfl)]
  exact wpAny_pure (wpAny_bind (special_fn (f := 186) X I (by kernel_rfl!) (by kernel_rfl!) (wpAny_mono (h s H) (fun _ _ z => wpAny_pure z) fun _ _ z => z)))
end
end
end Mine
end
section
open PySem PySem.W PyProof.Rows PySem.Calls PySem.Spec
namespace Mine
section
variable {C : Cx} {E : Value → Shared → Prop} {st : St}
theorem o_iter_list {l : Addr} {vs : List Value} {n : Nat} {Q : Value → St → Prop} (hm : (l, lst vs n) ∈ st.news) (h : ∀ I, Q (.ref I) ⟨st.m, (I, litObj l) :: st.news⟩) : Ev C E (call (.builtin "iter") [.ref l]) st Q := fun s H => by
  refine call_function_entry (by decide +kernel) (by decide +kernel) kdk_entry_iter (kdk_args_iter _) ?_
  unfold Builtin.«iter»
  refine wpAny_bind (m := someArgs "iter" 1 2 _) (wpAny_of_eq (a := [Value.ref l]) (by first | rfl | kernel_rfl!) ?_)
  show wpAny _ _ (pyIter (.ref l) >>= _) _ _ _
  refine wpAny_bind (wpAny_pyIter_list (isList_of (H.get hm)) ?_)
  exact wpAny_pure ⟨_, rfl, _, H.toHeld.alloc (tk := s.toks) rfl, h _⟩
theorem x_for_seq {x : Str} {px pos : Pos} {iter : Expr} {body : List Stmt} {env : Env} {Q : Flow → St → Prop}
    (h : Ev C E (eval iter env) st fun v st₁ => ∃ l ob vs k Inv, v = .ref l ∧ (ob = lst vs k ∨ ob = tup vs k) ∧ (l, ob) ∈ st₁.news ∧ LoopL C env x body Q (fun i v => vs[i]? = some v) vs.length [(l, ob)] st₁ Inv)
    (hs : ∀ x, foldedSetIterable iter env x = pure x) (hL : env.locals = C.L) (hl : env.kindOf x = some .local) (hk : env.scope.kind = .function) : Ev C E (exec (.For (.Name x px) iter body [] pos) env) st Q := by
  intro s H
  refine wpAny_For (L1q h (fun v st₁ s₁ H₁ h₁ => ?_) H) hs
  obtain ⟨l, ob, vs, k, Inv, rfl, hob, hm, L⟩ := h₁
  obtain ⟨news0, hs0, h00⟩ := L.start
  have hl₁ := (H₁.at hm).1
  have hne : l ≠ s₁.heap.objs.size := Nat.ne_of_lt (Heap.lt_size hl₁)
  rcases hob with rfl | rfl
  · refine wpAny_pyIter_list (isList_of hl₁) ?_
    have H₂ := H₁.alloc (o := { cls := .type "list_iterator", data := .fields #[.ref l, .int 0 0] }) rfl
    exact for_walk (n := vs.length) (St' := fun i h => h.IsListIter s₁.heap.objs.size l i ∧ h.IsList l vs.toArray) (fp := [s₁.heap.objs.size, l]) (P := fun i v => vs.toArray[i]? = some v) (fun A' hA => by
        have W := Walks.list (prog := prog) (w := C.w) hA s₁.heap.objs.size l hne vs.toArray
        rwa [List.size_toArray] at W) (fun i h st => let ⟨o, e, _⟩ := st.1; ⟨o, e⟩) Inv [(l, lst vs k)] L.src (fun b hb => by
        rcases List.mem_cons.mp hb with rfl | hb
        · exact .inl rfl
        · exact .inr (.inl ⟨_, by rw [List.mem_singleton.mp hb]; exact .head _⟩)) h00 (fun i v st₂ oI hi hP hI => L.turn i v st₂ _ oI hi (by simpa using hP) hI) L.done hL hl hk (H₂.sub (Sub.cons₂ _ hs0))
        ⟨⟨_, Heap.get?_push_size _ rfl, rfl, rfl⟩, (isList_of hl₁).push _⟩
  · have ht : s₁.heap.IsTuple l vs.toArray := ⟨_, hl₁, rfl, _, rfl⟩
    refine wpAny_pyIter_tuple ht ?_
    have H₂ := H₁.alloc (o := { cls := .type "tuple_iterator", data := .fields #[.ref l, .int 0 0] }) rfl
    exact for_walk (n := vs.length) (St' := fun i h => h.IsTupleIter s₁.heap.objs.size l i ∧ h.IsTuple l vs.toArray) (fp := [s₁.heap.objs.size, l]) (P := fun i v => vs.toArray[i]? = some v) (fun A' hA => by
        have W := Walks.tuple (prog := prog) (w := C.w) hA s₁.heap.objs.size l hne vs.toArray
        rwa [List.size_toArray] at W) (fun i h st => let ⟨o, e, _⟩ := st.1; ⟨o, e⟩) Inv [(l, tup vs k)] L.src (fun b hb => by
        rcases List.mem_cons.mp hb with rfl | hb
        · exact .inl rfl
        · exact .inr (.inl ⟨_, by rw [List.mem_singleton.mp hb]; exact .head _⟩)) h00 (fun i v st₂ oI hi hP hI => L.turn i v st₂ _ oI hi (by simpa using hP) hI) L.done hL hl hk (H₂.sub (Sub.cons₂ _ hs0))
        ⟨⟨_, Heap.get?_push_size _ rfl, rfl, rfl⟩, ht.push _⟩
theorem ext_loop {m : List (Str × Value)} {r : Led} {hl S I : Addr} {vs : List Value} {k c : Nat} {oI : Obj} {s : Shared} {R : Result → Shared → Prop} (H : Holds C ⟨m, (I, oI) :: (S, lst [] c) :: r⟩ s) (hoi : oI.cls = .type "list_iterator" ∧ oI.data = .fields #[.ref hl, .int 0 0]) (hm : (hl, lst vs k) ∈ r) (hz : vs.length ≤ 1000)
    (h : ∀ s' c', Held C ⟨m, (S, lst vs c') :: r⟩ s' → R (.ok (.ret .none)) s') : codeAny (model prog C.w) C.A.in1 (.builtin "list.extend.loop" ⟨[.ref S, .ref I, .none], []⟩) R s := by
  have hI := H.get (.head _)
  have hS := H.get (.tail _ (.head _))
  have hl' := H.get (.tail _ (.tail _ hm))
  obtain ⟨δ, D⟩ := H.ex
  have nd := D.nd
  simp only [List.cons_append, List.map_cons, List.nodup_cons, List.mem_cons, not_or] at nd
  have hmr : hl ∈ (r ++ tabsOf δ).map (·.1) := List.mem_map_of_mem (f := fun p : Addr × Obj => p.1) (List.mem_append_left _ hm)
  have hne : hl ≠ I := fun e => nd.1.2 (e ▸ hmr)
  have hSI : S ≠ I := fun e => nd.1.1 e.symm
  have hSl : S ≠ hl := fun e => nd.2.1 (e ▸ hmr)
  have W := Walks.list (prog := prog) (w := C.w) (A := C.A.in1.in1) C.hh I hl hne vs.toArray
  rw [show vs.toArray.size = vs.length from List.size_toArray (as := vs)] at W
  refine codeAny_extend_loopS W.toS (by rw [sizeLine_eq]; omega) S (by simp only [List.mem_cons, List.not_mem_nil, or_false, not_or]; exact ⟨hSI, hSl⟩) .none vs.length 0 s #[] c (by omega) (Nat.zero_le _) ⟨⟨_, hI, hoi.1, hoi.2⟩, isList_of hl'⟩ hS (ItemsOf.nil _) fun s' acc' c' hmv hS' hacc => ?_
  have e : acc' = vs.toArray := by
    apply Array.ext_getElem?
    intro j
    rcases Nat.lt_or_ge j vs.length with hj | hj
    · have hj' : j < acc'.size := by rw [hacc.1]; exact hj
      have := hacc.2 j acc'[j] (Array.getElem?_eq_getElem hj')
      rw [Array.getElem?_eq_getElem hj']
      exact this.symm
    · rw [Array.getElem?_eq_none (by rw [hacc.1]; exact hj), Array.getElem?_eq_none (by rw [List.size_toArray (as := vs)]; exact hj)]
  subst e
  have D' := mv_held (own := [I, S]) (wr := [I, S]) (X := [(I, oI), (S, lst [] c)]) (r := r) (s' := s') D (Held.apart (X := [(I, oI), (S, lst [] c)]) D rfl) ⟨fun b o hb e => hmv.heap b o (fun hb' => hb (by
    rcases List.mem_cons.mp hb' with rfl | hb'
    · exact .tail _ (.head _)
    · rw [List.mem_singleton.mp hb']; exact .head _)) e, hmv.os, fun g => by rw [show s'.gens = s.gens from hmv.gens]; exact g, fun k _ => by rw [show s'.gens = s.gens from hmv.gens]⟩ fun _ h => h
  refine h s' c' ?_
  have hsub : Sub ((S, lst vs c') :: r) (ownOf s'.heap [I, S] ++ r) := by
    have e1 : ownOf s'.heap [S] = [(S, lst vs c')] := by simp only [ownOf, hS']
    cases q : s'.heap.get? I with
    | none =>
      have e2 : ownOf s'.heap [I, S] = [(S, lst vs c')] := by rw [← e1]; conv => lhs; unfold ownOf; rw [q]
      rw [e2]; exact Sub.refl _
    | some o =>
      have e2 : ownOf s'.heap [I, S] = (I, o) :: [(S, lst vs c')] := by rw [← e1]; conv => lhs; unfold ownOf; rw [q]
      rw [e2]; exact Sub.cons _ (Sub.refl _)
  exact (show Held C _ _ from ⟨δ, D'⟩).sub hsub
section
variable {x dx : Addr} {es : List DictEntry} {n : Nat}
/-- list of a HeaderSet: its iterator is one over the list hl -/
theorem o_list_inst {hl : Addr} {vs : List Value} {k : Nat} {Q : Value → St → Prop} (hr : 0 < C.room) (hx : (x, instObj HS dx) ∈ st.news) (hd : (dx, dictOf es n) ∈ st.news) (hm : (hl, lst vs k) ∈ st.news) (hz : vs.length ≤ 1000)
    (hit : ∀ S c, Ev (C.j2 hr) NoE (call (.ref 214) [.ref x]) ⟨st.m, (S, lst [] c) :: st.news⟩ fun v st' => ∃ I, v = .ref I ∧ st' = ⟨st.m, (I, litObj hl) :: (S, lst [] c) :: st.news⟩)
    (hlen : ∀ S c I, Ev (C.j3 hr) NoE (call (.ref 207) [.ref x]) ⟨st.m, (I, litObj hl) :: (S, lst [] c) :: st.news⟩ fun v st' => ∃ (k : Nat) (t : Tok), v = .int k t ∧ k < 1000 ∧ st' = ⟨st.m, (I, litObj hl) :: (S, lst [] c) :: st.news⟩)
    (h : ∀ r k, Q (.ref r) ⟨st.m, (r, lst vs k) :: st.news⟩) : Ev C E (call (.type "list") [.ref x]) st Q := fun s H => by
  obtain ⟨m, r⟩ := st
  have hxa := H.get hx
  have hneS : x ≠ s.heap.objs.size := Nat.ne_of_lt (Heap.lt_size hxa)
  have H1 := H.alloc (o := lst [] 0) rfl
  generalize hS : s.heap.objs.size = S at *
  refine callType_codes (Q₁ := fun obj s₁ => obj = .ref S ∧ s₁ = { s with heap := s.heap.push { cls := .type "list", data := .seq #[] } }) PySem.F.called_list (PySem.F.typeCall_list_1 _) PySem.F.entry_list_init
    (code_list_new _ ⟨by rw [hS], rfl⟩) fun obj s₁ h₁ => ?_
  obtain ⟨rfl, rfl⟩ := h₁
  refine ⟨⟨_, H1.get (.head _), rfl⟩, PySem.F.args_list_init_2 _ _, ?_⟩
  show wpAny _ C.A.in1.in1 (do let old ← Builtin.List.listItems (.ref S); Builtin.List.listUpdate (.ref S) (fun _ => #[]); letGo old.toList.reverse; Builtin.List.listExtendWith (.ref S) (.ref x) .none) _ _ _
  refine wpAny_bind ?_
  unfold Builtin.List.listItems
  have hS1 := H1.get (.head _)
  dsimp only at hS1
  refine wpAny_bind (wpAny_seqItems hS1 rfl (wpAny_pure ?_))
  show wpAny _ _ (updateSeq S (fun _ => #[]) >>= fun _ => letGo (#[] : Array Value).toList.reverse >>= fun _ => Builtin.List.listExtendWith (.ref S) (.ref x) .none) _ _ _
  refine wpAny_bind (wpAny_updateSeq hS1 rfl ?_)
  have hS2 := PySem.IsL.update (n := 0) hS1 (fun _ => #[])
  replace hS2 : ((s.heap.push (lst [] 0)).update S (Obj.mapSeq fun _ => #[])).get? S = some (lst [] 0) := hS2
  have H2 : Holds C ⟨m, (S, lst [] 0) :: r⟩ _ := ⟨H1.toHeld.write (tk := s.toks) .head (Heap.SameBut.update ..) hS2, H1.tp, by have := H1.sz; dsimp only at this ⊢; rw [Heap.size_update]; exact this⟩
  generalize (s.heap.push _).update S _ = hp2 at *
  refine wpAny_bind (wpAny_letGo ?_)
  have I2 := H2.inst (x := x) (dx := dx) (.tail _ hx) (.tail _ hd)
  have X2 := C.T.X.keeps H2.F.keep
  unfold Builtin.List.listExtendWith
  refine wpAny_bind (I2.type.here ?_)
  have hsr : Builtin.List.listSameRef (.ref S) (.ref x) = false := by simp [Builtin.List.listSameRef]; exact fun e => hneS e.symm
  have hq1 : (Value.ref HS == Value.type "list") = false := by rfl
  have hq2 : (Value.ref HS == Value.type "tuple") = false := by rfl
  simp only [hsr, hq1, hq2, Bool.or_false, Bool.false_eq_true, if_false]
  refine wpAny_bind (owit_iter H2.F C.T.X I2 (f := 214) (by kernel_rfl!) (by kernel_rfl!) (in_ev (hit S 0).any H2 fun v st3 s3 H3 q => ?_))
  obtain ⟨I, rfl, rfl⟩ := q
  unfold OwitIt
  refine wpAny_specialOf (T := "list_iterator") ⟨_, H3.get (.head _), rfl⟩ slot_listiter_next.lookup ?_
  refine wpAny_bind (wpAny_holding ?_)
  have I3 := H3.inst (x := x) (dx := dx) (.tail _ (.tail _ hx)) (.tail _ (.tail _ hd))
  have X3 := C.T.X.keeps H3.F.keep
  unfold Builtin.List.listLengthHint
  refine wpAny_bind (wpAny_bind (I3.type.here ((looks_findIn X3 (show findIn (KF C.w) (.ref HS) "__len__" = some (some (.ref 207)) by kernel_rfl!)).here ?_)))
  dsimp only
  refine wpAny_ite_split (fun hab => absurd hab Bool.false_ne_true) (fun _ => ?_)
  refine wpAny_ite_split (fun _ => ?_) (fun hab => absurd rfl hab)
  refine wpAny_bind (wpAny_rule ?_)
  refine wpAny_bind (wpAny_attempt ?_)
  refine len_K H3.F C.T.X I3 (f := 207) (by kernel_rfl!) (by kernel_rfl!) (in_ev (hlen S 0 I).any H3 fun v st4 s4 H4 q => ?_)
  obtain ⟨kk, t, rfl, hk1, rfl⟩ := q
  refine ⟨⟨by omega, by omega⟩, ?_⟩
  have H5 : Holds C _ { s4 with toks := s4.toks + 1 } := ⟨H4.toHeld.tok, Nat.lt_succ_of_lt H4.tp, H4.sz⟩
  generalize ({ s4 with toks := s4.toks + 1 } : Shared) = s5 at *
  refine wpAny_bind (wpAny_pure ?_)
  have key : ∀ (s6 : Shared) (c : Nat), Holds C ⟨m, (I, litObj hl) :: (S, lst [] c) :: r⟩ s6 → wpAny (model prog C.w) C.A.in1.in1 (again (.builtin "list.extend.loop" ⟨[.ref S, .ref I, .none], []⟩)) (fun fin s' => match fin with | .done f => wants (fun r s₂ => r = Value.none ∧ ∃ st', Held C st' s₂ ∧ Q (.ref S) st') E (.ok f) s' | .again c' => c'.quiet = true ∧ codeAny (model prog C.w) C.A.in1 c' (wants (fun r s₂ => r = Value.none ∧ ∃ st', Held C st' s₂ ∧ Q (.ref S) st') E) s') (fun e s' => wants (fun r s₂ => r = Value.none ∧ ∃ st', Held C st' s₂ ∧ Q (.ref S) st') E (.error e) s') s6 := fun s6 c H6 =>
    wpAny_pure ⟨plainId_quiet PySem.F.plain_extend_loop _, ext_loop H6 ⟨rfl, rfl⟩ hm hz fun s' c' H' => ⟨rfl, _, H', h S c'⟩⟩
  dsimp only
  refine wpAny_ite_split (fun hab => absurd hab (by simp [Builtin.List.listTooLong, sizeLine_eq]; omega)) (fun _ => wpAny_pure ?_)
  refine wpAny_ite_split (fun _ => ?_) (fun _ => key _ 0 H5)
  refine wpAny_bind (wpAny_rule ?_)
  refine wpAny_bind ?_
  show wpAny _ _ (updateSeq S (·.push .none) >>= fun _ => updateSeq S (·.pop)) _ _ _
  have hS5 := H5.get (.tail _ (.head _))
  refine wpAny_bind (wpAny_updateSeq hS5 rfl ?_)
  have hS6 : (s5.heap.update S (Obj.mapSeq (·.push Value.none))).get? S = some (lst [.none] 1) := PySem.IsL.update (n := 0) hS5 (·.push Value.none)
  have H6 : Holds C ⟨m, (I, litObj hl) :: (S, lst [.none] 1) :: r⟩ { s5 with heap := s5.heap.update S (Obj.mapSeq (·.push Value.none)) } := ⟨H5.toHeld.write (tk := s5.toks) (.tail .head) (Heap.SameBut.update ..) hS6, H5.tp, by have := H5.sz; dsimp only; rw [Heap.size_update]; exact this⟩
  refine wpAny_updateSeq (hz := by seq_fits) hS6 rfl ?_
  have hS7 : ((s5.heap.update S (Obj.mapSeq (·.push Value.none))).update S (Obj.mapSeq (·.pop))).get? S = some (lst [] 2) := PySem.IsL.update (n := 1) hS6 (·.pop)
  exact key _ 2 ⟨H6.toHeld.write (tk := s5.toks) (.tail .head) (Heap.SameBut.update ..) hS7, H6.tp, by have := H6.sz; dsimp only at this ⊢; rw [Heap.size_update]; exact this⟩
end
end
end Mine
end
section
open PySem PySem.W PyProof.Rows PySem.Calls PySem.Spec
namespace Mine
theorem IxA.ints {vs : List Value} {ns : List Int} (h : IxA vs ns) : IntsAre vs ns := by
  induction h with
  | nil => exact .nil
  | cons h ih => exact .cons _ _ ih
/-- what a deed answers -/
inductive Ans where
  | none
  | txt (x : Str)
  | int (i : Int)
  | bool (b : Bool)
def Ans.is : Ans → Value → Prop
  | .none, v => v = .none
  | .txt x, v => ∃ t, v = .str x t
  | .int i, v => ∃ t, v = .int i t
  | .bool b, v => v = .bool b
def Ans.isBool : Ans → Bool
  | .bool _ => true
  | _ => false
section
variable {C : Cx} {E : Value → Shared → Prop} {st : St}
theorem o_in_ints {l : Addr} {vs : List Value} {n : Nat} {ns : List Int} {k : Int} {t : Tok} {Q : Value → St → Prop} (hl : (l, lst vs n) ∈ st.news) (hx : IxA vs ns) (h : Q (.bool (ns.any (· == k))) st) : Ev C E (compareOp .In (.int k t) (.ref l)) st Q := fun s H =>
  in_list_ints (isList_of (H.get hl)) hx.ints ⟨st, H.toHeld, h⟩
theorem o_ne_bools {a b : Bool} {Q : Value → St → Prop} (h : Q (.bool (!(a == b))) st) : Ev C E (compareOp .NotEq (.bool a) (.bool b)) st Q := fun s H =>
  SeqAt.RcNeAt.bool_bool a b prog C.w E _ ⟨st, H.toHeld, h⟩
theorem o_ne_ans {a : Ans} {v v' : Value} {Q : Value → St → Prop} (h1 : a.is v) (h2 : a.is v') (h : Q (.bool false) st) : Ev C E (compareOp .NotEq v v') st Q := by
  cases a with
  | none => cases h1; cases h2; exact fun s H => PySem.EqNone.ne_none_none ⟨st, H.toHeld, h⟩
  | txt x =>
    obtain ⟨t, rfl⟩ := h1; obtain ⟨u, rfl⟩ := h2
    exact o_ne_str (by simpa using h)
  | int x =>
    obtain ⟨t, rfl⟩ := h1; obtain ⟨u, rfl⟩ := h2
    exact o_ne_int (by simpa using h)
  | bool b => cases h1; cases h2; exact o_ne_bools (by simpa using h)
theorem o_isbool_ans {a : Ans} {v : Value} {Q : Value → St → Prop} (h1 : a.is v) (h : Q (.bool a.isBool) st) : Ev C E (call (.builtin "isinstance") [v, .type "bool"]) st Q := by
  cases a with
  | none => cases h1; exact fun s H => IsiPair.NoneType_bool ⟨st, H.toHeld.tok, h⟩
  | txt x => obtain ⟨t, rfl⟩ := h1; exact fun s H => IsiPair.str_bool ⟨st, H.toHeld.tok, h⟩
  | int x => obtain ⟨t, rfl⟩ := h1; exact fun s H => IsiPair.int_bool ⟨st, H.toHeld.tok, h⟩
  | bool b => cases h1; exact fun s H => IsiPair.bool_bool ⟨st, H.toHeld, h⟩
theorem o_isinst_HS {x dx : Addr} {es : List DictEntry} {n : Nat} {Q : Value → St → Prop} (hx : (x, instObj HS dx) ∈ st.news) (hd : (dx, dictOf es n) ∈ st.news) (h : Q (.bool true) st) : Ev C E (call (.builtin "isinstance") [.ref x, .ref HS]) st Q := fun s H =>
  isi_call (K := KF C.w) (C.T.X.keeps H.F.keep) (fun M => (H.inst hx hd).type) (by kernel_rfl!) (by intro e; cases e) ⟨st, H.toHeld, h⟩
theorem x_tup4 {env : Env} {a b c d : Str} {pa pb pc pd : Pos} {k : Nat} {tpos pos : Pos} {value : Expr} {Q : Flow → St → Prop} (h : Ev C E (eval value env) st fun v st₁ => ∃ t x y z u n, v = .ref t ∧ (t, tup [x, y, z, u] n) ∈ st₁.news ∧ Q .next ⟨put d u (put c z (put b y (put a x st₁.m))), st₁.news⟩)
    (hs : swapsWithSole [.Tuple [.Name a pa, .Name b pb, .Name c pc, .Name d pd] k tpos] value pos.line env = pure false) (hw : swappedStores [.Tuple [.Name a pa, .Name b pb, .Name c pc, .Name d pd] k tpos] value env = pure none) (hL : env.locals = C.L) (hla : env.kindOf a = some .local) (hlb : env.kindOf b = some .local) (hlc : env.kindOf c = some .local) (hld : env.kindOf d = some .local) (hk : env.scope.kind = .function) :
    Ev C E (exec (.Assign [.Tuple [.Name a pa, .Name b pb, .Name c pc, .Name d pd] k tpos] value pos) env) st Q := fun s H => by
  refine PyProof.Rows.Assign_Tuple (L1q h (fun v st₁ s₁ H₁ h₁ => ?_) H) hs hw
  obtain ⟨t, x, y, z, u, n, rfl, hm, hq⟩ := h₁
  have ht : IsTup s₁.heap t #[x, y, z, u] := ⟨_, H₁.get hm, rfl, _, rfl⟩
  refine unpackN_ H₁.F H₁.N ht C.hh (by rfl) (by rfl) fun h' F N => ?_
  have H₂ : Held C st₁ { s₁ with heap := h' } := H₁.toHeld.upd (tk := s₁.toks) F N H₁.nd
  show wpAny _ _ (assignInOrder [assign (.Name a pa) env, assign (.Name b pb) env, assign (.Name c pc) env, assign (.Name d pd) env] [x, y, z, u]) _ _ _
  refine assignInOrder_cons (PyProof.Rows.assign_Name (wp_store H₂ hL hla hk fun s₂ H₃ => ?_))
  refine assignInOrder_cons (PyProof.Rows.assign_Name (wp_store H₃ hL hlb hk fun s₃ H₄ => ?_))
  refine assignInOrder_cons (PyProof.Rows.assign_Name (wp_store H₄ hL hlc hk fun s₄ H₅ => ?_))
  refine assignInOrder_cons (PyProof.Rows.assign_Name (wp_store H₅ hL hld hk fun s₅ H₆ => ?_))
  exact assignInOrder_nil ⟨_, H₆, hq⟩
theorem xs_tryS {body : List Stmt} {h₀ : ExceptHandler} {hs : List ExceptHandler} {pos : Pos} {Q : Cx → Flow → St → Prop} {QX : String → St → Prop} {name : Str} {scope : Scope} {a' : Addr} {cd : Value} (he : C.env = envOf name scope C.L a' cd) (hA : C.A = C.A₀.deeper C.env)
    (hb : EvS C (fun e s' => ∃ X st₂, Raised C st₂ X e s' ∧ QX X st₂) (execs body C.env) st Q)
    (hx : ∀ X st₂ e s', QX X st₂ → Raised C st₂ X e s' → wpAny (model prog C.w) C.A (handleBy e C.env (h₀ :: hs)) (PostS C Q) E s') :
    EvS C E (exec (.Try body (h₀ :: hs) [] [] pos) C.env) st Q := fun s H => by
  refine wpAny_Try_except (wpAny_mono (hb s H) (fun f s₁ hq => ?_) fun e s₁ hq => ?_)
  · obtain ⟨C₂, st', T, H', q⟩ := hq
    cases f <;> first | exact ⟨C₂, st', T, H', q⟩ | exact wpAny_execs_nil ⟨C₂, st', T, H', q⟩
  · obtain ⟨X, st₂, R, q⟩ := hq
    exact wp_look he hA R fun s' R' => hx X st₂ e s' q R'
theorem es_method {env : Env} {o : Expr} {name : Str} {apos pos : Pos} {args : List Expr} {Q : Cx → Value → St → Prop}
    (h : Ev C E (eval o env) st fun ov st₁ => ∀ pl : Sem Bool, Ev C E (getMethod ov name pl) st₁ fun fx st₂ => EvS C E (callWith pos fx.1 fx.2 (backTo pos (starEach args env)) []) st₂ Q)
    (he : (plainBase o && noStar args && decide (args.length < 30) && (apos.endLine == pos.line)) = true) : EvS C E (eval (.Call (.Attribute o name apos) args [] pos) env) st Q := by
  simp only [Bool.and_eq_true, decide_eq_true_eq] at he
  obtain ⟨⟨⟨h1, h2⟩, h3⟩, h4⟩ := he
  intro s H
  refine MethodCall_ (pl := do return (← importBound o env).getD true) (L1q h (fun ov st₁ s₁ H₁ h₁ => L1q (h₁ _) (fun fx st₂ s₂ H₂ h₂ => h₂ s₂ H₂) H₁) H) ?_
  show (do
    let ov ← attributeBase o name env (eval o env)
    standAt apos.atName
    methodCall o name apos pos env ov (args.length + ([] : List Keyword).length) (backTo pos (starEach args env)) (backToKw pos (keywordEach [] env))) = _
  have hf : methodCallForm (args.length + ([] : List Keyword).length) (backTo pos (starEach args env)) (backToKw pos (keywordEach [] env)) = true := by
    have hp := backTo_plain pos env h2
    rw [List.any_eq_false] at hp
    unfold methodCallForm
    have hall : (backTo pos (starEach args env)).all (!·.1) = true := by rw [List.all_eq_true]; intro x hx; simpa using hp x hx
    rw [hall]
    have e0 : backToKw pos (keywordEach [] env) = [] := rfl
    rw [e0]
    simpa using h3
  rw [attributeBase_plain h1]
  unfold methodCall
  rw [hf]
  unfold methodCallPos calleeOf
  simp only [h4, Bool.not_true, Bool.false_or, if_true, pure_bind]
  rfl
theorem xs_if {env : Env} {test body orelse pos} {Q : Cx → Flow → St → Prop} (h : Ev C E (isTrue test env (eval test env)) st fun b st' => if b then EvS C E (execs body env) st' Q else EvS C E (execs orelse env) st' Q) : EvS C E (exec (.If test body orelse pos) env) st Q :=
  fun s H => wpAny_If (L1q h (fun c st₁ s₁ H₁ h₁ => by cases c <;> exact h₁ s₁ H₁) H)
theorem xs_first {env : Env} {x : Stmt} {rest : List Stmt} {Q : Cx → Flow → St → Prop} (h : Ev C E (exec x env) st fun f st' => match f with | .next => EvS C E (execs rest env) st' Q | f => Q C f st') : EvS C E (execs (x :: rest) env) st Q :=
  xs_cons (.of h)
end
end Mine
end
section
open PySem PySem.W PyProof.Rows PySem.Calls PySem.Spec
open PySem.AutoSeq1 (wpAny_loadPart')
namespace Mine
abbrev mapObj (T : Addr) (f : Value) : Obj := { cls := .type "map", data := .fields #[.ref T, f] }
theorem mro_map : mroOf (.type "map") = pure [.type "map", .type "object"] := by rw [mroOf_type]; kernel_rfl
theorem called_map : TypeCalled "map" "map.__new__" "object.__init__" :=
  ⟨by decide +kernel, by decide +kernel, ⟨_, _, mro_map⟩, madeBy_type mro_map (by rw [typeLookup_type, builtinLookup_eq_fast]; kernel_rfl) (by decide +kernel), by decide +kernel, by rw [isSubtype_type]; kernel_rfl, .of (owner := "object") (n := "__init__") (by rw [typeLookup_type, builtinLookup_eq_fast]; kernel_rfl) (by decide +kernel) (by decide +kernel) (by decide +kernel)
    (by first | exact .inl (by decide +kernel) | exact .inr (by decide +kernel)) (by rw [isSubtype_type]; kernel_rfl)⟩
theorem typeCall_map_2 (a b : Value) : checkTypeCall "map" ⟨[a, b], []⟩ = pure () := by kernel_rfl
theorem newCall_map_2 (a b : Value) : checkBuiltinCall "map.__new__" ⟨[.type "map", a, b], []⟩ = pure () := by kernel_rfl
theorem entry_map_new : entryFor table "map.__new__" = some Builtin.«map.__new__» := entryFor_of_tree (by kernel_rfl)
theorem entry_map_next : entryFor table "map.__next__" = some Builtin.«map.__next__» := entryFor_of_tree (by kernel_rfl)
theorem entry_map_iter : entryFor table "map.__iter__" = some Builtin.«dict_keyiterator.__iter__» :=
  entryFor_alias (id' := "dict_keyiterator.__iter__") (by kernel_rfl) (by first | rfl | decide +kernel | (unfold String.splitOn; simp +decide [String.splitOnAux])) (by decide +kernel) (by kernel_rfl)
theorem slot_map_next : Slot "map" "__next__" "map.__next__" :=
  .of (owner := "map") (n := "__next__") (by rw [typeLookup_type, builtinLookup_eq_fast]; kernel_rfl) (by decide +kernel) (by decide +kernel) (by decide +kernel)
    (by first | exact .inl (by decide +kernel) | exact .inr (by decide +kernel)) (by rw [isSubtype_type]; kernel_rfl)
theorem slot_map_iter : Slot "map" "__iter__" "map.__iter__" :=
  .of (owner := "map") (n := "__iter__") (by rw [typeLookup_type, builtinLookup_eq_fast]; kernel_rfl) (by decide +kernel) (by decide +kernel) (by decide +kernel)
    (by first | exact .inl (by decide +kernel) | exact .inr (by decide +kernel)) (by rw [isSubtype_type]; kernel_rfl)
theorem map_no_len : typeLookup (.type "map") "__len__" = pure none := by rw [typeLookup_type, builtinLookup_eq_fast]; kernel_rfl
theorem map_no_hint : typeLookup (.type "map") "__length_hint__" = pure none := by rw [typeLookup_type, builtinLookup_eq_fast]; kernel_rfl
theorem args_object_init_3 (a b c : Value) : argsOk "object.__init__" ⟨[a, b, c], []⟩ := by
  unfold argsOk; kernel_rfl
theorem args_map_next (a : Value) : argsOk "map.__next__" ⟨[a], []⟩ := by unfold argsOk; kernel_rfl
theorem args_map_iter (a : Value) : argsOk "map.__iter__" ⟨[a], []⟩ := by unfold argsOk; kernel_rfl
theorem sub_map : isSubtype (.type "map") (.type "map") = pure true := by rw [isSubtype_type]; kernel_rfl
theorem meets_map_new (f : Value) (l : Addr) (items : Array Value) (n : Nat) :
    Meets (Builtin.«map.__new__» ⟨[.type "map", f, .ref l], []⟩) (fun _ R s => s.heap.get? l = some { cls := .type "list", dict := none, data := .seq items n, slots := #[] } ∧
      ∀ h1 h2 : Heap, h1 = s.heap.push (litObj l) → h2 = h1.push (tup [.ref s.heap.objs.size] 0) →
      R (.ok (.ret (.ref h2.objs.size))) { s with heap := h2.push (mapObj h1.objs.size f) }) :=
  .of_wp fun prog w A R s h => by
    obtain ⟨hp, g, d, tk, os⟩ := s; obtain ⟨hl, h⟩ := h
    have hsub := sub_map
    have hL : Heap.IsList (Shared.heap ⟨hp, g, d, tk, os⟩) l items := ⟨_, hl, rfl, n, rfl⟩
    wp_walk using wpAny_loadPart' hl, wpAny_pyIter_list hL
    exact ⟨_, rfl, h _ _ rfl rfl⟩
section
variable {w : World} {A : Around} {E : Value → Shared → Prop} {s : Shared}
abbrev litAt (l : Addr) (i : Nat) : Obj := { cls := .type "list_iterator", data := .fields #[.ref l, .int i 0] }
theorem nextL_item {it l : Addr} {i : Nat} {items : Array Value} {x : Value} {Q : Option Value → Shared → Prop} (hit : s.heap.get? it = some (litAt l i)) (hl : s.heap.IsList l items) (hx : items[i]? = some x)
    (hQ : ∀ h', h'.get? it = some (litAt l (i + 1)) → Heap.SameBut it s.heap h' → Q (some x) { s with heap := h' }) : wpAny (model prog w) A (callSpecial? (.ref it) (Str.ofString "__next__")) Q E s := by
  have hit' : s.heap.IsListIter it l i := ⟨_, hit, rfl, rfl⟩
  obtain ⟨ol, hol, _, nl, hdl⟩ := hl
  refine wpAny_callSpecial?_slot (name := Str.ofString "__next__") hit'.typeIs slot_listiter_next
    (wpAny_call_entry slot_listiter_next hit'.typeIs entry_listiter_next ?_ (args_listiter_next _))
  show wpAny _ _ (field (.ref it) 0 >>= _) _ _ s
  refine wpAny_bind (wpAny_field hit rfl (x := .ref l) rfl ?_)
  show wpAny _ _ (if (Value.ref l == Value.none) = true then _ else _) _ _ s
  rw [if_neg (show ¬ ((Value.ref l == Value.none) = true) from Bool.false_ne_true)]
  show wpAny _ _ (field (.ref it) 1 >>= _) _ _ s
  refine wpAny_bind (wpAny_field hit rfl (x := .int i 0) rfl ?_)
  show wpAny _ _ (seqItems? (.ref l) >>= _) _ _ s
  refine wpAny_bind (wpAny_seqItems hol hdl ?_)
  simp only [Int.toNat_natCast, hx]
  refine wpAny_bind (wpAny_setField hit rfl (by simp) (wpAny_pure ⟨x, rfl, hQ _ ?_ (Heap.SameBut.update ..)⟩))
  rw [Heap.get?_update_self _ hit rfl]
  simp [Obj.mapFields, rawInt]
theorem nextL_end {it l : Addr} {i : Nat} {items : Array Value} {Q : Option Value → Shared → Prop} (hh : A.handled = none) (hit : s.heap.get? it = some (litAt l i)) (hl : s.heap.IsList l items) (hx : items[i]? = none)
    (hE : ∀ h' e, Heap.ExtBut it s.heap h' → ({ s with heap := h' } : Shared).TypeIs (.ref e) "StopIteration" → E (.ref e) { s with heap := h' }) : wpAny (model prog w) A (callSpecial? (.ref it) (Str.ofString "__next__")) Q E s := by
  have hit' : s.heap.IsListIter it l i := ⟨_, hit, rfl, rfl⟩
  obtain ⟨ol, hol, _, nl, hdl⟩ := hl
  refine wpAny_callSpecial?_slot (name := Str.ofString "__next__") hit'.typeIs slot_listiter_next
    (wpAny_call_entry slot_listiter_next hit'.typeIs entry_listiter_next ?_ (args_listiter_next _))
  show wpAny _ _ (field (.ref it) 0 >>= _) _ _ s
  refine wpAny_bind (wpAny_field hit rfl (x := .ref l) rfl ?_)
  show wpAny _ _ (if (Value.ref l == Value.none) = true then _ else _) _ _ s
  rw [if_neg (show ¬ ((Value.ref l == Value.none) = true) from Bool.false_ne_true)]
  show wpAny _ _ (field (.ref it) 1 >>= _) _ _ s
  refine wpAny_bind (wpAny_field hit rfl (x := .int i 0) rfl ?_)
  show wpAny _ _ (seqItems? (.ref l) >>= _) _ _ s
  refine wpAny_bind (wpAny_seqItems hol hdl ?_)
  simp only [Int.toNat_natCast, hx]
  refine wpAny_bind (wpAny_rule (wpAny_bind (wpAny_setField hit rfl (by simp) ?_)))
  show wpAny _ _ (newExc (.type "StopIteration") [] >>= _) _ _ _
  refine wpAny_bind ?_
  simp only [newExc, newTuple]
  refine wpAny_bind (wpAny_newObj_type ?_ (by size_fits))
  refine wpAny_bind (m := firstArgMember _ _) (wpAny_of_eq (a := Value.none) (by first | rfl | (simp only [firstArgMember]; rfl)) ?_)
  refine wpAny_newObj_type ?_ (by size_fits)
  simp only [raiseNew]
  refine wpAny_bind (wpAny_handled ?_)
  rw [show A.in1.handled = none from hh]
  refine wpAny_bind (wpAny_pure (wpAny_throw ?_))
  exact hE _ _ (((Heap.SameBut.update ..).extBut.push _).push _) ⟨_, Heap.get?_push_size _ rfl, rfl⟩
theorem map_body {M T I : Addr} {f : Value} {n : Nat} {Q : Fin → Shared → Prop} (hM : s.heap.get? M = some (mapObj T f)) (hT : s.heap.get? T = some (tup [.ref I] n))
    (h : wpAny (model prog w) A (callSpecial? (.ref I) (Str.ofString "__next__")) (fun r s' => ∃ v, r = some v ∧ s'.heap.get? M = some (mapObj T f) ∧ wpAny (model prog w) A (call f [v]) (fun v s'' => Q (.done (.ret v)) s'') E s') E s) :
    wpAny (model prog w) A (Builtin.«map.__next__» ⟨[.ref M], []⟩) Q E s := by
  unfold Builtin.«map.__next__»
  refine wpAny_bind (wpAny_pure ?_)
  refine wpAny_bind (wpAny_field hM rfl (x := .ref T) rfl ?_)
  refine wpAny_bind (wpAny_seqItems hT rfl ?_)
  dsimp only
  rw [← Array.forIn_toList]
  show wpAny _ _ (forIn [Value.ref I] (#[] : Array Value) _ >>= _) _ _ _
  simp only [List.forIn_cons, List.forIn_nil]
  refine wpAny_bind (wpAny_bind (wpAny_bind (wpAny_holding ?_)))
  unfold Builtin.SmallTypes.nextOf
  refine wpAny_bind (wpAny_mono h (fun r s' hr => ?_) fun _ _ e => e)
  obtain ⟨v, rfl, hM', hc⟩ := hr
  refine wpAny_pure (wpAny_pure (wpAny_pure ?_))
  refine wpAny_bind (wpAny_field hM' rfl (x := f) rfl ?_)
  refine wpAny_bind (wpAny_holding (wpAny_mono hc (fun v s'' q => ?_) fun _ _ e => e))
  exact wpAny_bind (wpAny_letGo (wpAny_pure q))
end
end Mine
end
section
open PySem PySem.W PyProof.Rows PySem.Calls PySem.Spec
open Builtin Builtin.Str Builtin.Int
namespace Mine
section
variable {C : Cx} {E : Value → Shared → Prop} {st : St}
theorem o_map {f : Value} {l : Addr} {vs : List Value} {n : Nat} {Q : Value → St → Prop} (hm : (l, lst vs n) ∈ st.news) (h : ∀ M T I, Q (.ref M) ⟨st.m, (M, mapObj T f) :: (T, tup [.ref I] 0) :: (I, litAt l 0) :: st.news⟩) : Ev C E (call (.type "map") [f, .ref l]) st Q := fun s H => by
  refine callType_new called_map (by decide) (typeCall_map_2 _ _) (newCall_map_2 _ _) (fun obj => args_object_init_3 obj _ _) entry_map_new (meets_map_new f l vs.toArray n) ⟨H.get hm, ?_⟩
  rintro h1 h2 rfl rfl
  have H1 := H.alloc (o := litObj l) rfl
  have H2 := H1.alloc (o := tup [.ref s.heap.objs.size] 0) rfl
  have H3 := H2.alloc (o := mapObj (s.heap.push (litObj l)).objs.size f) rfl
  exact ⟨⟨_, H3.get (.head _), rfl⟩, _, H3.toHeld, h _ _ _⟩
theorem Holds.put {m : List (Str × Value)} {r r' : Led} {s : Shared} {h' : Heap} {d : Addr} {o o' : Obj} (H : Holds C ⟨m, r⟩ s) (h : At d o o' r r') (hs : Heap.SameBut d s.heap h') (ho : h'.get? d = some o') : Holds C ⟨m, r'⟩ { s with heap := h' } :=
  ⟨H.toHeld.write (tk := s.toks) h hs ho, H.tp, by rw [show ({ s with heap := h' } : Shared).heap.objs.size = s.heap.objs.size from hs.1]; exact H.sz⟩
theorem Held.drop {m : List (Str × Value)} {X r : Led} {s : Shared} {h' : Heap} {tk : Nat} (H : Held C ⟨m, X ++ r⟩ s) (hk : ∀ b o, b ∉ X.map (·.1) → s.heap.get? b = some o → h'.get? b = some o) : Held C ⟨m, r⟩ { s with heap := h', toks := tk } := by
  obtain ⟨δ, D⟩ := H.ex
  have D' := mv_held (own := X.map (·.1)) (wr := X.map (·.1)) (s' := { s with heap := h', toks := tk }) D (Held.apart D rfl) ⟨hk, rfl, id, fun _ _ => rfl⟩ fun _ h => h
  exact (show Held C _ _ from ⟨δ, D'⟩).sub (sub_right _ _)
theorem map_loop {m : List (Str × Value)} {r : Led} {S M T I l : Addr} {f : Value} {vs : List Value} {xs : List Str} {n : Nat} {g : Str → Str} {R : Result → Shared → Prop} (hr : 0 < C.room) (hx : TxA vs xs) (hz : xs.length ≤ 1000) (hm : (l, lst vs n) ∈ r)
    (hf : ∀ (i : Nat) (x : Str) (t : Tok) (st' : St), xs[i]? = some x → Ev (C.j3 hr) NoE (call f [.str x t]) st' fun v st'' => ∃ t', v = .str (g x) t' ∧ st'' = st')
    (hR : ∀ s' acc c, TxA acc (xs.map g) → Held C ⟨m, (S, lst acc c) :: r⟩ s' → R (.ok (.ret (.ref S))) s') :
    ∀ (k i : Nat) (s : Shared) (acc : List Value) (c : Nat), xs.length - i = k → i ≤ xs.length → TxA acc ((xs.take i).map g) → Holds C ⟨m, (S, lst acc c) :: (M, mapObj T f) :: (T, tup [.ref I] 0) :: (I, litAt l i) :: r⟩ s →
      codeAny (model prog C.w) C.A.in1 (.builtin "list.extend.loop" ⟨[.ref S, .ref M, .ref S], []⟩) R s := by
  intro k
  induction k with
  | zero =>
    intro i s acc c hk hi hacc H
    obtain rfl : i = xs.length := by omega
    have hM := H.get (.tail _ (.head _))
    have hI := H.get (.tail _ (.tail _ (.tail _ (.head _))))
    refine codeAny_builtin PySem.F.entry_extend_loop ?_
    rw [Around.under_plainId PySem.F.plain_extend_loop _]
    show wpAny _ C.A.in1.in1 (pyNext (.ref M) >>= _) _ _ s
    refine wpAny_bind ?_
    unfold pyNext
    refine wpAny_bind (wpAny_attempt (wpAny_callSpecial?_slot (name := Str.ofString "__next__") (T := "map") ⟨_, hM, rfl⟩ slot_map_next
      (wpAny_call_entry slot_map_next ⟨_, hM, rfl⟩ entry_map_next (map_body hM (H.get (.tail _ (.tail _ (.head _)))) ?_) (args_map_next _))))
    refine nextL_end C.hh hI (isList_of (H.get (.tail _ (.tail _ (.tail _ (.tail _ hm)))))) (by simp [hx.length]) fun h' e hs he => ?_
    refine wpAny_bind (wpAny_isInstance (T := "StopIteration") (b := true) he isSubtype_stop ?_)
    refine wpAny_pure (wpAny_pure ?_)
    rw [List.take_length] at hacc
    refine hR _ acc c hacc ?_
    have H1 : Held C ⟨m, [(I, litAt l xs.length)] ++ ((S, lst acc c) :: r)⟩ s := H.toHeld.sub ((Sub.perm (List.Perm.swap _ _ _)).trans (Sub.cons₂ _ (.cons _ (.cons _ (.refl _)))))
    exact H1.drop (tk := s.toks) fun b o hb e => hs b o (fun q => hb (by rw [q]; exact .head _)) e
  | succ k ih =>
    intro i s acc c hk hi hacc H
    have hlt : i < xs.length := by omega
    obtain ⟨t, ht⟩ := hx.get (List.getElem?_eq_getElem hlt)
    have hM := H.get (.tail _ (.head _))
    have hI := H.get (.tail _ (.tail _ (.tail _ (.head _))))
    refine codeAny_builtin PySem.F.entry_extend_loop ?_
    rw [Around.under_plainId PySem.F.plain_extend_loop _]
    show wpAny _ C.A.in1.in1 (pyNext (.ref M) >>= _) _ _ s
    refine wpAny_bind ?_
    unfold pyNext
    refine wpAny_bind (wpAny_attempt (wpAny_callSpecial?_slot (name := Str.ofString "__next__") (T := "map") ⟨_, hM, rfl⟩ slot_map_next
      (wpAny_call_entry slot_map_next ⟨_, hM, rfl⟩ entry_map_next (map_body hM (H.get (.tail _ (.tail _ (.head _)))) ?_) (args_map_next _))))
    refine nextL_item hI (isList_of (H.get (.tail _ (.tail _ (.tail _ (.tail _ hm)))))) (x := .str xs[i] t) (by simpa using ht) fun h' ho' hs => ?_
    have H2 := H.put (.tail (.tail (.tail .head))) hs ho'
    refine ⟨_, rfl, H2.get (.tail _ (.head _)), in_ev (hf i xs[i] t _ (List.getElem?_eq_getElem hlt)).any H2 fun v st'' s'' H'' q => ?_⟩
    obtain ⟨t', rfl, rfl⟩ := q
    refine ⟨_, rfl, wpAny_pure ?_⟩
    show wpAny _ _ (updateSeq S (·.push (Value.str (g xs[i]) t')) >>= _) _ _ _
    have hS := H''.get (.head _)
    have hal : acc.length = i := by rw [hacc.length, List.length_map, List.length_take]; omega
    have e1 : acc.toArray.push (Value.str (g xs[i]) t') = (acc ++ [Value.str (g xs[i]) t']).toArray := by simp
    have hS3 := PySem.IsL.update (n := c) hS (·.push (Value.str (g xs[i]) t'))
    rw [if_neg (by simp)] at hS3
    rw [e1] at hS3
    have H3 := H''.put (.head) (Heap.SameBut.update s''.heap S (Obj.mapSeq (·.push (Value.str (g xs[i]) t')))) hS3
    refine wpAny_bind (wpAny_updateSeq hS rfl (wpAny_pure ⟨plainId_quiet PySem.F.plain_extend_loop _, ih (i + 1) _ (acc ++ [Value.str (g xs[i]) t']) (c + 1) (by omega) hlt ?_ H3⟩) (by rw [List.size_toArray, sizeLine_eq]; omega) (by rw [e1, List.size_toArray, sizeLine_eq]; simp; omega))
    rw [List.take_add_one, List.getElem?_eq_getElem hlt, Option.toList_some, List.map_append, List.map_cons, List.map_nil]
    exact hacc.append (.cons .nil)
theorem map_collect {m : List (Str × Value)} {r : Led} {M T I l : Addr} {f : Value} {vs : List Value} {xs : List Str} {n : Nat} {g : Str → Str} {Q : List Value → Shared → Prop} (hr : 0 < C.room) (hx : TxA vs xs) (hz : xs.length ≤ 1000) (hm : (l, lst vs n) ∈ r)
    (hf : ∀ (i : Nat) (x : Str) (t : Tok) (st' : St), xs[i]? = some x → Ev (C.j3 hr) NoE (call f [.str x t]) st' fun v st'' => ∃ t', v = .str (g x) t' ∧ st'' = st')
    {s : Shared} (H : Holds C ⟨m, (M, mapObj T f) :: (T, tup [.ref I] 0) :: (I, litAt l 0) :: r⟩ s) (hQ : ∀ s' acc, TxA acc (xs.map g) → Held C ⟨m, r⟩ s' → Q acc s') : wpAny (model prog C.w) C.A.in1 (collect (.ref M)) Q E s := by
  have hM := H.get (.head _)
  have hSM : s.heap.objs.size ≠ M := Nat.ne_of_gt (Heap.lt_size hM)
  unfold collect
  refine wpAny_bind (wpAny_runValue (codeAny_builtin PySem.F.entry_proto_collect ?_))
  rw [Around.under_plainId PySem.F.plain_proto_collect _]
  show wpAny _ C.A.in1.in1 (newList [] >>= fun l => again (.builtin "list.__iadd__" ⟨[l, .ref M], []⟩)) _ _ s
  refine wpAny_bind (wpAny_newObj_type ?_)
  have H1 := H.alloc (o := lst [] 0) rfl
  refine wpAny_pure ⟨plainId_quiet PySem.F.plain_list_iadd _, codeAny_builtin PySem.F.entry_list_iadd ?_⟩
  rw [Around.under_plainId PySem.F.plain_list_iadd _]
  generalize s.heap.objs.size = S at *
  show wpAny _ C.A.in1.in1 (Builtin.List.listExtendWith (.ref S) (.ref M) (.ref S)) _ _ _
  have hT : ({ s with heap := s.heap.push (lst [] 0) } : Shared).TypeIs (.ref M) "map" := ⟨_, H1.get (.tail _ (.head _)), rfl⟩
  unfold Builtin.List.listExtendWith
  refine wpAny_bind (wpAny_typeOf (T := "map") hT ?_)
  have h1 : Builtin.List.listSameRef (.ref S) (.ref M) = false := by simp [Builtin.List.listSameRef, hSM]
  have h2 : (Value.type "map" == Value.type "list") = false := by decide
  have h3 : (Value.type "map" == Value.type "tuple") = false := by decide
  simp only [h1, h2, h3, Bool.or_false, Bool.false_eq_true, if_false]
  refine wpAny_bind ?_
  refine wpAny_pyIter_slot hT slot_map_iter (wpAny_call_entry slot_map_iter hT entry_map_iter ?_ (args_map_iter _))
  show wpAny _ _ (pure _) _ _ _
  refine wpAny_pure ⟨_, rfl, "map", _, hT, slot_map_next.lookup, ?_⟩
  refine wpAny_bind (wpAny_holding ?_)
  unfold Builtin.List.listLengthHint
  refine wpAny_bind (wpAny_specialOf hT map_no_len ?_)
  show wpAny _ _ (specialOf (Value.ref M) (Str.ofString "__length_hint__") >>= _) _ _ _
  refine wpAny_bind (wpAny_specialOf hT map_no_hint ?_)
  refine wpAny_pure ?_
  show wpAny _ _ (rule "list.extend.makes-room" >>= fun _ => Builtin.List.listTouch (.ref S) >>= fun _ =>
    again (.builtin "list.extend.loop" ⟨[.ref S, .ref M, .ref S], []⟩)) _ _ _
  refine wpAny_bind (wpAny_rule ?_)
  refine wpAny_bind ?_
  show wpAny _ _ (updateSeq S (·.push .none) >>= fun _ => updateSeq S (·.pop)) _ _ _
  have hS5 := H1.get (.head _)
  dsimp only at hS5
  refine wpAny_bind (wpAny_updateSeq hS5 rfl ?_)
  have hS6 : ((s.heap.push (lst [] 0)).update S (Obj.mapSeq (·.push Value.none))).get? S = some (lst [.none] 1) := PySem.IsL.update (n := 0) hS5 (·.push Value.none)
  have H6 := H1.put .head (Heap.SameBut.update (s.heap.push (lst [] 0)) S (Obj.mapSeq (·.push Value.none))) hS6
  refine wpAny_updateSeq (hz := by seq_fits) hS6 rfl ?_
  have hS7 : (((s.heap.push (lst [] 0)).update S (Obj.mapSeq (·.push Value.none))).update S (Obj.mapSeq (·.pop))).get? S = some (lst [] 2) := PySem.IsL.update (n := 1) hS6 (·.pop)
  have H7 := H6.put .head (Heap.SameBut.update _ S (Obj.mapSeq (·.pop))) hS7
  refine wpAny_pure ⟨plainId_quiet PySem.F.plain_extend_loop _, map_loop (S := S) hr hx hz hm hf ?_ xs.length 0 _ [] 2 (by omega) (Nat.zero_le _) .nil H7⟩
  intro s' acc c hacc H'
  show wpAny _ C.A.in1 (load S >>= _) _ _ s'
  refine wpAny_bind (wpAny_load (H'.get (.head _)) ?_)
  exact wpAny_pure (hQ s' acc hacc (H'.sub (.cons _ (.refl _))))
/-- sep.join(map(f, a list of texts)) -/
theorem m_join_map {x : Str} {tx : Tok} {M T I l : Addr} {f : Value} {vs : List Value} {xs : List Str} {n : Nat} {g : Str → Str} {m : List (Str × Value)} {r : Led} {Q : Value → St → Prop} (hr : 0 < C.room) (hx : TxA vs xs) (hz : xs.length ≤ 1000) (hm : (l, lst vs n) ∈ r)
    (hf : ∀ (i : Nat) (x : Str) (t : Tok) (st' : St), xs[i]? = some x → Ev (C.j3 hr) NoE (call f [.str x t]) st' fun v st'' => ∃ t', v = .str (g x) t' ∧ st'' = st')
    (hok : JoinOk x (xs.map g) = true) (h : ∀ t', Q (.str (Txt.join x (xs.map g)) t') ⟨m, r⟩) : Ev C E (call (.builtin "str.join") [.str x tx, .ref M]) ⟨m, (M, mapObj T f) :: (T, tup [.ref I] 0) :: (I, litAt l 0) :: r⟩ Q := fun s H => by
  have hT : s.TypeIs (.ref M) "map" := ⟨_, H.get (.head _), rfl⟩
  refine wpAny_call (codeAny_call_builtin PySem.F.slot_str_join.plain PySem.F.entry_str_join (PySem.F.slot_str_join.check _ _ _ _ _ _ _ _ (typeIs_str _ _ _) (PySem.F.args_str_join_2 _ _) ?_))
  rw [join_tree_other]
  refine wpAny_bind (wpAny_typeOf hT ?_)
  show wpAny _ C.A.in1 ((pyIter (.ref M)).tryCatch _ >>= fun it => collect it >>= fun items => joinTail x items) _ _ s
  refine wpAny_bind (wpAny_tryCatch ?_)
  refine wpAny_pyIter_slot hT slot_map_iter (wpAny_call_entry slot_map_iter hT entry_map_iter ?_ (args_map_iter _))
  show wpAny _ _ (pure _) _ _ _
  refine wpAny_pure ⟨_, rfl, "map", _, hT, slot_map_next.lookup, ?_⟩
  refine wpAny_bind (map_collect hr hx hz hm hf H fun s' acc hacc H' => ?_)
  obtain ⟨p, rfl, hp⟩ := hacc.strs
  rw [← hp] at hok h
  unfold JoinOk at hok
  rw [Bool.not_eq_true'] at hok
  have gv : Gives (joinTail x (strValues p)) (joinMade x p) := by
    have g0 := gives_joinTail x p hok
    cases p with
    | nil => exact g0
    | cons p r => cases r with
      | nil => exact g0
      | cons q r' => exact g0
  exact gv prog C.w C.A (wants _ E) s' (post_join p ⟨joinFit_length hok, fun t' k => ⟨⟨m, r⟩, H'.tok, h t'⟩⟩)
end
end Mine
end
section
open PySem
namespace Mine
theorem erase_map {α β : Type} (f : α → β) : ∀ (l : List α) (j : Nat), (l.eraseIdx j).map f = (l.map f).eraseIdx j
  | [], _ => rfl
  | _ :: _, 0 => rfl
  | a :: l, j + 1 => by simp only [List.eraseIdx_cons_succ, List.map_cons, erase_map f l j]
theorem idx_perm {α : Type} : ∀ (l : List α) (j : Nat) (h : j < l.length), l.Perm (l[j] :: l.eraseIdx j)
  | a :: l, 0, _ => by simp
  | a :: l, j + 1, h => by
    have ih := idx_perm l j (by simpa using h)
    simp only [List.getElem_cons_succ, List.eraseIdx_cons_succ]
    exact (List.Perm.cons a ih).trans (List.Perm.swap ..)
theorem set_perm {α : Type} : ∀ (l : List α) (j : Nat) (v : α), j < l.length → (l.set j v).Perm (v :: l.eraseIdx j)
  | a :: l, 0, v, _ => by simp
  | a :: l, j + 1, v, h => by
    have ih := set_perm l j v (by simpa using h)
    simp only [List.set_cons_succ, List.eraseIdx_cons_succ]
    exact (List.Perm.cons a ih).trans (List.Perm.swap ..)
theorem erase_idx_perm {l : List Str} {j : Nat} (h : j < l.length) : (l.erase l[j]).Perm (l.eraseIdx j) :=
  (List.perm_cons l[j]).mp ((List.perm_cons_erase (List.getElem_mem h)).symm.trans (idx_perm l j h))
theorem TxA.set {vs : List Value} {xs : List Str} (h : TxA vs xs) : ∀ (j : Nat) (x : Str) (t : Tok), TxA (vs.set j (.str x t)) (xs.set j x) := by
  induction h with
  | nil => intro j x t; exact .nil
  | cons h ih =>
    intro j x t
    cases j with
    | zero => exact .cons h
    | succ j => exact .cons (ih j x t)
theorem TxA.eraseIdx {vs : List Value} {xs : List Str} (h : TxA vs xs) : ∀ (j : Nat), TxA (vs.eraseIdx j) (xs.eraseIdx j) := by
  induction h with
  | nil => intro j; exact .nil
  | cons h ih =>
    intro j
    cases j with
    | zero => exact h
    | succ j => exact .cons (ih j)
theorem nodup_eraseIdx {α : Type} {l : List α} (j : Nat) (h : l.Nodup) : (l.eraseIdx j).Nodup := (List.eraseIdx_sublist l j).nodup h
theorem nodup_set {l : List Str} {j : Nat} {v : Str} (hj : j < l.length) (h : l.Nodup) (hv : v ∉ l) : (l.set j v).Nodup := by
  rw [(set_perm l j v hj).nodup_iff, List.nodup_cons]
  exact ⟨fun q => hv ((List.eraseIdx_sublist l j).subset q), nodup_eraseIdx j h⟩
theorem mem_set_sub {α : Type} {l : List α} {j : Nat} {v x : α} (h : x ∈ l.set j v) : x = v ∨ x ∈ l := by
  rcases List.mem_or_eq_of_mem_set h with h | h
  · exact .inr h
  · exact .inl h
end Mine
end
section
open PySem PySem.W PyProof.Rows PySem.Calls PySem.Spec
namespace Mine
def leS (a b : Str) : Prop := a.cps.toList ≤ b.cps.toList
theorem leS_of {a b : Str} (h : ltCps b.cps.toList a.cps.toList = false) : leS a b := by
  rw [ltCps_eq, decide_eq_false_iff_not] at h
  exact List.not_lt.mp h
theorem rising_pw : ∀ (l : List Str) (p : Str), risingS p l = true → (p :: l).Pairwise leS
  | [], p, _ => List.pairwise_singleton _ _
  | x :: r, p, h => by
    simp only [risingS, Bool.and_eq_true, Bool.not_eq_true'] at h
    have h1 := leS_of h.1
    have ih := rising_pw r x h.2
    rw [List.pairwise_cons] at ih ⊢
    refine ⟨fun y hy => ?_, List.pairwise_cons.mpr ih⟩
    rcases List.mem_cons.mp hy with rfl | hy
    · exact h1
    · exact List.le_trans h1 (ih.1 y hy)
theorem sorted_pw {l : List Str} (h : sortedS l = true) : l.Pairwise leS := by
  cases l with
  | nil => exact .nil
  | cons x r => exact rising_pw r x h
theorem sorted_uniq {a b : List Str} (ha : sortedS a = true) (hb : sortedS b = true) (p : a.Perm b) : a = b :=
  List.Perm.eq_of_pairwise (le := leS) (fun x y _ _ h1 h2 => by
    have e := List.le_antisymm h1 h2
    cases x; cases y
    congr 1
    exact Array.toList_inj.mp e) (sorted_pw ha) (sorted_pw hb) p
def freshOf (i : Nat) : Str := "New-" ++ (toString (i : Int) : Str)
theorem names_ok : ∀ n ∈ lawNames, n.length ≤ 6 ∧ (Txt.lower n).length ≤ 6 ∧ (Txt.upper n).length ≤ 6 ∧ Txt.lower (Txt.lower n) = Txt.lower n ∧ Txt.lower (Txt.upper n) = Txt.lower n := by decide +kernel
theorem fresh_ok : ∀ i : Nat, i < 8 → (freshOf i).length ≤ 6 ∧ (∀ n ∈ lawNames, Txt.lower (freshOf i) ≠ Txt.lower n) ∧ ∀ j : Nat, j < 8 → j ≠ i → Txt.lower (freshOf i) ≠ Txt.lower (freshOf j) := by decide +kernel
end Mine
end
section
open PySem PySem.W PyProof.Rows PySem.Calls PySem.Spec PySem.SeqAt
namespace Mine
/-- a text or nothing -/
def optIs : Option Str → Value → Prop
  | none, v => v = .none
  | some x, v => ∃ t, v = .str x t
inductive DxA : List (Str × Value) → List (Str × Option Str) → Prop where
  | nil : DxA [] []
  | cons {k : Str} {v : Value} {o : Option Str} {kvs : List (Str × Value)} {ds : List (Str × Option Str)} (h : optIs o v) (r : DxA kvs ds) : DxA ((k, v) :: kvs) ((k, o) :: ds)
theorem DxA.length {kvs ds} (h : DxA kvs ds) : kvs.length = ds.length := by induction h <;> simp_all
/-- what a store does -/
def dput (ds : List (Str × Option Str)) (k : Str) (o : Option Str) : List (Str × Option Str) := if ds.any (fun d => d.1 = k) then ds.map (fun d => if d.1 = k then (d.1, o) else d) else ds ++ [(k, o)]
theorem DxA.any {kvs ds} (h : DxA kvs ds) (k : Str) : kvs.any (fun d => decide (d.1 = k)) = ds.any (fun d => decide (d.1 = k)) := by induction h <;> simp_all
theorem DxA.append {a b c d} (h : DxA a c) (h' : DxA b d) : DxA (a ++ b) (c ++ d) := by
  induction h with
  | nil => exact h'
  | cons h r ih => exact .cons h ih
theorem DxA.map {kvs ds} (h : DxA kvs ds) {k : Str} {v : Value} {o : Option Str} (hv : optIs o v) : DxA (kvs.map fun kv => if kv.1 = k then (kv.1, v) else kv) (ds.map fun d => if d.1 = k then (d.1, o) else d) := by
  induction h with
  | nil => exact .nil
  | cons h r ih =>
    rename_i k' v' o' kvs ds
    simp only [List.map_cons]
    by_cases e : k' = k
    · simp only [e, if_true]; exact .cons hv ih
    · simp only [e, if_false]; exact .cons h ih
theorem DxA.put {kvs ds} (h : DxA kvs ds) {k : Str} {v : Value} {o : Option Str} (hv : optIs o v) : DxA (stored kvs k v) (dput ds k o) := by
  unfold stored dput
  rw [h.any]
  split
  · exact h.map hv
  · exact h.append (.cons hv .nil)
section
variable {C : Cx} {E : Value → Shared → Prop} {st : St}
theorem e_dict0 {env : Env} {pos : Pos} {Q : Value → St → Prop} (h : ∀ d o, (d == sysModules) = false → o.IsDictOf (strKind prog C.w) [] → Q (.ref d) ⟨st.m, (d, o) :: st.news⟩) : Ev C E (eval (.Dict [] [] pos) env) st Q := fun s H => by
  refine newDict_K H.F H.N C.T.nolimit fun d h' o F' N' hlt lo a b c e => ⟨⟨st.m, (d, o) :: st.news⟩, H.toHeld.upd (tk := s.toks) F' N' ?_, h d o lo a⟩
  exact nd_lt H.nd hlt
theorem o_dict_set {d : Addr} {o : Obj} {kvs : List (Str × Value)} {k : Str} {t : Tok} {v : Value} {g : Obj → Led} {Q : Unit → St → Prop} (hd : o.IsDictOf (strKind prog C.w) kvs) (hz : kvs.length ≤ sizeLine) (hg : ∀ o', At d o o' st.news (g o'))
    (h : ∀ o', o'.IsDictOf (strKind prog C.w) (stored kvs k v) → Q () ⟨st.m, g o'⟩) : Ev C E (setItem (.ref d) (.str k t) v) st Q := fun s H => by
  obtain ⟨m, r⟩ := st
  refine wpAny_setItem_pairs (hsz := hz) (strKind_is _ _ _ _) (Heap.dictOf_iff.mpr ⟨o, H.get (hg o).mem, hd⟩) fun h' hmm hs => ?_
  obtain ⟨o', ho', hd'⟩ := Heap.dictOf_iff.mp hmm
  exact ⟨⟨m, g o'⟩, H.toHeld.write (hg o') hs ho', h o' hd'⟩
theorem gm_items {d : Addr} {o : Obj} {kvs : List (Str × Value)} {pl : Sem Bool} {Q : Value × List Value → St → Prop} (hm : (d, o) ∈ st.news) (hd : o.IsDictOf (strKind prog C.w) kvs) (h : Q (.builtin "dict.items", [.ref d]) st) : Ev C E (getMethod (.ref d) "items" pl) st Q := fun s H => by
  have hh := H.get hm
  obtain ⟨es, ep, hex, r⟩ := hd
  exact getMethod_builtin (T := "dict") ⟨o, hh, hex.1⟩ PySem.F.plainAttrs_dict PySem.F.slot_dict_items PySem.F.type_dict_items (fun b e => by injection e with e; subst e; exact ⟨o, hh, hex.2.1⟩) ⟨st, H.toHeld, h⟩
theorem m_items {d : Addr} {o : Obj} {kvs : List (Str × Value)} {Q : Value → St → Prop} (lo : (d == sysModules) = false) (hm : (d, o) ∈ st.news) (hd : o.IsDictOf (strKind prog C.w) kvs) (h : ∀ v, Q (.ref v) ⟨st.m, (v, vwObj d) :: st.news⟩) : Ev C E (call (.builtin "dict.items") [.ref d]) st Q := fun s H => by
  have hD : s.heap.DictOf (strKind prog C.w) d kvs := Heap.dictOf_iff.mpr ⟨o, H.get hm, hd⟩
  exact call_meetsIn PySem.F.slot_dict_items hD.typeIs PySem.F.entry_dict_items (PySem.F.args_dict_items_1 _) (meets_dict_items (strKind prog C.w) d lo) ⟨⟨kvs, hD⟩, _, H.toHeld.alloc (tk := s.toks) rfl, h _⟩
abbrev tup2 (a b : Value) : Obj := { cls := .type "tuple", data := .seq #[a, b] }
/-- a list of pairs, its tuples in the ledger -/
inductive PsA (news : Led) : List Value → List (Str × Option Str) → Prop where
  | nil : PsA news [] []
  | cons {a : Addr} {k : Str} {t : Tok} {o : Option Str} {v : Value} {vs : List Value} {ds : List (Str × Option Str)} (hm : (a, tup2 (.str k t) v) ∈ news) (hv : optIs o v) (r : PsA news vs ds) : PsA news (.ref a :: vs) ((k, o) :: ds)
theorem PsA.mono {n n' : Led} {vs ds} (h : PsA n vs ds) (hs : ∀ p ∈ n, p ∈ n') : PsA n' vs ds := by
  induction h with
  | nil => exact .nil
  | cons hm hv r ih => exact .cons (hs _ hm) hv ih
theorem PsA.append {n : Led} {a b c d} (h : PsA n a c) (h' : PsA n b d) : PsA n (a ++ b) (c ++ d) := by
  induction h with
  | nil => exact h'
  | cons hm hv r ih => exact .cons hm hv ih
theorem PsA.length {n : Led} {vs ds} (h : PsA n vs ds) : vs.length = ds.length := by induction h <;> simp_all
theorem kdx_chain {lo : Addr} {news : Led} {C : List Value → Led → Prop} {kvs : List (Str × Value)} {ds : List (Str × Option Str)} (hD : DxA kvs ds) : ∀ (vs0 : List Value) (tups0 : Led) (ds0 : List (Str × Option Str)), PsA tups0 vs0 ds0 → (∀ q ∈ tups0, lo < q.1) → (tups0.map (·.1)).Nodup →
    (∀ vs tups, PsA tups vs (ds0 ++ ds) → (∀ q ∈ tups, lo < q.1) → (tups.map (·.1)).Nodup → C vs tups) → KdxOpen lo news (kvs.map (fun p => (kyVal (PyData.str p.1), p.2))) vs0 tups0 C := by
  induction hD with
  | nil =>
    intro vs0 tups0 ds0 h1 h2 h3 h4
    exact KdxOpen.nil (h4 _ _ (by rw [List.append_nil]; exact h1) h2 h3)
  | cons hv r ih =>
    rename_i k v o kvs ds
    intro vs0 tups0 ds0 h1 h2 h3 h4
    refine KdxOpen.cons fun a t g1 g2 g3 => ?_
    refine ih (vs0 ++ [.ref a]) _ (ds0 ++ [(k, o)]) ((h1.mono fun p hp => .tail _ hp).append (.cons (.head _) hv .nil)) ?_ ?_ ?_
    · intro q hq
      rcases List.mem_cons.mp hq with rfl | hq
      · exact g1
      · exact h2 q hq
    · rw [List.map_cons, List.nodup_cons]
      refine ⟨fun hm => ?_, h3⟩
      obtain ⟨q, hq, e⟩ := List.mem_map.mp hm
      have := g3 q hq
      rw [e] at this
      exact Nat.lt_irrefl _ this
    · intro vs tups k1 k2 k3
      exact h4 vs tups (by rw [List.append_assoc] at k1; exact k1) k2 k3
theorem o_list_items {v d : Addr} {o : Obj} {kvs : List (Str × Value)} {ds : List (Str × Option Str)} {Q : Value → St → Prop} (hv : (v, vwObj d) ∈ st.news) (hm : (d, o) ∈ st.news) (hd : o.IsDictOf (strKind prog C.w) kvs) (hD : DxA kvs ds) (hz : kvs.length ≤ 1000)
    (h : ∀ B c vs tups, PsA tups vs ds → Q (.ref B) ⟨st.m, tups ++ (B, lst vs c) :: st.news⟩) : Ev C E (call (.type "list") [.ref v]) st Q := fun s H => by
  refine kdx_listN (knd := strKind prog C.w) (enc := PyData.str) C.hh H.F H.N (List.mem_append_left _ hv) (List.mem_append_left _ hm) hd (by omega) (fun k v h => ?_) rfl fun B hB => ?_
  · obtain ⟨t, rfl⟩ := Value.isStrOf_shape h
    exact ⟨t, rfl⟩
  · refine kdx_chain hD [] [] [] .nil (fun _ h => nomatch h) List.nodup_nil fun vs tups h1 h2 h3 => ?_
    intro c h' tk hB' F' N'
    refine ⟨⟨st.m, tups ++ (B, lst vs c) :: st.news⟩, ?_, h B c vs tups h1⟩
    refine H.toHeld.upd F' (by rw [List.append_assoc]; exact N') ?_
    show ((tups ++ (B, lst vs c) :: st.news ++ tabsOf H.δ).map (·.1)).Nodup
    rw [List.append_assoc, List.cons_append, List.map_append, List.map_cons, List.nodup_append]
    refine ⟨h3, ?_, ?_⟩
    · rw [List.nodup_cons]
      refine ⟨fun hm => ?_, H.nd⟩
      obtain ⟨q, hq, e⟩ := List.mem_map.mp hm
      have := hB q hq
      rw [e] at this
      exact Nat.lt_irrefl _ this
    · intro a ha b hb e
      obtain ⟨q, hq, rfl⟩ := List.mem_map.mp ha
      have hlo := h2 q hq
      rcases List.mem_cons.mp hb with rfl | hb
      · rw [e] at hlo; exact Nat.lt_irrefl _ hlo
      · obtain ⟨q', hq', rfl⟩ := List.mem_map.mp hb
        have := hB q' hq'
        rw [← e] at this
        exact Nat.lt_asymm hlo this
theorem PsA.at {n : Led} {vs ds} (h : PsA n vs ds) : ∀ {i : Nat} {v : Value}, vs[i]? = some v → ∃ a k t o x, v = .ref a ∧ ds[i]? = some (k, o) ∧ (a, tup2 (.str k t) x) ∈ n ∧ optIs o x := by
  induction h with
  | nil => intro i v h; simp at h
  | cons hm hv r ih =>
    intro i v h
    cases i with
    | zero =>
      rw [List.getElem?_cons_zero] at h
      obtain rfl := Option.some.inj h
      exact ⟨_, _, _, _, _, rfl, rfl, hm, hv⟩
    | succ i => exact ih h
theorem optIs.eqAt {o : Option Str} {x y : Value} {A : Around} {s : Shared} (h : optIs o x) (h' : optIs o y) : EqAt A s x y true := by
  cases o with
  | none => cases h; cases h'; exact EqAt.same _
  | some z =>
    obtain ⟨t, rfl⟩ := h
    obtain ⟨u, rfl⟩ := h'
    have := EqAt.str_str (A := A) (s := s) z t z u
    rwa [beq_self_eq_true] at this
theorem pairs_eqAt {A : Around} {s : Shared} {a b : Addr} {k : Str} {t u : Tok} {o : Option Str} {x y : Value} (hu : A.units < cLine) (ha : s.heap.get? a = some (tup2 (.str k t) x)) (hb : s.heap.get? b = some (tup2 (.str k u) y)) (hx : optIs o x) (hy : optIs o y) : EqAt A s (.ref a) (.ref b) true := by
  by_cases e : a = b
  · subst e; exact EqAt.same _
  · refine EqAt.of_refs e ?_
    exact RcAt.tuples (e := fun _ => true) (items := #[.str k t, x]) (items2 := #[.str k u, y]) ⟨_, ha, rfl, _, rfl⟩ ⟨_, hb, rfl, _, rfl⟩ hu fun j h1 h2 => by
      have h1' : j < 2 := h1
      have : j = 0 ∨ j = 1 := by omega
      rcases this with rfl | rfl
      · have := EqAt.str_str (A := A.in1) (s := s) k t k u
        rwa [beq_self_eq_true] at this
      · exact hx.eqAt hy
theorem pairs_all {l b : Addr} {vs ws : List Value} {ds : List (Str × Option Str)} (hx : PsA st.news vs ds) (hy : PsA st.news ws ds) {s : Shared} (H : Holds C st s) : ∀ j (h1 : j < vs.toArray.size) (h2 : j < ws.toArray.size), EqAt C.A.in1 s vs.toArray[j] ws.toArray[j] true := by
  intro j h1 h2
  have h1' : j < vs.length := by simpa using h1
  have h2' : j < ws.length := by simpa using h2
  obtain ⟨a, k, t, o, x, e1, d1, m1, o1⟩ := hx.at (List.getElem?_eq_getElem h1')
  obtain ⟨a', k', t', o', x', e2, d2, m2, o2⟩ := hy.at (List.getElem?_eq_getElem h2')
  rw [d1] at d2
  cases d2
  have q1 : vs.toArray[j] = .ref a := by simpa using e1
  have q2 : ws.toArray[j] = .ref a' := by simpa using e2
  rw [q1, q2]
  exact pairs_eqAt (by show C.A.units + 1 < cLine; have := C.un; omega) (H.get m1) (H.get m2) o1 o2
theorem o_eq_pairs {l b : Addr} {vs ws : List Value} {ds : List (Str × Option Str)} {n k : Nat} {Q : Value → St → Prop} (hl : (l, lst vs n) ∈ st.news) (hb : (b, lst ws k) ∈ st.news) (hx : PsA st.news vs ds) (hy : PsA st.news ws ds) (h : Q (.bool true) st) : Ev C E (compareOp .Eq (.ref l) (.ref b)) st Q := fun s H => by
  refine eq_listAt (e := fun _ => true) (isList_of (H.get hl)) (isList_of (H.get hb)) (by rw [List.size_toArray, List.size_toArray, hx.length, hy.length]) (by have := C.un; omega) (pairs_all (l := l) (b := b) hx hy H) ⟨st, H.toHeld, ?_⟩
  rw [show ((List.range vs.toArray.size).all fun _ => true) = true from List.all_eq_true.mpr fun _ _ => rfl]
  exact h
theorem o_ne_pairs {l b : Addr} {vs ws : List Value} {ds : List (Str × Option Str)} {n k : Nat} {Q : Value → St → Prop} (hl : (l, lst vs n) ∈ st.news) (hb : (b, lst ws k) ∈ st.news) (hx : PsA st.news vs ds) (hy : PsA st.news ws ds) (h : Q (.bool false) st) : Ev C E (compareOp .NotEq (.ref l) (.ref b)) st Q := fun s H => by
  refine RcNeAt.lists (e := fun _ => true) (isList_of (H.get hl)) (isList_of (H.get hb)) (by rw [List.size_toArray, List.size_toArray, hx.length, hy.length]) (by have := C.un; omega) (pairs_all (l := l) (b := b) hx hy H) _ _ _ _ ⟨st, H.toHeld, ?_⟩
  rw [show ((List.range vs.toArray.size).all fun _ => true) = true from List.all_eq_true.mpr fun _ _ => rfl]
  exact h
theorem o_isinst_dict {d : Addr} {o : Obj} {kvs : List (Str × Value)} {Q : Value → St → Prop} (hm : (d, o) ∈ st.news) (hd : o.IsDictOf (strKind prog C.w) kvs) (h : Q (.bool true) st) : Ev C E (call (.builtin "isinstance") [.ref d, .type "dict"]) st Q := fun s H => by
  have hh := H.get hm
  obtain ⟨es, ep, hex, r⟩ := hd
  exact IsiPair.dict_dict hh hex.1 ⟨st, H.toHeld, h⟩
/-- two empty dicts -/
theorem o_eq_dict0 {d b : Addr} {o o' : Obj} {Q : Value → St → Prop} (lo : (d == sysModules) = false) (lo' : (b == sysModules) = false) (hm : (d, o) ∈ st.news) (hm' : (b, o') ∈ st.news) (hd : o.IsDictOf (strKind prog C.w) []) (hd' : o'.IsDictOf (strKind prog C.w) []) (h : Q (.bool true) st) : Ev C E (compareOp .Eq (.ref d) (.ref b)) st Q := fun s H =>
  keq_pairs (r := true) H.N (List.mem_append_left _ hm) (List.mem_append_left _ hm') hd hd' lo lo' rfl (by have := C.un; omega) .nil ⟨st, H.toHeld, h⟩
end
end Mine
end
section
open PySem PySem.W PyProof.Rows PySem.Calls PySem.Spec PySem.SeqAt
namespace Mine
section
variable {C : Cx} {E : Value → Shared → Prop} {st : St}
theorem o_hex {y : Str} {n : Nat} {u t : Tok} {Q : Value → St → Prop} (hh : HexOk y n) (h : ∀ t', Q (.int n t') st) : Ev C E (call (.type "int") [.str y u, .int 16 t]) st Q := fun s H => call_hex hh fun _ _ => ⟨st, H.tok, h _⟩
theorem o_bytes {l : Addr} {n k : Nat} {t : Tok} {Q : Value → St → Prop} (hm : (l, lst [.int n t] k) ∈ st.news) (hn : n < 256) (h : ∀ t', Q (.bytes #[n.toUInt8] t') st) : Ev C E (call (.type "bytes") [.ref l]) st Q := fun s H =>
  bytes_K (ns := [(n : Int)]) H.F H.N (isList_of (H.get hm)) (IxA.ints (.cons .nil)) (fun x hx => by obtain rfl := List.mem_singleton.mp hx; omega) (by show 1 ≤ _; rw [sizeLine_eq]; decide) C.hh fun h' t' k' F' N' _ => ⟨st, H.toHeld.upd F' N' H.nd, h _⟩
theorem o_iadd_bytes {b c : Array UInt8} {t u : Tok} {Q : Value → St → Prop} (hz : b.size + c.size ≤ 1000) (h : ∀ t', Q (.bytes (b ++ c) t') st) : Ev C E (inplaceOp .Add (.bytes b t) (.bytes c u)) st Q := fun s H => iadd_bytes hz fun _ _ => ⟨st, H.tok, h _⟩
theorem e_bytes {env : Env} {x : List UInt8} {k : Nat} {pos : Pos} {Q : Value → St → Prop} (h : ∀ t, Q (.bytes x.toArray t) st) : Ev C E (eval (.Constant (.bytes x) k pos) env) st Q := fun s H => Constant_bytes ⟨st, H.tok, h _⟩
theorem gm_decode {b : Array UInt8} {t : Tok} {pl : Sem Bool} {Q : Value × List Value → St → Prop} (h : Q (.builtin "bytes.decode", [.bytes b t]) st) : Ev C E (getMethod (.bytes b t) "decode" pl) st Q := fun s H => KBd.method ⟨st, H.toHeld, h⟩
theorem m_decode2 {c : UInt8} {cs : List UInt8} {enc x : Str} {t u v : Tok} {Q : Value → St → Prop} (hr : RoadOk c cs enc (some "replace") x) (he : enc = "utf-8" ∨ enc = "ascii") (hz : x.length ≤ 100) (h : ∀ t', Q (.str x t') st) :
    Ev C E (call (.builtin "bytes.decode") [.bytes (c :: cs).toArray t, .str enc u, .str "replace" v]) st Q := fun s H =>
  call_decode (err := some "replace") (u := u) (v := v) hr (he.elim (fun e => .inl ⟨e, rfl⟩) fun e => .inr (.inl ⟨e, rfl⟩)) hz fun _ _ => ⟨st, H.tok, h _⟩
theorem m_decode1 {c : UInt8} {cs : List UInt8} {x : Str} {t u : Tok} {Q : Value → St → Prop} (hr : RoadOk c cs "iso-8859-1" none x) (hz : x.length ≤ 100) (h : ∀ t', Q (.str x t') st) :
    Ev C E (call (.builtin "bytes.decode") [.bytes (c :: cs).toArray t, .str "iso-8859-1" u]) st Q := fun s H =>
  call_decode (err := none) (u := u) (v := u) hr (.inr (.inr ⟨rfl, rfl⟩)) hz fun _ _ => ⟨st, H.tok, h _⟩

/-- a loop that turns n times -/
theorem x_while {test : Expr} {body : List Stmt} {pos : Pos} {env : Env} {Q : Flow → St → Prop} {n : Nat} (Inv : Nat → St → Prop) (h0 : Inv 0 st)
    (turn : ∀ i st₁, i < n → Inv i st₁ → Ev C NoE (isTrue test env (eval test env)) st₁ fun b st₂ => b = true ∧ Ev C NoE (execs body env) st₂ fun f st₃ => (f = .next ∨ f = .cont) ∧ Less (fun (_ : Unit) => Inv (i + 1)) () st₃)
    (done : ∀ st₁, Inv n st₁ → Ev C NoE (isTrue test env (eval test env)) st₁ fun b st₂ => b = false ∧ Q .next st₂) : Ev C E (exec (.While test body [] pos) env) st Q := by
  intro s H
  refine wpAny_While (codeAny_whileLoop (fun k s' => ∃ i st₁, k = n - i ∧ i ≤ n ∧ Inv i st₁ ∧ Holds C st₁ s') ?_ n ⟨0, st, rfl, Nat.zero_le _, h0, H⟩)
  rintro k s₁ ⟨i, st₁, rfl, hi, hI, H₁⟩
  by_cases hlt : i < n
  · refine wpAny_mono (L1q (R := fun b s₂ => b = true ∧ ∃ st₂, Holds C st₂ s₂ ∧ Ev C NoE (execs body env) st₂ fun f st₃ => (f = .next ∨ f = .cont) ∧ Less (fun (_ : Unit) => Inv (i + 1)) () st₃) (turn i st₁ hlt hI) (fun b st₂ s₂ H₂ q => ⟨q.1, st₂, H₂, q.2⟩) H₁) (fun b s₂ q => ?_) fun _ _ e => e.elim
    obtain ⟨rfl, st₂, H₂, q⟩ := q
    rw [if_pos rfl]
    refine wpAny_mono (L1q (R := fun f s₃ => (f = .next ∨ f = .cont) ∧ ∃ st₃, Holds C st₃ s₃ ∧ Less (fun (_ : Unit) => Inv (i + 1)) () st₃) q (fun f st₃ s₃ H₃ q => ⟨q.1, st₃, H₃, q.2⟩) H₂) (fun f s₃ q => ?_) fun _ _ e => e.elim
    obtain ⟨hf, st₃, H₃, news', hs, q⟩ := q
    have fin : ∃ m, m < n - i ∧ ∃ i st₁, m = n - i ∧ i ≤ n ∧ Inv i st₁ ∧ Holds C st₁ s₃ := ⟨n - (i + 1), by omega, i + 1, ⟨st₃.m, news'⟩, rfl, hlt, q, H₃.sub (m := st₃.m) hs⟩
    rcases hf with rfl | rfl <;> exact fin
  · obtain rfl : i = n := Nat.le_antisymm hi (Nat.not_lt.mp hlt)
    refine wpAny_mono (L1q (R := fun b s₂ => b = false ∧ Post C Q .next s₂) (done st₁ hI) (fun b st₂ s₂ H₂ q => ⟨q.1, st₂, H₂.toHeld, q.2⟩) H₁) (fun b s₂ q => ?_) fun _ _ e => e.elim
    obtain ⟨rfl, q⟩ := q
    rw [if_neg Bool.false_ne_true]
    exact wpAny_execs_nil q

-- a call with one argument by name
theorem e_callK {env : Env} {func : Expr} {args : List Expr} {kws : List Keyword} {pos : Pos} {Q : Value → St → Prop} (h : Ev C E (eval func env) st fun f st₁ => Ev C E (callWith pos f [] (backTo pos (starEach args env)) (backToKw pos (keywordEach kws env))) st₁ Q)
    (he : eval (.Call func args kws pos) env = (do callWith pos (← eval func env) [] (backTo pos (starEach args env)) (backToKw pos (keywordEach kws env)))) : Ev C E (eval (.Call func args kws pos) env) st Q := fun s H => by
  rw [he]; exact wpAny_bind (L1 h H)
theorem cw_defK1 {env : Env} {pos : Pos} {f : Value} {first : List Value} {e : Expr} {rest : List Expr} {x : Str} {v : Expr} {kp : Pos} {Q : Value → St → Prop} (hk : keepIn (KF C.w) f = true) (h : Ev C E (spliced (backTo pos (starEach (e :: rest) env))) st fun vs st₁ => Ev C E (eval v env) st₁ fun kv st₂ => Ev C E (call f (first ++ vs) [(x, kv)]) st₂ Q)
    (he : noStar (e :: rest) = true) : Ev C E (callWith pos f first (backTo pos (starEach (e :: rest) env)) (backToKw pos (keywordEach [⟨some x, v, kp⟩] env))) st Q := fun s H => by
  refine callWith_KW C.T.X hk (by rfl) (L1q h (fun vs st₁ s₁ H₁ h₁ => ?_) H) (by have := backTo_plain pos env he; rw [this]; rfl) (starEach_cons env he)
  refine kwAll_cons (L1q h₁ (fun kv st₂ s₂ H₂ h₂ => ?_) H₁)
  exact kwAll_nil ⟨C.T.X.keeps H₂.F.keep, h₂ s₂ H₂⟩
theorem e_named {env : Env} {x : Str} {px : Pos} {value : Expr} {pos : Pos} {Q : Value → St → Prop} (h : Ev C E (eval value env) st fun v st₁ => Q v ⟨put x v st₁.m, st₁.news⟩) (hL : env.locals = C.L) (hl : env.kindOf x = some .local) (hk : env.scope.kind = .function) :
    Ev C E (eval (.NamedExpr (.Name x px) value pos) env) st Q := fun s H =>
  wpAny_NamedExpr (L1q h (fun v st₁ s₁ H₁ h₁ => wpAny_assign_Name (storeName_local' (Q := fun _ st' => Q v st') h₁ hL hl hk s₁ H₁)) H)
end
end Mine
end
section
open PySem PySem.W PyProof.Rows PySem.Calls PySem.Spec PySem.SeqAt
namespace Mine
section
variable {C : Cx} {E : Value → Shared → Prop} {st : St}
theorem gm_groups {mt T : Addr} {x : Str} {t : Tok} {pl : Sem Bool} {Q : Value × List Value → St → Prop} (hm : (mt, csMatch x t T) ∈ st.news) (h : Q (.builtin "re.Match.groups", [.ref mt]) st) : Ev C E (getMethod (.ref mt) "groups" pl) st Q := fun s H =>
  getMethod_builtin ⟨_, H.get hm, rfl⟩ plainAttrs_mat slot_groups type_groups (fun a e => by cases e; exact ⟨_, H.get hm, rfl⟩) ⟨st, H.toHeld, h⟩
theorem wp_csFound {A' : Around} {s : Shared} {mt T : Addr} {x : Str} {t : Tok} {a b n : Nat} {Q : Builtin.Re.ReFound → Shared → Prop} (hm : s.heap.get? mt = some (csMatch x t T)) (hT : s.heap.get? T = some (csSpans a b n))
    (h : Q { fields := #[.str x t, .ref 87, rawInt 0, rawInt x.cps.size, rawInt 2, .ref T], spans := #[((0 : Nat) : Int), ((n : Nat) : Int), ((0 : Nat) : Int), ((a : Nat) : Int), ((b : Nat) : Int), ((n : Nat) : Int)] } s) : wpAny (model prog C.w) A' (Builtin.Re.reFound (.ref mt)) Q E s := by
  unfold Builtin.Re.reFound
  refine wpAny_bind (wpAny_fieldsOf hm rfl ?_)
  refine wpAny_bind (wpAny_bind (wpAny_seqItems hT rfl (wpAny_pure ?_)))
  have e : (Option.getD (some [rawInt (0 : Nat), rawInt (n : Nat), rawInt (0 : Nat), rawInt (a : Nat), rawInt (b : Nat), rawInt (n : Nat)].toArray) #[]).map Builtin.Re.reRawOf = #[((0 : Nat) : Int), ((n : Nat) : Int), ((0 : Nat) : Int), ((a : Nat) : Int), ((b : Nat) : Int), ((n : Nat) : Int)] := by
    simp [Builtin.Re.reRawOf, rawInt]
  rw [e]
  exact wpAny_pure h
theorem wp_csText {A' : Around} {s : Shared} {fs : Array Value} {x : Str} {t : Tok} {g i j : Nat} {d : Value} {sp : Array Int} {Q : Value → Shared → Prop} (h0 : fs.getD 0 .none = .str x t) (h1 : sp.getD (2 * g) (-1) = (i : Int)) (h2 : sp.getD (2 * g + 1) (-1) = (j : Int)) (hz : x.length ≤ 1000)
    (h : ∀ t', Q (.str ⟨x.cps.extract i j⟩ t') { s with toks := s.toks + 1 }) : wpAny (model prog C.w) A' (Builtin.Re.reGroupText { fields := fs, spans := sp } g d) Q E s := by
  unfold Builtin.Re.reGroupText
  dsimp only
  rw [h1, h2, h0]
  have hb : (decide ((i : Int) < 0) || decide ((j : Int) < 0)) = false := by
    rw [Bool.or_eq_false_iff]; constructor <;> rw [decide_eq_false_iff_not] <;> omega
  rw [hb, if_neg Bool.false_ne_true]
  refine wpAny_bind (m := Builtin.Re.reTextOf (.str x t)) (wpAny_pure ?_)
  show wpAny _ _ (mkStr ⟨x.cps.extract (i : Int).toNat (j : Int).toNat⟩) _ _ _
  refine wpAny_mkStr (h _) ?_
  show (x.cps.extract _ _).size ≤ _
  rw [Array.size_extract, sizeLine_eq]
  have : x.cps.size ≤ 1000 := hz
  omega
theorem m_groups {mt T : Addr} {x : Str} {t : Tok} {a b n : Nat} {Q : Value → St → Prop} (hm : (mt, csMatch x t T) ∈ st.news) (hT : (T, csSpans a b n) ∈ st.news) (hz : x.length ≤ 1000)
    (h : ∀ l u v, Q (.ref l) ⟨st.m, (l, tup [.str ⟨x.cps.extract 0 a⟩ u, .str ⟨x.cps.extract b n⟩ v] 0) :: st.news⟩) : Ev C E (call (.builtin "re.Match.groups") [.ref mt]) st Q := fun s H => by
  refine wpAny_call_entry slot_groups ⟨_, H.get hm, rfl⟩ entry_groups ?_ (args_groups _)
  unfold Builtin.«re.Match.groups»
  refine wpAny_bind ?_
  unfold Builtin.Re.reWithDefault
  dsimp only
  refine wpAny_bind (m := Builtin.Re.reNamed "re.Match.groups" "groups" ["default"] 0 [] []) (wpAny_of_eq (a := [none]) (by rfl) ?_)
  dsimp only
  refine wpAny_bind (wp_csFound (H.get hm) (H.get hT) ?_)
  refine wpAny_pure ?_
  dsimp only
  refine wpAny_bind ?_
  rw [show List.range (Array.size #[((0 : Nat) : Int), ((n : Nat) : Int), ((0 : Nat) : Int), ((a : Nat) : Int), ((b : Nat) : Int), ((n : Nat) : Int)] / 2 - 1) = [0, 1] by (show List.range (6 / 2 - 1) = _; decide)]
  rw [List.mapM_cons, List.mapM_cons, List.mapM_nil]
  refine wpAny_bind (wp_csText (i := 0) (j := a) rfl rfl rfl hz fun t1 => ?_)
  refine wpAny_bind (wpAny_bind (wp_csText (i := b) (j := n) rfl rfl rfl hz fun t2 => ?_))
  refine wpAny_bind (wpAny_pure (wpAny_pure (wpAny_pure ?_)))
  refine wpAny_bind (wpAny_newObj_type (wpAny_pure ⟨_, rfl, _, H.toHeld.alloc (tk := _) (o := tup [.str ⟨x.cps.extract 0 a⟩ t1, .str ⟨x.cps.extract b n⟩ t2] 0) rfl, h _ _ _⟩) (by show 2 ≤ _; rw [sizeLine_eq]; decide))
end
end Mine
end
section
open PySem PySem.W PyProof.Rows PySem.Calls PySem.Spec PySem.SeqAt
namespace Mine
section
variable {C : Cx} {E : Value → Shared → Prop} {st : St}
set_option maxHeartbeats 2000000 in
theorem t_inset {env : Env} {l : PySem.Expr} {a b c d : Str} {k1 k2 k3 k4 : Nat} {p1 p2 p3 p4 pos pos' : Pos} {whole : Sem Value} {Q : Bool → St → Prop} (hc : kdsCode (KF C.w) env.code = true)
    (hm : behindInMarks .In (.Set [.Constant (.str a) k1 p1, .Constant (.str b) k2 p2, .Constant (.str c) k3 p3, .Constant (.str d) k4 p4] 0 pos) = true)
    (hroad : (displayRoad 0 [.Constant (.str a) k1 p1, .Constant (.str b) k2 p2, .Constant (.str c) k3 p3, .Constant (.str d) k4 p4] == .unsure) = true)
    (h : Ev C E (eval l env) st fun v st₁ => ∃ o : Option Str, isOpt o v = true ∧ v.scannable = true ∧ Less (fun r st₂ => Q r st₂) (decide (o = some a ∨ o = some b ∨ o = some c ∨ o = some d)) st₁) :
    Ev C E (isTrue (.Compare l [.In] [.Set [.Constant (.str a) k1 p1, .Constant (.str b) k2 p2, .Constant (.str c) k3 p3, .Constant (.str d) k4 p4] 0 pos] pos') env whole) st Q := fun s H => by
  refine kdi_test hm (L1q h (fun v st₁ s₁ H₁ q => ?_) H)
  obtain ⟨o, ho, hsc, hq⟩ := q
  refine kds_eval H₁.F H₁.N C.T.X hc (by rw [eq_of_beq hroad]; rfl) (by rfl) (by show 4 ≤ 30; decide) fun D h' led F' N' lt _ _ => ?_
  have hs0 : Obj.SetObjOf (optKind prog C.w) { cls := .type "set", dict := none, data := .set #[] 0 (.fresh 0 0 led) } (fun _ => false) 0 := setObjOf_fresh led
  have U : ∀ o1, UpdF D o1 ((D, o1) :: (st₁.news ++ tabsOf H₁.δ)) (fun o' => (D, o') :: (st₁.news ++ tabsOf H₁.δ)) := fun o1 => .head fun p hp => Nat.ne_of_lt (lt p hp)
  have isk : ∀ (x : Str) (t : Tok), (optKind prog C.w).is (some x) (.str x t) = true := fun x t => by simp [optKind, isOpt]
  dsimp only [KdsAll]
  refine wpAny_Constant_str (wpAny_Constant_str (wpAny_Constant_str (wpAny_Constant_str ?_)))
  refine kds_fill_cons (kds_add (knd := optKind prog C.w) F' N' (U _) hs0 (by show 1 < 4096; decide) (isk a _) rfl fun h1 o1 F1 N1 hs1 => ?_)
  refine kds_fill_cons (kds_add (knd := optKind prog C.w) F1 N1 (U _) hs1 (by rw [if_neg Bool.false_ne_true]; show 2 < 4096; decide) (isk b _) rfl fun h2 o2 F2 N2 hs2 => ?_)
  obtain ⟨n2, z2, hs2⟩ : ∃ n, n ≤ 2 ∧ o2.SetObjOf (optKind prog C.w) (fun k' => (false || decide (k' = some a)) || decide (k' = some b)) n := ⟨_, by rw [if_neg Bool.false_ne_true]; split <;> omega, hs2⟩
  refine kds_fill_cons (kds_add (knd := optKind prog C.w) F2 N2 (U _) hs2 (by show n2 + 1 < 4096; omega) (isk c _) rfl fun h3 o3 F3 N3 hs3 => ?_)
  obtain ⟨n3, z3, hs3⟩ : ∃ n, n ≤ 3 ∧ o3.SetObjOf (optKind prog C.w) (fun k' => ((false || decide (k' = some a)) || decide (k' = some b)) || decide (k' = some c)) n := ⟨_, by split <;> omega, hs3⟩
  refine kds_fill_cons (kds_add (knd := optKind prog C.w) F3 N3 (U _) hs3 (by show n3 + 1 < 4096; omega) (isk d _) rfl fun h4 o4 F4 N4 hs4 => ?_)
  obtain ⟨n4, z4, hs4⟩ : ∃ n, n ≤ 4 ∧ o4.SetObjOf (optKind prog C.w) (fun k' => (((false || decide (k' = some a)) || decide (k' = some b)) || decide (k' = some c)) || decide (k' = some d)) n := ⟨_, by split <;> omega, hs4⟩
  refine kds_fill_unled hroad (kds_unled (knd := optKind prog C.w) F4 N4 (U _) hs4 (by show n4 < 4096; omega) fun h5 o5 F5 N5 hs5 => ?_)
  refine kdi_mark (kds_unled (knd := optKind prog C.w) F5 N5 (U _) hs5 (by show n4 < 4096; omega) fun h6 o6 F6 N6 hs6 => ?_)
  refine kse_in (knd := optKind prog C.w) N6 (U _) hs6 (by show n4 < 4096; omega) ho hsc ?_
  refine wpAny_truthy_bool ?_
  obtain ⟨news', hsub, hq⟩ := hq
  have e : ((((false || decide (o = some a)) || decide (o = some b)) || decide (o = some c)) || decide (o = some d)) = decide (o = some a ∨ o = some b ∨ o = some c ∨ o = some d) := by simp [Bool.or_assoc]
  have hq2 : Q ((((false || decide (o = some a)) || decide (o = some b)) || decide (o = some c)) || decide (o = some d)) ⟨st₁.m, news'⟩ := by rw [e]; exact hq
  exact ⟨⟨st₁.m, news'⟩, (H₁.toHeld.upd F6 (fun p hp => N6 p (.tail _ hp)) H₁.nd).sub (m := st₁.m) hsub, hq2⟩
end
end Mine
end
section
open PySem PySem.W PyProof.Rows PySem.Calls PySem.Spec
namespace Mine
local macro_rules | `(tactic| tb_start) => `(tactic| first
  | (with_reducible refine e_bytes ?_; intro _)
  | (with_reducible refine gm_decode ?_))
section
variable {C : Cx} {E : Value → Shared → Prop} {st : St}
/-- the text of the bytes, in the encoding that was told -/
def TextOk (c : UInt8) (cs : List UInt8) (enc x : Str) : Prop := x.length ≤ 100 ∧ ((enc = "utf-8" ∧ RoadOk c cs "utf-8" (some "replace") x) ∨ (enc = "iso-8859-1" ∧ RoadOk c cs "iso-8859-1" none x) ∨ ((enc = "ascii" ∨ enc = "us-ascii") ∧ RoadOk c cs "ascii" (some "replace") x))
theorem text_of {c : UInt8} {cs : List UInt8} {enc x : Str} {t u : Tok} (hT : TextOk c cs enc x) (hr : 0 < C.room) {Q : Value → St → Prop} (h : ∀ t, Q (.str x t) st) : Ev C E (call (.ref 38) [.bytes (c :: cs).toArray t, .str enc u]) st Q := by
  refine call_def (name := _) (binds := [("octets", .bytes (c :: cs).toArray t), ("encoding", .str enc u)]) (by with_unfolding_all rfl) (by with_unfolding_all rfl) (by omega) (by intro S; with_unfolding_all rfl) (by rfl) (by rfl) (by rfl) (by rfl) (by rfl) (by rfl) ?_
  intro C' hw hr' hC'
  obtain ⟨hz, hT⟩ := hT
  tb_rel
  rcases hT with ⟨rfl, hR⟩ | ⟨rfl, hR⟩ | ⟨he, hR⟩
  · refine ite_t ?_
    tb_rel
    refine m_decode2 hR (.inl rfl) hz fun t' => ?_
    exact ⟨_, .refl _, h _⟩
  · refine ite_f ?_
    tb_rel
    refine ite_t ?_
    tb_rel
    refine m_decode1 hR hz fun t' => ?_
    exact ⟨_, .refl _, h _⟩
  · have e1 : (enc == ("utf-8" : Str)) = false := by rcases he with rfl | rfl <;> kernel_rfl
    have e2 : (enc == ("iso-8859-1" : Str)) = false := by rcases he with rfl | rfl <;> kernel_rfl
    rw [e1]
    refine ite_f ?_
    tb_rel
    rw [e2]
    refine ite_f ?_
    tb_rel
    refine m_decode2 hR (.inr rfl) hz fun t' => ?_
    exact ⟨_, .refl _, h _⟩
theorem o_char {value slice : PySem.Expr} {x : Str} {t u : Tok} {i : Int} {c : Nat} {Q : Value → St → Prop} (h0 : 0 ≤ i) (hi : i < 2 ^ 63) (hx : x.length ≤ sizeLine) (hc : x.cps[i.toNat]? = some c) (h : ∀ t, Q (.str ⟨#[c]⟩ t) st)
    (hs : subscripted slice false (.str x t) (.int i u) = operate [.str x t, .int i u] (getItem (.str x t) (.int i u))) : Ev C E (subscriptTail value slice (.str x t) (.int i u)) st Q := fun s H => by
  refine tail_any (T := "str") (typeIs_str _ _ _) F.slot_str_getitem.lookup ?_ hs
  refine PyProof.Rows.getItem_str (c := c) ?_ ?_ ⟨st, H.tok, h _⟩
  · rw [Bool.or_eq_false_iff]
    constructor <;> rw [decide_eq_false_iff_not] <;> omega
  · have hl : i.toNat < x.length := (Array.getElem?_eq_some_iff.mp hc).1
    have e : seqIndex? i x.length = some i.toNat := by
      have hn : ¬ i < 0 := by omega
      have hl' : i < (x.length : Int) := by omega
      simp [seqIndex?, hn, h0, hl']
    rw [e]
    exact hc
/-- a text of signs behind per cents -/
structure Pct (x : Str) (bs : List UInt8) : Prop where
  len : x.length = 3 * bs.length
  few : bs.length ≤ 100
  at_ : ∀ i (h : i < bs.length), ∃ c d y, x.cps[3 * i]? = some 37 ∧ x.cps[3 * i + 1]? = some c ∧ x.cps[3 * i + 2]? = some d ∧ Txt.contains "0123456789ABCDEFabcdef" ⟨#[c]⟩ = true ∧ Txt.contains "0123456789ABCDEFabcdef" ⟨#[d]⟩ = true ∧
    Txt.slice x (some ((3 * i : Nat) + 1 : Int)) (some ((3 * i : Nat) + 3 : Int)) = y ∧ HexOk y bs[i].toNat
theorem unquote_of {x enc y : Str} {c : UInt8} {cs : List UInt8} {t u : Tok} (hP : Pct x (c :: cs)) (hT : TextOk c cs enc y) (hr : 1 < C.room) {Q : Value → St → Prop} (h : ∀ t, Q (.str y t) st) : Ev C E (call (.ref 45) [.str x t] [("encoding", .str enc u)]) st Q := by
  refine call_def (name := _) (binds := [("string", .str x t), ("encoding", .str enc u)]) (by with_unfolding_all rfl) (by with_unfolding_all rfl) (by omega) (by intro S; with_unfolding_all rfl) (by rfl) (by rfl) (by rfl) (by rfl) (by rfl) (by rfl) ?_
  intro C' hw hr' hC'
  have hl := hP.len
  have hf := hP.few
  have hxs : x.length ≤ sizeLine := by rw [sizeLine_eq]; omega
  refine x_cons ?_
  refine x_tup3 ?_ (by kernel_rfl!) (by kernel_rfl!) (by kernel_rfl!) (by kernel_rfl!) (by kernel_rfl!) (by kernel_rfl!) (by kernel_rfl!)
  tb_rel
  rename_i t1 t2 t3 tp
  refine ⟨tp, _, _, _, _, rfl, .inl (.head _), ?_⟩
  refine x_cons ?_
  refine x_while (n := (c :: cs).length) (fun i s => ∃ to tb tp, look s.m "string" = some (.str x t) ∧ look s.m "encoding" = some (.str enc u) ∧ look s.m "out" = some (.str "" to) ∧ look s.m "octets" = some (.bytes ((c :: cs).take i).toArray tb) ∧ look s.m "pos" = some (.int (3 * i : Nat) tp) ∧ Sub st.news s.news)
    ⟨t1, t2, t3, by krn_off, by krn_off, by krn_off, by krn_off, by krn_off, .cons _ (.refl _)⟩ ?_ ?_
  · rintro i ⟨m₂, n₂⟩ hi ⟨to, tb, tp2, h1, h2, h3, h4, h5, h6⟩
    dsimp only at h1 h2 h3 h4 h5 h6
    obtain ⟨a, d, z, p1, p2, p3, p4, p5, p6, p7⟩ := hP.at_ i hi
    tb_rel
    refine ⟨decide_eq_true (by omega), ?_⟩
    have p7' : HexOk (Txt.slice x (some ((3 * i : Nat) + 1 : Int)) (some ((3 * i : Nat) + 3 : Int))) (c :: cs)[i].toNat := p6 ▸ p7
    have hstep : ((c :: cs).take i).toArray ++ #[(c :: cs)[i]] = ((c :: cs).take (i + 1)).toArray := by
      rw [List.take_add_one, List.getElem?_eq_getElem hi, Option.toList_some]
      simp
    tb_rel
    refine o_char (by omega) (by omega) hxs (by rw [Int.toNat_natCast]; exact p1) (fun t6 => ?_) (by with_unfolding_all rfl)
    tb_rel
    refine ite_t ?_
    tb_rel
    have q0 : decide ((((3 * i : Nat) : Int) + 2) < (x.length : Int)) = true := decide_eq_true (by omega)
    rw [q0]
    refine ite_t ?_
    tb_rel
    refine o_char (by omega) (by omega) hxs (by rw [show (((3 * i : Nat) : Int) + 1).toNat = 3 * i + 1 by omega]; exact p2) (fun t7 => ?_) (by with_unfolding_all rfl)
    tb_rel
    rw [p4]
    refine ite_t ?_
    tb_rel
    refine o_char (by omega) (by omega) hxs (by rw [show (((3 * i : Nat) : Int) + 2).toNat = 3 * i + 2 by omega]; exact p3) (fun t8 => ?_) (by with_unfolding_all rfl)
    tb_rel
    rw [p5]
    refine ite_t ?_
    tb_rel
    refine o_hex p7' fun t9 => ?_
    tb_rel
    refine o_bytes (.head _) (UInt8.toNat_lt _) fun t10 => ?_
    refine o_iadd_bytes (by rw [List.size_toArray, List.length_take]; show _ + 1 ≤ _; omega) fun t11 => ?_
    rw [show (c :: cs)[i].toNat.toUInt8 = (c :: cs)[i] from UInt8.ofNat_toNat, hstep]
    tb_rel
    rename_i tz
    refine ⟨.inr rfl, _, .refl _, to, t11, tz, by krn_off, by krn_off, by krn_off, by krn_off, ?_, .cons _ (.cons _ h6)⟩
    rw [show ((3 * (i + 1) : Nat) : Int) = ((3 * i : Nat) : Int) + 3 by omega]
    krn_off
  · rintro ⟨m₂, n₂⟩ ⟨to, tb, tp2, h1, h2, h3, h4, h5, h6⟩
    dsimp only at h1 h2 h3 h4 h5 h6
    rw [List.take_length] at h4
    tb_rel
    refine ⟨decide_eq_false (by omega), ?_⟩
    tb_rel
    refine text_of hT (by omega) fun t5 => ?_
    have := hT.1
    have e0 : (("" : Str).length) = 0 := by decide
    tb_rel
    exact ⟨_, h6, by rw [show Str.ofString "" ++ y = y from str_empty_append y]; exact h _⟩
end
theorem pct1 : Pct "%C3%A9%20" [0xC3, 0xA9, 0x20] := ⟨by kernel_rfl, by decide, fun i h => by
  have : i = 0 ∨ i = 1 ∨ i = 2 := by have : i < 3 := h; omega
  rcases this with rfl | rfl | rfl
  · exact ⟨_, _, "C3", by kernel_rfl, rfl, rfl, by kernel_rfl, by kernel_rfl, by kernel_rfl, hex_C3⟩
  · exact ⟨_, _, "A9", by kernel_rfl, rfl, rfl, by kernel_rfl, by kernel_rfl, by kernel_rfl, hex_A9⟩
  · exact ⟨_, _, "20", by kernel_rfl, rfl, rfl, by kernel_rfl, by kernel_rfl, by kernel_rfl, hex_20⟩⟩
theorem pct2 : Pct "%E2%82%AC" [0xE2, 0x82, 0xAC] := ⟨by kernel_rfl, by decide, fun i h => by
  have : i = 0 ∨ i = 1 ∨ i = 2 := by have : i < 3 := h; omega
  rcases this with rfl | rfl | rfl
  · exact ⟨_, _, "E2", by kernel_rfl, rfl, rfl, by kernel_rfl, by kernel_rfl, by kernel_rfl, hex_E2⟩
  · exact ⟨_, _, "82", by kernel_rfl, rfl, rfl, by kernel_rfl, by kernel_rfl, by kernel_rfl, hex_82⟩
  · exact ⟨_, _, "AC", by kernel_rfl, rfl, rfl, by kernel_rfl, by kernel_rfl, by kernel_rfl, hex_AC⟩⟩
theorem pct3 : Pct "%E9" [0xE9] := ⟨by kernel_rfl, by decide, fun i h => by
  obtain rfl : i = 0 := by have : i < 1 := h; omega
  exact ⟨_, _, "E9", by kernel_rfl, rfl, rfl, by kernel_rfl, by kernel_rfl, by kernel_rfl, hex_E9⟩⟩
theorem pct4 : Pct "%41" [0x41] := ⟨by kernel_rfl, by decide, fun i h => by
  obtain rfl : i = 0 := by have : i < 1 := h; omega
  exact ⟨_, _, "41", by kernel_rfl, rfl, rfl, by kernel_rfl, by kernel_rfl, by kernel_rfl, hex_41⟩⟩
theorem pct5 : Pct "%7A" [0x7A] := ⟨by kernel_rfl, by decide, fun i h => by
  obtain rfl : i = 0 := by have : i < 1 := h; omega
  exact ⟨_, _, "7A", by kernel_rfl, rfl, rfl, by kernel_rfl, by kernel_rfl, by kernel_rfl, hex_7A⟩⟩
/-- what unquote makes of a value in an encoding -/
def UnOk (v enc y : Str) : Prop := y.length ≤ 100 ∧ ∃ c cs, Pct v (c :: cs) ∧ TextOk c cs enc y
theorem un1 : UnOk "%C3%A9%20" "utf-8" "é " := ⟨by decide, _, _, pct1, by decide, .inl ⟨rfl, road1⟩⟩
theorem un2 : UnOk "%E2%82%AC" "utf-8" "€" := ⟨by decide, _, _, pct2, by decide, .inl ⟨rfl, road2⟩⟩
theorem un3 : UnOk "%E9" "iso-8859-1" "é" := ⟨by decide, _, _, pct3, by decide, .inr (.inl ⟨rfl, road3⟩)⟩
theorem un4 : UnOk "%41" "us-ascii" "A" := ⟨by decide, _, _, pct4, by decide, .inr (.inr ⟨.inr rfl, road4⟩)⟩
theorem un5 : UnOk "%7A" "ascii" "z" := ⟨by decide, _, _, pct5, by decide, .inr (.inr ⟨.inl rfl, road5⟩)⟩
theorem unquote_ok {C : Cx} {E : Value → Shared → Prop} {st : St} {x enc y : Str} {t u : Tok} (hU : UnOk x enc y) (hr : 1 < C.room) {Q : Value → St → Prop} (h : ∀ t, Q (.str y t) st) : Ev C E (call (.ref 45) [.str x t] [("encoding", .str enc u)]) st Q := by
  obtain ⟨_, c, cs, hP, hT⟩ := hU
  exact unquote_of hP hT hr h
end Mine
end
section
open PySem PySem.W PyProof.Rows PySem.Calls PySem.Spec
namespace Mine
section
variable {C : Cx} {E : Value → Shared → Prop} {st : St}
theorem o_get0 {x dx : Addr} {name : Str} {es : List DictEntry} {n : Nat} {v : Value} {expr : Bool} {Q : Value → St → Prop} (hx : (x, instObj HS dx) ∈ st.news) (hd : (dx, dictOf es n) ∈ st.news) (hg : plainGet (KF C.w) HS name = true)
    (ha : findIn (KF C.w) (.ref HS) name = some none) (hl : getL name es = some (some v)) (hv : handedIn v = true) (h : Q v st) : Ev C E (getAttr (.ref x) name expr) st Q :=
  o_get hx hd hg ha (by kernel_rfl!) hl hv h
theorem o_isnot_nn {Q : Value → St → Prop} (h : Q (.bool false) st) : Ev C E (compareOp .IsNot .none .none) st Q := fun s H => wpAny_pure ⟨st, H.toHeld, h⟩
end
end Mine
end
end
section
local macro_rules | `(tactic| allgen_close2_more) => `(tactic| ((repeat first | with_reducible refine look_other (by kernel_rfl!) ?_ | with_reducible refine look_tl (by kernel_rfl!) ?_); first | with_reducible assumption | with_reducible exact look_same | with_reducible exact look_hd))
local macro_rules | `(tactic| krn_off) => `(tactic| ((repeat first | with_reducible refine look_other (by kernel_rfl!) ?_ | with_reducible refine look_tl (by kernel_rfl!) ?_); first | with_reducible assumption | with_reducible exact look_same | with_reducible exact look_hd | with_unfolding_all exact rfl))
local macro_rules | `(tactic| none_booked) => `(tactic| first | with_reducible assumption | decide | (simp only [List.length_cons, List.length_nil, List.length_append, sizeLine_eq]; omega) | (rw [sizeLine_eq]; omega))
local macro_rules | `(tactic| mem_news) => `(tactic| first | with_reducible_and_instances assumption | with_reducible_and_instances exact List.Mem.head _ | (with_reducible_and_instances refine List.Mem.tail _ ?_; mem_news))
local macro_rules | `(tactic| k_upd) => `(tactic| first | with_reducible_and_instances exact At.head | (with_reducible_and_instances apply At.tail; k_upd))
local macro_rules | `(tactic| got_up) => `(tactic| first | with_reducible exact Sub.refl _ | (with_reducible refine Sub.cons₂ _ ?_; got_up) | (with_reducible refine Sub.cons _ ?_; got_up))
local macro_rules | `(tactic| tb_start) => `(tactic| first
  | (with_reducible show Ev _ _ (eval _ _) _ _; first
    | (with_reducible refine e_loc (by kernel_rfl!) (by allgen_close2_more) ?_ (by kernel_rfl!) (by kernel_rfl!) (by kernel_rfl!))
    | (with_reducible refine e_cloc (by kernel_rfl!) (by mem_news) (by assumption) (by assumption) ?_ (by kernel_rfl!) (by kernel_rfl!))
    | (with_reducible refine e_int ?_; intro _)
    | (with_reducible refine e_str ?_; intro _)
    | (with_reducible refine e_method ?_ (by kernel_rfl!))
    | (with_reducible refine e_call ?_ (by kernel_rfl!))
    | (with_reducible refine e_glob (by kernel_rfl!) (by with_unfolding_all exact rfl) ?_ (by kernel_rfl!) (by kernel_rfl!) (by kernel_rfl!))
    | (with_reducible refine e_blt (by kernel_rfl!) (by with_unfolding_all exact rfl) ?_ (by kernel_rfl!) (by kernel_rfl!) (by kernel_rfl!) (by kernel_rfl!))
    | (with_reducible refine e_attr ?_ (by kernel_rfl!))
    | (with_reducible refine e_binop ?_)
    | (with_reducible refine e_compare ?_ (by kernel_rfl!))
    | (with_reducible refine e_sub ?_)
    | (with_reducible refine e_none ?_)
    | (with_reducible refine e_bool ?_)
    | (with_reducible refine e_list ?_)
    | (with_reducible refine e_tuple ?_)
    | (with_reducible refine e_unary ?_)
    | (with_reducible refine e_ifexp ?_)
    | (with_reducible refine e_joined ?_)
    | (with_reducible refine e_slice_ss ?_)
    | (with_reducible refine e_slice_sn ?_)
    | (with_reducible refine e_slice_ns ?_)
    | (with_reducible refine e_fmt ?_)
    | (with_reducible refine e_bool1 ?_)
    | (with_reducible refine e_and ?_)
    | (with_reducible refine e_or ?_))
  | (with_reducible show Ev _ _ (exec _ _) _ _; first
    | (with_reducible refine x_assign ?_ (by kernel_rfl!) (by kernel_rfl!) (by kernel_rfl!) (by kernel_rfl!))
    | (with_reducible refine x_if ?_)
    | (with_reducible refine x_return ?_)
    | (with_reducible refine x_expr ?_ (by kernel_rfl!) (by kernel_rfl!))
    | (with_reducible refine x_augassign (by allgen_close2_more) ?_ (by kernel_rfl!) (by kernel_rfl!) (by kernel_rfl!))
    | (with_reducible refine x_continue ?_)
    | (with_reducible refine x_break ?_)
    | (with_reducible refine x_pass ?_)
    | (with_reducible refine x_setattr ?_ (by kernel_rfl!))
    | (with_reducible refine x_setitem ?_ (by kernel_rfl!))
    | (with_reducible refine x_delitem ?_)
    | (with_reducible refine x_return0 ?_))
  | (with_reducible show Ev _ _ (execs _ _) _ _; first
    | (with_reducible refine x_cons ?_)
    | (with_reducible refine x_nil ?_))
  | (with_reducible show Ev _ _ (spliced _) _ _; first
    | (with_reducible refine sp_nil ?_)
    | (with_reducible refine sp_two ?_; intro _ _ _ _ _)
    | (with_reducible refine sp_cons ?_ (by kernel_rfl!)))
  | (with_reducible show Ev _ _ (isTrue _ _ _) _ _; first
    | (with_reducible refine t_compare ?_ (by kernel_rfl!))
    | (with_reducible refine t_not ?_)
    | (with_reducible refine t_and0 ?_)
    | (with_reducible refine t_or0 ?_)
    | (with_reducible refine t_and ?_)
    | (with_reducible refine t_or ?_)
    | (with_reducible refine t_plain ?_ (by kernel_rfl!)))
  | (with_reducible show Ev _ _ (callWith _ _ _ _ _) _ _; first
    | (with_reducible refine cw_builtin ?_ (by kernel_rfl!))
    | (with_reducible refine cw_def (by kernel_rfl!) ?_ (by kernel_rfl!))
    | (with_reducible refine cw_type ?_ (by kernel_rfl!))
    | (with_reducible refine cw_builtin0 ?_)
    | (with_reducible refine cw_def0 (by kernel_rfl!) ?_))
  | (with_reducible show Ev _ _ (compareOp _ _ _) _ _; first
    | (with_reducible refine o_isnot_nn ?_)
    | (with_reducible refine o_eq_str ?_)
    | (with_reducible refine o_eq_int ?_)
    | (with_reducible refine o_ne_str ?_)
    | (with_reducible refine o_in_str ?_)
    | (with_reducible refine o_notin_str ?_)
    | (with_reducible refine o_ne_int ?_)
    | (with_reducible refine o_lt_int ?_)
    | (with_reducible refine o_gt_int ?_)
    | (with_reducible refine o_le_int ?_)
    | (with_reducible refine o_ge_int ?_)
    | (with_reducible refine o_is_none ?_)
    | (with_reducible refine o_isnot_none (by kernel_rfl!) ?_))
  | (with_reducible show Ev _ _ (call _ _ _) _ _; first
    | (with_reducible refine o_isinst_list_dict (by mem_news) ?_)
    | (with_reducible refine o_len_list (by mem_news) (by none_booked) ?_; intro _)
    | (with_reducible refine m_append (by k_upd) (by none_booked) ?_)
    | (with_reducible refine m_startswith ?_)
    | (with_reducible refine m_endswith ?_)
    | (with_reducible refine m_strip (by none_booked) ?_; intro _)
    | (with_reducible refine m_str ?_)
    | (with_reducible refine o_range1 ?_; intro _ _ _)
    | (with_reducible refine o_len_str (by none_booked) ?_; intro _)
    | (with_reducible refine o_ord ?_; intro _))
  | (with_reducible show Ev _ _ (getMethod _ _ _) _ _; first
    | (with_reducible refine gm_replace ?_)
    | (with_reducible refine gm_strip ?_)
    | (with_reducible refine gm_lower ?_)
    | (with_reducible refine gm_upper ?_)
    | (with_reducible refine gm_startswith ?_)
    | (with_reducible refine gm_endswith ?_)
    | (with_reducible refine gm_join ?_)
    | (with_reducible refine gm_partition ?_)
    | (with_reducible refine gm_append (by mem_news) ?_)
    | (with_reducible refine gm_set PySem.F.slot_set_add PySem.F.type_set_add (by mem_news) (by assumption) ?_)
    | (with_reducible refine gm_set PySem.F.slot_set_remove PySem.F.type_set_remove (by mem_news) (by assumption) ?_)
    | (with_reducible refine gm_set PySem.F.slot_set_clear PySem.F.type_set_clear (by mem_news) (by assumption) ?_)
    | (with_reducible refine gm_list PySem.F.slot_list_clear PySem.F.type_list_clear (by mem_news) ?_)
    | (with_reducible refine gm_list PySem.F.slot_list_pop PySem.F.type_list_pop (by mem_news) ?_))
  | (with_reducible show Ev _ _ (truthy _) _ _; first
    | (with_reducible refine o_truthy_bool ?_)
    | (with_reducible refine o_truthy_str (by none_booked) ?_)
    | (with_reducible refine o_truthy_none ?_))
  | (with_reducible show Ev _ _ (binaryOp _ _ _) _ _; first
    | (with_reducible refine o_add_lists (by mem_news) (by mem_news) (by none_booked) ?_; intro _)
    | (with_reducible refine o_add_str (by none_booked) ?_; intro _)
    | (with_reducible refine o_add_int ?_; intro _)
    | (with_reducible refine o_mod_int (by decide) ?_; intro _)
    | (with_reducible refine o_floordiv_int (by decide) (by decide +kernel) ?_; intro _)
    | (with_reducible refine o_sub_int ?_; intro _))
  | (with_reducible show Ev _ _ (subscriptTail _ _ _ _) _ _; first
    | (with_reducible refine o_slice_str (by mem_news) (by with_unfolding_all exact rfl) (by none_booked) ?_ (by with_unfolding_all rfl); intro _))
  | (with_reducible show Ev _ _ (newList _) _ _; first
    | (with_reducible refine o_newList (by none_booked) ?_; intro _))
  | (with_reducible show Ev _ _ (newTuple _) _ _; first
    | (with_reducible refine o_newTuple (by none_booked) ?_; intro _))
  | (with_reducible show Ev _ _ (inplaceOp _ _ _) _ _; first
    | (with_reducible refine o_iadd_str (by none_booked) ?_; intro _)
    | (with_reducible refine o_iadd_int ?_; intro _))
  | (with_reducible show Ev _ _ (unaryOp _ _) _ _; first
    | (with_reducible refine o_not ?_)
    | (with_reducible refine o_neg_int ?_; intro _))
  | (with_reducible show Ev _ _ (getAttr _ _ _) _ _; first
    | (with_reducible refine o_get0 (by mem_news) (by mem_news) (by kernel_rfl!) (by kernel_rfl!) (by with_unfolding_all rfl) (by with_unfolding_all rfl) ?_))
  | (with_reducible show Ev _ _ (joinParts _ _) _ _; first
    | (with_reducible refine j_cons ?_)
    | (with_reducible refine j_more ?_)
    | (with_reducible refine j_nil (by none_booked) ?_; intro _))
  | (with_reducible refine opt_int ?_; intro _)
  | (with_reducible refine opt_int2 ?_; intro _)
  | (with_reducible refine pl_intro ?_; intro _)
  | (with_reducible refine ite_t ?_)
  | (with_reducible refine ite_f ?_)
  | (with_reducible refine ite_nt ?_)
  | (with_reducible refine ite_nf ?_)
  | fail)
local macro_rules | `(tactic| tb_rel) => `(tactic| repeat' (tb_start; try dsimp only [List.cons_append, List.nil_append]))
section
open PySem PySem.W PyProof.Rows PySem.Calls PySem.Spec
namespace Mine
/-- the fixed parts of a HeaderSet -/
structure HsV where
  x : Addr
  dx : Addr
  hl : Addr
  sl : Addr
  n : Nat
  t1 : Tok
  t2 : Tok
  t3 : Tok
abbrev hsD (w : World) (V : HsV) : Obj := dictOf (hsEs w V.t1 V.t2 V.t3 (.ref V.hl) (.ref V.sl) .none) V.n
abbrev hsL (w : World) (V : HsV) (vs : List Value) (k : Nat) (so : Obj) (r : Led) : Led := (V.x, instObj HS V.dx) :: (V.dx, hsD w V) :: (V.hl, lst vs k) :: (V.sl, so) :: r
/-- the rows that a HeaderSet holds -/
structure HsR (w : World) (rows : List Str) (vs : List Value) (so : Obj) : Prop where
  tx : TxA vs rows
  so : SetO w so (rows.map Txt.lower)
  nd : (rows.map Txt.lower).Nodup
  ln : rows.length ≤ 60
  sz : ∀ r ∈ rows, r.length ≤ 100
/-- its objects stand in the ledger -/
structure HsM (w : World) (V : HsV) (vs : List Value) (k : Nat) (so : Obj) (news : Led) : Prop where
  hx : (V.x, instObj HS V.dx) ∈ news
  hd : (V.dx, hsD w V) ∈ news
  hl : (V.hl, lst vs k) ∈ news
  hs : (V.sl, so) ∈ news
theorem HsM.head {w V vs k so r} : HsM w V vs k so (hsL w V vs k so r) := ⟨.head _, .tail _ (.head _), .tail _ (.tail _ (.head _)), .tail _ (.tail _ (.tail _ (.head _)))⟩
theorem HsM.tail {w V vs k so r p} (M : HsM w V vs k so r) : HsM w V vs k so (p :: r) := ⟨.tail _ M.hx, .tail _ M.hd, .tail _ M.hl, .tail _ M.hs⟩
section
variable {C : Cx} {E : Value → Shared → Prop} {st : St} {V : HsV} {rows : List Str} {vs : List Value} {so : Obj} {k : Nat} {m : List (Str × Value)} {r : Led}
theorem HsR.w {w w' : World} (R : HsR w rows vs so) (h : w' = w) : HsR w' rows vs so := h ▸ R
theorem hs_len (M : HsM C.w V vs k so st.news) (R : HsR C.w rows vs so) (hr : 0 < C.room) {Q : Value → St → Prop} (h : ∀ t, Q (.int rows.length t) st) : Ev C E (call (.ref 207) [.ref V.x]) st Q := by
  refine call_def (name := _) (binds := [("self", .ref V.x)]) (by with_unfolding_all rfl) (by with_unfolding_all rfl) hr (by intro S; with_unfolding_all rfl) (by rfl) (by rfl) (by rfl) (by rfl) (by rfl) (by rfl) ?_
  intro C' hw hr' hC'
  obtain ⟨hx, hd, hl, hs⟩ := M
  have R' := R.w hw
  have hz := R.ln
  tb_rel
  refine o_len_set (by mem_news) R'.so (by rw [List.length_map]; omega) fun t => ?_
  rw [List.length_map]
  exact ⟨_, .refl _, h t⟩
theorem hs_bool (M : HsM C.w V vs k so st.news) (R : HsR C.w rows vs so) (hr : 0 < C.room) {Q : Value → St → Prop} (h : Q (.bool (!rows.isEmpty)) st) : Ev C E (call (.ref 221) [.ref V.x]) st Q := by
  refine call_def (name := _) (binds := [("self", .ref V.x)]) (by with_unfolding_all rfl) (by with_unfolding_all rfl) hr (by intro S; with_unfolding_all rfl) (by rfl) (by rfl) (by rfl) (by rfl) (by rfl) (by rfl) ?_
  intro C' hw hr' hC'
  obtain ⟨hx, hd, hl, hs⟩ := M
  have R' := R.w hw
  have hz := R.ln
  tb_rel
  refine o_bool_set (by mem_news) R'.so (by rw [List.length_map]; omega) ?_
  rw [List.isEmpty_map]
  exact ⟨_, .refl _, h⟩
theorem hs_contains {name : Str} {t : Tok} (M : HsM C.w V vs k so st.news) (R : HsR C.w rows vs so) (hn : name.length ≤ 1000) (hr : 0 < C.room) {Q : Value → St → Prop} (h : Q (.bool (decide (Txt.lower name ∈ rows.map Txt.lower))) st) : Ev C E (call (.ref 200) [.ref V.x, .str name t]) st Q := by
  refine call_def (name := _) (binds := [("self", .ref V.x), ("header", .str name t)]) (by with_unfolding_all rfl) (by with_unfolding_all rfl) hr (by intro S; with_unfolding_all rfl) (by rfl) (by rfl) (by rfl) (by rfl) (by rfl) (by rfl) ?_
  intro C' hw hr' hC'
  obtain ⟨hx, hd, hl, hs⟩ := M
  have R' := R.w hw
  have hz := R.ln
  tb_rel
  refine m_lower (fit_lower (by omega)) fun t4 => ?_
  tb_rel
  refine o_in_set (by mem_news) R'.so (by rw [List.length_map]; omega) ?_
  exact ⟨_, .refl _, h⟩
theorem hs_iter (M : HsM C.w V vs k so st.news) (hr : 0 < C.room) {Q : Value → St → Prop} (h : ∀ I, Q (.ref I) ⟨st.m, (I, litObj V.hl) :: st.news⟩) : Ev C E (call (.ref 214) [.ref V.x]) st Q := by
  refine call_def (name := _) (binds := [("self", .ref V.x)]) (by with_unfolding_all rfl) (by with_unfolding_all rfl) hr (by intro S; with_unfolding_all rfl) (by rfl) (by rfl) (by rfl) (by rfl) (by rfl) (by rfl) ?_
  intro C' hw hr' hC'
  obtain ⟨hx, hd, hl, hs⟩ := M
  tb_rel
  refine o_iter_list (by mem_news) fun I => ?_
  exact ⟨_, .refl _, h I⟩
theorem hs_list (M : HsM C.w V vs k so st.news) (R : HsR C.w rows vs so) (hr : 2 < C.room) {Q : Value → St → Prop} (h : ∀ l k, Q (.ref l) ⟨st.m, (l, lst vs k) :: st.news⟩) : Ev C E (call (.type "list") [.ref V.x]) st Q := by
  have hv := R.tx.length
  have hz := R.ln
  refine o_list_inst (by omega) M.hx M.hd M.hl (by omega) (fun S c => ?_) (fun S c I => ?_) h
  · exact hs_iter (C := C.j2 (by omega)) (V := V) (vs := vs) (k := k) (so := so) (M := M.tail) (by show 0 < C.room - 1; omega) fun I => ⟨I, rfl, rfl⟩
  · exact hs_len (C := C.j3 (by omega)) M.tail.tail R (by show 0 < C.room - 1; omega) fun t => ⟨_, t, rfl, by omega, rfl⟩
theorem hs_slen (M : HsM C.w V vs k so st.news) (R : HsR C.w rows vs so) (hr : 2 < C.room) {Q : Value → St → Prop} (h : ∀ t, Q (.int rows.length t) st) : Ev C E (call (.builtin "len") [.ref V.x]) st Q := by
  have hz := R.ln
  exact o_len_inst (by omega) M.hx M.hd (hs_len (C := C.j1 (by omega)) M R (by show 0 < C.room - 1; omega) fun t => ⟨_, t, rfl, by omega, h⟩)
theorem hs_sbool (M : HsM C.w V vs k so st.news) (R : HsR C.w rows vs so) (hr : 2 < C.room) {Q : Value → St → Prop} (h : Q (.bool (!rows.isEmpty)) st) : Ev C E (call (.type "bool") [.ref V.x]) st Q :=
  o_bool_inst (by omega) M.hx M.hd (hs_bool (C := C.j2 (by omega)) M R (by show 0 < C.room - 1; omega) ⟨_, rfl, h⟩)
theorem hs_in {name : Str} {t : Tok} (M : HsM C.w V vs k so st.news) (R : HsR C.w rows vs so) (hn : name.length ≤ 1000) (hr : 2 < C.room) {Q : Value → St → Prop} (h : Q (.bool (decide (Txt.lower name ∈ rows.map Txt.lower))) st) : Ev C E (compareOp .In (.str name t) (.ref V.x)) st Q :=
  o_in_inst M.hx M.hd (hs_contains M R hn (by omega) ⟨_, rfl, h⟩)
theorem hs_notin {name : Str} {t : Tok} (M : HsM C.w V vs k so st.news) (R : HsR C.w rows vs so) (hn : name.length ≤ 1000) (hr : 2 < C.room) {Q : Value → St → Prop} (h : Q (.bool (!decide (Txt.lower name ∈ rows.map Txt.lower))) st) : Ev C E (compareOp .NotIn (.str name t) (.ref V.x)) st Q :=
  o_notin_inst M.hx M.hd (hs_contains M R hn (by omega) ⟨_, rfl, h⟩)
theorem hs_asset (M : HsM C.w V vs k so st.news) (R : HsR C.w rows vs so) (hl30 : rows.length ≤ 30) (hr : 2 < C.room) {Q : Value → St → Prop} (h : ∀ D so', SetO C.w so' (rows.map Txt.lower) → Q (.ref D) ⟨st.m, (D, so') :: st.news⟩) : Ev C E (call (.ref 165) [.ref V.x]) st Q := by
  refine call_def (name := _) (binds := [("self", .ref V.x), ("preserve_casing", .bool false)]) (by with_unfolding_all rfl) (by with_unfolding_all rfl) (by omega) (by intro S; with_unfolding_all rfl) (by rfl) (by rfl) (by rfl) (by rfl) (by rfl) (by rfl) ?_
  intro C' hw hr' hC'
  obtain ⟨hx, hd, hl, hs⟩ := M
  have R' := R.w hw
  tb_rel
  refine o_set_set (by mem_news) R'.so (by rw [List.length_map]; omega) fun D so' hO => ?_
  exact ⟨_, .refl _, h D so' (hw ▸ hO)⟩
theorem nodup_of_map {α β : Type} {f : α → β} {l : List α} (h : (l.map f).Nodup) : l.Nodup := by
  induction l with
  | nil => exact List.nodup_nil
  | cons a l ih =>
    rw [List.map_cons, List.nodup_cons] at h
    rw [List.nodup_cons]
    exact ⟨fun q => h.1 (List.mem_map_of_mem q), ih h.2⟩
theorem hs_assetT (M : HsM C.w V vs k so st.news) (R : HsR C.w rows vs so) (hr : 2 < C.room) {Q : Value → St → Prop} (h : ∀ D so', SetO C.w so' rows → Q (.ref D) ⟨st.m, (D, so') :: st.news⟩) : Ev C E (call (.ref 165) [.ref V.x, .bool true]) st Q := by
  refine call_def (name := _) (binds := [("self", .ref V.x), ("preserve_casing", .bool true)]) (by with_unfolding_all rfl) (by with_unfolding_all rfl) (by omega) (by intro S; with_unfolding_all rfl) (by rfl) (by rfl) (by rfl) (by rfl) (by rfl) (by rfl) ?_
  intro C' hw hr' hC'
  obtain ⟨hx, hd, hl, hs⟩ := M
  have R' := R.w hw
  have hz := R.ln
  tb_rel
  refine o_set_list (by mem_news) R'.tx (nodup_of_map R.nd) (by omega) fun D so' hO => ?_
  exact ⟨_, .refl _, h D so' (hw ▸ hO)⟩
theorem hs_find {name : Str} {t : Tok} (M : HsM C.w V vs k so st.news) (R : HsR C.w rows vs so) (hn : name.length ≤ 1000) (hr : 2 < C.room) {Q : Value → St → Prop} (h : ∀ t, Q (.int (placeIn rows name) t) st) : Ev C E (call (.ref 143) [.ref V.x, .str name t]) st Q := by
  refine call_def (name := _) (binds := [("self", .ref V.x), ("header", .str name t)]) (by with_unfolding_all rfl) (by with_unfolding_all rfl) (by omega) (by intro S; with_unfolding_all rfl) (by rfl) (by rfl) (by rfl) (by rfl) (by rfl) (by rfl) ?_
  intro C' hw hr' hC'
  obtain ⟨hx, hd, hl, hs⟩ := M
  have R' := R.w hw
  have hz := R.ln
  tb_rel
  refine m_lower (fit_lower (by omega)) fun t4 => ?_
  tb_rel
  refine x_for_enum ?_ (fun _ => rfl) (by kernel_rfl!) (by kernel_rfl!) (by kernel_rfl!) (by kernel_rfl!)
  tb_rel
  refine o_enum (by mem_news) fun e it oi hoi => ?_
  refine ⟨e, it, oi, V.hl, vs, k, st.news, (fun i s => look s.m "self" = some (.ref V.x) ∧ look s.m "header" = some (.str (Txt.lower name) t4) ∧ s.news = st.news ∧ ∀ j x, j < i → rows[j]? = some x → (Txt.lower x == Txt.lower name) = false), rfl, rfl, hoi, hl, ?_⟩
  refine ⟨?_, ?_, ?_, ?_⟩
  · rintro i s2 ⟨h1, h2, h3, h4⟩ p hp
    rw [List.mem_singleton.mp hp, h3]; exact hl
  · exact ⟨st.news, .refl _, by krn_off, by krn_off, rfl, fun j x hj => absurd hj (Nat.not_lt_zero _)⟩
  · rintro i va vb st₂ I oI I' oI' hi ⟨hb, ti, rfl⟩ ⟨h1, h2, h3, h4⟩
    obtain ⟨m₂, n₂⟩ := st₂
    dsimp only at h1 h2 h3 h4 ⊢
    subst h3
    have hi' : i < rows.length := by rw [← R.tx.length]; exact hi
    obtain ⟨t5, ht5⟩ := R.tx.get (List.getElem?_eq_getElem hi')
    have hry := R.sz rows[i] (List.getElem_mem hi')
    rw [ht5] at hb
    obtain rfl := Option.some.inj hb
    tb_rel
    refine m_lower (fit_lower (by omega)) fun t6 => ?_
    tb_rel
    cases hb : (Txt.lower rows[i] == Txt.lower name) with
    | true =>
      tb_rel
      refine ⟨st.news, by got_up, ?_⟩
      have e := placeIn_hit h4 (List.getElem?_eq_getElem hi') hb
      rw [← e]
      exact h _
    | false =>
      tb_rel
      refine ⟨_, .refl _, by krn_off, by krn_off, rfl, fun j x hj hx' => ?_⟩
      rcases Nat.lt_or_ge j i with hlt | hge
      · exact h4 j x hlt hx'
      · have : j = i := by omega
        subst this
        rw [List.getElem?_eq_getElem hi'] at hx'
        cases hx'; exact hb
  · rintro ⟨m₂, n₂⟩ ⟨h1, h2, h3, h4⟩
    dsimp only at h1 h2 h3 h4 ⊢
    subst h3
    tb_rel
    refine ⟨_, .refl _, ?_⟩
    have e := placeIn_miss (rows := rows) (name := name) fun j x hx' => h4 j x (by have := (List.getElem?_eq_some_iff.mp hx').1; rw [R.tx.length]; exact this) hx'
    rw [← e]
    exact h _
end
end Mine
end
section
open PySem PySem.W PyProof.Rows PySem.Calls PySem.Spec
namespace Mine
theorem seq_none {i : Int} {n : Nat} (h : seqIndex? i n = none) : i < -(n : Int) ∨ (n : Int) ≤ i := by
  by_cases hn : i < 0
  · by_cases h2 : 0 ≤ i + n
    · rw [seqIndex_back hn h2] at h; cases h
    · omega
  · by_cases h2 : i < n
    · rw [seqIndex_at (by omega) h2] at h; cases h
    · omega
theorem seq_some {i : Int} {n j : Nat} (h : seqIndex? i n = some j) : (i < 0 ∧ 0 ≤ i + n ∧ j = (i + n).toNat) ∨ (0 ≤ i ∧ i < n ∧ j = i.toNat) := by
  by_cases hn : i < 0
  · by_cases h2 : 0 ≤ i + n
    · rw [seqIndex_back hn h2] at h; exact .inl ⟨hn, h2, (Option.some.inj h).symm⟩
    · have : seqIndex? i n = none := PySem.MeetsSeq.seqIndex_none_lo (by omega)
      rw [this] at h; cases h
  · by_cases h2 : i < n
    · rw [seqIndex_at (by omega) h2] at h; exact .inr ⟨by omega, h2, (Option.some.inj h).symm⟩
    · have : seqIndex? i n = none := by unfold seqIndex?; simp [hn]; omega
      rw [this] at h; cases h
theorem seq_or (i : Int) (n : Nat) : seqIndex? i n = none ∨ ∃ j, seqIndex? i n = some j := by
  cases seqIndex? i n with
  | none => exact .inl rfl
  | some j => exact .inr ⟨j, rfl⟩
section
variable {C : Cx} {E : Value → Shared → Prop} {st : St} {V : HsV} {rows : List Str} {vs : List Value} {so : Obj} {k : Nat} {m : List (Str × Value)} {r : Led}
theorem call_defR {name qual : Str} {params : Arguments} {body : List Stmt} {scope : Scope} {dV kV doc pm cdv ct oc : Value} {an od : Option Addr} {osl : Array (Option Value)} {f : Addr} {pos : List Value} {kw : List (Str × Value)} (binds : List (Str × Value)) (QE : String → St → Prop) {Q : Value → St → Prop}
    (ho : (KF C.w).lookup f = some ⟨oc, od, .func (fnOf name qual params body scope dV kV doc pm an cdv ct), osl⟩) (hcd : codeIn (KF C.w) cdv qual = true) (hroom : 0 < C.room)
    (hbind : ∀ S, peek (KF C.w) S (bindArgs (fnOf name qual params body scope dV kV doc pm an cdv ct) ⟨pos, kw⟩) = some binds)
    (hloc : (binds.all fun y => decide (scope.names.lookup y.1 = some .local)) = true) (hnd : decide ((binds.map (·.1)).Nodup) = true) (hcell : (scope.names.all fun x => decide (x.2 ≠ .cell)) = true)
    (hco : scope.isCoroutine = false) (hgen : scope.isGenerator = false) (hk : scope.kind = .function)
    (h : ∀ C' : Cx, C'.w = C.w → C'.room + 1 = C.room → C'.env = envOf qual scope C'.L f cdv → Ev C' (fun e s' => ∃ X st', Fresh C' st' X e s' ∧ ∃ news', Sub news' st'.news ∧ QE X ⟨st.m, news'⟩) (execs body (envOf qual scope C'.L f cdv)) ⟨binds, st.news⟩ fun fl st' => ∃ news', Sub news' st'.news ∧ Q (retOf fl) ⟨st.m, news'⟩)
    (hE : ∀ X st₂ e s', QE X st₂ → Raised C st₂ X e s' → E e s') : Ev C E (call (.ref f) pos kw) st Q := fun s H =>
  wpAny_call (code_defR ho hcd hroom hbind hloc hnd hcell hco hgen hk h hE s H)
theorem gm_hs {name : Str} {pl : Sem Bool} {Q : Value × List Value → St → Prop} (f : Addr) (hx : (V.x, instObj HS V.dx) ∈ st.news) (hd : (V.dx, hsD C.w V) ∈ st.news) (hg : plainGet (KF C.w) HS name = true)
    (hf : findIn (KF C.w) (.ref HS) name = some (some (.ref f))) (ht : isFn (KF C.w) (.ref f) = true) (hl : getL name (hsEs C.w V.t1 V.t2 V.t3 (.ref V.hl) (.ref V.sl) .none) = some none) (h : Q (.ref f, [.ref V.x]) st) : Ev C E (getMethod (.ref V.x) name pl) st Q :=
  gm_inst hx hd hg hf ht hl h
theorem hs_index {name : Str} {t : Tok} (M : HsM C.w V vs k so st.news) (R : HsR C.w rows vs so) (hn : name.length ≤ 1000) (hr : 3 < C.room) {Q : Value → St → Prop} (h : 0 ≤ placeIn rows name → ∀ t, Q (.int (placeIn rows name) t) st) (hE : placeIn rows name < 0 → ∀ e s', Raised C st "IndexError" e s' → E e s') :
    Ev C E (call (.ref 150) [.ref V.x, .str name t]) st Q := by
  refine call_defR (name := _) [("self", .ref V.x), ("header", .str name t)] (fun X st₂ => X = "IndexError" ∧ st₂ = st ∧ placeIn rows name < 0) (by with_unfolding_all rfl) (by with_unfolding_all rfl) (by omega) (by intro S; with_unfolding_all rfl) (by rfl) (by rfl) (by rfl) (by rfl) (by rfl) (by rfl) ?_ ?_
  · intro C' hw hr' hC'
    have M' : HsM C'.w V vs k so st.news := hw ▸ M
    obtain ⟨hx, hd, hl, hs⟩ := M'
    have R' := R.w hw
    have hz := R.ln
    tb_rel
    refine gm_hs 143 (by mem_news) (by mem_news) (by kernel_rfl!) (by kernel_rfl!) (by kernel_rfl!) (by with_unfolding_all rfl) ?_
    tb_rel
    refine hs_find (hw ▸ M) R' hn (by omega) fun t5 => ?_
    tb_rel
    cases hp : decide (placeIn rows name < 0) with
    | true =>
      refine ite_t ?_
      refine x_cons (x_raise1 excClass_IndexError (by kernel_rfl!) (by with_unfolding_all exact rfl) (by kernel_rfl!) (by kernel_rfl!) (by kernel_rfl!) (by kernel_rfl!) (by kernel_rfl!) ?_)
      tb_rel
      exact fun e s' hF => ⟨_, _, hF, st.news, .refl _, rfl, rfl, of_decide_eq_true hp⟩
    | false =>
      tb_rel
      exact ⟨_, .refl _, h (Int.not_lt.mp (of_decide_eq_false hp)) _⟩
  · rintro X st₂ e s' ⟨rfl, rfl, hp⟩ hR
    exact hE hp e s' hR
theorem hs_getitem {i : Int} {u : Tok} (M : HsM C.w V vs k so st.news) (R : HsR C.w rows vs so) (h0 : -(2 ^ 63) ≤ i) (h1 : i < 2 ^ 63) (hr : 3 < C.room) {Q : Value → St → Prop} (h : ∀ j x t, seqIndex? i rows.length = some j → rows[j]? = some x → Q (.str x t) st) (hE : seqIndex? i rows.length = none → ∀ e s', Raised C st "IndexError" e s' → E e s') :
    Ev C E (call (.ref 179) [.ref V.x, .int i u]) st Q := by
  refine call_defR (name := _) [("self", .ref V.x), ("idx", .int i u)] (fun X st₂ => X = "IndexError" ∧ st₂ = st ∧ seqIndex? i rows.length = none) (by with_unfolding_all rfl) (by with_unfolding_all rfl) (by omega) (by intro S; with_unfolding_all rfl) (by rfl) (by rfl) (by rfl) (by rfl) (by rfl) (by rfl) ?_ ?_
  · intro C' hw hr' hC'
    have M' : HsM C'.w V vs k so st.news := hw ▸ M
    obtain ⟨hx, hd, hl, hs⟩ := M'
    have R' := R.w hw
    have hz := R.ln
    have hv := R.tx.length
    tb_rel
    rcases seq_or i rows.length with hi | ⟨j, hi⟩
    · exact o_item_out hl (by rw [hv]; exact seq_none hi) h0 h1 (fun e s' hF => ⟨_, _, hF, st.news, .refl _, rfl, rfl, hi⟩) (by with_unfolding_all rfl)
    · have hj := lt_of_seqIndex hi
      obtain ⟨t5, ht5⟩ := R.tx.get (List.getElem?_eq_getElem hj)
      rcases seq_some hi with ⟨hn, e1, e2⟩ | ⟨hn, e1, e2⟩
      · refine o_item_neg hl hn (by rw [hv]; omega) h0 (v := .str rows[j] t5) (by rw [hv, ← e2]; exact ht5) ?_ (by with_unfolding_all rfl)
        exact ⟨_, .refl _, h j _ _ hi (List.getElem?_eq_getElem hj)⟩
      · refine o_item_list hl hn h1 (v := .str rows[j] t5) (by rw [← e2]; exact ht5) ?_ (by with_unfolding_all rfl)
        exact ⟨_, .refl _, h j _ _ hi (List.getElem?_eq_getElem hj)⟩
  · rintro X st₂ e s' ⟨rfl, rfl, hp⟩ hR
    exact hE hp e s' hR
end
end Mine
end
section
open PySem PySem.W PyProof.Rows PySem.Calls PySem.Spec
namespace Mine
theorem HsR.erase {w rows vs so so' j} (R : HsR w rows vs so) (hj : j < rows.length) (h : SetO w so' ((rows.map Txt.lower).erase (Txt.lower rows[j]))) : HsR w (rows.eraseIdx j) (vs.eraseIdx j) so' where
  tx := R.tx.eraseIdx j
  so := h.perm (by
    rw [erase_map]
    have := erase_idx_perm (l := rows.map Txt.lower) (j := j) (by simpa using hj)
    rwa [List.getElem_map] at this)
  nd := by rw [erase_map]; exact nodup_eraseIdx j R.nd
  ln := Nat.le_trans (List.eraseIdx_sublist rows j).length_le R.ln
  sz := fun r hr => R.sz r ((List.eraseIdx_sublist rows j).subset hr)
theorem HsR.set {w rows vs so so' j v t} (R : HsR w rows vs so) (hj : j < rows.length) (hv : Txt.lower v ∉ rows.map Txt.lower) (hz : v.length ≤ 100) (h : SetO w so' (setStep ((rows.map Txt.lower).erase (Txt.lower rows[j])) (Txt.lower v))) : HsR w (rows.set j v) (vs.set j (.str v t)) so' where
  tx := R.tx.set j v t
  so := by
    have e : setStep ((rows.map Txt.lower).erase (Txt.lower rows[j])) (Txt.lower v) = (rows.map Txt.lower).erase (Txt.lower rows[j]) ++ [Txt.lower v] := by
      unfold setStep
      rw [if_neg fun q => hv (List.mem_of_mem_erase q)]
    rw [e] at h
    refine h.perm ?_
    rw [List.map_set]
    have := erase_idx_perm (l := rows.map Txt.lower) (j := j) (by simpa using hj)
    rw [List.getElem_map] at this
    exact (List.perm_append_comm.trans (List.Perm.cons _ this)).trans (set_perm _ j _ (by simpa using hj)).symm
  nd := by rw [List.map_set]; exact nodup_set (by simpa using hj) R.nd hv
  ln := by rw [List.length_set]; exact R.ln
  sz := fun r hr => by
    rcases mem_set_sub hr with rfl | hr
    · exact hz
    · exact R.sz r hr
section
variable {C : Cx} {E : Value → Shared → Prop} {st : St} {V : HsV} {rows : List Str} {vs : List Value} {so : Obj} {k : Nat} {m : List (Str × Value)} {r : Led}
theorem hs_setitem {i : Int} {u : Tok} {v : Str} {tv : Tok} (R : HsR C.w rows vs so) (hvn : Txt.lower v ∉ rows.map Txt.lower) (hvz : v.length ≤ 100) (h0 : -(2 ^ 63) ≤ i) (h1 : i < 2 ^ 63) (hr : 3 < C.room) {Q : Value → St → Prop}
    (h : ∀ j vs' so', seqIndex? i rows.length = some j → HsR C.w (rows.set j v) vs' so' → Q .none ⟨m, hsL C.w V vs' k so' r⟩) (hE : seqIndex? i rows.length = none → ∀ e s', Raised C ⟨m, hsL C.w V vs k so r⟩ "IndexError" e s' → E e s') :
    Ev C E (call (.ref 193) [.ref V.x, .int i u, .str v tv]) ⟨m, hsL C.w V vs k so r⟩ Q := by
  refine call_defR (name := _) [("self", .ref V.x), ("idx", .int i u), ("value", .str v tv)] (fun X st₂ => X = "IndexError" ∧ st₂ = ⟨m, hsL C.w V vs k so r⟩ ∧ seqIndex? i rows.length = none) (by with_unfolding_all rfl) (by with_unfolding_all rfl) (by omega) (by intro S; with_unfolding_all rfl) (by rfl) (by rfl) (by rfl) (by rfl) (by rfl) (by rfl) ?_ ?_
  · intro C' hw hr' hC'
    have R' := R.w hw
    have hO := R'.so
    have hz := R.ln
    have hv := R.tx.length
    dsimp only
    tb_rel
    rcases seq_or i rows.length with hi | ⟨j, hi⟩
    · exact o_item_out (by mem_news) (by rw [hv]; exact seq_none hi) h0 h1 (fun e s' hF => ⟨_, _, hF, _, .refl _, rfl, rfl, hi⟩) (by with_unfolding_all rfl)
    · have hj := lt_of_seqIndex hi
      obtain ⟨t5, ht5⟩ := R.tx.get (List.getElem?_eq_getElem hj)
      have get : ∀ {Q : Value → St → Prop} {st : St} {value slice : PySem.Expr}, (V.hl, lst vs k) ∈ st.news → Q (.str rows[j] t5) st → subscripted slice false (.ref V.hl) (.int i u) = operate [.ref V.hl, .int i u] (getItem (.ref V.hl) (.int i u)) →
          Ev C' (fun e s' => ∃ X st', Fresh C' st' X e s' ∧ ∃ news', Sub news' st'.news ∧ (X = "IndexError" ∧ (⟨m, news'⟩ : St) = ⟨m, hsL C.w V vs k so r⟩ ∧ seqIndex? i rows.length = none)) (subscriptTail value slice (.ref V.hl) (.int i u)) st Q := fun hm hq hs => by
        rcases seq_some hi with ⟨hn, e1, e2⟩ | ⟨hn, e1, e2⟩
        · exact o_item_neg hm hn (by rw [hv]; omega) h0 (by rw [hv, ← e2]; exact ht5) hq hs
        · exact o_item_list hm hn h1 (by rw [← e2]; exact ht5) hq hs
      refine get (by mem_news) ?_ (by with_unfolding_all rfl)
      have hry := R.sz rows[j] (List.getElem_mem hj)
      tb_rel
      refine m_lower (fit_lower (by omega)) fun t6 => ?_
      tb_rel
      refine m_set_remove (g := fun so' => hsL C.w V vs k so' r) hO (by rw [List.length_map]; omega) (List.mem_map_of_mem (List.getElem_mem hj)) (fun so' => by k_upd) fun so1 hO1 => ?_
      tb_rel
      refine o_setitem_list (k := j) (g := hsL C.w V (vs.set j (.str v tv)) k so1 r) h0 h1 (by rw [hv]; exact hi) (by k_upd) ?_
      tb_rel
      refine m_lower (fit_lower (by omega)) fun t7 => ?_
      tb_rel
      refine m_set_add (g := fun so' => hsL C.w V (vs.set j (.str v tv)) k so' r) hO1 (by have := (List.erase_sublist (a := Txt.lower rows[j]) (l := rows.map Txt.lower)).length_le; rw [List.length_map] at this; omega) (fun so' => by k_upd) fun so2 hO2 => ?_
      tb_rel
      exact ⟨_, .refl _, h j _ so2 hi (R.set hj hvn hvz (hw ▸ hO2))⟩
  · rintro X st₂ e s' ⟨rfl, rfl, hp⟩ hR
    exact hE hp e s' hR
end
end Mine
end
section
open PySem PySem.W PyProof.Rows PySem.Calls PySem.Spec
namespace Mine
/-- a name is told -/
def addRow (rows : List Str) (name : Str) : List Str := if Txt.lower name ∈ rows.map Txt.lower then rows else rows ++ [name]
theorem addRow_hit {rows : List Str} {name : Str} (h : Txt.lower name ∈ rows.map Txt.lower) : addRow rows name = rows := by unfold addRow; rw [if_pos h]
theorem addRow_miss {rows : List Str} {name : Str} (h : Txt.lower name ∉ rows.map Txt.lower) : addRow rows name = rows ++ [name] := by unfold addRow; rw [if_neg h]
theorem HsR.nil {w : World} {vs : List Value} {so : Obj} (hv : vs = []) (h : SetO w so []) : HsR w [] vs so := ⟨by rw [hv]; exact .nil, h, List.nodup_nil, Nat.zero_le _, fun _ h => nomatch h⟩
theorem HsR.add {w rows vs so so' v t} (R : HsR w rows vs so) (hv : Txt.lower v ∉ rows.map Txt.lower) (hz : v.length ≤ 100) (hl : rows.length < 60) (h : SetO w so' (setStep (rows.map Txt.lower) (Txt.lower v))) : HsR w (rows ++ [v]) (vs ++ [.str v t]) so' where
  tx := R.tx.append (.cons .nil)
  so := by
    unfold setStep at h
    rw [if_neg hv] at h
    rw [List.map_append]
    exact h
  nd := by
    rw [List.map_append, List.map_cons, List.map_nil, List.nodup_append]
    refine ⟨R.nd, by simp, fun a ha b hb => ?_⟩
    rw [List.mem_singleton.mp hb]
    exact fun e => hv (e ▸ ha)
  ln := by rw [List.length_append]; exact hl
  sz := fun r hr => by
    rcases List.mem_append.mp hr with hr | hr
    · exact R.sz r hr
    · rw [List.mem_singleton.mp hr]; exact hz
theorem hsL_in {w V vs k so r p} : Sub (hsL w V vs k so (p :: r)) (p :: hsL w V vs k so r) := Sub.perm (List.perm_middle (l₁ := [(V.x, instObj HS V.dx), (V.dx, hsD w V), (V.hl, lst vs k), (V.sl, so)]))
theorem hsL_out {w V vs k so r p} : Sub (p :: hsL w V vs k so r) (hsL w V vs k so (p :: r)) := Sub.perm (List.perm_middle (l₁ := [(V.x, instObj HS V.dx), (V.dx, hsD w V), (V.hl, lst vs k), (V.sl, so)])).symm
theorem hsL_drop {w V vs k so r r'} (h : Sub r r') : Sub (hsL w V vs k so r) (hsL w V vs k so r') := .cons₂ _ (.cons₂ _ (.cons₂ _ (.cons₂ _ h)))
section
variable {C : Cx} {E : Value → Shared → Prop} {st : St} {V : HsV} {rows : List Str} {vs : List Value} {so : Obj} {k : Nat} {m : List (Str × Value)} {r : Led}
theorem hs_delitem {i : Int} {u : Tok} (R : HsR C.w rows vs so) (h0 : -(2 ^ 63) ≤ i) (h1 : i < 2 ^ 63) (hr : 3 < C.room) {Q : Value → St → Prop}
    (h : ∀ j vs' k' so', seqIndex? i rows.length = some j → HsR C.w (rows.eraseIdx j) vs' so' → Q .none ⟨m, hsL C.w V vs' k' so' r⟩) (hE : seqIndex? i rows.length = none → ∀ e s', Raised C ⟨m, hsL C.w V vs k so r⟩ "IndexError" e s' → E e s') :
    Ev C E (call (.ref 186) [.ref V.x, .int i u]) ⟨m, hsL C.w V vs k so r⟩ Q := by
  refine call_defR (name := _) [("self", .ref V.x), ("idx", .int i u)] (fun X st₂ => X = "IndexError" ∧ st₂ = ⟨m, hsL C.w V vs k so r⟩ ∧ seqIndex? i rows.length = none) (by with_unfolding_all rfl) (by with_unfolding_all rfl) (by omega) (by intro S; with_unfolding_all rfl) (by rfl) (by rfl) (by rfl) (by rfl) (by rfl) (by rfl) ?_ ?_
  · intro C' hw hr' hC'
    have R' := R.w hw
    have hO := R'.so
    have hz := R.ln
    have hv := R.tx.length
    dsimp only
    tb_rel
    rcases seq_or i rows.length with hi | ⟨j, hi⟩
    · exact m_pop_out (by mem_news) h0 h1 (by rw [hv]; exact hi) (fun e s' hF => ⟨_, _, hF, _, .refl _, rfl, rfl, hi⟩)
    · have hj := lt_of_seqIndex hi
      obtain ⟨t5, ht5⟩ := R.tx.get (List.getElem?_eq_getElem hj)
      have hry := R.sz rows[j] (List.getElem_mem hj)
      refine m_pop_at (k := j) (v := .str rows[j] t5) (g := hsL C.w V (vs.eraseIdx j) (k + 1) so r) h0 h1 (by rw [hv]; exact hi) ht5 (by rw [sizeLine_eq]; omega) (by k_upd) ?_
      tb_rel
      refine m_lower (fit_lower (by omega)) fun t6 => ?_
      tb_rel
      refine m_set_remove (g := fun so' => hsL C.w V (vs.eraseIdx j) (k + 1) so' r) hO (by rw [List.length_map]; omega) (List.mem_map_of_mem (List.getElem_mem hj)) (fun so' => by k_upd) fun so1 hO1 => ?_
      tb_rel
      exact ⟨_, .refl _, h j _ _ so1 hi (R.erase hj (hw ▸ hO1))⟩
  · rintro X st₂ e s' ⟨rfl, rfl, hp⟩ hR
    exact hE hp e s' hR
theorem hs_clear (R : HsR C.w rows vs so) (hr : 3 < C.room) {Q : Value → St → Prop} (h : ∀ vs' k' so', HsR C.w [] vs' so' → Q .none ⟨m, hsL C.w V vs' k' so' r⟩) : Ev C E (call (.ref 157) [.ref V.x]) ⟨m, hsL C.w V vs k so r⟩ Q := by
  refine call_def (name := _) (binds := [("self", .ref V.x)]) (by with_unfolding_all rfl) (by with_unfolding_all rfl) (by omega) (by intro S; with_unfolding_all rfl) (by rfl) (by rfl) (by rfl) (by rfl) (by rfl) (by rfl) ?_
  intro C' hw hr' hC'
  have R' := R.w hw
  have hO := R'.so
  have hz := R.ln
  have hv := R.tx.length
  dsimp only
  tb_rel
  refine m_set_clear (g := fun so' => hsL C.w V vs k so' r) hO (by rw [List.length_map]; omega) (fun so' => by k_upd) fun so1 hO1 => ?_
  tb_rel
  refine m_lclear (vs := vs) (g := fun k' => hsL C.w V [] k' so1 r) (by rw [sizeLine_eq]; omega) (fun k' => by k_upd) fun k' => ?_
  tb_rel
  exact ⟨_, .refl _, h [] k' so1 (.nil rfl (hw ▸ hO1))⟩
theorem hs_update {l : Addr} {ob : Obj} {zs : List Value} {kz : Nat} {names : List Str} (R : HsR C.w rows vs so) (hob : ob = lst zs kz ∨ ob = tup zs kz) (hm : (l, ob) ∈ r) (hx : TxA zs names) (hn : ∀ x ∈ names, x.length ≤ 100) (hln : rows.length + names.length ≤ 60) (hr : 3 < C.room) {Q : Value → St → Prop}
    (h : ∀ vs' k' so', HsR C.w (names.foldl addRow rows) vs' so' → Q .none ⟨m, hsL C.w V vs' k' so' r⟩) : Ev C E (call (.ref 129) [.ref V.x, .ref l]) ⟨m, hsL C.w V vs k so r⟩ Q := by
  refine call_def (name := _) (binds := [("self", .ref V.x), ("iterable", .ref l)]) (by with_unfolding_all rfl) (by with_unfolding_all rfl) (by omega) (by intro S; with_unfolding_all rfl) (by rfl) (by rfl) (by rfl) (by rfl) (by rfl) (by rfl) ?_
  intro C' hw hr' hC'
  dsimp only
  tb_rel
  refine x_for_seq ?_ (fun _ => rfl) (by kernel_rfl!) (by kernel_rfl!) (by kernel_rfl!)
  tb_rel
  have add_len : ∀ (ns : List Str) (rs : List Str), (ns.foldl addRow rs).length ≤ rs.length + ns.length := by
    intro ns
    induction ns with
    | nil => intro rs; exact Nat.le_refl _
    | cons a ns ih =>
      intro rs
      have := ih (addRow rs a)
      have h2 : (addRow rs a).length ≤ rs.length + 1 := by unfold addRow; split <;> simp
      rw [List.foldl_cons, List.length_cons]; omega
  refine ⟨l, ob, zs, kz, (fun i s => look s.m "self" = some (.ref V.x) ∧ look s.m "iterable" = some (.ref l) ∧ (∃ b, look s.m "inserted_any" = some (.bool b)) ∧ ∃ vs' k' so', s.news = hsL C.w V vs' k' so' r ∧ HsR C.w ((names.take i).foldl addRow rows) vs' so'), rfl, hob, by exact .tail _ (.tail _ (.tail _ (.tail _ hm))), ?_, ?_, ?_, ?_⟩
  · rintro i s2 ⟨h1, h2, h3, vs', k', so', h4, h5⟩ p hp
    rw [List.mem_singleton.mp hp, h4]; exact .tail _ (.tail _ (.tail _ (.tail _ hm)))
  · exact ⟨_, .refl _, by krn_off, by krn_off, ⟨_, by krn_off⟩, vs, k, so, rfl, R⟩
  · rintro i va st₂ I oI hi hva ⟨h1, h2, ⟨b, h3⟩, vs', k', so', h4, R2⟩
    obtain ⟨m₂, n₂⟩ := st₂
    dsimp only at h1 h2 h3 h4 ⊢
    subst h4
    have hi' : i < names.length := by rw [← hx.length]; exact hi
    obtain ⟨t5, ht5⟩ := hx.get (List.getElem?_eq_getElem hi')
    have hry := hn names[i] (List.getElem_mem hi')
    rw [ht5] at hva
    obtain rfl := Option.some.inj hva
    have R' := R2.w hw
    have hO := R'.so
    have hz := R'.ln
    have hv := R'.tx.length
    have hlt : ((names.take i).foldl addRow rows).length < 60 := by
      have := add_len (names.take i) rows
      rw [List.length_take] at this
      omega
    have hstep : (names.take (i + 1)).foldl addRow rows = addRow ((names.take i).foldl addRow rows) names[i] := by
      rw [List.take_add_one, List.getElem?_eq_getElem hi', Option.toList_some, List.foldl_append, List.foldl_cons, List.foldl_nil]
    tb_rel
    refine m_lower (fit_lower (by omega)) fun t6 => ?_
    tb_rel
    refine o_notin_set (by mem_news) hO (by rw [List.length_map]; omega) ?_
    tb_rel
    cases hb : decide (Txt.lower names[i] ∈ ((names.take i).foldl addRow rows).map Txt.lower) with
    | true =>
      refine ite_f ?_
      tb_rel
      refine ⟨_, .refl _, by krn_off, by krn_off, ⟨b, by krn_off⟩, vs', k', so', rfl, ?_⟩
      rw [hstep, addRow_hit (of_decide_eq_true hb)]
      exact R2
    | false =>
      refine ite_t ?_
      have hnew := of_decide_eq_false hb
      tb_rel
      have tst : ∀ so2, At V.sl so' so2 ((I, oI) :: hsL C.w V (vs' ++ [.str names[i] t5]) (k' + 1) so' r) ((I, oI) :: hsL C.w V (vs' ++ [.str names[i] t5]) (k' + 1) so2 r) := fun so2 => .tail (.tail (.tail (.tail .head)))
      refine m_set_add (g := fun so2 => (I, oI) :: hsL C.w V (vs' ++ [.str names[i] t5]) (k' + 1) so2 r) hO (by rw [List.length_map]; omega) tst fun so2 hO2 => ?_
      tb_rel
      refine ⟨_, .refl _, by krn_off, by krn_off, ⟨_, by krn_off⟩, _, _, so2, rfl, ?_⟩
      rw [hstep, addRow_miss hnew]
      exact R2.add hnew hry hlt (hw ▸ hO2)
  · rintro ⟨m₂, n₂⟩ ⟨h1, h2, ⟨b, h3⟩, vs', k', so', h4, R2⟩
    dsimp only at h1 h2 h3 h4 ⊢
    subst h4
    rw [hx.length, List.take_length] at R2
    tb_rel
    cases b <;> tb_rel
    · exact ⟨_, .refl _, h vs' k' so' R2⟩
    · exact ⟨_, .refl _, h vs' k' so' R2⟩
theorem hs_add {name : Str} {t : Tok} (R : HsR C.w rows vs so) (hn : name.length ≤ 100) (hln : rows.length < 60) (hr : 5 < C.room) {Q : Value → St → Prop} (h : ∀ vs' k' so', HsR C.w (addRow rows name) vs' so' → Q .none ⟨m, hsL C.w V vs' k' so' r⟩) : Ev C E (call (.ref 115) [.ref V.x, .str name t]) ⟨m, hsL C.w V vs k so r⟩ Q := by
  refine call_def (name := _) (binds := [("self", .ref V.x), ("header", .str name t)]) (by with_unfolding_all rfl) (by with_unfolding_all rfl) (by omega) (by intro S; with_unfolding_all rfl) (by rfl) (by rfl) (by rfl) (by rfl) (by rfl) (by rfl) ?_
  intro C' hw hr' hC'
  dsimp only
  tb_rel
  refine gm_hs 129 (by mem_news) (by rw [hw]; mem_news) (by kernel_rfl!) (by kernel_rfl!) (by kernel_rfl!) (by with_unfolding_all rfl) ?_
  tb_rel
  rename_i lt
  refine Ev.sub (r' := hsL C.w V vs k so ((lt, tup [.str name t] 0) :: r)) hsL_in ?_
  rw [← hw]
  refine hs_update (R.w hw) (.inr rfl) (.head _) (.cons .nil) (fun x hx => by rw [List.mem_singleton.mp hx]; exact hn) (by simp; omega) (by omega) fun vs' k' so' R2 => ?_
  rw [hw] at R2 ⊢
  tb_rel
  exact ⟨hsL C.w V vs' k' so' r, hsL_drop (.cons _ (.refl _)), h vs' k' so' R2⟩
theorem hs_remove {name : Str} {t : Tok} (R : HsR C.w rows vs so) (hn : name.length ≤ 100) (hlow : Txt.lower name = name) (hr : 3 < C.room) {Q : Value → St → Prop}
    (h : ∀ j vs' k' so', rows[j]?.map Txt.lower = some name → HsR C.w (rows.eraseIdx j) vs' so' → Q .none ⟨m, hsL C.w V vs' k' so' r⟩) (hE : name ∉ rows.map Txt.lower → ∀ e s', Raised C ⟨m, hsL C.w V vs k so r⟩ "KeyError" e s' → E e s') :
    Ev C E (call (.ref 122) [.ref V.x, .str name t]) ⟨m, hsL C.w V vs k so r⟩ Q := by
  refine call_defR (name := _) [("self", .ref V.x), ("header", .str name t)] (fun X st₂ => X = "KeyError" ∧ st₂ = ⟨m, hsL C.w V vs k so r⟩ ∧ name ∉ rows.map Txt.lower) (by with_unfolding_all rfl) (by with_unfolding_all rfl) (by omega) (by intro S; with_unfolding_all rfl) (by rfl) (by rfl) (by rfl) (by rfl) (by rfl) (by rfl) ?_ ?_
  · intro C' hw hr' hC'
    have R' := R.w hw
    have hO := R'.so
    have hz := R.ln
    have hv := R.tx.length
    dsimp only
    tb_rel
    refine m_lower (fit_lower (by omega)) fun t4 => ?_
    rw [hlow]
    tb_rel
    refine o_notin_set (by mem_news) hO (by rw [List.length_map]; omega) ?_
    tb_rel
    cases hb : decide (name ∈ rows.map Txt.lower) with
    | false =>
      refine ite_t ?_
      refine x_cons (x_raise1 excClass_KeyError (by kernel_rfl!) (by with_unfolding_all exact rfl) (by kernel_rfl!) (by kernel_rfl!) (by kernel_rfl!) (by kernel_rfl!) (by kernel_rfl!) ?_)
      tb_rel
      exact fun e s' hF => ⟨_, _, hF, _, .refl _, rfl, rfl, of_decide_eq_false hb⟩
    | true =>
      refine ite_f ?_
      have hmem := of_decide_eq_true hb
      tb_rel
      refine m_set_remove (g := fun so' => hsL C.w V vs k so' r) hO (by rw [List.length_map]; omega) hmem (fun so' => by k_upd) fun so1 hO1 => ?_
      tb_rel
      refine x_for_enum ?_ (fun _ => rfl) (by kernel_rfl!) (by kernel_rfl!) (by kernel_rfl!) (by kernel_rfl!)
      tb_rel
      refine o_enum (by mem_news) fun e it oi hoi => ?_
      refine ⟨e, it, oi, V.hl, vs, k, hsL C.w V vs k so1 r, (fun i s => look s.m "self" = some (.ref V.x) ∧ look s.m "header" = some (.str name t) ∧ s.news = hsL C.w V vs k so1 r ∧ ∀ j x, j < i → rows[j]? = some x → (Txt.lower x == name) = false), rfl, rfl, hoi, by mem_news, ?_⟩
      refine ⟨?_, ?_, ?_, ?_⟩
      · rintro i s2 ⟨h1, h2, h3, h4⟩ p hp
        rw [List.mem_singleton.mp hp, h3]; exact .tail _ (.tail _ (.head _))
      · exact ⟨hsL C.w V vs k so1 r, .refl _, by krn_off, by krn_off, rfl, fun j x hj => absurd hj (Nat.not_lt_zero _)⟩
      · rintro i va vb st₂ I oI I' oI' hi ⟨hvb, ti, rfl⟩ ⟨h1, h2, h3, h4⟩
        obtain ⟨m₂, n₂⟩ := st₂
        dsimp only at h1 h2 h3 h4 ⊢
        subst h3
        have hi' : i < rows.length := by rw [← hv]; exact hi
        obtain ⟨t5, ht5⟩ := R.tx.get (List.getElem?_eq_getElem hi')
        have hry := R.sz rows[i] (List.getElem_mem hi')
        rw [ht5] at hvb
        obtain rfl := Option.some.inj hvb
        tb_rel
        refine m_lower (fit_lower (by omega)) fun t6 => ?_
        tb_rel
        cases hb : (Txt.lower rows[i] == name) with
        | true =>
          have hq : Txt.lower rows[i] = name := by simpa using hb
          refine ite_t ?_
          tb_rel
          refine o_delitem_list (vs := vs) (k := i) (g := (I, oI) :: (I', oI') :: hsL C.w V (vs.eraseIdx i) (k + 1) so1 r) (by omega) (by omega) (seqIndex_at (by omega) (by omega)) (by rw [sizeLine_eq]; omega) (by k_upd) ?_
          tb_rel
          show Ev _ _ _ _ _
          tb_rel
          exact ⟨_, .cons _ (.cons _ (.refl _)), h i _ _ so1 (by rw [List.getElem?_eq_getElem hi', Option.map_some, hq]) (R.erase hi' (hw ▸ hq ▸ hO1))⟩
        | false =>
          refine ite_f ?_
          tb_rel
          refine ⟨_, .refl _, by krn_off, by krn_off, rfl, fun j x hj hx' => ?_⟩
          rcases Nat.lt_or_ge j i with hlt | hge
          · exact h4 j x hlt hx'
          · have : j = i := by omega
            subst this
            rw [List.getElem?_eq_getElem hi'] at hx'
            cases hx'; exact hb
      · rintro ⟨m₂, n₂⟩ ⟨h1, h2, h3, h4⟩
        exfalso
        obtain ⟨x, hx, e⟩ := List.mem_map.mp hmem
        obtain ⟨j, hj, rfl⟩ := List.mem_iff_getElem.mp hx
        have := h4 j rows[j] (by rw [hv]; exact hj) (List.getElem?_eq_getElem hj)
        rw [e] at this
        simp at this
  · rintro X st₂ e s' ⟨rfl, rfl, hp⟩ hR
    exact hE hp e s' hR
end
end Mine
end
section
open PySem PySem.W PyProof.Rows PySem.Calls PySem.Spec
namespace Mine
theorem sub4 {a b c d : Addr × Obj} {r : Led} : Sub (a :: b :: c :: d :: r) (d :: c :: a :: b :: r) :=
  Sub.perm (((List.perm_append_comm (l₁ := [a, b]) (l₂ := [c, d])).append_right r).trans (List.Perm.swap ..))
section
variable {C : Cx} {E : Value → Shared → Prop} {st : St} {V : HsV} {rows : List Str} {vs : List Value} {so : Obj} {k : Nat} {m : List (Str × Value)} {r : Led}
theorem hs_toheader (M : HsM C.w V vs k so st.news) (R : HsR C.w rows vs so) (hr : 5 < C.room) {Q : Value → St → Prop} (h : ∀ t, Q (.str (Txt.join ", " (rows.map dumped)) t) st) : Ev C E (call (.ref 172) [.ref V.x]) st Q := by
  refine call_def (name := _) (binds := [("self", .ref V.x)]) (by with_unfolding_all rfl) (by with_unfolding_all rfl) (by omega) (by intro S; with_unfolding_all rfl) (by rfl) (by rfl) (by rfl) (by rfl) (by rfl) (by rfl) ?_
  intro C' hw hr' hC'
  obtain ⟨hx, hd, hl, hs⟩ := M
  have hz := R.ln
  tb_rel
  refine o_map (by mem_news) fun M T I => ?_
  tb_rel
  refine m_join_map (C := C') (by omega) R.tx (by omega) (by mem_news) (fun i x t st' hx => quote_header (C := C'.j3 (by omega)) (by have := R.sz x (List.mem_of_getElem? hx); omega) (by show 0 < C'.room - 1; omega) fun t' => ⟨t', rfl, rfl⟩) ?_ fun t' => ?_
  · refine joinOk_of (Nat.le_trans (jsum_le (n := 202) ?_) ?_)
    · intro z hz
      obtain ⟨x, hx', rfl⟩ := List.mem_map.mp hz
      have := R.sz x hx'
      have := dumped_length x
      omega
    · rw [List.length_map, show (", " : Str).length = 2 by decide, sizeLine_eq]
      omega
  · exact ⟨_, .refl _, h _⟩
/-- HeaderSet(a list, None) -/
theorem hs_new {l : Addr} {ls : List Value} {kl : Nat} (hm : (l, lst ls kl) ∈ st.news) (hx : TxA ls rows) (hnd : (rows.map Txt.lower).Nodup) (hln : rows.length ≤ 60) (hsz : ∀ r ∈ rows, r.length ≤ 100) (hr : 5 < C.room) {Q : Value → St → Prop}
    (h : ∀ V vs k so, HsR C.w rows vs so → Q (.ref V.x) ⟨st.m, hsL C.w V vs k so st.news⟩) : Ev C E (call (.ref HS) [.ref l, .none]) st Q := by
  refine call_HS (by omega) fun C1 x dx s hw1 hr1 H1 => ?_
  refine code_def (name := _) (binds := [("self", .ref x), ("headers", .ref l), ("on_update", .none)]) (Q := fun v st' => v = .none ∧ Q (.ref x) st') (by with_unfolding_all rfl) (by with_unfolding_all rfl) (by omega) (by intro S; with_unfolding_all rfl) (by rfl) (by rfl) (by rfl) (by rfl) (by rfl) (by rfl) ?_ s H1
  intro C' hw hr' hC'
  have hlx := hx.length
  dsimp only
  tb_rel
  refine o_truthy_list (vs := ls) (by mem_news) (by rw [sizeLine_eq]; omega) ?_
  have hw2 : C'.w = C.w := hw.trans hw1
  cases hb : ls.isEmpty with
  | false =>
    refine ite_t ?_
    tb_rel
    refine o_list_list (vs := ls) (by mem_news) (by rw [sizeLine_eq]; omega) fun ll kk => ?_
    dsimp only
    tb_rel
    refine o_set (.tail _ (.head _)) (.tail _ (.tail _ (.head _))) (by kernel_rfl!) (by rfl) (by decide) (fun tk => .tail (.tail .head)) fun tk1 => ?_
    tb_rel
    refine e_setcomp ?_ (fun _ => by with_unfolding_all rfl) (by with_unfolding_all rfl) (by decide) (by rfl) (by decide) (by with_unfolding_all rfl)
    tb_rel
    refine ⟨ll, _, kk, rows.map Txt.lower, rfl, by mem_news, by rw [List.length_map]; omega, by omega, ⟨?_, ?_⟩, ?_⟩
    · rintro C2 i v Cc oC rr mc hroom hw2 hi hP hns hmc
      exact tests_nil
    · rintro C2 i v Cc oC rr mc hroom hw2 hi hP hpz hns hmc
      obtain ⟨y, u, hy, rfl⟩ := hx.at hP
      have := hsz y (List.mem_of_getElem? hy)
      tb_rel
      refine m_lower (fit_lower (by omega)) fun t4 => ?_
      exact ⟨⟨Txt.lower y, t4, by rw [List.getElem?_map, hy]; rfl, rfl⟩, rfl, .refl _⟩
    · intro D so hO
      rw [setStep_nodup hnd, hw2] at hO
      tb_rel
      refine o_set (.tail _ (.tail _ (.head _))) (.tail _ (.tail _ (.tail _ (.head _)))) (by kernel_rfl!) (by with_unfolding_all rfl) (Nat.lt_of_le_of_lt (Nat.le_of_eq (show _ = 1 by with_unfolding_all rfl)) (by decide)) (fun tk => .tail (.tail (.tail .head))) fun tk2 => ?_
      tb_rel
      refine o_set (.tail _ (.tail _ (.head _))) (.tail _ (.tail _ (.tail _ (.head _)))) (by kernel_rfl!) (by with_unfolding_all rfl) (Nat.lt_of_le_of_lt (Nat.le_of_eq (show _ = 2 by with_unfolding_all rfl)) (by decide)) (fun tk => .tail (.tail (.tail .head))) fun tk3 => ?_
      tb_rel
      rw [hw2]
      exact ⟨_, sub4, rfl, h ⟨x, dx, ll, D, _, tk1, tk2, tk3⟩ _ kk so ⟨hx, hO, hnd, hln, hsz⟩⟩
  | true =>
    refine ite_f ?_
    obtain rfl : ls = [] := by simpa using hb
    tb_rel
    rename_i lt
    refine o_list_tup (vs := []) (by mem_news) (by rw [sizeLine_eq]; exact Nat.zero_le _) fun ll kk => ?_
    refine Ev.sub (r' := (ll, lst [] kk) :: (x, instObj HS dx) :: (dx, dictOf [] 0) :: st.news) (.cons₂ _ (.cons _ (.refl _))) ?_
    dsimp only
    tb_rel
    refine o_set (.tail _ (.head _)) (.tail _ (.tail _ (.head _))) (by kernel_rfl!) (by rfl) (by decide) (fun tk => .tail (.tail .head)) fun tk1 => ?_
    tb_rel
    refine e_setcomp ?_ (fun _ => by with_unfolding_all rfl) (by with_unfolding_all rfl) (by decide) (by rfl) (by decide) (by with_unfolding_all rfl)
    tb_rel
    refine ⟨ll, _, kk, rows.map Txt.lower, rfl, by mem_news, by rw [List.length_map]; omega, by omega, ⟨?_, ?_⟩, ?_⟩
    · rintro C2 i v Cc oC rr mc hroom hw2 hi hP hns hmc
      exact tests_nil
    · rintro C2 i v Cc oC rr mc hroom hw2 hi hP hpz hns hmc
      obtain ⟨y, u, hy, rfl⟩ := hx.at hP
      have := hsz y (List.mem_of_getElem? hy)
      tb_rel
      refine m_lower (fit_lower (by omega)) fun t4 => ?_
      exact ⟨⟨Txt.lower y, t4, by rw [List.getElem?_map, hy]; rfl, rfl⟩, rfl, .refl _⟩
    · intro D so hO
      rw [setStep_nodup hnd, hw2] at hO
      tb_rel
      refine o_set (.tail _ (.tail _ (.head _))) (.tail _ (.tail _ (.tail _ (.head _)))) (by kernel_rfl!) (by with_unfolding_all rfl) (Nat.lt_of_le_of_lt (Nat.le_of_eq (show _ = 1 by with_unfolding_all rfl)) (by decide)) (fun tk => .tail (.tail (.tail .head))) fun tk2 => ?_
      tb_rel
      refine o_set (.tail _ (.tail _ (.head _))) (.tail _ (.tail _ (.tail _ (.head _)))) (by kernel_rfl!) (by with_unfolding_all rfl) (Nat.lt_of_le_of_lt (Nat.le_of_eq (show _ = 2 by with_unfolding_all rfl)) (by decide)) (fun tk => .tail (.tail (.tail .head))) fun tk3 => ?_
      tb_rel
      rw [hw2]
      exact ⟨_, sub4, rfl, h ⟨x, dx, ll, D, _, tk1, tk2, tk3⟩ _ kk so ⟨hx, hO, hnd, hln, hsz⟩⟩
/-- HeaderSet(None, None) -/
theorem hs_new0 (hr : 5 < C.room) {Q : Value → St → Prop}
    (h : ∀ V vs k so, HsR C.w [] vs so → Q (.ref V.x) ⟨st.m, hsL C.w V vs k so st.news⟩) : Ev C E (call (.ref HS) [.none, .none]) st Q := by
  have hx : TxA [] [] := .nil
  have hnd : (([] : List Str).map Txt.lower).Nodup := List.nodup_nil
  have hln : ([] : List Str).length ≤ 60 := by decide
  have hsz : ∀ r ∈ ([] : List Str), r.length ≤ 100 := fun _ h => nomatch h
  have hlx := hx.length
  refine call_HS (by omega) fun C1 x dx s hw1 hr1 H1 => ?_
  refine code_def (name := _) (binds := [("self", .ref x), ("headers", .none), ("on_update", .none)]) (Q := fun v st' => v = .none ∧ Q (.ref x) st') (by with_unfolding_all rfl) (by with_unfolding_all rfl) (by omega) (by intro S; with_unfolding_all rfl) (by rfl) (by rfl) (by rfl) (by rfl) (by rfl) (by rfl) ?_ s H1
  intro C' hw hr' hC'
  dsimp only
  tb_rel
  have hw2 : C'.w = C.w := hw.trans hw1
  rename_i lt
  refine o_list_tup (vs := []) (by mem_news) (by rw [sizeLine_eq]; exact Nat.zero_le _) fun ll kk => ?_
  refine Ev.sub (r' := (ll, lst [] kk) :: (x, instObj HS dx) :: (dx, dictOf [] 0) :: st.news) (.cons₂ _ (.cons _ (.refl _))) ?_
  dsimp only
  tb_rel
  refine o_set (.tail _ (.head _)) (.tail _ (.tail _ (.head _))) (by kernel_rfl!) (by rfl) (by decide) (fun tk => .tail (.tail .head)) fun tk1 => ?_
  tb_rel
  refine e_setcomp ?_ (fun _ => by with_unfolding_all rfl) (by with_unfolding_all rfl) (by decide) (by rfl) (by decide) (by with_unfolding_all rfl)
  tb_rel
  refine ⟨ll, _, kk, ([] : List Str).map Txt.lower, rfl, by mem_news, by rw [List.length_map]; omega, by omega, ⟨?_, ?_⟩, ?_⟩
  · rintro C2 i v Cc oC rr mc hroom hw2 hi hP hns hmc
    exact tests_nil
  · rintro C2 i v Cc oC rr mc hroom hw2 hi hP hpz hns hmc
    obtain ⟨y, u, hy, rfl⟩ := hx.at hP
    have := hsz y (List.mem_of_getElem? hy)
    tb_rel
    refine m_lower (fit_lower (by omega)) fun t4 => ?_
    exact ⟨⟨Txt.lower y, t4, by rw [List.getElem?_map, hy]; rfl, rfl⟩, rfl, .refl _⟩
  · intro D so hO
    rw [setStep_nodup hnd, hw2] at hO
    tb_rel
    refine o_set (.tail _ (.tail _ (.head _))) (.tail _ (.tail _ (.tail _ (.head _)))) (by kernel_rfl!) (by with_unfolding_all rfl) (Nat.lt_of_le_of_lt (Nat.le_of_eq (show _ = 1 by with_unfolding_all rfl)) (by decide)) (fun tk => .tail (.tail (.tail .head))) fun tk2 => ?_
    tb_rel
    refine o_set (.tail _ (.tail _ (.head _))) (.tail _ (.tail _ (.tail _ (.head _)))) (by kernel_rfl!) (by with_unfolding_all rfl) (Nat.lt_of_le_of_lt (Nat.le_of_eq (show _ = 2 by with_unfolding_all rfl)) (by decide)) (fun tk => .tail (.tail (.tail .head))) fun tk3 => ?_
    tb_rel
    rw [hw2]
    exact ⟨_, sub4, rfl, h ⟨x, dx, ll, D, _, tk1, tk2, tk3⟩ _ kk so ⟨hx, hO, hnd, hln, hsz⟩⟩
end
end Mine
end
section
open PySem PySem.W PyProof.Rows PySem.Calls PySem.Spec
namespace Mine
section
variable {C : Cx} {E : Value → Shared → Prop} {st : St} {V : HsV} {rows : List Str} {vs : List Value} {so : Obj} {k : Nat} {m : List (Str × Value)} {r : Led}
theorem plist_nil0 : plist "" = [] := by decide +kernel
theorem parse_set {x : Str} {t : Tok} (hx : x.length ≤ 50000) (hp : plist x = rows) (hnd : (rows.map Txt.lower).Nodup) (hln : rows.length ≤ 60) (hsz : ∀ r ∈ rows, r.length ≤ 100) (hr : 8 < C.room) {Q : Value → St → Prop}
    (h : ∀ V vs k so, HsR C.w rows vs so → Q (.ref V.x) ⟨st.m, hsL C.w V vs k so st.news⟩) : Ev C E (call (.ref 95) [.str x t]) st Q := by
  refine call_def (name := _) (binds := [("value", .str x t), ("on_update", .none)]) (by with_unfolding_all rfl) (by with_unfolding_all rfl) (by omega) (by intro S; with_unfolding_all rfl) (by rfl) (by rfl) (by rfl) (by rfl) (by rfl) (by rfl) ?_
  intro C' hw hr' hC'
  have hxs : x.length ≤ sizeLine := by rw [sizeLine_eq]; omega
  tb_rel
  cases hb : (((x.length : Nat) : Int) != 0) with
  | false =>
    refine ite_t ?_
    have hx0 : x = "" := by
      have h0 : x.length = 0 := by simpa using hb
      have h1 : x.cps = #[] := Array.eq_empty_of_size_eq_zero h0
      cases x
      cases h1
      rfl
    subst hx0
    rw [plist_nil0] at hp
    subst hp
    tb_rel
    refine hs_new0 (by omega) fun V vs k so R => ?_
    exact ⟨_, .refl _, hw ▸ h V vs k so (hw ▸ R)⟩
  | true =>
    refine ite_f ?_
    tb_rel
    refine parse_list hx (by omega) fun l ys kl hT => ?_
    rw [hp] at hT
    tb_rel
    refine hs_new (rows := rows) (by mem_news) hT hnd hln hsz (by omega) fun V vs k so R => ?_
    rw [hw] at R ⊢
    exact ⟨hsL C.w V vs k so st.news, hsL_drop (.cons _ (.refl _)), h V vs k so R⟩
theorem hs_discard {name : Str} {t : Tok} (R : HsR C.w rows vs so) (hn : name.length ≤ 100) (hlow : Txt.lower name = name) (hr : 5 < C.room) {Q : Cx → Value → St → Prop}
    (h : ∀ C₂ j vs' k' so', Turned C C₂ → rows[j]?.map Txt.lower = some name → HsR C.w (rows.eraseIdx j) vs' so' → Q C₂ .none ⟨m, hsL C.w V vs' k' so' r⟩) (h0 : ∀ C₂, Turned C C₂ → name ∉ rows.map Txt.lower → Q C₂ .none ⟨m, hsL C.w V vs k so r⟩) :
    EvS C E (call (.ref 136) [.ref V.x, .str name t]) ⟨m, hsL C.w V vs k so r⟩ Q := by
  refine call_defS (name := _) (binds := [("self", .ref V.x), ("header", .str name t)]) (by with_unfolding_all rfl) (by with_unfolding_all rfl) (by omega) (by intro S; with_unfolding_all rfl) (by rfl) (by rfl) (by rfl) (by rfl) (by rfl) (by rfl) ?_
  intro C' hw hr' hC' hA
  refine xs_cons (xs_try (QX := fun X st₂ => X = "KeyError" ∧ st₂.news = hsL C.w V vs k so r ∧ name ∉ rows.map Txt.lower) hC' hA ?_ ?_)
  · rw [hC']
    dsimp only
    tb_rel
    refine gm_hs 122 (by mem_news) (by rw [hw]; mem_news) (by kernel_rfl!) (by kernel_rfl!) (by kernel_rfl!) (by with_unfolding_all rfl) ?_
    tb_rel
    rw [← hw]
    refine hs_remove (R.w hw) hn hlow (by omega) (fun j vs' k' so' hj R2 => ?_) ?_
    · rw [hw] at R2 ⊢
      tb_rel
      exact xs_nil ⟨_, .refl _, fun C₂ T => h C₂ j vs' k' so' T hj R2⟩
    · exact fun hno e s' R => ⟨"KeyError", _, R, rfl, rfl, hno⟩
  · rintro X st₂ e s' ⟨rfl, hn2, hno⟩ R2
    refine wp_hit hC' (by rw [hC']; exact ⟨by kernel_rfl!, by with_unfolding_all rfl, by kernel_rfl!, by kernel_rfl!, by kernel_rfl!, by kernel_rfl!, kr_isExc_KeyError, kr_notTuple_KeyError⟩) (by rw [isSubtype_type]; kernel_rfl) suite_pass R2 fun C₂ f T hf => ?_
    subst hf
    exact xs_nil ⟨st₂.news, .refl _, fun C₃ T3 => hn2 ▸ h0 C₃ T3 hno⟩
end
end Mine
end
section
open PySem PySem.W PyProof.Rows PySem.Calls PySem.Spec
namespace Mine
section
variable {C : Cx} {E : Value → Shared → Prop} {st : St}
theorem Sub.swap {p q : Addr × Obj} {a b : Led} (h : Sub (q :: p :: a) b) : Sub (p :: q :: a) b := let ⟨l, x, y⟩ := h; ⟨l, x.trans (List.Perm.swap ..), y⟩
def seps : List Str := [",", ", ", " ,\t"]
/-- separator and piece of other hands -/
def sepOf (n : Int) : Str := seps.getD ((n.fdiv 3).fmod 3).toNat ""
def pieceOf (n : Int) : Str × List Str := if (n.fdiv 9).fmod 3 = 0 then (dumped (lawText (n.fdiv 27)), [lawText (n.fdiv 27)]) else lawItems.getD (n.fmod 9).toNat ("", [])
def handTxt (ns : List Int) : Str := ns.foldl (fun a n => a ++ sepOf n ++ (pieceOf n).1) ""
def handDue (ns : List Int) : List Str := ns.flatMap fun n => (pieceOf n).2
theorem join_length (s : Str) : ∀ xs : List Str, (Txt.join s xs).length ≤ jsum s xs := by
  intro xs
  induction xs using snoc_ind with
  | h0 => exact Nat.le_refl _
  | h1 xs y ih =>
    have e : jsum s (xs ++ [y]) = jsum s xs + y.length + s.length := by unfold jsum; rw [List.foldl_append]; rfl
    rw [e]
    cases xs with
    | nil => exact Nat.le_trans (Nat.le_add_left _ _) (Nat.le_add_right _ _)
    | cons x r =>
      rw [join_snoc, str_length_append, str_length_append]
      omega
theorem sep_at {t0 t1 t2 : Tok} {n : Int} : ∃ t, [Value.str "," t0, .str ", " t1, .str " ,\t" t2][((n.fdiv 3).fmod 3).toNat]? = some (.str (sepOf n) t) := by
  have h0 : 0 ≤ (n.fdiv 3).fmod 3 := Int.fmod_nonneg_of_pos _ (by decide)
  have h1 : (n.fdiv 3).fmod 3 < 3 := Int.fmod_lt_of_pos _ (by decide)
  unfold sepOf
  obtain ⟨k, hk⟩ := Int.eq_ofNat_of_zero_le h0
  rw [hk] at h1 ⊢
  have : k = 0 ∨ k = 1 ∨ k = 2 := by omega
  rcases this with rfl | rfl | rfl <;> exact ⟨_, rfl⟩
theorem sepOf_len (n : Int) : (sepOf n).length ≤ 3 := by
  unfold sepOf
  have h1 : (n.fdiv 3).fmod 3 < 3 := Int.fmod_lt_of_pos _ (by decide)
  have h0 : 0 ≤ (n.fdiv 3).fmod 3 := Int.fmod_nonneg_of_pos _ (by decide)
  obtain ⟨k, hk⟩ := Int.eq_ofNat_of_zero_le h0
  rw [hk] at h1 ⊢
  have : k = 0 ∨ k = 1 ∨ k = 2 := by omega
  rcases this with rfl | rfl | rfl <;> decide
theorem lawText_len (a : Int) : (lawText a).length ≤ 5 := by
  unfold lawText
  rw [lawTextTo_length]
  have := Int.fmod_lt_of_pos a (show (0 : Int) < 6 by decide)
  omega
theorem lawItems_len : ∀ k : Nat, k < 9 → (lawItems.getD k ("", [])).1.length ≤ 12 ∧ (lawItems.getD k ("", [])).2.length ≤ 1 := by decide +kernel
theorem fmod_lt_nat {a b : Int} {n : Nat} (hb : b = n) (h : 0 < n) : (a.fmod b).toNat < n := by
  subst hb
  have := Int.fmod_lt_of_pos a (show (0 : Int) < n by omega)
  have := Int.fmod_nonneg_of_pos a (show (0 : Int) < n by omega)
  omega
theorem pieceOf_len (n : Int) : (pieceOf n).1.length ≤ 12 ∧ (pieceOf n).2.length ≤ 1 := by
  unfold pieceOf
  split
  · have := lawText_len (n.fdiv 27)
    have := dumped_length (lawText (n.fdiv 27))
    exact ⟨by dsimp only; omega, Nat.le_refl _⟩
  · exact lawItems_len _ (fmod_lt_nat rfl (by decide))
theorem handTxt_snoc (ns : List Int) (a : Int) : handTxt (ns ++ [a]) = handTxt ns ++ sepOf a ++ (pieceOf a).1 := by unfold handTxt; rw [List.foldl_append]; rfl
theorem handDue_snoc (ns : List Int) (a : Int) : handDue (ns ++ [a]) = handDue ns ++ (pieceOf a).2 := by unfold handDue; rw [List.flatMap_append]; simp
theorem hand_len (ns : List Int) : (handTxt ns).length ≤ 15 * ns.length ∧ (handDue ns).length ≤ ns.length := by
  induction ns using snoc_ind with
  | h0 => exact ⟨Nat.le_refl _, Nat.le_refl _⟩
  | h1 ns a ih =>
    rw [handTxt_snoc, handDue_snoc, str_length_append, str_length_append, List.length_append, List.length_append, List.length_singleton]
    have := sepOf_len a
    have := pieceOf_len a
    omega
theorem sep_ok (n : Int) : Sep (sepOf n) ∧ 1 ≤ (sepOf n).length := by
  unfold sepOf
  have h := fmod_lt_nat (a := n.fdiv 3) (b := 3) (n := 3) rfl (by decide)
  generalize ((n.fdiv 3).fmod 3).toNat = k at h
  have : k = 0 ∨ k = 1 ∨ k = 2 := by omega
  rcases this with rfl | rfl | rfl
  · exact ⟨sep3, by decide⟩
  · exact ⟨sep1, by decide⟩
  · exact ⟨sep4, by decide⟩
theorem pieceOf_ok (n : Int) : Cl (pieceOf n).1 ∧ piece (pieceOf n).1 = (pieceOf n).2 := by
  unfold pieceOf
  split
  · exact ⟨cl_dumped _, piece_dumped _⟩
  · exact lawItems_cl _ (fmod_lt_nat rfl (by decide))
theorem hand_rd (ns : List Int) : Rd (handTxt ns) (handDue ns) := by
  induction ns using snoc_ind with
  | h0 => exact Rd.nil
  | h1 ns a ih =>
    rw [handTxt_snoc, handDue_snoc, ← (pieceOf_ok a).2]
    exact ih.step (sep_ok a).1 (pieceOf_ok a).1
theorem drop1_app {x y : Str} (h : 1 ≤ x.length) : drop1 (x ++ y) = drop1 x ++ y := by
  unfold drop1
  apply str_ext
  rw [str_len] at h
  have e1 : (mkL ((x ++ y).cps.toList.drop 1)).cps.toList = (x ++ y).cps.toList.drop 1 := rfl
  have e2 : (mkL (x.cps.toList.drop 1) ++ y).cps.toList = x.cps.toList.drop 1 ++ y.cps.toList := app_toList _ _
  rw [e1, e2, app_toList, List.drop_append_of_le_length h]
theorem hand_ne {ns : List Int} (h : ns ≠ []) : 1 ≤ (handTxt ns).length := by
  induction ns using snoc_ind with
  | h0 => exact absurd rfl h
  | h1 ns a ih =>
    rw [handTxt_snoc, str_length_append, str_length_append]
    have := (sep_ok a).2
    omega
theorem hand_rd1 (ns : List Int) : Rd (drop1 (handTxt ns)) (handDue ns) := by
  induction ns using snoc_ind with
  | h0 => exact Rd.nil
  | h1 ns a ih =>
    rw [handTxt_snoc, handDue_snoc, ← (pieceOf_ok a).2]
    by_cases e : ns = []
    · subst e
      have e0 : handTxt [] ++ sepOf a = sepOf a := nil_app _
      rw [e0]
      exact Rd.first (sep_ok a).1 (pieceOf_ok a).1
    · have h1 := hand_ne e
      rw [drop1_app (by rw [str_length_append]; omega), drop1_app h1]
      exact ih.step (sep_ok a).1 (pieceOf_ok a).1
theorem slice_drop1 {x : Str} (h : 1 ≤ x.length) : Txt.slice x (some 1) none = drop1 x := str_ext (slice_tail x h)
theorem o_item_str {value slice : PySem.Expr} {l : Addr} {vs : List Value} {n : Nat} {k : Int} {u : Tok} {x : Str} {Q : Value → St → Prop} (hm : (l, lst vs n) ∈ st.news) (h0 : 0 ≤ k) (hi : k < 2 ^ 63) (hx : ∃ t, vs[k.toNat]? = some (.str x t)) (h : ∀ t, Q (.str x t) st)
    (hs : subscripted slice false (.ref l) (.int k u) = operate [.ref l, .int k u] (getItem (.ref l) (.int k u))) : Ev C E (subscriptTail value slice (.ref l) (.int k u)) st Q := by
  obtain ⟨t, ht⟩ := hx
  exact o_item_list hm h0 hi ht (h t) hs
set_option maxHeartbeats 4000000 in
theorem law_lists {l : Addr} {vs : List Value} {n : Nat} {ns : List Int} (hm : (l, lst vs n) ∈ st.news) (hx : IxA vs ns) (hlen : ns.length ≤ 100) (hne : ns ≠ []) (hr : 10 < C.room) {Q : Value → St → Prop} (h : Q (.bool true) st) : Ev C E (call (.ref 301) [.ref l]) st Q := by
  refine call_def (name := _) (binds := [("numbers", .ref l)]) (by with_unfolding_all rfl) (by with_unfolding_all rfl) (by omega) (by intro S; with_unfolding_all rfl) (by rfl) (by rfl) (by rfl) (by rfl) (by rfl) (by rfl) ?_
  intro C' hw hr' hC'
  have hl := hx.length
  tb_rel
  refine x_assign_lc ?_ (by kernel_rfl!) (fun _ => by with_unfolding_all rfl) (by kernel_rfl!) (by decide) (by with_unfolding_all rfl) (by decide) (by with_unfolding_all rfl) (by kernel_rfl!) (by kernel_rfl!) (by kernel_rfl!)
  tb_rel
  refine ⟨l, vs, n, fun _ => true, fun i y => ∃ a u, ns[i]? = some a ∧ y = .str (lawText a) u, rfl, hm, by rw [sizeLine_eq]; omega, ⟨?_, ?_⟩, ?_⟩
  · rintro C2 i v Cc oC rr mc hroom hw2 hi hP hns hmc
    exact tests_nil
  · rintro C2 i v Cc oC rr mc hroom hw2 hi hP hpz hns hmc
    obtain ⟨y, u, hy, rfl⟩ := hx.at hP
    tb_rel
    refine law_text (by omega) fun u' => ?_
    exact ⟨⟨y, u', hy, rfl⟩, rfl, .refl _⟩
  intro D ys k hIm
  rw [hl] at hIm
  have hT := Im.all_strs (S := ns) (f := lawText) (fun i y h => h) hIm
  tb_rel
  have hTl := hT.length
  rw [List.length_map] at hTl
  have h5 : ∀ a : Int, (lawText a).length ≤ 5 := fun a => by
    unfold lawText
    rw [lawTextTo_length]
    have := Int.fmod_lt_of_pos a (show (0 : Int) < 6 by decide)
    omega
  refine e_listcomp ?_ (fun _ => by with_unfolding_all rfl) (by with_unfolding_all rfl) (by decide) (by with_unfolding_all rfl) (by decide) (by with_unfolding_all rfl)
  tb_rel
  refine ⟨D, ys, k, fun _ => true, fun i y => ∃ a u, ns[i]? = some a ∧ y = .str (dumped (lawText a)) u, rfl, .head _, by rw [sizeLine_eq]; omega, ⟨?_, ?_⟩, ?_⟩
  · rintro C2 i v Cc oC rr mc hroom hw2 hi hP hns hmc
    exact tests_nil
  · rintro C2 i v Cc oC rr mc hroom hw2 hi hP hpz hns hmc
    obtain ⟨y, u, hy, rfl⟩ := hT.at hP
    rw [List.getElem?_map] at hy
    obtain ⟨a, ha, rfl⟩ := Option.map_eq_some_iff.mp hy
    have := h5 a
    tb_rel
    refine law_dumped (by omega) (by omega) fun u' => ?_
    exact ⟨⟨a, u', ha, rfl⟩, rfl, .refl _⟩
  intro D2 ys2 k2 hIm2
  rw [hTl] at hIm2
  have hT2 := Im.all_strs (S := ns) (f := fun a => dumped (lawText a)) (fun i y h => h) hIm2
  tb_rel
  have hmm : (ns.map fun a => dumped (lawText a)) = (ns.map lawText).map dumped := by rw [List.map_map]; rfl
  rw [hmm] at hT2
  have hsm : ∀ x ∈ ns.map lawText, x.length ≤ 1000 := fun x hx' => by
    obtain ⟨a, _, rfl⟩ := List.mem_map.mp hx'
    have := h5 a
    omega
  have hjs : jsum ", " ((ns.map lawText).map dumped) ≤ 1500 := by
    refine Nat.le_trans (jsum_le (n := 12) ?_) ?_
    · intro z hz
      obtain ⟨x, hx', rfl⟩ := List.mem_map.mp hz
      obtain ⟨a, _, rfl⟩ := List.mem_map.mp hx'
      have := h5 a
      have := dumped_length (lawText a)
      omega
    · rw [List.length_map, List.length_map, show (", " : Str).length = 2 by decide]
      omega
  have hjl : (Txt.join ", " ((ns.map lawText).map dumped)).length ≤ 1500 := Nat.le_trans (join_length _ _) hjs
  refine m_join (.head _) hT2 (joinOk_of (by rw [sizeLine_eq]; omega)) fun t' => ?_
  tb_rel
  refine dump_list (by mem_news) hT hsm (by rw [List.length_map]; omega) (by omega) fun t2 => ?_
  tb_rel
  rw [bne_self_eq_false]
  tb_rel
  refine parse_list (by omega) (by omega) fun l3 ys3 k3 hT3 => ?_
  rw [plist_dumped sep1] at hT3
  tb_rel
  refine o_ne_txt (by mem_news) (by mem_news) hT3 hT ?_
  rw [decide_eq_true rfl]
  tb_rel
  refine x_swap2 ?_ (by with_unfolding_all rfl) (by with_unfolding_all rfl) (by kernel_rfl!) (by kernel_rfl!) (by kernel_rfl!) (by kernel_rfl!)
  tb_rel
  rename_i d0 tt0
  refine ⟨_, _, _, _, rfl, by mem_news, ?_⟩
  tb_rel
  refine x_for_list ?_ (fun _ => rfl) (by kernel_rfl!) (by kernel_rfl!) (by kernel_rfl!)
  tb_rel
  refine ⟨_, _, _, (fun i s => ∃ d ds k t, look s.m "numbers" = some (.ref l) ∧ look s.m "due" = some (.ref d) ∧ look s.m "text" = some (.str (handTxt (ns.take i)) t) ∧ TxA ds (handDue (ns.take i)) ∧ s.news = (d, lst ds k) :: st.news), rfl, by mem_news, ?_⟩
  refine ⟨?_, ?_, ?_, ?_⟩
  · rintro i s2 ⟨d, ds, k, t, _, _, _, _, e⟩ p hp
    rw [List.mem_singleton] at hp
    subst hp
    rw [e]
    mem_news
  · exact ⟨(d0, lst [] 0) :: st.news, by got_up, d0, [], 0, _, by krn_off, by krn_off, by krn_off, .nil, rfl⟩
  · rintro i v st₂ I oI hi hv ⟨d, ds, k, t, h1, h2, h3, h4, h5'⟩
    obtain ⟨m₂, n₂⟩ := st₂
    dsimp only at h1 h2 h3 h4 h5' ⊢
    subst h5'
    obtain ⟨a, ta, ha, rfl⟩ := hx.at hv
    have hT0 : ns.take (i + 1) = ns.take i ++ [a] := by rw [List.take_add_one, ha]; rfl
    rw [hT0]
    obtain ⟨z1, z2⟩ := hand_len (ns.take i)
    have z3 := sepOf_len a
    obtain ⟨z4, z5⟩ := pieceOf_len a
    have z6 := List.length_take_le i ns
    have z7 := h4.length
    have z8 := str_length_append (handTxt (ns.take i)) (sepOf a)
    have hi' : i < ns.length := by omega
    tb_rel
    obtain ⟨vsI, nI, eI, lenI, hI⟩ := law_items C'.w
    refine x_tup2 ?_ (by with_unfolding_all rfl) (by with_unfolding_all rfl) (by kernel_rfl!) (by kernel_rfl!) (by kernel_rfl!) (by kernel_rfl!)
    tb_rel
    have g0 : 0 ≤ a.fmod 9 := Int.fmod_nonneg_of_pos _ (by decide)
    have g1 : a.fmod 9 < 9 := Int.fmod_lt_of_pos a (by decide)
    obtain ⟨ti, li, wi, ki, mi, tki, hvi, hti, hli, hxi⟩ := hI (a.fmod 9).toNat (by omega)
    refine o_item_K eI g0 (by omega) hvi ?_ (by with_unfolding_all rfl)
    refine ⟨_, _, _, _, rfl, .inr hti, ?_⟩
    tb_rel
    have s0 : 0 ≤ (a.fdiv 3).fmod 3 := Int.fmod_nonneg_of_pos _ (by decide)
    have s1 : (a.fdiv 3).fmod 3 < 3 := Int.fmod_lt_of_pos _ (by decide)
    cases hb : ((a.fdiv 9).fmod 3 == 0) with
    | true =>
      tb_rel
      refine x_swap2 ?_ (by with_unfolding_all rfl) (by with_unfolding_all rfl) (by kernel_rfl!) (by kernel_rfl!) (by kernel_rfl!) (by kernel_rfl!)
      tb_rel
      refine law_text (by omega) fun u1 => ?_
      tb_rel
      have := h5 (a.fdiv 27)
      refine law_dumped (by omega) (by omega) fun u2 => ?_
      tb_rel
      refine law_text (by omega) fun u3 => ?_
      tb_rel
      refine ⟨_, _, _, _, rfl, by mem_news, ?_⟩
      tb_rel
      refine o_item_str (by mem_news) s0 (by omega) sep_at (fun t9 => ?_) (by with_unfolding_all rfl)
      have hp : pieceOf a = (dumped (lawText (a.fdiv 27)), [lawText (a.fdiv 27)]) := by unfold pieceOf; rw [if_pos (eq_of_beq hb)]
      have hT9 : ∀ u, TxA [.str (lawText (a.fdiv 27)) u] (pieceOf a).2 := fun u => by rw [hp]; exact .cons .nil
      rw [← show (pieceOf a).1 = dumped (lawText (a.fdiv 27)) by rw [hp]]
      tb_rel
      rw [handTxt_snoc, handDue_snoc]
      refine ⟨_, ?_, _, _, 0, _, by krn_off, by krn_off, by krn_off, h4.append (hT9 u3), rfl⟩
      exact Sub.swap (by got_up)
    | false =>
      tb_rel
      refine o_item_str (by mem_news) s0 (by omega) sep_at (fun t9 => ?_) (by with_unfolding_all rfl)
      have hp : pieceOf a = lawItems.getD (a.fmod 9).toNat ("", []) := by unfold pieceOf; rw [if_neg (ne_of_beq_false hb)]
      rw [← hp] at hxi ⊢
      have z9 := hxi.length
      tb_rel
      refine o_add_listsK (by mem_news) hli (by none_booked) fun r => ?_
      tb_rel
      rw [handTxt_snoc, handDue_snoc]
      refine ⟨_, ?_, r, _, 0, _, by krn_off, by krn_off, by krn_off, h4.append hxi, rfl⟩
      exact Sub.swap (by got_up)
  · rintro ⟨m₂, n₂⟩ ⟨d, ds, k, t, h1, h2, h3, h4, h5'⟩
    dsimp only at h1 h2 h3 h4 h5' ⊢
    subst h5'
    rw [hl, List.take_length] at h3 h4
    obtain ⟨z1, z2⟩ := hand_len ns
    have y1 := hand_ne hne
    have y3 := str_length_append (handTxt ns) ", \"open, b"
    have y4 : (", \"open, b" : Str).length ≤ 20 := by decide
    have y5 := str_length_append (handTxt ns) ",\"open"
    have y6 : (",\"open" : Str).length ≤ 20 := by decide
    tb_rel
    refine parse_list (by omega) (by omega) fun l4 ys4 k4 hT4 => ?_
    rw [(hand_rd ns).plist] at hT4
    tb_rel
    refine o_eq_txt (by mem_news) (by mem_news) hT4 h4 ?_
    rw [decide_eq_true rfl]
    tb_rel
    change Ev C' NoE (call _ [.str (Txt.slice (handTxt ns) (some 1) none) _]) _ _
    rw [slice_drop1 y1]
    have y2 : (drop1 (handTxt ns)).length ≤ 1500 := by
      rw [str_len]
      show ((handTxt ns).cps.toList.drop 1).length ≤ _
      rw [List.length_drop, ← str_len]; omega
    refine parse_list (by omega) (by omega) fun l5 ys5 k5 hT5 => ?_
    rw [(hand_rd1 ns).plist] at hT5
    tb_rel
    refine o_eq_txt (by mem_news) (by mem_news) hT5 h4 ?_
    rw [decide_eq_true rfl]
    tb_rel
    refine parse_list (by omega) (by omega) fun l6 ys6 k6 hT6 => ?_
    rw [open1 (hand_rd ns)] at hT6
    tb_rel
    refine o_eq_txt (by mem_news) (by mem_news) hT6 .nil ?_
    rw [decide_eq_true rfl]
    tb_rel
    refine parse_set (rows := []) (by omega) (open2 (hand_rd ns)) List.nodup_nil (by decide) (fun _ h => nomatch h) (by omega) fun V vs7 k7 so R7 => ?_
    tb_rel
    refine hs_list HsM.head R7 (by omega) fun l7 k8 => ?_
    tb_rel
    refine o_eq_txt (by mem_news) (by mem_news) R7.tx .nil ?_
    rw [decide_eq_true rfl]
    exact ⟨st.news, by got_up, h⟩
end
end Mine
end
section
open PySem PySem.W PyProof.Rows PySem.Calls PySem.Spec
namespace Mine
theorem ite_ct {b : Bool} {p q : Prop} (hb : b = true) (h : p) : if b = true then p else q := by rw [if_pos hb]; exact h
theorem ite_cf {b : Bool} {p q : Prop} (hb : b = false) (h : q) : if b = true then p else q := by rw [hb, if_neg Bool.false_ne_true]; exact h
theorem ite_nct {b : Bool} {p q : Prop} (hb : b = true) (h : q) : if (!b) = true then p else q := by subst hb; exact ite_f h
theorem ite_ncf {b : Bool} {p q : Prop} (hb : b = false) (h : p) : if (!b) = true then p else q := by subst hb; exact ite_t h
section
variable {C : Cx} {E : Value → Shared → Prop} {st : St}
theorem o_in_yes {l : Addr} {vs : List Value} {n : Nat} {ns : List Int} {k : Int} {t : Tok} {Q : Value → St → Prop} (hl : (l, lst vs n) ∈ st.news) (hx : IxA vs ns) (hy : ns.any (· == k) = true) (h : Q (.bool true) st) : Ev C E (compareOp .In (.int k t) (.ref l)) st Q :=
  o_in_ints hl hx (hy ▸ h)
theorem o_in_no {l : Addr} {vs : List Value} {n : Nat} {ns : List Int} {k : Int} {t : Tok} {Q : Value → St → Prop} (hl : (l, lst vs n) ∈ st.news) (hx : IxA vs ns) (hy : ns.any (· == k) = false) (h : Q (.bool false) st) : Ev C E (compareOp .In (.int k t) (.ref l)) st Q :=
  o_in_ints hl hx (hy ▸ h)
theorem o_lfrom {value slice : Expr} {vs : List Value} {n : Nat} {l d : Addr} {o : Obj} {i : Int} {t : Tok} {Q : Value → St → Prop} (hl : (d, lst vs n) ∈ st.news) (hm : (l, o) ∈ st.news) (ho : o = slc (.int i t) .none) (h0 : 0 ≤ i) (hz : vs.length ≤ sizeLine)
    (h : ∀ r, Q (.ref r) ⟨st.m, (r, lst (vs.drop i.toNat) 0) :: st.news⟩)
    (hs : subscripted slice false (.ref d) (.ref l) = operate [.ref l, .ref d] (getItem (.ref d) (.ref l))) : Ev C E (subscriptTail value slice (.ref d) (.ref l)) st Q :=
  o_slice_list (p := some (i, t)) (q := none) hl hm ho hz (fun r => by
    have e := slicePick_from' vs.toArray i.toNat
    rw [Int.toNat_of_nonneg h0] at e
    show Q (.ref r) ⟨st.m, (r, lst (slicePick vs.toArray (some i) none none).toList 0) :: st.news⟩
    rw [e]
    exact h r) hs
theorem o_lupto {value slice : Expr} {vs : List Value} {n : Nat} {l d : Addr} {o : Obj} {i : Int} {t : Tok} {Q : Value → St → Prop} (hl : (d, lst vs n) ∈ st.news) (hm : (l, o) ∈ st.news) (ho : o = slc .none (.int i t)) (h0 : 0 ≤ i) (hz : vs.length ≤ sizeLine)
    (h : ∀ r, Q (.ref r) ⟨st.m, (r, lst (vs.take i.toNat) 0) :: st.news⟩)
    (hs : subscripted slice false (.ref d) (.ref l) = operate [.ref l, .ref d] (getItem (.ref d) (.ref l))) : Ev C E (subscriptTail value slice (.ref d) (.ref l)) st Q :=
  o_slice_list (p := none) (q := some (i, t)) hl hm ho hz (fun r => by
    have e := slicePick_upto' vs.toArray i.toNat
    rw [Int.toNat_of_nonneg h0] at e
    show Q (.ref r) ⟨st.m, (r, lst (slicePick vs.toArray none (some i) none).toList 0) :: st.news⟩
    rw [e]
    exact h r) hs
end
end Mine
end
end
local macro_rules | `(tactic| allgen_close2_more) => `(tactic| ((repeat first | with_reducible refine look_other (by kernel_rfl!) ?_ | with_reducible refine look_tl (by kernel_rfl!) ?_); first | with_reducible assumption | with_reducible exact look_same | with_reducible exact look_hd))
local macro_rules | `(tactic| krn_off) => `(tactic| ((repeat first | with_reducible refine look_other (by kernel_rfl!) ?_ | with_reducible refine look_tl (by kernel_rfl!) ?_); first | with_reducible assumption | with_reducible exact look_same | with_reducible exact look_hd | with_unfolding_all exact rfl))
local macro_rules | `(tactic| none_booked) => `(tactic| first | with_reducible assumption | decide | (simp only [List.length_cons, List.length_nil, List.length_append, sizeLine_eq]; omega) | (rw [sizeLine_eq]; omega))
local macro_rules | `(tactic| mem_news) => `(tactic| first | with_reducible_and_instances assumption | with_reducible_and_instances exact List.Mem.head _ | (with_reducible_and_instances refine List.Mem.tail _ ?_; mem_news))
local macro_rules | `(tactic| k_upd) => `(tactic| first | with_reducible_and_instances exact At.head | (with_reducible_and_instances apply At.tail; k_upd))
local macro_rules | `(tactic| got_up) => `(tactic| first | with_reducible exact Sub.refl _ | (with_reducible refine Sub.cons₂ _ ?_; got_up) | (with_reducible refine Sub.cons _ ?_; got_up))
local macro_rules | `(tactic| tb_start) => `(tactic| first
  | (with_reducible show Ev _ _ (eval _ _) _ _; first
    | (with_reducible refine e_loc (by kernel_rfl!) (by allgen_close2_more) ?_ (by kernel_rfl!) (by kernel_rfl!) (by kernel_rfl!))
    | (with_reducible refine e_cloc (by kernel_rfl!) (by mem_news) (by assumption) (by assumption) ?_ (by kernel_rfl!) (by kernel_rfl!))
    | (with_reducible refine e_int ?_; intro _)
    | (with_reducible refine e_str ?_; intro _)
    | (with_reducible refine e_method ?_ (by kernel_rfl!))
    | (with_reducible refine e_call ?_ (by kernel_rfl!))
    | (with_reducible refine e_glob (by kernel_rfl!) (by with_unfolding_all exact rfl) ?_ (by kernel_rfl!) (by kernel_rfl!) (by kernel_rfl!))
    | (with_reducible refine e_blt (by kernel_rfl!) (by with_unfolding_all exact rfl) ?_ (by kernel_rfl!) (by kernel_rfl!) (by kernel_rfl!) (by kernel_rfl!))
    | (with_reducible refine e_attr ?_ (by kernel_rfl!))
    | (with_reducible refine e_binop ?_)
    | (with_reducible refine e_compare ?_ (by kernel_rfl!))
    | (with_reducible refine e_sub ?_)
    | (with_reducible refine e_none ?_)
    | (with_reducible refine e_bool ?_)
    | (with_reducible refine e_list ?_)
    | (with_reducible refine e_tuple ?_)
    | (with_reducible refine e_unary ?_)
    | (with_reducible refine e_ifexp ?_)
    | (with_reducible refine e_joined ?_)
    | (with_reducible refine e_slice_ss ?_)
    | (with_reducible refine e_slice_sn ?_)
    | (with_reducible refine e_slice_ns ?_)
    | (with_reducible refine e_fmt ?_)
    | (with_reducible refine e_bool1 ?_)
    | (with_reducible refine e_and ?_)
    | (with_reducible refine e_or ?_))
  | (with_reducible show Ev _ _ (exec _ _) _ _; first
    | (with_reducible refine x_assign ?_ (by kernel_rfl!) (by kernel_rfl!) (by kernel_rfl!) (by kernel_rfl!))
    | (with_reducible refine x_if ?_)
    | (with_reducible refine x_return ?_)
    | (with_reducible refine x_expr ?_ (by kernel_rfl!) (by kernel_rfl!))
    | (with_reducible refine x_augassign (by allgen_close2_more) ?_ (by kernel_rfl!) (by kernel_rfl!) (by kernel_rfl!))
    | (with_reducible refine x_continue ?_)
    | (with_reducible refine x_break ?_)
    | (with_reducible refine x_pass ?_)
    | (with_reducible refine x_setattr ?_ (by kernel_rfl!))
    | (with_reducible refine x_setitem ?_ (by kernel_rfl!))
    | (with_reducible refine x_delitem ?_)
    | (with_reducible refine x_return0 ?_))
  | (with_reducible show Ev _ _ (execs _ _) _ _; first
    | (with_reducible refine x_cons ?_)
    | (with_reducible refine x_nil ?_))
  | (with_reducible show Ev _ _ (spliced _) _ _; first
    | (with_reducible refine sp_nil ?_)
    | (with_reducible refine sp_two ?_; intro _ _ _ _ _)
    | (with_reducible refine sp_cons ?_ (by kernel_rfl!)))
  | (with_reducible show Ev _ _ (isTrue _ _ _) _ _; first
    | (with_reducible refine t_compare ?_ (by kernel_rfl!))
    | (with_reducible refine t_not ?_)
    | (with_reducible refine t_and0 ?_)
    | (with_reducible refine t_or0 ?_)
    | (with_reducible refine t_and ?_)
    | (with_reducible refine t_or ?_)
    | (with_reducible refine t_plain ?_ (by kernel_rfl!)))
  | (with_reducible show Ev _ _ (callWith _ _ _ _ _) _ _; first
    | (with_reducible refine cw_builtin ?_ (by kernel_rfl!))
    | (with_reducible refine cw_def (by kernel_rfl!) ?_ (by kernel_rfl!))
    | (with_reducible refine cw_type ?_ (by kernel_rfl!))
    | (with_reducible refine cw_builtin0 ?_)
    | (with_reducible refine cw_def0 (by kernel_rfl!) ?_))
  | (with_reducible show Ev _ _ (compareOp _ _ _) _ _; first
    | (with_reducible refine o_isnot_nn ?_)
    | (with_reducible refine o_eq_str ?_)
    | (with_reducible refine o_eq_int ?_)
    | (with_reducible refine o_ne_str ?_)
    | (with_reducible refine o_in_str ?_)
    | (with_reducible refine o_notin_str ?_)
    | (with_reducible refine o_ne_int ?_)
    | (with_reducible refine o_lt_int ?_)
    | (with_reducible refine o_gt_int ?_)
    | (with_reducible refine o_le_int ?_)
    | (with_reducible refine o_ge_int ?_)
    | (with_reducible refine o_is_none ?_)
    | (with_reducible refine o_isnot_none (by kernel_rfl!) ?_)
    | (with_reducible refine o_in_yes (by mem_news) (.cons (.cons .nil)) (by kernel_rfl!) ?_)
    | (with_reducible refine o_in_no (by mem_news) (.cons (.cons .nil)) (by kernel_rfl!) ?_)
    | (with_reducible refine o_in_yes (by mem_news) (.cons (.cons (.cons .nil))) (by kernel_rfl!) ?_)
    | (with_reducible refine o_in_no (by mem_news) (.cons (.cons (.cons .nil))) (by kernel_rfl!) ?_)
    | (with_reducible refine o_ne_bools ?_))
  | (with_reducible show Ev _ _ (call _ _ _) _ _; first
    | (with_reducible refine o_isinst_list_dict (by mem_news) ?_)
    | (with_reducible refine o_len_list (by mem_news) (by none_booked) ?_; intro _)
    | (with_reducible refine m_append (by k_upd) (by none_booked) ?_)
    | (with_reducible refine m_startswith ?_)
    | (with_reducible refine m_endswith ?_)
    | (with_reducible refine m_strip (by none_booked) ?_; intro _)
    | (with_reducible refine m_str ?_)
    | (with_reducible refine o_range1 ?_; intro _ _ _)
    | (with_reducible refine o_len_str (by none_booked) ?_; intro _)
    | (with_reducible refine o_ord ?_; intro _))
  | (with_reducible show Ev _ _ (getMethod _ _ _) _ _; first
    | (with_reducible refine gm_replace ?_)
    | (with_reducible refine gm_strip ?_)
    | (with_reducible refine gm_lower ?_)
    | (with_reducible refine gm_upper ?_)
    | (with_reducible refine gm_startswith ?_)
    | (with_reducible refine gm_endswith ?_)
    | (with_reducible refine gm_join ?_)
    | (with_reducible refine gm_partition ?_)
    | (with_reducible refine gm_append (by mem_news) ?_)
    | (with_reducible refine gm_set PySem.F.slot_set_add PySem.F.type_set_add (by mem_news) (by assumption) ?_)
    | (with_reducible refine gm_set PySem.F.slot_set_remove PySem.F.type_set_remove (by mem_news) (by assumption) ?_)
    | (with_reducible refine gm_set PySem.F.slot_set_clear PySem.F.type_set_clear (by mem_news) (by assumption) ?_)
    | (with_reducible refine gm_list PySem.F.slot_list_clear PySem.F.type_list_clear (by mem_news) ?_)
    | (with_reducible refine gm_list PySem.F.slot_list_pop PySem.F.type_list_pop (by mem_news) ?_))
  | (with_reducible show Ev _ _ (truthy _) _ _; first
    | (with_reducible refine o_truthy_bool ?_)
    | (with_reducible refine o_truthy_str (by none_booked) ?_)
    | (with_reducible refine o_truthy_none ?_))
  | (with_reducible show Ev _ _ (binaryOp _ _ _) _ _; first
    | (with_reducible refine o_add_lists (by mem_news) (by mem_news) (by none_booked) ?_; intro _)
    | (with_reducible refine o_add_str (by none_booked) ?_; intro _)
    | (with_reducible refine o_add_int ?_; intro _)
    | (with_reducible refine o_mod_int (by decide) ?_; intro _)
    | (with_reducible refine o_floordiv_int (by decide) (by decide +kernel) ?_; intro _)
    | (with_reducible refine o_sub_int ?_; intro _))
  | (with_reducible show Ev _ _ (subscriptTail _ _ _ _) _ _; first
    | (with_reducible refine o_slice_str (by mem_news) (by with_unfolding_all exact rfl) (by none_booked) ?_ (by with_unfolding_all rfl); intro _)
    | (with_reducible refine o_lfrom (by mem_news) (by mem_news) (by with_unfolding_all exact rfl) (by omega) (by none_booked) ?_ (by with_unfolding_all rfl); intro _)
    | (with_reducible refine o_lupto (by mem_news) (by mem_news) (by with_unfolding_all exact rfl) (by omega) (by none_booked) ?_ (by with_unfolding_all rfl); intro _))
  | (with_reducible show Ev _ _ (newList _) _ _; first
    | (with_reducible refine o_newList (by none_booked) ?_; intro _))
  | (with_reducible show Ev _ _ (newTuple _) _ _; first
    | (with_reducible refine o_newTuple (by none_booked) ?_; intro _))
  | (with_reducible show Ev _ _ (inplaceOp _ _ _) _ _; first
    | (with_reducible refine o_iadd_str (by none_booked) ?_; intro _)
    | (with_reducible refine o_iadd_int ?_; intro _))
  | (with_reducible show Ev _ _ (unaryOp _ _) _ _; first
    | (with_reducible refine o_not ?_)
    | (with_reducible refine o_neg_int ?_; intro _))
  | (with_reducible show Ev _ _ (getAttr _ _ _) _ _; first
    | (with_reducible refine o_get0 (by mem_news) (by mem_news) (by kernel_rfl!) (by kernel_rfl!) (by with_unfolding_all rfl) (by with_unfolding_all rfl) ?_))
  | (with_reducible show Ev _ _ (joinParts _ _) _ _; first
    | (with_reducible refine j_cons ?_)
    | (with_reducible refine j_more ?_)
    | (with_reducible refine j_nil (by none_booked) ?_; intro _))
  | (with_reducible refine opt_int ?_; intro _)
  | (with_reducible refine opt_int2 ?_; intro _)
  | (with_reducible refine pl_intro ?_; intro _)
  | (with_reducible refine ite_t ?_)
  | (with_reducible refine ite_f ?_)
  | (with_reducible refine ite_nt ?_)
  | (with_reducible refine ite_nf ?_)
  | (with_reducible refine ite_ct (by first | assumption | kernel_rfl!) ?_)
  | (with_reducible refine ite_cf (by first | assumption | kernel_rfl!) ?_)
  | (with_reducible refine ite_nct (by first | assumption | kernel_rfl!) ?_)
  | (with_reducible refine ite_ncf (by first | assumption | kernel_rfl!) ?_)
  | fail)
local macro_rules | `(tactic| tb_rel) => `(tactic| repeat' (tb_start; try dsimp only [List.cons_append, List.nil_append]))
local macro_rules | `(tactic| none_booked) => `(tactic| (simp only [List.length_append, List.length_take, List.length_drop, List.length_cons, List.length_nil, sizeLine_eq]; omega))
section
open PySem PySem.W PyProof.Rows PySem.Calls PySem.Spec
namespace Mine
def dueRows (rows : List Str) (deed : Nat) (name : Str) (place : Int) (fresh : Str) : List Str :=
  match deed with
  | 0 => addRow rows name
  | 1 => addRow rows name ++ [fresh]
  | 2 | 3 => if 0 ≤ placeIn rows name then rows.eraseIdx (placeIn rows name).toNat else rows
  | 8 => match seqIndex? place rows.length with
    | some j => rows.set j fresh
    | none => rows
  | 9 => match seqIndex? place rows.length with
    | some j => rows.eraseIdx j
    | none => rows
  | _ => rows
def dueAns (rows : List Str) (deed : Nat) (name : Str) (place : Int) (fresh : Str) : Ans :=
  match deed with
  | 2 => if placeIn rows name < 0 then .txt "no name" else .none
  | 4 => .int (placeIn rows name)
  | 5 => if placeIn rows name < 0 then .txt "no place" else .int (placeIn rows name)
  | 6 => .bool (decide (0 ≤ placeIn rows name))
  | 7 => match seqIndex? place rows.length with
    | some j => .txt (rows.getD j "")
    | none => .txt "no place"
  | 8 | 9 => match seqIndex? place rows.length with
    | some j => .none
    | none => .txt "no place"
  | _ => .none
theorem place_mem {rows : List Str} {name : Str} : 0 ≤ placeIn rows name ↔ Txt.lower name ∈ rows.map Txt.lower := by
  unfold placeIn
  cases h : rows.findIdx? (fun r => Txt.lower r == Txt.lower name) with
  | some i =>
    refine ⟨fun _ => ?_, fun _ => by simp⟩
    obtain ⟨hi, h1, _⟩ := List.findIdx?_eq_some_iff_getElem.mp h
    exact List.mem_map.mpr ⟨rows[i], List.getElem_mem hi, eq_of_beq h1⟩
  | none =>
    refine ⟨fun h0 => absurd h0 (by decide), fun hm => ?_⟩
    obtain ⟨x, hx, e⟩ := List.mem_map.mp hm
    have := List.findIdx?_eq_none_iff.mp h x hx
    rw [e] at this
    simp at this
theorem place_lt {rows : List Str} {name : Str} : placeIn rows name < rows.length := by
  unfold placeIn
  cases h : rows.findIdx? (fun r => Txt.lower r == Txt.lower name) with
  | some i =>
    obtain ⟨hi, h1, _⟩ := List.findIdx?_eq_some_iff_getElem.mp h
    simpa using hi
  | none => simp; omega
theorem place_at {rows : List Str} {name : Str} (h0 : 0 ≤ placeIn rows name) : ∃ j : Nat, placeIn rows name = j ∧ ∃ hj : j < rows.length, Txt.lower rows[j] = Txt.lower name := by
  unfold placeIn at h0 ⊢
  cases h : rows.findIdx? (fun r => Txt.lower r == Txt.lower name) with
  | some i =>
    obtain ⟨hi, h1, _⟩ := List.findIdx?_eq_some_iff_getElem.mp h
    exact ⟨i, rfl, hi, eq_of_beq h1⟩
  | none => rw [h] at h0; exact absurd h0 (by decide)
section
variable {C : Cx} {E : Value → Shared → Prop} {st : St} {rows : List Str} {vs : List Value} {k : Nat} {m : List (Str × Value)} {r : Led}
theorem erase_td {α : Type} (l : List α) (j : Nat) : l.eraseIdx j = l.take j ++ l.drop (j + 1) := List.eraseIdx_eq_take_drop_succ l j
theorem set_td {α : Type} (l : List α) (j : Nat) (v : α) (h : j < l.length) : l.set j v = l.take j ++ [v] ++ l.drop (j + 1) := by
  rw [List.set_eq_take_append_cons_drop, if_pos h]; simp
theorem place_fmod {place : Int} {n j : Nat} (h : seqIndex? place n = some j) : place.fmod n = j := by
  have hj := lt_of_seqIndex h
  rw [Int.fmod_eq_emod_of_nonneg _ (by omega)]
  rcases seq_some h with ⟨h1, h2, h3⟩ | ⟨h1, h2, h3⟩
  · rw [← Int.add_emod_right, Int.emod_eq_of_lt h2 (by omega)]; omega
  · rw [Int.emod_eq_of_lt h1 h2]; omega
set_option maxHeartbeats 4000000 in
theorem law_due {l : Addr} {d : Nat} {name fresh : Str} {place : Int} {t1 t2 t3 t4 : Tok} (hd : d < 10) (hx : TxA vs rows) (hsz : ∀ x ∈ rows, x.length ≤ 100) (hln : rows.length ≤ 60) (hn : name.length ≤ 100) (hp : -10 ≤ place ∧ place < 10) (hr : 2 < C.room) {Q : Value → St → Prop}
    (h : ∀ T l' vs' k' a n, TxA vs' (dueRows rows d name place fresh) → (dueAns rows d name place fresh).is a → Q (.ref T) ⟨m, (T, tup [.ref l', a] n) :: (l', lst vs' k') :: r⟩) :
    Ev C E (call (.ref 329) [.ref l, .int d t1, .str name t2, .int place t3, .str fresh t4]) ⟨m, (l, lst vs k) :: r⟩ Q := by
  refine call_def (name := _) (binds := [("rows", .ref l), ("deed", .int d t1), ("name", .str name t2), ("place", .int place t3), ("fresh", .str fresh t4)]) (by with_unfolding_all rfl) (by with_unfolding_all rfl) (by omega) (by intro S; with_unfolding_all rfl) (by rfl) (by rfl) (by rfl) (by rfl) (by rfl) (by rfl) ?_
  intro C' hw hr' hC'
  have hv := hx.length
  have hpl := place_lt (rows := rows) (name := name)
  dsimp only
  tb_rel
  refine law_place (by mem_news) hx (fun x hx => by have := hsz x hx; omega) (by omega) (by omega) (by omega) fun t5 => ?_
  tb_rel
  have fin : ∀ T l' vs' k' a n (news : Led), Sub ((T, tup [.ref l', a] n) :: (l', lst vs' k') :: r) news → TxA vs' (dueRows rows d name place fresh) → (dueAns rows d name place fresh).is a → ∃ news', Sub news' news ∧ Q (.ref T) ⟨m, news'⟩ := fun T l' vs' k' a n news h1 h2 h3 => ⟨_, h1, h T l' vs' k' a n h2 h3⟩
  have this : d = 0 ∨ d = 1 ∨ d = 2 ∨ d = 3 ∨ d = 4 ∨ d = 5 ∨ d = 6 ∨ d = 7 ∨ d = 8 ∨ d = 9 := by omega
  have hq : (decide (placeIn rows name < 0) = true ∧ decide (0 ≤ placeIn rows name) = false ∧ addRow rows name = rows ++ [name]) ∨ (decide (placeIn rows name < 0) = false ∧ decide (0 ≤ placeIn rows name) = true ∧ addRow rows name = rows) := by
    rw [decide_eq_true_eq, decide_eq_false_iff_not, decide_eq_false_iff_not, decide_eq_true_eq]
    by_cases h0 : 0 ≤ placeIn rows name
    · exact .inr ⟨by omega, h0, addRow_hit (place_mem.mp h0)⟩
    · exact .inl ⟨by omega, h0, addRow_miss fun q => h0 (place_mem.mpr q)⟩
  have hs : ((decide ((vs.length : Int) ≤ place) = true ∨ (decide ((vs.length : Int) ≤ place) = false ∧ decide (place < -(vs.length : Int)) = true)) ∧ seqIndex? place rows.length = none) ∨ (decide ((vs.length : Int) ≤ place) = false ∧ decide (place < -(vs.length : Int)) = false ∧ ∃ j, seqIndex? place rows.length = some j) := by
    rw [decide_eq_true_eq, decide_eq_false_iff_not, decide_eq_false_iff_not, decide_eq_true_eq, hv]
    rcases seq_or place rows.length with hi | ⟨j, hi⟩
    · have := seq_none hi
      exact .inl ⟨by omega, hi⟩
    · have := seq_some hi
      exact .inr ⟨by omega, by omega, j, hi⟩
  rcases this with rfl | rfl | rfl | rfl | rfl | rfl | rfl | rfl | rfl | rfl
  · rcases hq with ⟨hq1, hq2, hq3⟩ | ⟨hq1, hq2, hq3⟩
    · tb_rel
      apply fin
      · got_up
      · show TxA _ (addRow rows name)
        rw [hq3]; exact hx.append (.cons .nil)
      · exact rfl
    · tb_rel
      apply fin
      · got_up
      · show TxA _ (addRow rows name)
        rw [hq3]; exact hx
      · exact rfl
  · rcases hq with ⟨hq1, hq2, hq3⟩ | ⟨hq1, hq2, hq3⟩
    · tb_rel
      apply fin
      · got_up
      · show TxA _ (addRow rows name ++ [fresh])
        rw [hq3]; exact (hx.append (.cons .nil)).append (.cons .nil)
      · exact rfl
    · tb_rel
      apply fin
      · got_up
      · show TxA _ (addRow rows name ++ [fresh])
        rw [hq3]; exact hx.append (.cons .nil)
      · exact rfl
  · rcases hq with ⟨hq1, hq2, hq3⟩ | ⟨hq1, hq2, hq3⟩
    · tb_rel
      apply fin
      · got_up
      · show TxA _ (if 0 ≤ placeIn rows name then _ else rows)
        rw [if_neg (of_decide_eq_false hq2)]; exact hx
      · show Ans.is (if placeIn rows name < 0 then _ else _) _
        rw [if_pos (of_decide_eq_true hq1)]; exact ⟨_, rfl⟩
    · have hge := of_decide_eq_true hq2
      tb_rel
      apply fin
      · got_up
      · show TxA _ (if 0 ≤ placeIn rows name then _ else rows)
        rw [if_pos hge, erase_td, show (placeIn rows name).toNat + 1 = (placeIn rows name + 1).toNat by omega]
        exact (hx.take _).append (hx.drop _)
      · show Ans.is (if placeIn rows name < 0 then _ else _) _
        rw [if_neg (of_decide_eq_false hq1)]; exact rfl
  · rcases hq with ⟨hq1, hq2, hq3⟩ | ⟨hq1, hq2, hq3⟩
    · tb_rel
      apply fin
      · got_up
      · show TxA _ (if 0 ≤ placeIn rows name then _ else rows)
        rw [if_neg (of_decide_eq_false hq2)]; exact hx
      · exact rfl
    · have hge := of_decide_eq_true hq2
      tb_rel
      apply fin
      · got_up
      · show TxA _ (if 0 ≤ placeIn rows name then _ else rows)
        rw [if_pos hge, erase_td, show (placeIn rows name).toNat + 1 = (placeIn rows name + 1).toNat by omega]
        exact (hx.take _).append (hx.drop _)
      · exact rfl
  · rcases hq with ⟨hq1, hq2, hq3⟩ | ⟨hq1, hq2, hq3⟩
    · tb_rel
      refine o_item_list (by mem_news) (by decide) (by decide) (by with_unfolding_all rfl) ?_ (by with_unfolding_all rfl)
      tb_rel
      apply fin
      · got_up
      · exact hx
      · exact ⟨_, rfl⟩
    · tb_rel
      refine o_item_list (by mem_news) (by decide) (by decide) (by with_unfolding_all rfl) ?_ (by with_unfolding_all rfl)
      tb_rel
      apply fin
      · got_up
      · exact hx
      · exact ⟨_, rfl⟩
  · rcases hq with ⟨hq1, hq2, hq3⟩ | ⟨hq1, hq2, hq3⟩
    · tb_rel
      refine o_item_list (by mem_news) (by decide) (by decide) (by with_unfolding_all rfl) ?_ (by with_unfolding_all rfl)
      tb_rel
      apply fin
      · got_up
      · exact hx
      · show Ans.is (if placeIn rows name < 0 then _ else _) _
        rw [if_pos (of_decide_eq_true hq1)]; exact ⟨_, rfl⟩
    · tb_rel
      refine o_item_list (by mem_news) (by decide) (by decide) (by with_unfolding_all rfl) ?_ (by with_unfolding_all rfl)
      tb_rel
      apply fin
      · got_up
      · exact hx
      · show Ans.is (if placeIn rows name < 0 then _ else _) _
        rw [if_neg (of_decide_eq_false hq1)]; exact ⟨_, rfl⟩
  · rcases hq with ⟨hq1, hq2, hq3⟩ | ⟨hq1, hq2, hq3⟩
    · tb_rel
      refine o_item_list (by mem_news) (by decide) (by decide) (by with_unfolding_all rfl) ?_ (by with_unfolding_all rfl)
      tb_rel
      apply fin
      · got_up
      · exact hx
      · exact rfl
    · tb_rel
      refine o_item_list (by mem_news) (by decide) (by decide) (by with_unfolding_all rfl) ?_ (by with_unfolding_all rfl)
      tb_rel
      apply fin
      · got_up
      · exact hx
      · exact rfl
  · rcases hs with ⟨hs1 | ⟨hs1, hs2⟩, hs3⟩ | ⟨hs1, hs2, j, hs3⟩
    · tb_rel
      apply fin
      · got_up
      · exact hx
      · show Ans.is (match seqIndex? place rows.length with | some j => _ | none => _) _
        rw [hs3]; exact ⟨_, rfl⟩
    · tb_rel
      apply fin
      · got_up
      · exact hx
      · show Ans.is (match seqIndex? place rows.length with | some j => _ | none => _) _
        rw [hs3]; exact ⟨_, rfl⟩
    · tb_rel
      have hj := lt_of_seqIndex hs3
      refine o_mod_int (by omega) fun t6 => ?_
      rw [show place.fmod (vs.length : Int) = j from hv ▸ place_fmod hs3]
      obtain ⟨t7, ht7⟩ := hx.get (List.getElem?_eq_getElem hj)
      tb_rel
      refine o_item_list (by mem_news) (by omega) (by omega) (by show vs[j]? = _; exact ht7) ?_ (by with_unfolding_all rfl)
      tb_rel
      apply fin
      · got_up
      · exact hx
      · show Ans.is (match seqIndex? place rows.length with | some j => .txt (rows.getD j "") | none => _) _
        rw [hs3]
        exact ⟨t7, by simp [List.getD_eq_getElem?_getD, List.getElem?_eq_getElem hj]⟩
  · rcases hs with ⟨hs1 | ⟨hs1, hs2⟩, hs3⟩ | ⟨hs1, hs2, j, hs3⟩
    · tb_rel
      apply fin
      · got_up
      · show TxA _ (match seqIndex? place rows.length with | some j => _ | none => rows)
        rw [hs3]; exact hx
      · show Ans.is (match seqIndex? place rows.length with | some j => _ | none => _) _
        rw [hs3]; exact ⟨_, rfl⟩
    · tb_rel
      apply fin
      · got_up
      · show TxA _ (match seqIndex? place rows.length with | some j => _ | none => rows)
        rw [hs3]; exact hx
      · show Ans.is (match seqIndex? place rows.length with | some j => _ | none => _) _
        rw [hs3]; exact ⟨_, rfl⟩
    · tb_rel
      have hj := lt_of_seqIndex hs3
      refine o_mod_int (by omega) fun t6 => ?_
      rw [show place.fmod (vs.length : Int) = j from hv ▸ place_fmod hs3]
      tb_rel
      apply fin
      · got_up
      · show TxA _ (match seqIndex? place rows.length with | some j => _ | none => rows)
        rw [hs3]
        show TxA _ (rows.set j fresh)
        rw [set_td rows j fresh hj]
        exact ((hx.take _).append (.cons .nil)).append (hx.drop _)
      · show Ans.is (match seqIndex? place rows.length with | some j => _ | none => _) _
        rw [hs3]; exact rfl
  · rcases hs with ⟨hs1 | ⟨hs1, hs2⟩, hs3⟩ | ⟨hs1, hs2, j, hs3⟩
    · tb_rel
      apply fin
      · got_up
      · show TxA _ (match seqIndex? place rows.length with | some j => _ | none => rows)
        rw [hs3]; exact hx
      · show Ans.is (match seqIndex? place rows.length with | some j => _ | none => _) _
        rw [hs3]; exact ⟨_, rfl⟩
    · tb_rel
      apply fin
      · got_up
      · show TxA _ (match seqIndex? place rows.length with | some j => _ | none => rows)
        rw [hs3]; exact hx
      · show Ans.is (match seqIndex? place rows.length with | some j => _ | none => _) _
        rw [hs3]; exact ⟨_, rfl⟩
    · tb_rel
      have hj := lt_of_seqIndex hs3
      refine o_mod_int (by omega) fun t6 => ?_
      rw [show place.fmod (vs.length : Int) = j from hv ▸ place_fmod hs3]
      tb_rel
      apply fin
      · got_up
      · show TxA _ (match seqIndex? place rows.length with | some j => _ | none => rows)
        rw [hs3]
        show TxA _ (rows.eraseIdx j)
        rw [erase_td rows j, ← List.append_nil (rows.take j)]
        exact ((hx.take _).append .nil).append (hx.drop _)
      · show Ans.is (match seqIndex? place rows.length with | some j => _ | none => _) _
        rw [hs3]; exact rfl
end
end Mine
end
section
open PySem PySem.W PyProof.Rows PySem.Calls PySem.Spec
namespace Mine
theorem isExc_Index : isSubtype (.type "IndexError") (.type "BaseException") = pure true := by rw [isSubtype_type]; kernel_rfl
theorem notTuple_Index : isSubtype (.type ((Manifest.find? "IndexError").elim "type" fun x => x.metatype)) (.type "tuple") = pure false := by
  rw [show ((Manifest.find? "IndexError").elim "type" fun x => x.metatype) = "type" from by kernel_rfl, isSubtype_type]; kernel_rfl
theorem add_upd {rows : List Str} {name fresh : Str} (hup : Txt.lower (Txt.upper name) = Txt.lower name) (hfr : Txt.lower fresh ∉ rows.map Txt.lower) (hfn : Txt.lower fresh ≠ Txt.lower name) : [name, fresh, Txt.upper name].foldl addRow rows = addRow rows name ++ [fresh] := by
  show addRow (addRow (addRow rows name) fresh) (Txt.upper name) = _
  have h0 : Txt.lower name ∈ (addRow rows name).map Txt.lower := by
    unfold addRow
    split
    · assumption
    · simp
  have h1 : Txt.lower fresh ∉ (addRow rows name).map Txt.lower := by
    unfold addRow
    split
    · exact hfr
    · rw [List.map_append, List.mem_append, not_or]
      exact ⟨hfr, by simpa using hfn⟩
  rw [addRow_miss h1]
  refine addRow_hit ?_
  rw [hup, List.map_append, List.mem_append]
  exact .inl h0
theorem place_uniq {w : World} {rows : List Str} {vs : List Value} {so : Obj} {name : Str} {j : Nat} (R : HsR w rows vs so) (h : rows[j]?.map Txt.lower = some (Txt.lower name)) : 0 ≤ placeIn rows name ∧ (placeIn rows name).toNat = j := by
  cases e : rows[j]? with
  | none => rw [e] at h; cases h
  | some x =>
    obtain ⟨hj, rfl⟩ := List.getElem?_eq_some_iff.mp e
    rw [e, Option.map_some] at h
    have hx := Option.some.inj h
    have h0 : 0 ≤ placeIn rows name := place_mem.mpr (hx ▸ List.mem_map_of_mem (List.getElem_mem hj))
    refine ⟨h0, ?_⟩
    obtain ⟨i, hi, hil, hie⟩ := place_at h0
    rw [hi]
    have nd := R.nd
    exact (List.getElem_inj (h₀ := by simpa using hil) (h₁ := by simpa using hj) nd).mp (by simp [hie, hx])
section
variable {C : Cx} {E : Value → Shared → Prop} {st : St} {V : HsV} {rows : List Str} {vs : List Value} {so : Obj} {k : Nat} {m : List (Str × Value)} {r : Led}
set_option maxHeartbeats 4000000 in
theorem law_deed {d : Nat} {name fresh : Str} {place : Int} {t1 t2 t3 t4 : Tok} (hd : d < 10) (R : HsR C.w rows vs so) (hln : rows.length + 3 ≤ 60) (hn : name.length ≤ 100) (hnl : (Txt.lower name).length ≤ 100) (hnu : (Txt.upper name).length ≤ 100) (hnf : fresh.length ≤ 100)
    (hlow : Txt.lower (Txt.lower name) = Txt.lower name) (hup : Txt.lower (Txt.upper name) = Txt.lower name) (hfr : Txt.lower fresh ∉ rows.map Txt.lower) (hfn : Txt.lower fresh ≠ Txt.lower name) (hp : -10 ≤ place ∧ place < 10) (hr : 12 < C.room) {Q : Cx → Value → St → Prop}
    (h : ∀ C₂ vs' k' so' a, Turned C C₂ → HsR C.w (dueRows rows d name place fresh) vs' so' → (dueAns rows d name place fresh).is a → Q C₂ a ⟨m, hsL C.w V vs' k' so' r⟩) :
    EvS C E (call (.ref 322) [.ref V.x, .int d t1, .str name t2, .int place t3, .str fresh t4]) ⟨m, hsL C.w V vs k so r⟩ Q := by
  refine call_defS (name := _) (binds := [("told", .ref V.x), ("deed", .int d t1), ("name", .str name t2), ("place", .int place t3), ("fresh", .str fresh t4)]) (by with_unfolding_all rfl) (by with_unfolding_all rfl) (by omega) (by intro S; with_unfolding_all rfl) (by rfl) (by rfl) (by rfl) (by rfl) (by rfl) (by rfl) ?_
  intro C' hw hr' hC' hA
  refine xs_cons (xs_tryS (QX := fun X st₂ => st₂.news = hsL C.w V vs k so r ∧ dueRows rows d name place fresh = rows ∧ ((X = "KeyError" ∧ dueAns rows d name place fresh = .txt "no name") ∨ (X = "IndexError" ∧ dueAns rows d name place fresh = .txt "no place"))) hC' hA ?_ ?_)
  · rw [hC']
    dsimp only
    have M0 : HsM C'.w V vs k so (hsL C.w V vs k so r) := by rw [hw]; exact HsM.head
    have this : d = 0 ∨ d = 1 ∨ d = 2 ∨ d = 3 ∨ d = 4 ∨ d = 5 ∨ d = 6 ∨ d = 7 ∨ d = 8 ∨ d = 9 := by omega
    rcases this with rfl | rfl | rfl | rfl | rfl | rfl | rfl | rfl | rfl | rfl
    · refine .of ?_
      tb_rel
      refine gm_hs 115 (by mem_news) (by rw [hw]; mem_news) (by kernel_rfl!) (by kernel_rfl!) (by kernel_rfl!) (by with_unfolding_all rfl) ?_
      tb_rel
      rw [← hw]
      refine hs_add (R.w hw) hn (by omega) (by omega) fun vs' k' so' R2 => ?_
      rw [hw] at R2 ⊢
      exact ⟨_, .refl _, fun C₂ T => h C₂ vs' k' so' _ T R2 rfl⟩
    · refine .of ?_
      tb_rel
      refine gm_hs 129 (by mem_news) (by rw [hw]; mem_news) (by kernel_rfl!) (by kernel_rfl!) (by kernel_rfl!) (by with_unfolding_all rfl) ?_
      tb_rel
      refine m_upper (fit_upper (by omega)) fun t6 => ?_
      tb_rel
      rename_i la
      refine Ev.sub (r' := hsL C.w V vs k so ((la, lst [.str name t2, .str fresh t4, .str (Txt.upper name) t6] 0) :: r)) hsL_in ?_
      rw [← hw]
      refine hs_update (R.w hw) (.inl rfl) (.head _) (.cons (.cons (.cons .nil))) ?_ (by simp; omega) (by omega) fun vs' k' so' R2 => ?_
      · intro x hx
        simp only [List.mem_cons, List.not_mem_nil, or_false] at hx
        rcases hx with rfl | rfl | rfl <;> omega
      · rw [hw, add_upd hup hfr hfn] at R2
        rw [hw]
        exact ⟨_, hsL_drop (.cons _ (.refl _)), fun C₂ T => h C₂ vs' k' so' _ T R2 rfl⟩
    · refine .of ?_
      tb_rel
      refine gm_hs 122 (by mem_news) (by rw [hw]; mem_news) (by kernel_rfl!) (by kernel_rfl!) (by kernel_rfl!) (by with_unfolding_all rfl) ?_
      tb_rel
      refine m_lower (fit_lower (by omega)) fun t6 => ?_
      tb_rel
      rw [← hw]
      refine hs_remove (R.w hw) hnl hlow (by omega) (fun j vs' k' so' hj R2 => ?_) (fun hno e s' R2 => ?_)
      · rw [hw] at R2 ⊢
        obtain ⟨h0, h1⟩ := place_uniq R hj
        refine ⟨_, .refl _, fun C₂ T => h C₂ vs' k' so' _ T ?_ ?_⟩
        · show HsR _ (if 0 ≤ placeIn rows name then rows.eraseIdx (placeIn rows name).toNat else rows) _ _
          rw [if_pos h0, h1]; exact R2
        · show Ans.is (if placeIn rows name < 0 then _ else _) _
          rw [if_neg (by omega)]; exact rfl
      · have h0 : placeIn rows name < 0 := Int.not_le.mp fun q => hno (place_mem.mp q)
        refine ⟨"KeyError", _, R2, rfl, ?_, .inl ⟨rfl, ?_⟩⟩
        · show (if 0 ≤ placeIn rows name then rows.eraseIdx (placeIn rows name).toNat else rows) = rows
          rw [if_neg (by omega)]
        · show (if placeIn rows name < 0 then Ans.txt "no name" else .none) = _
          rw [if_pos h0]
    · refine xs_first ?_
      tb_rel
      refine xs_first ?_
      tb_rel
      refine xs_first ?_
      tb_rel
      refine xs_cons (xs_if ?_)
      tb_rel
      refine xs_cons (xs_return (es_method ?_ (by kernel_rfl!)))
      tb_rel
      refine gm_hs 136 (by mem_news) (by rw [hw]; mem_news) (by kernel_rfl!) (by kernel_rfl!) (by kernel_rfl!) (by with_unfolding_all rfl) ?_
      refine cws_def (by kernel_rfl!) ?_ (by kernel_rfl!)
      tb_rel
      refine m_lower (fit_lower (by omega)) fun t6 => ?_
      tb_rel
      rw [← hw]
      refine hs_discard (R.w hw) hnl hlow (by omega) (fun C₂ j vs' k' so' T hj R2 => ?_) (fun C₂ T hno => ?_)
      · rw [hw] at R2 ⊢
        obtain ⟨h0, h1⟩ := place_uniq R hj
        refine ⟨_, .refl _, fun C₃ T3 => h C₃ vs' k' so' _ T3 ?_ rfl⟩
        show HsR _ (if 0 ≤ placeIn rows name then rows.eraseIdx (placeIn rows name).toNat else rows) _ _
        rw [if_pos h0, h1]; exact R2
      · rw [hw]
        have h0 : placeIn rows name < 0 := Int.not_le.mp fun q => hno (place_mem.mp q)
        refine ⟨_, .refl _, fun C₃ T3 => h C₃ vs k so _ T3 ?_ rfl⟩
        show HsR _ (if 0 ≤ placeIn rows name then rows.eraseIdx (placeIn rows name).toNat else rows) _ _
        rw [if_neg (by omega)]; exact R
    · refine .of ?_
      tb_rel
      refine gm_hs 143 (by mem_news) (by rw [hw]; mem_news) (by kernel_rfl!) (by kernel_rfl!) (by kernel_rfl!) (by with_unfolding_all rfl) ?_
      tb_rel
      refine hs_find M0 (R.w hw) (by omega) (by omega) fun t6 => ?_
      exact ⟨_, .refl _, fun C₂ T => h C₂ vs k so _ T R ⟨t6, rfl⟩⟩
    · refine .of ?_
      tb_rel
      refine gm_hs 150 (by mem_news) (by rw [hw]; mem_news) (by kernel_rfl!) (by kernel_rfl!) (by kernel_rfl!) (by with_unfolding_all rfl) ?_
      tb_rel
      refine hs_index M0 (R.w hw) (by omega) (by omega) (fun h0 t6 => ?_) (fun h0 e s' R2 => ?_)
      · refine ⟨_, .refl _, fun C₂ T => h C₂ vs k so _ T R ?_⟩
        show Ans.is (if placeIn rows name < 0 then _ else _) _
        rw [if_neg (by omega)]; exact ⟨t6, rfl⟩
      · refine ⟨"IndexError", _, R2, rfl, rfl, .inr ⟨rfl, ?_⟩⟩
        show (if placeIn rows name < 0 then Ans.txt "no place" else _) = _
        rw [if_pos h0]
    · refine .of ?_
      tb_rel
      refine hs_in M0 (R.w hw) (by omega) (by omega) ?_
      refine ⟨_, .refl _, fun C₂ T => h C₂ vs k so _ T R ?_⟩
      show Value.bool _ = Value.bool _
      congr 1
      exact decide_eq_decide.mpr place_mem.symm
    · refine .of ?_
      tb_rel
      refine o_sub_inst (by omega) (.head _) (.tail _ (.head _)) (hs_getitem (C := C'.j1 (by omega)) M0 (R.w hw) (by omega) (by omega) (by show 3 < C'.room - 1; omega) (fun j x t6 hj hx => ?_) (fun hj e s' R2 => ?_)) (by with_unfolding_all rfl)
      · refine ⟨_, .refl _, fun C₂ T => h C₂ vs k so _ T R ?_⟩
        show Ans.is (match seqIndex? place rows.length with | some j => .txt (rows.getD j "") | none => _) _
        rw [hj]
        exact ⟨t6, by show Value.str x t6 = _; simp [List.getD_eq_getElem?_getD, hx]⟩
      · refine ⟨"IndexError", _, R2, rfl, rfl, .inr ⟨rfl, ?_⟩⟩
        show (match seqIndex? place rows.length with | some j => _ | none => Ans.txt "no place") = _
        rw [hj]
    · refine .of ?_
      tb_rel
      refine o_setitem_inst (.head _) (.tail _ (.head _)) ?_
      rw [← hw]
      refine hs_setitem (R.w hw) hfr hnf (by omega) (by omega) (by omega) (fun j vs' so' hj R2 => ?_) (fun hj e s' R2 => ?_)
      · rw [hw] at R2 ⊢
        tb_rel
        refine ⟨_, .refl _, fun C₂ T => h C₂ vs' k so' _ T ?_ ?_⟩
        · show HsR _ (match seqIndex? place rows.length with | some j => rows.set j fresh | none => rows) _ _
          rw [hj]; exact R2
        · show Ans.is (match seqIndex? place rows.length with | some j => _ | none => _) _
          rw [hj]; exact rfl
      · refine ⟨"IndexError", _, R2, rfl, ?_, .inr ⟨rfl, ?_⟩⟩
        · show (match seqIndex? place rows.length with | some j => rows.set j fresh | none => rows) = _
          rw [hj]
        · show (match seqIndex? place rows.length with | some j => _ | none => Ans.txt "no place") = _
          rw [hj]
    · refine .of ?_
      tb_rel
      refine o_delitem_inst (.head _) (.tail _ (.head _)) ?_
      rw [← hw]
      refine hs_delitem (R.w hw) (by omega) (by omega) (by omega) (fun j vs' k' so' hj R2 => ?_) (fun hj e s' R2 => ?_)
      · rw [hw] at R2 ⊢
        tb_rel
        refine ⟨_, .refl _, fun C₂ T => h C₂ vs' k' so' _ T ?_ ?_⟩
        · show HsR _ (match seqIndex? place rows.length with | some j => rows.eraseIdx j | none => rows) _ _
          rw [hj]; exact R2
        · show Ans.is (match seqIndex? place rows.length with | some j => _ | none => _) _
          rw [hj]; exact rfl
      · refine ⟨"IndexError", _, R2, rfl, ?_, .inr ⟨rfl, ?_⟩⟩
        · show (match seqIndex? place rows.length with | some j => rows.eraseIdx j | none => rows) = _
          rw [hj]
        · show (match seqIndex? place rows.length with | some j => _ | none => Ans.txt "no place") = _
          rw [hj]
  · have c1 : ClauseOk C'.env "KeyError" "KeyError" := by rw [hC']; exact ⟨by kernel_rfl!, by with_unfolding_all rfl, by kernel_rfl!, by kernel_rfl!, by kernel_rfl!, by kernel_rfl!, kr_isExc_KeyError, kr_notTuple_KeyError⟩
    have c2 : ClauseOk C'.env "IndexError" "IndexError" := by rw [hC']; exact ⟨by kernel_rfl!, by with_unfolding_all rfl, by kernel_rfl!, by kernel_rfl!, by kernel_rfl!, by kernel_rfl!, isExc_Index, notTuple_Index⟩
    rintro X st₂ e s' ⟨hn2, hq, ⟨rfl, ha⟩ | ⟨rfl, ha⟩⟩ R2
    · refine wp_hit hC' c1 (by rw [isSubtype_type]; kernel_rfl) suite_text R2 fun C₂ f T hf => ?_
      obtain ⟨t, rfl⟩ := hf
      exact ⟨st₂.news, .refl _, fun C₃ T3 => by
        show Q C₃ (.str _ t) ⟨m, st₂.news⟩
        rw [hn2]
        exact h C₃ vs k so _ T3 (by rw [hq]; exact R) (by rw [ha]; exact ⟨t, rfl⟩)⟩
    · refine wp_miss hC' c1 (by rw [isSubtype_type]; kernel_rfl) R2 ?_
      refine wp_hit hC' c2 (by rw [isSubtype_type]; kernel_rfl) suite_text R2 fun C₂ f T hf => ?_
      obtain ⟨t, rfl⟩ := hf
      exact ⟨st₂.news, .refl _, fun C₃ T3 => by
        show Q C₃ (.str _ t) ⟨m, st₂.news⟩
        rw [hn2]
        exact h C₃ vs k so _ T3 (by rw [hq]; exact R) (by rw [ha]; exact ⟨t, rfl⟩)⟩
end
end Mine
end
section
open PySem PySem.W PyProof.Rows PySem.Calls PySem.Spec
namespace Mine
def Known (t : Nat) (rows : List Str) : Prop := ∀ r ∈ rows, r ∈ lawNames ∨ ∃ i, i < t ∧ r = freshOf i
theorem due_mem {rows : List Str} {d : Nat} {name fresh x : Str} {place : Int} (h : x ∈ dueRows rows d name place fresh) : x ∈ rows ∨ x = name ∨ x = fresh := by
  have ha : ∀ y, y ∈ addRow rows name → y ∈ rows ∨ y = name := fun y hy => by
    unfold addRow at hy
    split at hy
    · exact .inl hy
    · rcases List.mem_append.mp hy with hy | hy
      · exact .inl hy
      · exact .inr (List.mem_singleton.mp hy)
  unfold dueRows at h
  split at h
  · rcases ha x h with h | h
    · exact .inl h
    · exact .inr (.inl h)
  · rcases List.mem_append.mp h with h | h
    · rcases ha x h with h | h
      · exact .inl h
      · exact .inr (.inl h)
    · exact .inr (.inr (List.mem_singleton.mp h))
  · split at h
    · exact .inl ((List.eraseIdx_sublist ..).subset h)
    · exact .inl h
  · split at h
    · exact .inl ((List.eraseIdx_sublist ..).subset h)
    · exact .inl h
  · split at h
    · rcases mem_set_sub h with h | h
      · exact .inr (.inr h)
      · exact .inl h
    · exact .inl h
  · split at h
    · exact .inl ((List.eraseIdx_sublist ..).subset h)
    · exact .inl h
  · exact .inl h
theorem due_len {rows : List Str} {d : Nat} {name fresh : Str} {place : Int} : (dueRows rows d name place fresh).length ≤ rows.length + 2 := by
  have ha : (addRow rows name).length ≤ rows.length + 1 := by unfold addRow; split <;> simp
  unfold dueRows
  split
  · omega
  · rw [List.length_append, List.length_singleton]; omega
  · split
    · have := (List.eraseIdx_sublist rows (placeIn rows name).toNat).length_le; omega
    · omega
  · split
    · have := (List.eraseIdx_sublist rows (placeIn rows name).toNat).length_le; omega
    · omega
  · split
    · rw [List.length_set]; omega
    · omega
  · split
    · rename_i j _
      have := (List.eraseIdx_sublist rows j).length_le; omega
    · omega
  · omega
theorem known_due {t d : Nat} {rows : List Str} {name : Str} {place : Int} (h : Known t rows) (hn : name ∈ lawNames) : Known (t + 1) (dueRows rows d name place (freshOf t)) := fun x hx => by
  rcases due_mem hx with hx | rfl | rfl
  · rcases h x hx with h | ⟨i, hi, e⟩
    · exact .inl h
    · exact .inr ⟨i, by omega, e⟩
  · exact .inl hn
  · exact .inr ⟨t, by omega, rfl⟩
theorem known_fresh {t : Nat} {rows : List Str} (h : Known t rows) (ht : t < 8) : Txt.lower (freshOf t) ∉ rows.map Txt.lower := fun hm => by
  obtain ⟨x, hx, e⟩ := List.mem_map.mp hm
  obtain ⟨_, h1, h2⟩ := fresh_ok t ht
  rcases h x hx with hx | ⟨i, hi, rfl⟩
  · exact h1 x hx e.symm
  · exact h2 i (by omega) (by omega) e.symm
theorem subA {w V vs k so p q N} : Sub (p :: q :: hsL w V vs k so N) (q :: hsL w V vs k so (p :: N)) := (Sub.perm (List.Perm.swap ..)).trans (Sub.cons₂ _ hsL_out)
section
variable {C : Cx} {E : Value → Shared → Prop} {st : St} {V : HsV} {rows : List Str} {vs : List Value} {so : Obj} {k : Nat} {m : List (Str × Value)} {r : Led}
theorem m_strint {i : Int} {t : Tok} {Q : Value → St → Prop} (hi : i.natAbs.log2 < 1920) (h : ∀ t, Q (.str (toString i) t) st) : Ev C E (call (.type "str") [.int i t]) st Q := fun s H =>
  PySem.P.str_of_int hi ⟨st, H.toHeld.tok, h _⟩
set_option maxHeartbeats 4000000 in
theorem law_sets {l : Addr} {vs : List Value} {n : Nat} {ns : List Int} (hm : (l, lst vs n) ∈ st.news) (hx : IxA vs ns) (hlen : ns.length ≤ 8) (hr : 20 < C.room) {Q : Cx → Value → St → Prop} (h : ∀ C₂, Turned C C₂ → Q C₂ (.bool true) st) : EvS C E (call (.ref 334) [.ref l]) st Q := by
  refine call_defS (name := _) (binds := [("numbers", .ref l)]) (by with_unfolding_all rfl) (by with_unfolding_all rfl) (by omega) (by intro S; with_unfolding_all rfl) (by rfl) (by rfl) (by rfl) (by rfl) (by rfl) (by rfl) ?_
  intro C' hw hr' hC' hA
  rw [hC']
  have hl := hx.length
  refine xs_first ?_
  tb_rel
  refine xs_first ?_
  refine x_for_list ?_ (fun _ => rfl) (by kernel_rfl!) (by kernel_rfl!) (by kernel_rfl!)
  tb_rel
  rename_i r0 t0 sl0 s0
  refine ⟨s0, vs.take 4, 0, (fun i s => ∃ lr vr kr rows, look s.m "numbers" = some (.ref l) ∧ look s.m "rows" = some (.ref lr) ∧ s.news = (lr, lst vr kr) :: (s0, lst (vs.take 4) 0) :: st.news ∧ TxA vr rows ∧ (rows.map Txt.lower).Nodup ∧ rows.length ≤ i ∧ ∀ x ∈ rows, x ∈ lawNames), rfl, by mem_news, ?_⟩
  refine ⟨?_, ?_, ?_, ?_⟩
  · rintro i s2 ⟨lr, vr, kr, rows, h1, h2, h3, h4, h5, h6, h7⟩ p hp
    rw [List.mem_singleton.mp hp, h3]; exact .tail _ (.head _)
  · refine ⟨(r0, lst [] 0) :: (s0, lst (vs.take 4) 0) :: st.news, ?_, r0, [], 0, [], by krn_off, by krn_off, rfl, .nil, List.nodup_nil, Nat.le_refl _, fun _ h => nomatch h⟩
    exact Sub.swap (.cons₂ _ (.cons _ (.cons₂ _ (.refl _))))
  · rintro i v st₂ I oI hi hv ⟨lr, vr, kr, rows, h1, h2, h3, h4, h5, h6, h7⟩
    obtain ⟨m₂, n₂⟩ := st₂
    dsimp only at h1 h2 h3 ⊢
    subst h3
    have hi4 : i < 4 := by rw [List.length_take] at hi; omega
    obtain ⟨a, ta, ha, rfl⟩ := (hx.take 4).at hv
    have hf := Int.fmod_lt_of_pos a (show (0 : Int) < 7 by decide)
    have hf0 := Int.fmod_nonneg_of_pos a (show (0 : Int) < 7 by decide)
    obtain ⟨name, hname⟩ : ∃ name, lawNames[(a.fmod 7).toNat]? = some name := ⟨_, List.getElem?_eq_getElem (by show _ < 7; omega)⟩
    have hnm := List.mem_of_getElem? hname
    have hno := names_ok name hnm
    have pick : ∀ {Q : Value → St → Prop} {st₂ : St} {value slice : PySem.Expr} {ln : Addr} {vn : List Value} {u : Tok}, (ln, lst vn 0) ∈ st₂.news → TxA vn lawNames → (∀ t, Q (.str name t) st₂) →
        subscripted slice false (.ref ln) (.int (a.fmod 7) u) = operate [.ref ln, .int (a.fmod 7) u] (getItem (.ref ln) (.int (a.fmod 7) u)) → Ev C' NoE (subscriptTail value slice (.ref ln) (.int (a.fmod 7) u)) st₂ Q := fun hm hT hq hs => by
      obtain ⟨tn, htn⟩ := hT.get hname
      exact o_item_list hm hf0 (by omega) htn (hq _) hs
    tb_rel
    refine law_names (by omega) fun ln vn hvn => ?_
    tb_rel
    refine pick (by mem_news) hvn (fun tn => ?_) (by with_unfolding_all rfl)
    tb_rel
    refine law_place (by mem_news) h4 (fun x hx => by have := (names_ok x (h7 x hx)).1; omega) (by omega) (by omega) (by omega) fun t5 => ?_
    tb_rel
    cases hq : decide (placeIn rows name < 0) with
    | false =>
      refine ite_f ?_
      tb_rel
      refine ⟨(lr, lst vr kr) :: (s0, lst (vs.take 4) 0) :: st.news, by got_up, lr, vr, kr, rows, by krn_off, by krn_off, rfl, h4, h5, by omega, h7⟩
    | true =>
      refine ite_t ?_
      tb_rel
      refine law_names (by omega) fun ln2 vn2 hvn2 => ?_
      tb_rel
      refine pick (by mem_news) hvn2 (fun tn2 => ?_) (by with_unfolding_all rfl)
      tb_rel
      refine m_append (vs := vr) (n := kr) (news' := (ln2, lst vn2 0) :: (ln, lst vn 0) :: (I, oI) :: (lr, lst (vr ++ [.str name tn2]) (kr + 1)) :: (s0, lst (vs.take 4) 0) :: st.news) (by k_upd) (by rw [h4.length, sizeLine_eq]; omega) ?_
      tb_rel
      have hno2 : Txt.lower name ∉ rows.map Txt.lower := fun q => by
        have := place_mem.mpr q
        have := of_decide_eq_true hq
        omega
      refine ⟨(lr, lst (vr ++ [.str name tn2]) (kr + 1)) :: (s0, lst (vs.take 4) 0) :: st.news, by got_up, lr, _, _, rows ++ [name], by krn_off, by krn_off, rfl, h4.append (.cons .nil), ?_, by rw [List.length_append]; exact Nat.add_le_add_right h6 1, ?_⟩
      · rw [List.map_append, List.map_cons, List.map_nil, List.nodup_append]
        refine ⟨h5, by simp, fun a ha b hb => ?_⟩
        rw [List.mem_singleton.mp hb]
        exact fun e => hno2 (e ▸ ha)
      · intro x hx
        rcases List.mem_append.mp hx with hx | hx
        · exact h7 x hx
        · rw [List.mem_singleton.mp hx]; exact hnm
  · rintro ⟨m₂, n₂⟩ ⟨lr, vr, kr, rows, h1, h2, h3, h4, h5, h6, h7⟩
    dsimp only at h1 h2 h3 ⊢
    subst h3
    have h6' : rows.length ≤ 4 := by rw [List.length_take] at h6; omega
    clear h6
    refine EvS.sub (r' := (lr, lst vr kr) :: st.news) (.cons₂ _ (.cons _ (.refl _))) ?_
    have hvl := h4.length
    refine xs_first ?_
    tb_rel
    refine e_listcomp ?_ (fun _ => by with_unfolding_all rfl) (by with_unfolding_all rfl) (by decide) (by with_unfolding_all rfl) (by decide) (by with_unfolding_all rfl)
    tb_rel
    refine ⟨lr, vr, kr, fun _ => true, fun i y => ∃ a u, rows[i]? = some a ∧ y = .str (dumped a) u, rfl, .head _, by rw [sizeLine_eq]; omega, ⟨?_, ?_⟩, ?_⟩
    · rintro C2 i v Cc oC rr mc hroom hw2 hi hP hns hmc
      exact tests_nil
    · rintro C2 i v Cc oC rr mc hroom hw2 hi hP hpz hns hmc
      obtain ⟨y, u, hy, rfl⟩ := h4.at hP
      have := (names_ok y (h7 y (List.mem_of_getElem? hy))).1
      tb_rel
      refine law_dumped (by omega) (by omega) fun u' => ?_
      exact ⟨⟨y, u', hy, rfl⟩, rfl, .refl _⟩
    intro D2 ys2 k2 hIm2
    rw [hvl] at hIm2
    have hT2 := Im.all_strs (S := rows) (f := dumped) (fun i y h => h) hIm2
    tb_rel
    have hjs : jsum " ," (rows.map dumped) ≤ 100 := by
      refine Nat.le_trans (jsum_le (n := 14) ?_) ?_
      · intro z hz
        obtain ⟨x, hx', rfl⟩ := List.mem_map.mp hz
        have := (names_ok x (h7 x hx')).1
        have := dumped_length x
        omega
      · rw [List.length_map, show (" ," : Str).length = 2 by decide]
        omega
    have hjl := Nat.le_trans (join_length " ," (rows.map dumped)) hjs
    refine m_join (.head _) hT2 (joinOk_of (by rw [sizeLine_eq]; omega)) fun t' => ?_
    tb_rel
    refine parse_set (rows := rows) (by omega) (plist_dumped sep2 rows) h5 (by omega) (fun x hx => by have := (names_ok x (h7 x hx)).1; omega) (by omega) fun V vs1 k1 so1 R1 => ?_
    tb_rel
    refine EvS.sub (r' := hsL C'.w V vs1 k1 so1 ((lr, lst vr kr) :: st.news)) (hsL_drop (by got_up)) ?_
    refine xs_cons (xs_for_range ?_ (fun _ => rfl) (by kernel_rfl!) (by kernel_rfl!) (by kernel_rfl!))
    tb_rel
    refine ⟨_, (vs.length : Int), _, _, _, (fun i s => ∃ vs2 k2 so2 lr vr kr rows, look s.m "numbers" = some (.ref l) ∧ look s.m "told" = some (.ref V.x) ∧ look s.m "rows" = some (.ref lr) ∧ s.news = hsL C'.w V vs2 k2 so2 ((lr, lst vr kr) :: st.news) ∧ TxA vr rows ∧ HsR C'.w rows vs2 so2 ∧ Known i rows ∧ rows.length ≤ 4 + 2 * i), rfl, by mem_news, ⟨by omega, by omega⟩, ?_⟩
    refine ⟨?_, ?_, ?_⟩
    · exact ⟨_, .cons _ (.refl _), vs1, k1, so1, lr, vr, kr, rows, by krn_off, by krn_off, by krn_off, rfl, h4, R1, fun x hx => .inl (h7 x hx), by omega⟩
    · clear h1 h2 h4 h5 h6' h7 hvl hT2 hjs hjl R1 hIm2
      rintro C₁ i t st₂ I oI TU hi ⟨vs2, k2, so2, lr, vr, kr, rows, h1, h2, h3, h4, h5, R, hK, h6⟩
      obtain ⟨gT, BT, TT, kT, tT, rfl⟩ := TU
      obtain ⟨m₂, n₂⟩ := st₂
      dsimp only at h1 h2 h3 h4 ⊢
      subst h4
      have hi' : i < vs.length := by omega
      have hi8 : i < 8 := by omega
      have hvl := h5.length
      obtain ⟨ti, hti⟩ := hx.get (List.getElem?_eq_getElem (show i < ns.length by omega))
      generalize ns[i] = a at hti
      have hf := Int.fmod_lt_of_pos (a.fdiv 10) (show (0 : Int) < 7 by decide)
      have hf0 := Int.fmod_nonneg_of_pos (a.fdiv 10) (show (0 : Int) < 7 by decide)
      obtain ⟨name, hname⟩ : ∃ name, lawNames[((a.fdiv 10).fmod 7).toNat]? = some name := ⟨_, List.getElem?_eq_getElem (by show _ < 7; omega)⟩
      have hnm := List.mem_of_getElem? hname
      have hno := names_ok name hnm
      have pick : ∀ {Q : Value → St → Prop} {st₂ : St} {value slice : PySem.Expr} {ln : Addr} {vn : List Value} {u : Tok}, (ln, lst vn 0) ∈ st₂.news → TxA vn lawNames → (∀ t, Q (.str name t) st₂) →
          subscripted slice false (.ref ln) (.int ((a.fdiv 10).fmod 7) u) = operate [.ref ln, .int ((a.fdiv 10).fmod 7) u] (getItem (.ref ln) (.int ((a.fdiv 10).fmod 7) u)) → Ev (C'.turn gT BT TT kT) NoE (subscriptTail value slice (.ref ln) (.int ((a.fdiv 10).fmod 7) u)) st₂ Q := fun hm hT hq hs => by
        obtain ⟨tn, htn⟩ := hT.get hname
        exact o_item_list hm hf0 (by omega) htn (hq _) hs
      have num : ∀ {Q : Value → St → Prop} {st₂ : St} {value slice : PySem.Expr} {u : Tok}, (l, lst vs n) ∈ st₂.news → Q (.int a ti) st₂ →
          subscripted slice false (.ref l) (.int (i : Int) u) = operate [.ref l, .int (i : Int) u] (getItem (.ref l) (.int (i : Int) u)) → Ev (C'.turn gT BT TT kT) NoE (subscriptTail value slice (.ref l) (.int (i : Int) u)) st₂ Q := fun hm hq hs =>
        o_item_list hm (by omega) (by omega) hti hq hs
      refine xs_first ?_
      refine x_tup4 ?_ (by with_unfolding_all rfl) (by with_unfolding_all rfl) (by kernel_rfl!) (by kernel_rfl!) (by kernel_rfl!) (by kernel_rfl!) (by kernel_rfl!) (by kernel_rfl!)
      tb_rel
      refine num (by mem_news) ?_ (by with_unfolding_all rfl)
      tb_rel
      refine law_names (by show 0 < C'.room; omega) fun ln vn hvn => ?_
      tb_rel
      refine num (by mem_news) ?_ (by with_unfolding_all rfl)
      tb_rel
      refine pick (by mem_news) hvn (fun tn => ?_) (by with_unfolding_all rfl)
      tb_rel
      refine num (by mem_news) ?_ (by with_unfolding_all rfl)
      tb_rel
      refine m_strint ?_ fun t6 => ?_
      · exact (show ∀ j : Nat, j < 8 → (j : Int).natAbs.log2 < 1920 by decide +kernel) i hi8
      have hfo := fresh_ok i hi8
      tb_rel
      refine o_add_str ?_ fun t7 => ?_
      · have e := str_length_append ("New-" : Str) (toString (i : Int) : Str)
        have e2 : (("New-" : Str) ++ (toString (i : Int) : Str)).length ≤ 6 := hfo.1
        rw [sizeLine_eq]; omega
      rw [show ("New-" : Str) ++ (toString (i : Int) : Str) = freshOf i from rfl]
      tb_rel
      refine ⟨_, _, _, _, _, _, rfl, .head _, ?_⟩
      have hp1 := Int.fmod_lt_of_pos (a.fdiv 70) (show (0 : Int) < 5 by decide)
      have hp0 := Int.fmod_nonneg_of_pos (a.fdiv 70) (show (0 : Int) < 5 by decide)
      generalize hpl : (a.fdiv 70).fmod 5 - 2 = place
      have hd1 := Int.fmod_lt_of_pos a (show (0 : Int) < 10 by decide)
      have hd0 := Int.fmod_nonneg_of_pos a (show (0 : Int) < 10 by decide)
      obtain ⟨d, hd⟩ : ∃ d : Nat, a.fmod 10 = d := ⟨(a.fmod 10).toNat, by omega⟩
      rw [hd]
      have hd10 : d < 10 := by omega
      refine xs_first ?_
      refine x_tup2 ?_ (by with_unfolding_all rfl) (by with_unfolding_all rfl) (by kernel_rfl!) (by kernel_rfl!) (by kernel_rfl!) (by kernel_rfl!)
      tb_rel
      refine Ev.sub (r' := (lr, lst vr kr) :: (I, oI) :: hsL C'.w V vs2 k2 so2 st.news) (subA.trans (by got_up)) ?_
      refine law_due hd10 h5 R.sz R.ln (by omega) (by omega) (by show 2 < C'.room; omega) fun T l' vs' k' a' n' hT' hA' => ?_
      refine ⟨T, _, _, _, rfl, .inl (.head _), ?_⟩
      dsimp only
      refine xs_cons (xs_assign (es_call ?_ (by kernel_rfl!)) (by kernel_rfl!) (by kernel_rfl!) (by kernel_rfl!) (by kernel_rfl!))
      tb_rel
      refine cws_def (by kernel_rfl!) ?_ (by kernel_rfl!)
      tb_rel
      refine EvS.sub (r' := hsL C'.w V vs2 k2 so2 ((l', lst vs' k') :: (I, oI) :: st.news)) (hsL_in.trans ((Sub.cons₂ _ hsL_in).cons _)) ?_
      refine law_deed (C := C'.turn gT BT TT kT) hd10 R (by omega) (by omega) (by omega) (by omega) (by omega) hno.2.2.2.1 hno.2.2.2.2 (known_fresh hK hi8) (hfo.2.1 name hnm) (by omega) (by show 12 < C'.room; omega) fun C₂ vs3 k3 so3 a3 T2 R3 hA3 => ?_
      obtain ⟨g2, B2, TT2, kT2, tT2, rfl⟩ := T2
      have hK' := known_due (d := d) (place := place) hK hnm
      have hlen' := due_len (rows := rows) (d := d) (name := name) (fresh := freshOf i) (place := place)
      generalize dueRows rows d name place (freshOf i) = rows' at *
      generalize dueAns rows d name place (freshOf i) = ans at *
      have hlr := hT'.length
      have M3 : ∀ {X : Led}, HsM C'.w V vs3 k3 so3 (hsL C'.w V vs3 k3 so3 X) := HsM.head
      have hbb : (ans.isBool == ans.isBool) = true := beq_self_eq_true _
      refine .of ?_
      tb_rel
      refine o_ne_ans hA3 hA' ?_
      tb_rel
      refine o_isbool_ans hA3 ?_
      tb_rel
      refine o_isbool_ans hA' ?_
      tb_rel
      refine hs_list (by exact HsM.head) (by exact R3) (by show 2 < C'.room; omega) fun l4 k4 => ?_
      tb_rel
      refine o_ne_txt (by mem_news) (by mem_news) R3.tx hT' ?_
      rw [decide_eq_true rfl]
      tb_rel
      have hz' : ∀ x ∈ rows', x.length ≤ 6 := fun x hx => by
        rcases hK' x hx with hx | ⟨j, hj, rfl⟩
        · exact (names_ok x hx).1
        · exact (fresh_ok j (by omega)).1
      refine Ev.sub (r' := hsL C'.w V vs3 k3 so3 ((l', lst vs' k') :: (I, oI) :: st.news)) (by got_up) ?_
      refine e_listcomp ?_ (fun _ => by with_unfolding_all rfl) (by with_unfolding_all rfl) (by decide) (by with_unfolding_all rfl) (by decide) (by with_unfolding_all rfl)
      tb_rel
      refine ⟨l', vs', k', fun _ => true, fun i y => ∃ a u, rows'[i]? = some a ∧ y = .str (dumped a) u, rfl, by mem_news, by rw [sizeLine_eq]; omega, ⟨?_, ?_⟩, ?_⟩
      · rintro C2 i v Cc oC rr mc hroom hw2 hi hP hns hmc
        exact tests_nil
      · rintro C2 i v Cc oC rr mc hroom hw2 hi hP hpz hns hmc
        obtain ⟨y, u, hy, rfl⟩ := hT'.at hP
        have := hz' y (List.mem_of_getElem? hy)
        have hroom2 : C2.room = C'.room := hroom
        tb_rel
        refine law_dumped (by omega) (by omega) fun u' => ?_
        exact ⟨⟨y, u', hy, rfl⟩, rfl, .refl _⟩
      intro D2 ys2 k2 hIm2
      rw [hlr] at hIm2
      have hT2 := Im.all_strs (S := rows') (f := dumped) (fun i y h => h) hIm2
      tb_rel
      have hjs : jsum ", " (rows'.map dumped) ≤ 1000 := by
        refine Nat.le_trans (jsum_le (n := 14) ?_) ?_
        · intro z hz
          obtain ⟨x, hx', rfl⟩ := List.mem_map.mp hz
          have := hz' x hx'
          have := dumped_length x
          omega
        · rw [List.length_map, show (", " : Str).length = 2 by decide]
          omega
      have hjl := Nat.le_trans (join_length ", " (rows'.map dumped)) hjs
      refine m_join (.head _) hT2 (joinOk_of (by rw [sizeLine_eq]; omega)) fun tj => ?_
      have hne1 : ((rows'.length : Int) != (vs'.length : Int)) = false := by rw [hlr]; exact bne_self_eq_false _
      have hne2 : ((rows'.length : Int) == (vs'.length : Int)) = true := by rw [hlr]; exact beq_self_eq_true _
      have hne3 : ((!rows'.isEmpty) == (!rows'.isEmpty)) = true := beq_self_eq_true _
      have hne4 : (Txt.join ", " (rows'.map dumped) != Txt.join ", " (rows'.map dumped)) = false := bne_self_eq_false _
      have hne5 : (Txt.join ", " (rows'.map dumped) == Txt.join ", " (rows'.map dumped)) = true := beq_self_eq_true _
      tb_rel
      refine hs_slen (by exact HsM.head.tail) (by exact R3) (by show 2 < C'.room; omega) fun t8 => ?_
      tb_rel
      refine hs_sbool (by exact HsM.head.tail) (by exact R3) (by show 2 < C'.room; omega) ?_
      tb_rel
      refine o_ne_txt (by mem_news) (by mem_news) hT' .nil ?_
      rw [show ∀ inst, @decide (rows' = []) inst = rows'.isEmpty from fun inst => by cases rows' <;> simp]
      tb_rel
      refine gm_hs 172 (by exact (HsM.head.tail.tail).hx) (by exact (HsM.head.tail.tail).hd) (by kernel_rfl!) (by kernel_rfl!) (by kernel_rfl!) (by with_unfolding_all rfl) ?_
      tb_rel
      refine hs_toheader (by exact HsM.head.tail.tail) (by exact R3) (by show 5 < C'.room; omega) fun t9 => ?_
      tb_rel
      refine parse_set (rows := rows') (by omega) (plist_dumped sep1 rows') R3.nd (by omega) R3.sz (by show 8 < C'.room; omega) fun V5 vs5 k5 so5 R5 => ?_
      tb_rel
      refine hs_list (by exact HsM.head) (by exact R5) (by show 2 < C'.room; omega) fun l6 k6 => ?_
      tb_rel
      refine o_ne_txt (by mem_news) (by mem_news) R5.tx hT' ?_
      rw [decide_eq_true rfl]
      tb_rel
      refine Ev.sub (r' := hsL C'.w V vs3 k3 so3 ((l', lst vs' k') :: (I, oI) :: st.news)) (by got_up) ?_
      refine gm_hs 165 (by exact HsM.head.hx) (by exact HsM.head.hd) (by kernel_rfl!) (by kernel_rfl!) (by kernel_rfl!) (by with_unfolding_all rfl) ?_
      tb_rel
      refine hs_asset (by exact HsM.head) (by exact R3) (by omega) (by show 2 < C'.room; omega) fun Da soa hOa => ?_
      tb_rel
      refine o_sorted_set (by mem_news) (by exact hOa) (by rw [List.length_map]; omega) fun Db vb sb eb hTb hPb hSb => ?_
      tb_rel
      refine e_listcomp ?_ (fun _ => by with_unfolding_all rfl) (by with_unfolding_all rfl) (by decide) (by with_unfolding_all rfl) (by decide) (by with_unfolding_all rfl)
      tb_rel
      refine ⟨l', vs', k', fun _ => true, fun i y => ∃ a u, rows'[i]? = some a ∧ y = .str (Txt.lower a) u, rfl, by mem_news, by rw [sizeLine_eq]; omega, ⟨?_, ?_⟩, ?_⟩
      · rintro C2 i v Cc oC rr mc hroom hw2 hi hP hns hmc
        exact tests_nil
      · rintro C2 i v Cc oC rr mc hroom hw2 hi hP hpz hns hmc
        obtain ⟨y, u, hy, rfl⟩ := hT'.at hP
        have := hz' y (List.mem_of_getElem? hy)
        tb_rel
        refine m_lower (fit_lower (by omega)) fun u' => ?_
        exact ⟨⟨y, u', hy, rfl⟩, rfl, .refl _⟩
      intro D3 ys3 k3' hIm3
      rw [hlr] at hIm3
      have hT3 := Im.all_strs (S := rows') (f := Txt.lower) (fun i y h => h) hIm3
      tb_rel
      refine o_sorted_list (by mem_news) hT3 (by rw [List.length_map]; omega) fun Dc vc sc ec hTc hPc hSc => ?_
      tb_rel
      refine o_ne_txt (by mem_news) (by mem_news) hTb hTc ?_
      rw [decide_eq_true (sorted_uniq hSb hSc (hPb.trans hPc.symm))]
      tb_rel
      refine Ev.sub (r' := hsL C'.w V vs3 k3 so3 ((l', lst vs' k') :: (I, oI) :: st.news)) (by got_up) ?_
      refine gm_hs 165 (by exact HsM.head.hx) (by exact HsM.head.hd) (by kernel_rfl!) (by kernel_rfl!) (by kernel_rfl!) (by with_unfolding_all rfl) ?_
      tb_rel
      refine hs_assetT (by exact HsM.head) (by exact R3) (by show 2 < C'.room; omega) fun Dd sod hOd => ?_
      tb_rel
      refine o_sorted_set (by mem_news) (by exact hOd) (by omega) fun De ve se ee hTe hPe hSe => ?_
      tb_rel
      refine o_sorted_list (by mem_news) hT' (by omega) fun Df vf sf ef hTf hPf hSf => ?_
      tb_rel
      refine o_ne_txt (by mem_news) (by mem_news) hTe hTf ?_
      rw [decide_eq_true (sorted_uniq hSe hSf (hPe.trans hPf.symm))]
      tb_rel
      refine ⟨hsL C'.w V vs3 k3 so3 ((l', lst vs' k') :: st.news), (hsL_out.trans (hsL_drop (Sub.swap (.refl _)))).trans (by got_up), ?_⟩
      exact ⟨vs3, k3, so3, l', vs', k', rows', by krn_off, by krn_off, by krn_off, rfl, hT', R3, hK', by omega⟩
    · rintro C₁ ⟨m₂, n₂⟩ TU ⟨vs2, k2, so2, lr, vr, kr, rows, h1, h2, h3, h4, h5, R, hK, h6⟩
      obtain ⟨gT, BT, TT, kT, tT, rfl⟩ := TU
      dsimp only at h1 h2 h3 h4 ⊢
      subst h4
      refine .of ?_
      tb_rel
      refine gm_hs 157 (by exact HsM.head.hx) (by exact HsM.head.hd) (by kernel_rfl!) (by kernel_rfl!) (by kernel_rfl!) (by with_unfolding_all rfl) ?_
      tb_rel
      refine hs_clear (C := C'.turn gT BT TT kT) R (by show 3 < C'.room; omega) fun vs9 k9 so9 R9 => ?_
      tb_rel
      refine o_isinst_HS (.head _) (.tail _ (.head _)) ?_
      tb_rel
      refine hs_list (by exact HsM.head) (by exact R9) (by show 2 < C'.room; omega) fun l6 k6 => ?_
      tb_rel
      refine o_eq_txt (by mem_news) (by mem_news) R9.tx .nil ?_
      rw [decide_eq_true rfl]
      tb_rel
      refine hs_slen (by exact HsM.head.tail.tail) (by exact R9) (by show 2 < C'.room; omega) fun t8 => ?_
      tb_rel
      refine gm_hs 172 (by exact (HsM.head.tail.tail).hx) (by exact (HsM.head.tail.tail).hd) (by kernel_rfl!) (by kernel_rfl!) (by kernel_rfl!) (by with_unfolding_all rfl) ?_
      tb_rel
      refine hs_toheader (by exact HsM.head.tail.tail) (by exact R9) (by show 5 < C'.room; omega) fun t9 => ?_
      tb_rel
      refine hs_notin (by exact HsM.head.tail.tail) (by exact R9) (by decide) (by show 2 < C'.room; omega) ?_
      tb_rel
      exact ⟨st.news, by got_up, fun C₂ T => h C₂ T⟩
end
end Mine
end
section
open PySem PySem.W PyProof.Rows PySem.Calls PySem.Spec
namespace Mine
/-- what dump_header makes of a pair -/
def dpiece (p : Str × Option Str) : Str := match p.2 with
  | none => p.1
  | some v => if Txt.endswith p.1 "*" = true then p.1 ++ "=" ++ v else p.1 ++ "=" ++ dumped v
theorem DxA.at {kvs ds} (h : DxA kvs ds) : ∀ {i : Nat} {k : Str} {v : Value}, kvs[i]? = some (k, v) → ∃ o, ds[i]? = some (k, o) ∧ optIs o v := by
  induction h with
  | nil => intro i k v h; simp at h
  | cons h r ih =>
    intro i k v e
    cases i with
    | zero =>
      rw [List.getElem?_cons_zero] at e
      cases Option.some.inj e
      exact ⟨_, rfl, h⟩
    | succ i => exact ih e
section
variable {C : Cx} {E : Value → Shared → Prop} {st : St}
theorem dump_dict {d : Addr} {od : Obj} {kvs : List (Str × Value)} {ds : List (Str × Option Str)} (lo : (d == sysModules) = false) (hm : (d, od) ∈ st.news) (hd : od.IsDictOf (strKind prog C.w) kvs) (hD : DxA kvs ds) (hln : ds.length ≤ 100) (hsz : ∀ p ∈ ds, p.1.length ≤ 100 ∧ ∀ v, p.2 = some v → v.length ≤ 100) (hr : 3 < C.room) {Q : Value → St → Prop}
    (h : ∀ t, Q (.str (Txt.join ", " (ds.map dpiece)) t) st) : Ev C E (call (.ref 70) [.ref d]) st Q := by
  refine call_def (name := _) (binds := [("iterable", .ref d)]) (by with_unfolding_all rfl) (by with_unfolding_all rfl) (by omega) (by intro S; with_unfolding_all rfl) (by rfl) (by rfl) (by rfl) (by rfl) (by rfl) (by rfl) ?_
  intro C' hw hr' hC'
  have hd' : od.IsDictOf (strKind prog C'.w) kvs := hw ▸ hd
  have hl := hD.length
  tb_rel
  refine o_isinst_dict (by mem_news) hd' ?_
  tb_rel
  refine x_for_items ?_ (fun _ => rfl) (by kernel_rfl!) (by kernel_rfl!) (by kernel_rfl!) (by kernel_rfl!)
  tb_rel
  refine gm_items (by mem_news) hd' ?_
  tb_rel
  refine m_items lo (by mem_news) hd' fun vw => ?_
  refine ⟨vw, d, od, kvs, (fun i s => ∃ li vi ki, look s.m "iterable" = some (.ref d) ∧ look s.m "items" = some (.ref li) ∧ s.news = (li, lst vi ki) :: st.news ∧ TxA vi ((ds.take i).map dpiece)), rfl, .head _, by mem_news, hd', ?_⟩
  refine ⟨?_, ?_, ?_, ?_⟩
  · rintro i s2 ⟨li, vi, ki, h1, h2, h3, h4⟩ p hp
    rw [List.mem_singleton.mp hp, h3]; exact .tail _ hm
  · exact ⟨_, .cons _ (.refl _), _, [], 0, by krn_off, by krn_off, rfl, .nil⟩
  · rintro i a b st₂ I oI hi ⟨key, tk, hkv, rfl⟩ ⟨li, vi, ki, h1, h2, h3, h4⟩
    obtain ⟨m₂, n₂⟩ := st₂
    dsimp only at h1 h2 h3 ⊢
    subst h3
    obtain ⟨o, ho, hv⟩ := hD.at hkv
    have hi' : i < ds.length := by omega
    have hs := hsz _ (List.mem_of_getElem? ho)
    have hvl := h4.length
    rw [List.length_map, List.length_take] at hvl
    have hstep : (ds.take (i + 1)).map dpiece = (ds.take i).map dpiece ++ [dpiece (key, o)] := by
      rw [List.take_add_one, ho, Option.toList_some, List.map_append, List.map_cons, List.map_nil]
    have fin : ∀ t, TxA (vi ++ [.str (dpiece (key, o)) t]) ((ds.take (i + 1)).map dpiece) := fun t => by
      rw [hstep]; exact h4.append (.cons .nil)
    cases o with
    | none =>
      cases hv
      tb_rel
      exact ⟨_, .refl _, li, _, _, by krn_off, by krn_off, rfl, fin _⟩
    | some v =>
      obtain ⟨tv, rfl⟩ := hv
      have hvz := hs.2 v rfl
      have hkz : key.length ≤ 100 := hs.1
      have a1 := str_length_append key "="
      have a4 : ("=" : Str).length = 1 := by decide
      have a2 := str_length_append (key ++ "=") v
      have a3 := str_length_append (key ++ "=") (dumped v)
      have a5 := dumped_length v
      tb_rel
      cases hb : Txt.endswith key "*" with
      | true =>
        have e : dpiece (key, some v) = key ++ "=" ++ v := by show (if Txt.endswith key "*" = true then _ else _) = _; rw [if_pos hb]
        rw [e] at fin
        refine ite_t ?_
        tb_rel
        refine ⟨_, _, rfl, by rw [sizeLine_eq]; omega, fun t3 => ?_⟩
        refine ⟨_, _, rfl, by rw [str_empty_append, sizeLine_eq]; omega, ?_⟩
        rw [str_empty_append]
        tb_rel
        refine ⟨_, _, rfl, by rw [sizeLine_eq]; omega, ?_⟩
        tb_rel
        refine ⟨_, _, rfl, by rw [sizeLine_eq]; omega, fun t4 => ?_⟩
        refine ⟨_, _, rfl, by rw [sizeLine_eq]; omega, ?_⟩
        tb_rel
        exact ⟨_, .refl _, li, _, _, by krn_off, by krn_off, rfl, fin _⟩
      | false =>
        have e : dpiece (key, some v) = key ++ "=" ++ dumped v := by show (if Txt.endswith key "*" = true then _ else _) = _; rw [hb, if_neg Bool.false_ne_true]
        rw [e] at fin
        refine ite_f ?_
        tb_rel
        refine ⟨_, _, rfl, by rw [sizeLine_eq]; omega, fun t3 => ?_⟩
        refine ⟨_, _, rfl, by rw [str_empty_append, sizeLine_eq]; omega, ?_⟩
        rw [str_empty_append]
        tb_rel
        refine ⟨_, _, rfl, by rw [sizeLine_eq]; omega, ?_⟩
        tb_rel
        refine quote_header (by omega) (by omega) fun t5 => ?_
        refine ⟨_, _, rfl, by rw [sizeLine_eq]; omega, fun t4 => ?_⟩
        refine ⟨_, _, rfl, by rw [sizeLine_eq]; omega, ?_⟩
        tb_rel
        exact ⟨_, .refl _, li, _, _, by krn_off, by krn_off, rfl, fin _⟩
  · rintro ⟨m₂, n₂⟩ ⟨li, vi, ki, h1, h2, h3, h4⟩
    dsimp only at h1 h2 h3 ⊢
    subst h3
    rw [hl, List.take_length] at h4
    tb_rel
    refine m_join (.head _) h4 (joinOk_of (Nat.le_trans (jsum_le (n := 1000) ?_) ?_)) fun t' => ?_
    · intro z hz
      obtain ⟨⟨key, o⟩, hp, rfl⟩ := List.mem_map.mp hz
      have hs := hsz _ hp
      have hk : key.length ≤ 100 := hs.1
      cases o with
      | none => show key.length ≤ 1000; omega
      | some v =>
        have hv := hs.2 v rfl
        have a1 := str_length_append key "="
        have a4 : ("=" : Str).length = 1 := by decide
        have a2 := str_length_append (key ++ "=") v
        have a3 := str_length_append (key ++ "=") (dumped v)
        have a5 := dumped_length v
        show (if Txt.endswith key "*" = true then key ++ "=" ++ v else key ++ "=" ++ dumped v).length ≤ 1000
        split <;> omega
    · rw [List.length_map, show (", " : Str).length = 2 by decide, sizeLine_eq]
      omega
    · exact ⟨_, .cons _ (.refl _), h _⟩
end
end Mine
end
section
open PySem PySem.W PyProof.Rows PySem.Calls PySem.Spec
namespace Mine
local macro_rules | `(tactic| tb_start) => `(tactic| first
  | (with_reducible refine e_named ?_ (by kernel_rfl!) (by kernel_rfl!) (by kernel_rfl!))
  | (with_reducible refine gm_pmatch ?_)
  | fail)
/-- a value behind a star: what its charset makes of it -/
inductive CsOk (v r : Str) : Prop where
  | none (hz : v.cps.size ≤ 1000) (ho : (crun v).outcome = some .failed) (e : r = v)
  | some (a b : Nat) (enc val : Str) (hz : v.cps.size ≤ 1000) (ho : (crun v).outcome = some .matched) (h1 : (crun v).start = 0) (h2 : (crun v).handed = v.cps.size) (h3 : (crun v).marks = #[.some 0, .some a, .some b, .some v.cps.size]) (h4 : (crun v).lastmark = 3) (h5 : (crun v).lastindex = 2) (hb : b ≤ v.cps.size)
      (he : Txt.lower ⟨v.cps.extract 0 a⟩ = enc) (hl : Builtin.Str.tooLong enc.length = false) (hv : (⟨v.cps.extract b v.cps.size⟩ : Str) = val)
      (hx : (decide ((Option.some enc : Option Str) = Option.some "ascii" ∨ (Option.some enc : Option Str) = Option.some "us-ascii" ∨ (Option.some enc : Option Str) = Option.some "utf-8" ∨ (Option.some enc : Option Str) = Option.some "iso-8859-1") = true ∧ UnOk val enc r) ∨
        (decide ((Option.some enc : Option Str) = Option.some "ascii" ∨ (Option.some enc : Option Str) = Option.some "us-ascii" ∨ (Option.some enc : Option Str) = Option.some "utf-8" ∨ (Option.some enc : Option Str) = Option.some "iso-8859-1") = false ∧ r = val))
theorem CsOk.le {v r : Str} (h : CsOk v r) : r.length ≤ 1000 := by
  cases h with
  | none hz ho e => subst e; exact hz
  | some a b enc val hz ho h1 h2 h3 h4 h5 hb he hl hv hx =>
    rcases hx with ⟨_, hu⟩ | ⟨_, e⟩
    · have := hu.1; omega
    · subst e; subst hv
      show (v.cps.extract _ _).size ≤ _
      rw [Array.size_extract]; omega
/-- what a piece of a dict header tells -/
inductive DCase (k s v : Str) : Option (Str × Option Str) → Prop where
  | skip (h : k = "") : DCase k s v none
  | bare (h : k ≠ "") (hs : s = "") : DCase k s v (some (k, none))
  | val (h : k ≠ "") (hs : s ≠ "") (he : Txt.endswith k "*" = false) : DCase k s v (some (k, some (uq v)))
  | star (h : k ≠ "") (hs : s ≠ "") (he : Txt.endswith k "*" = true) {r : Str} (hr : CsOk v r) : DCase k s v (some (Txt.slice k none (some (-1)), some (uq r)))
def DI (x : Str) (r : Option (Str × Option Str)) : Prop := ∃ k s v, Txt.partition x "=" = (k, s, v) ∧ x.length ≤ 1000 ∧ k.length ≤ 1000 ∧ s.length ≤ 1000 ∧ v.length ≤ 1000 ∧ DCase (strips k) s (strips v) r
inductive DIs : List Str → List (Option (Str × Option Str)) → Prop where
  | nil : DIs [] []
  | cons {x r xs rs} (h : DI x r) (hs : DIs xs rs) : DIs (x :: xs) (r :: rs)
theorem DIs.length {xs rs} (h : DIs xs rs) : xs.length = rs.length := by induction h <;> simp_all
theorem DIs.at {xs rs} (h : DIs xs rs) : ∀ {i : Nat} {x : Str}, xs[i]? = some x → ∃ r, rs[i]? = some r ∧ DI x r := by
  induction h with
  | nil => intro i x h; simp at h
  | cons h hs ih =>
    intro i x e
    cases i with
    | zero =>
      rw [List.getElem?_cons_zero] at e
      cases Option.some.inj e
      exact ⟨_, rfl, h⟩
    | succ i => exact ih e
def dstep (ds : List (Str × Option Str)) (o : Option (Str × Option Str)) : List (Str × Option Str) := match o with
  | none => ds
  | some p => dput ds p.1 p.2
def dfold (rs : List (Option (Str × Option Str))) : List (Str × Option Str) := rs.foldl dstep []
theorem dput_length (ds : List (Str × Option Str)) (k : Str) (o : Option Str) : (dput ds k o).length ≤ ds.length + 1 := by
  unfold dput; split <;> simp
theorem dfold_length (rs : List (Option (Str × Option Str))) : (dfold rs).length ≤ rs.length := by
  induction rs using snoc_ind with
  | h0 => exact Nat.le_refl _
  | h1 l c ih =>
    unfold dfold at ih ⊢
    rw [List.foldl_append, List.length_append]
    cases c with
    | none => show (l.foldl dstep []).length ≤ _; omega
    | some p => have := dput_length (l.foldl dstep []) p.1 p.2; show (dput _ _ _).length ≤ l.length + 1; omega
theorem len_truthy (x : Str) : ((x.length : Int) != 0) = (x != "") := len_ne x
section
variable {C : Cx} {E : Value → Shared → Prop} {st : St}
set_option maxHeartbeats 4000000 in
theorem parse_dict {x : Str} {t : Tok} {rs : List (Option (Str × Option Str))} (hx : x.length ≤ 50000) (hI : DIs (plist x) rs) (hn : rs.length ≤ 1000) (hr : 5 < C.room) {Q : Value → St → Prop}
    (h : ∀ d o kvs, (d == sysModules) = false → o.IsDictOf (strKind prog C.w) kvs → DxA kvs (dfold rs) → Q (.ref d) ⟨st.m, (d, o) :: st.news⟩) : Ev C E (call (.ref 82) [.str x t]) st Q := by
  refine call_def (name := _) (binds := [("value", .str x t)]) (by with_unfolding_all rfl) (by with_unfolding_all rfl) (by omega) (by intro S; with_unfolding_all rfl) (by rfl) (by rfl) (by rfl) (by rfl) (by rfl) (by rfl) ?_
  intro C' hw hr' hC'
  have hl := hI.length
  refine x_cons ?_
  refine x_assign ?_ (by kernel_rfl!) (by kernel_rfl!) (by kernel_rfl!) (by kernel_rfl!)
  refine e_dict0 fun d o lo hd => ?_
  refine x_cons ?_
  refine x_for_list ?_ (fun _ => rfl) (by kernel_rfl!) (by kernel_rfl!) (by kernel_rfl!)
  tb_rel
  refine parse_list hx (by omega) fun l ys k hT => ?_
  refine ⟨l, ys, k, (fun i s => ∃ o kvs, look s.m "result" = some (.ref d) ∧ s.news = (d, o) :: (l, lst ys k) :: st.news ∧ o.IsDictOf (strKind prog C'.w) kvs ∧ DxA kvs (dfold (rs.take i))), rfl, .head _, ?_⟩
  have hyl := hT.length
  refine ⟨?_, ?_, ?_, ?_⟩
  · rintro i s2 ⟨o, kvs, h1, h2, h3, h4⟩ p hp
    rw [List.mem_singleton.mp hp, h2]; exact .tail _ (.head _)
  · exact ⟨_, (Sub.perm (List.Perm.swap ..)), o, [], by krn_off, rfl, hd, .nil⟩
  · rintro i v st₂ I oI hi hv ⟨o, kvs, h1, h2, h3, h4⟩
    obtain ⟨m₂, n₂⟩ := st₂
    dsimp only at h1 h2 ⊢
    subst h2
    obtain ⟨item, ti, hitem, rfl⟩ := hT.at hv
    obtain ⟨r, hri, key, sep, val, hp, hz1, hz2, hz3, hz4, hc⟩ := hI.at hitem
    have hkl := h4.length
    have hdl := dfold_length (rs.take i)
    rw [List.length_take] at hdl
    have hkz : kvs.length ≤ sizeLine := by rw [sizeLine_eq]; omega
    have hstep : dfold (rs.take (i + 1)) = dstep (dfold (rs.take i)) r := by
      rw [List.take_add_one, hri, Option.toList_some]; unfold dfold; rw [List.foldl_append]; rfl
    have hk1 := PyProof.Rows.len_stripChars key " \t"
    have hk2 := PyProof.Rows.len_stripChars val " \t"
    have hne : ∀ y : Str, y ≠ "" → ((y.length : Int) != 0) = true := fun y hy => by rw [len_truthy]; simpa using hy
    have hem : ∀ y : Str, y = "" → ((y.length : Int) != 0) = false := fun y hy => by rw [hy]; decide
    refine x_cons ?_
    refine x_tup3 ?_ (by kernel_rfl!) (by kernel_rfl!) (by kernel_rfl!) (by kernel_rfl!) (by kernel_rfl!) (by kernel_rfl!) (by kernel_rfl!)
    tb_rel
    refine m_partition (by decide) (by rw [sizeLine_eq]; omega) fun D ta tb tc => ?_
    rw [hp]
    refine ⟨D, _, _, _, _, rfl, .inl (.head _), ?_⟩
    change DCase (Txt.stripChars key " \t") sep (Txt.stripChars val " \t") r at hc
    cases hc with
    | skip hk =>
      have hk' : (((Txt.stripChars key " \t").length : Int) != 0) = false := hem _ hk
      tb_rel
      exact ⟨_, .cons _ (.refl _), o, kvs, by krn_off, rfl, h3, hstep ▸ h4⟩
    | bare hk hs =>
      have hk' : (((Txt.stripChars key " \t").length : Int) != 0) = true := hne _ hk
      have hs' := hem _ hs
      tb_rel
      refine o_dict_set (g := fun o' => (D, _) :: (I, oI) :: (d, o') :: _) h3 hkz (fun o' => by k_upd) fun o' hd' => ?_
      tb_rel
      exact ⟨_, .cons _ (.refl _), o', _, by krn_off, rfl, hd', hstep ▸ h4.put rfl⟩
    | val hk hs he =>
      have hk' : (((Txt.stripChars key " \t").length : Int) != 0) = true := hne _ hk
      have hs' := hne _ hs
      have he' : Txt.endswith (Txt.stripChars key " \t") "*" = false := he
      tb_rel
      refine unquote_hv (by omega) (by omega) fun t5 => ?_
      tb_rel
      refine o_dict_set (g := fun o' => (D, _) :: (I, oI) :: (d, o') :: _) h3 hkz (fun o' => by k_upd) fun o' hd' => ?_
      tb_rel
      exact ⟨_, .cons _ (.refl _), o', _, by krn_off, rfl, hd', hstep ▸ h4.put ⟨_, rfl⟩⟩
    | star hk hs he hcs =>
      have hk' : (((Txt.stripChars key " \t").length : Int) != 0) = true := hne _ hk
      have hs' := hne _ hs
      have he' : Txt.endswith (Txt.stripChars key " \t") "*" = true := he
      have hrz := hcs.le
      tb_rel
      cases hcs with
      | none hz ho e =>
        refine m_pmatch_none hz ho ?_
        tb_rel
        refine t_inset (by kernel_rfl!) (by kernel_rfl!) (by kernel_rfl!) ?_
        tb_rel
        refine ⟨Option.none, rfl, rfl, _, .refl _, ?_⟩
        refine ite_cf (by simp) ?_
        tb_rel
        refine unquote_hv (by rw [← e]; omega) (by omega) fun t5 => ?_
        rw [← e]
        tb_rel
        refine o_dict_set (g := fun o' => _ :: (D, _) :: (I, oI) :: (d, o') :: _) h3 hkz (fun o' => by k_upd) fun o' hd' => ?_
        tb_rel
        exact ⟨_, .cons _ (.cons _ (.refl _)), o', _, by krn_off, rfl, hd', hstep ▸ h4.put ⟨_, rfl⟩⟩
      | some a b enc val' hz ho g1 g2 g3 g4 g5 hb ee hlo hv hx =>
        refine m_pmatch_some hz ho g1 g2 g3 g4 g5 hb fun mt T => ?_
        tb_rel
        refine x_tup2 ?_ (by kernel_rfl!) (by kernel_rfl!) (by kernel_rfl!) (by kernel_rfl!) (by kernel_rfl!) (by kernel_rfl!)
        tb_rel
        refine gm_groups (.head _) ?_
        tb_rel
        refine m_groups (.head _) (.tail _ (.head _)) hz fun lt u1 u2 => ?_
        refine ⟨lt, _, _, _, rfl, .inl (.head _), ?_⟩
        tb_rel
        refine m_lower (by rw [ee]; exact hlo) fun u3 => ?_
        rw [ee]
        tb_rel
        refine t_inset (by kernel_rfl!) (by kernel_rfl!) (by kernel_rfl!) ?_
        tb_rel
        refine ⟨Option.some enc, by simp [isOpt], rfl, _, .refl _, ?_⟩
        rcases hx with ⟨hx, hu⟩ | ⟨hx, e⟩
        · refine ite_ct hx ?_
          tb_rel
          refine e_callK ?_ (by rfl)
          tb_rel
          refine cw_defK1 (by kernel_rfl!) ?_ (by kernel_rfl!)
          tb_rel
          rw [hv]
          refine unquote_ok hu (by omega) fun t6 => ?_
          tb_rel
          refine unquote_hv (by omega) (by omega) fun t5 => ?_
          tb_rel
          refine o_dict_set (g := fun o' => _ :: _ :: _ :: _ :: (D, _) :: (I, oI) :: (d, o') :: _) h3 hkz (fun o' => by k_upd) fun o' hd' => ?_
          tb_rel
          exact ⟨_, .cons _ (.cons _ (.cons _ (.cons _ (.cons _ (.refl _))))), o', _, by krn_off, rfl, hd', hstep ▸ h4.put ⟨_, rfl⟩⟩
        · refine ite_cf hx ?_
          tb_rel
          rw [hv, ← e]
          refine unquote_hv (by omega) (by omega) fun t5 => ?_
          tb_rel
          refine o_dict_set (g := fun o' => _ :: _ :: _ :: _ :: (D, _) :: (I, oI) :: (d, o') :: _) h3 hkz (fun o' => by k_upd) fun o' hd' => ?_
          tb_rel
          exact ⟨_, .cons _ (.cons _ (.cons _ (.cons _ (.cons _ (.refl _))))), o', _, by krn_off, rfl, hd', hstep ▸ h4.put ⟨_, rfl⟩⟩
  · rintro ⟨m₂, n₂⟩ ⟨o, kvs, h1, h2, h3, h4⟩
    dsimp only at h1 h2 ⊢
    subst h2
    rw [hyl, hl, List.take_length] at h4
    tb_rel
    refine ⟨_, .cons₂ _ (.cons _ (.refl _)), h d o kvs lo (hw ▸ h3) h4⟩
end
end Mine
end
section
open PySem PySem.W PyProof.Rows PySem.Calls PySem.Spec PySem.Builtin.Str PySem.StrLaws
namespace Mine
-- the charsets
theorem cs1 : CsOk "UTF-8''%C3%A9%20" "é " := .some 5 7 "utf-8" "%C3%A9%20" (by decide) (by kernel_rfl) (by kernel_rfl) (by kernel_rfl) (by kernel_rfl) (by kernel_rfl) (by kernel_rfl) (by decide) (by kernel_rfl) (by decide +kernel) (by kernel_rfl) (.inl ⟨by decide, un1⟩)
theorem cs2 : CsOk "koi8'x'%41" "%41" := .some 4 7 "koi8" "%41" (by decide) (by kernel_rfl) (by kernel_rfl) (by kernel_rfl) (by kernel_rfl) (by kernel_rfl) (by kernel_rfl) (by decide) (by kernel_rfl) (by decide +kernel) (by kernel_rfl) (.inr ⟨by decide, rfl⟩)
theorem cs3 : CsOk "plain" "plain" := .none (by decide) (by kernel_rfl) rfl
theorem cs4 : CsOk "iso-8859-1''%E9" "é" := .some 10 12 "iso-8859-1" "%E9" (by decide) (by kernel_rfl) (by kernel_rfl) (by kernel_rfl) (by kernel_rfl) (by kernel_rfl) (by kernel_rfl) (by decide) (by kernel_rfl) (by decide +kernel) (by kernel_rfl) (.inl ⟨by decide, un3⟩)
theorem cs5 : CsOk "us-ascii'en'%41" "A" := .some 8 12 "us-ascii" "%41" (by decide) (by kernel_rfl) (by kernel_rfl) (by kernel_rfl) (by kernel_rfl) (by kernel_rfl) (by kernel_rfl) (by decide) (by kernel_rfl) (by decide +kernel) (by kernel_rfl) (.inl ⟨by decide, un4⟩)
theorem cs6 : CsOk "ASCII''%7A" "z" := .some 5 7 "ascii" "%7A" (by decide) (by kernel_rfl) (by kernel_rfl) (by kernel_rfl) (by kernel_rfl) (by kernel_rfl) (by kernel_rfl) (by decide) (by kernel_rfl) (by decide +kernel) (by kernel_rfl) (.inl ⟨by decide, un5⟩)
theorem cs7 : CsOk "utf-8''%E2%82%AC" "€" := .some 5 7 "utf-8" "%E2%82%AC" (by decide) (by kernel_rfl) (by kernel_rfl) (by kernel_rfl) (by kernel_rfl) (by kernel_rfl) (by kernel_rfl) (by decide) (by kernel_rfl) (by decide +kernel) (by kernel_rfl) (.inl ⟨by decide, un2⟩)
-- parting
theorem at_iff (x : Str) (c i : Nat) : StrLaws.At x ⟨#[c]⟩ x.length i ↔ x.cps.toList[i]? = some c := StrLaws.subAt_one x c i
theorem part_eq {k v : Str} (hk : 61 ∉ k.cps.toList) : Txt.partition (k ++ "=" ++ v) "=" = (k, ("=" : Str), v) := by
  have he : ("=" : Str) = ⟨#[61]⟩ := by decide
  have hx : (k ++ "=" ++ v).cps.toList = k.cps.toList ++ 61 :: v.cps.toList := by rw [app_toList, app_toList, he, List.append_assoc]; rfl
  have hkl : k.cps.toList.length = k.length := by rw [Array.length_toList]; rfl
  have hxl : (k ++ "=" ++ v).length = k.length + 1 + v.length := by rw [str_length_append, str_length_append]; rfl
  have hvl : v.cps.toList.length = v.length := by rw [Array.length_toList]; rfl
  have hat : (k ++ "=" ++ v).cps.toList[k.length]? = some 61 := by
    rw [hx, List.getElem?_append_right (by omega), hkl, Nat.sub_self]; rfl
  generalize hX : k ++ "=" ++ v = X at *
  rw [he]
  rcases partition_whole X ⟨#[61]⟩ with ⟨_, hn⟩ | ⟨i, hp, hi, hn⟩
  · exact absurd ((at_iff X 61 k.length).mpr hat) (hn _)
  · have hi' := (at_iff X 61 i).mp hi
    have h1 : ¬ k.length < i := fun hlt => hn _ hlt ((at_iff X 61 k.length).mpr hat)
    have h2 : ¬ i < k.length := fun hlt => by
      rw [hx, List.getElem?_append_left (by omega)] at hi'
      exact hk (List.mem_of_getElem? hi')
    obtain rfl : i = k.length := by omega
    rw [hp]
    have e1 : strSub X 0 k.length = k := str_ext (by rw [strSub_toList, hx]; simp [← hkl])
    have e2 : strSub X (k.length + (⟨#[61]⟩ : Str).length) X.length = v := str_ext (by
      rw [strSub_toList, hx, show (⟨#[61]⟩ : Str).length = 1 from rfl, ← hkl, List.drop_append, List.drop_of_length_le (by omega), List.nil_append, show k.cps.toList.length + 1 - k.cps.toList.length = 1 by omega]
      show v.cps.toList.take _ = _
      rw [List.take_of_length_le (by omega)])
    rw [e1, e2]
theorem part_none {k : Str} (hk : 61 ∉ k.cps.toList) : Txt.partition k "=" = (k, ("" : Str), ("" : Str)) := by
  have he : ("=" : Str) = ⟨#[61]⟩ := by decide
  rw [he]
  rcases partition_whole k ⟨#[61]⟩ with ⟨h, _⟩ | ⟨i, _, hi, _⟩
  · rw [h]; rfl
  · exact absurd (List.mem_of_getElem? ((at_iff k 61 i).mp hi)) hk
end Mine
end
section
open PySem PySem.W PyProof.Rows PySem.Calls PySem.Spec
namespace Mine
def lawKeys : List Str := ["k", "long-name", "Q", "z!"]
def kn (j i : Nat) : Str := lawKeys.getD j "" ++ (toString (i : Int) : Str)
def dig (x : Str) : Option Nat := (x.cps.toList.filter fun c => decide (48 ≤ c) && decide (c ≤ 57)).head?
theorem kn_ok1 : ∀ j : Nat, j < 4 → ∀ i : Nat, i < 8 → 61 ∉ (kn j i).cps.toList ∧ strips (kn j i) = kn j i ∧ kn j i ≠ "" ∧ Txt.endswith (kn j i) "*" = false ∧ calm (kn j i).cps.toList false false = true ∧ piece (kn j i) = [kn j i] := by decide +kernel
theorem kn_ok2 : ∀ j : Nat, j < 4 → ∀ i : Nat, i < 8 → (kn j i).length ≤ 10 ∧ ((kn j i).cps.toList.head?.all fun c => !blank c && c != 34) = true ∧ dig (kn j i) = some (48 + i) ∧ dig (kn j i ++ "*") = some (48 + i) := by decide +kernel
theorem kn_ok3 : ∀ j : Nat, j < 4 → ∀ i : Nat, i < 8 → 61 ∉ (kn j i ++ "*").cps.toList ∧ strips (kn j i ++ "*") = kn j i ++ "*" ∧ kn j i ++ "*" ≠ "" ∧ Txt.endswith (kn j i ++ "*") "*" = true ∧ calm (kn j i ++ "*").cps.toList false false = true ∧ Txt.slice (kn j i ++ "*") none (some (-1)) = kn j i := by decide +kernel
theorem kn_ok4 : ∀ j : Nat, j < 4 → ∀ i : Nat, i < 8 → ((kn j i ++ "*").cps.toList.head?.all fun c => !blank c && c != 34) = true := by decide +kernel
/-- a piece with a name and a value -/
theorem piece_kv {k v : Str} (hk : (k.cps.toList.head?.all fun c => !blank c && c != 34) = true) (hne : k ≠ "") (hv : Bare v.cps.toList) (hvn : v ≠ "") : piece (k ++ "=" ++ v) = [k ++ "=" ++ v] := by
  obtain ⟨c, r, hc⟩ : ∃ c r, k.cps.toList = c :: r := by
    cases h : k.cps.toList with
    | nil => exact absurd (str_ext (x := k) (y := "") (by rw [h]; rfl)) hne
    | cons c r => exact ⟨c, r, rfl⟩
  have hvc : v.cps.toList ≠ [] := fun h => hvn (str_ext (by rw [h]; rfl))
  have hx : (k ++ "=" ++ v).cps.toList = c :: (r ++ 61 :: v.cps.toList) := by rw [app_toList, app_toList, hc]; simp; rfl
  rw [hc] at hk
  simp only [List.head?_cons, Option.all_some, Bool.and_eq_true, Bool.not_eq_true', bne_iff_ne, ne_eq] at hk
  have hb : Bare (k ++ "=" ++ v).cps.toList := by
    refine ⟨fun d hd => ?_, fun d hd => ?_⟩
    · rw [hx] at hd; cases hd; exact hk.1
    · rw [app_toList, List.getLast?_append] at hd
      cases hl : v.cps.toList.getLast? with
      | none => exact absurd (List.getLast?_eq_none_iff.mp hl) hvc
      | some e => rw [hl] at hd; cases hd; exact hv.2 _ hl
  have hs := strips_bare hb
  have hnn : (k ++ "=" ++ v) ≠ "" := fun h => by rw [h, show ("" : Str).cps.toList = [] from rfl] at hx; cases hx
  have hu : uq (k ++ "=" ++ v) = k ++ "=" ++ v := by
    unfold uq
    rw [if_neg]
    intro h
    rw [Bool.and_eq_true, Bool.and_eq_true] at h
    have := (starts_quote _).mp h.1.2
    rw [hx] at this
    exact hk.2 (Option.some.inj this)
  unfold piece
  rw [hs, if_neg hnn, hu]
def kx (n : Int) (i : Nat) : Str := kn (n.fmod 4).toNat i
def dval (n : Int) : Option Str := if n.fmod 3 = 0 then none else some (lawText (n.fdiv 2))
def euro : Str := "utf-8''%E2%82%AC"
def gpair (n : Int) (i : Nat) : Str × Option Str := if n.fmod 7 = 6 then (kx n i ++ "*", some euro) else (kx n i, dval n)
def upair (n : Int) (i : Nat) : Str × Option Str := if n.fmod 7 = 6 then (kx n i, some "€") else (kx n i, dval n)
def wtext (n : Int) (i : Nat) : Str := dpiece (gpair n i)
theorem kj (n : Int) : (n.fmod 4).toNat < 4 := fmod_lt_nat rfl (by decide)
theorem w_ok (n : Int) (i : Nat) (hi : i < 8) : Cl (wtext n i) ∧ piece (wtext n i) = [wtext n i] ∧ DI (wtext n i) (some (upair n i)) ∧ (wtext n i).length ≤ 60 := by
  obtain ⟨a1, a2, a3, a4, a5, a6⟩ := kn_ok1 _ (kj n) i hi
  obtain ⟨b1, b2, b3, b4⟩ := kn_ok2 _ (kj n) i hi
  obtain ⟨c1, c2, c3, c4, c5, c6⟩ := kn_ok3 _ (kj n) i hi
  have c7 := kn_ok4 _ (kj n) i hi
  have ceq : Cl ("=" : Str) := cl_calm (by decide)
  have leq : ("=" : Str).length = 1 := by decide
  by_cases hs : n.fmod 7 = 6
  · have e : wtext n i = kn (n.fmod 4).toNat i ++ "*" ++ "=" ++ euro := by
      unfold wtext gpair dpiece
      rw [if_pos hs]
      dsimp only
      rw [if_pos (show Txt.endswith (kx n i ++ "*") "*" = true from c4)]
      rfl
    have eu : upair n i = (kn (n.fmod 4).toNat i, some ("€" : Str)) := by unfold upair; rw [if_pos hs]; rfl
    rw [e, eu]
    have le : euro.length = 16 := by decide
    have ls : (kn (n.fmod 4).toNat i ++ "*").length = (kn (n.fmod 4).toNat i).length + 1 := by rw [str_length_append]; rfl
    have lx : (kn (n.fmod 4).toNat i ++ "*" ++ "=" ++ euro).length ≤ 60 := by rw [str_length_append, str_length_append]; omega
    refine ⟨cl_append (cl_append (cl_calm c5) ceq) (cl_calm (by decide)), piece_kv c7 c3 ⟨by decide, by decide⟩ (by decide), ⟨_, _, _, part_eq c1, by omega, by omega, by rw [leq]; omega, by omega, ?_⟩, lx⟩
    rw [c2, show strips euro = euro by decide +kernel]
    have := DCase.star (v := euro) c3 (show ("=" : Str) ≠ "" by decide) c4 cs7
    rw [c6, show uq "€" = "€" by decide +kernel] at this
    exact this
  · have eg : gpair n i = (kn (n.fmod 4).toNat i, dval n) := by unfold gpair; rw [if_neg hs]; rfl
    have eu : upair n i = (kn (n.fmod 4).toNat i, dval n) := by unfold upair; rw [if_neg hs]; rfl
    rw [eu]
    unfold wtext
    rw [eg]
    unfold dpiece
    dsimp only
    cases hd : dval n with
    | none =>
      dsimp only
      refine ⟨cl_calm a5, a6, ⟨_, _, _, part_none a1, by omega, by omega, by decide, by decide, ?_⟩, by omega⟩
      rw [a2]
      exact DCase.bare a3 rfl
    | some v =>
      dsimp only
      rw [if_neg (by rw [a4]; exact Bool.false_ne_true)]
      have hv : v.length ≤ 5 := by
        unfold dval at hd
        split at hd
        · cases hd
        · cases hd; exact lawText_len _
      have hdl := dumped_length v
      have lx : (kn (n.fmod 4).toNat i ++ "=" ++ dumped v).length ≤ 60 := by rw [str_length_append, str_length_append]; omega
      refine ⟨cl_append (cl_append (cl_calm a5) ceq) (cl_dumped v), piece_kv b2 a3 (dumped_bare v) (dumped_ne v), ⟨_, _, _, part_eq a1, by omega, by omega, by rw [leq]; omega, by omega, ?_⟩, lx⟩
      rw [a2, strips_bare (dumped_bare v)]
      have := DCase.val (v := dumped v) a3 (show ("=" : Str) ≠ "" by decide) a4
      rw [uq_dumped] at this
      exact this
-- the pairs told, one after another
def gl (ns : List Int) (m : Nat) : List (Str × Option Str) := (List.range m).map fun i => gpair (ns.getD i 0) i
def ul (ns : List Int) (m : Nat) : List (Str × Option Str) := (List.range m).map fun i => upair (ns.getD i 0) i
def wl (ns : List Int) (m : Nat) : List Str := (List.range m).map fun i => wtext (ns.getD i 0) i
theorem gl_succ (ns : List Int) (m : Nat) : gl ns (m + 1) = gl ns m ++ [gpair (ns.getD m 0) m] := by unfold gl; rw [List.range_succ, List.map_append]; rfl
theorem ul_succ (ns : List Int) (m : Nat) : ul ns (m + 1) = ul ns m ++ [upair (ns.getD m 0) m] := by unfold ul; rw [List.range_succ, List.map_append]; rfl
theorem wl_succ (ns : List Int) (m : Nat) : wl ns (m + 1) = wl ns m ++ [wtext (ns.getD m 0) m] := by unfold wl; rw [List.range_succ, List.map_append]; rfl
theorem gl_length (ns : List Int) (m : Nat) : (gl ns m).length = m := by simp [gl]
theorem ul_length (ns : List Int) (m : Nat) : (ul ns m).length = m := by simp [ul]
theorem wl_length (ns : List Int) (m : Nat) : (wl ns m).length = m := by simp [wl]
theorem wl_eq (ns : List Int) (m : Nat) : wl ns m = (gl ns m).map dpiece := by unfold wl gl; rw [List.map_map]; rfl
theorem gdig (n : Int) (i : Nat) (hi : i < 8) : dig (gpair n i).1 = some (48 + i) := by
  obtain ⟨b1, b2, b3, b4⟩ := kn_ok2 _ (kj n) i hi
  unfold gpair
  split
  · exact b4
  · exact b3
theorem udig (n : Int) (i : Nat) (hi : i < 8) : dig (upair n i).1 = some (48 + i) := by
  obtain ⟨b1, b2, b3, b4⟩ := kn_ok2 _ (kj n) i hi
  unfold upair
  split <;> exact b3
theorem dput_new {ds : List (Str × Option Str)} {k : Str} {o : Option Str} (h : ∀ d ∈ ds, d.1 ≠ k) : dput ds k o = ds ++ [(k, o)] := by
  unfold dput
  rw [if_neg]
  intro hh
  obtain ⟨d, hd, e⟩ := List.any_eq_true.mp hh
  exact h d hd (of_decide_eq_true e)
theorem gl_put (ns : List Int) (m : Nat) (hm : m < 8) : dput (gl ns m) (gpair (ns.getD m 0) m).1 (gpair (ns.getD m 0) m).2 = gl ns (m + 1) := by
  rw [gl_succ, dput_new]
  intro d hd e
  obtain ⟨i, hi, rfl⟩ := List.mem_map.mp hd
  have hi := List.mem_range.mp hi
  have h1 := gdig (ns.getD i 0) i (by omega)
  rw [e, gdig (ns.getD m 0) m hm] at h1
  have := Option.some.inj h1
  omega
theorem ul_put (ns : List Int) (m : Nat) (hm : m < 8) : dput (ul ns m) (upair (ns.getD m 0) m).1 (upair (ns.getD m 0) m).2 = ul ns (m + 1) := by
  rw [ul_succ, dput_new]
  intro d hd e
  obtain ⟨i, hi, rfl⟩ := List.mem_map.mp hd
  have hi := List.mem_range.mp hi
  have h1 := udig (ns.getD i 0) i (by omega)
  rw [e, udig (ns.getD m 0) m hm] at h1
  have := Option.some.inj h1
  omega
theorem DIs.append {a b : List Str} {c d : List (Option (Str × Option Str))} (h : DIs a c) (h' : DIs b d) : DIs (a ++ b) (c ++ d) := by
  induction h with
  | nil => exact h'
  | cons h hs ih => exact .cons h ih
theorem wl_DIs (ns : List Int) : ∀ m : Nat, m ≤ 8 → DIs (wl ns m) ((ul ns m).map some)
  | 0, _ => .nil
  | m + 1, h => by
    rw [wl_succ, ul_succ, List.map_append]
    exact (wl_DIs ns m (by omega)).append (.cons (w_ok _ m (by omega)).2.2.1 .nil)
theorem ul_dfold (ns : List Int) : ∀ m : Nat, m ≤ 8 → dfold ((ul ns m).map some) = ul ns m
  | 0, _ => rfl
  | m + 1, h => by
    have ih := ul_dfold ns m (by omega)
    unfold dfold at ih ⊢
    rw [ul_succ, List.map_append, List.foldl_append, ih, ← ul_succ, ← ul_put ns m (by omega)]
    rfl
theorem flatMap_one {α β : Type} {f : α → List β} {g : α → β} : ∀ {l : List α}, (∀ i ∈ l, f i = [g i]) → l.flatMap f = l.map g
  | [], _ => rfl
  | x :: r, h => by rw [List.flatMap_cons, List.map_cons, h x (.head _), flatMap_one fun i hi => h i (.tail _ hi)]; rfl
theorem wl_plist (ns : List Int) (m : Nat) (h : m ≤ 8) : plist (Txt.join ", " (wl ns m)) = wl ns m := by
  have e : wl ns m = (List.range m).map fun i => if i < 8 then wtext (ns.getD i 0) i else "" := by
    unfold wl
    refine List.map_congr_left fun i hi => ?_
    have := List.mem_range.mp hi
    rw [if_pos (by omega)]
  have R := Rd.join sep1 (fun i : Nat => if i < 8 then wtext (ns.getD i 0) i else "") (fun i => by
    split
    · exact (w_ok _ i ‹_›).1
    · exact cl_calm rfl) (List.range m)
  rw [← e] at R
  rw [R.plist, e]
  refine flatMap_one fun i hi => ?_
  have := List.mem_range.mp hi
  rw [if_pos (by omega)]
  exact (w_ok _ i (by omega)).2.1
end Mine
end
section
open PySem PySem.W PyProof.Rows PySem.Calls PySem.Spec
namespace Mine
def pairTab : List (Str × Str × Option Str) := [("k", "k", none), ("k = v", "k", some "v"), ("=v", "", none), ("k=\"a, b\"", "k", some "a, b"), ("K=1", "K", some "1"), ("k*=UTF-8''%C3%A9%20", "k", some "é "), ("k*=koi8'x'%41", "k", some "%41"), ("j*=plain", "j", some "plain"),
  ("j=", "j", some ""), ("k=\"a\\\"b\"", "k", some "a\"b"), ("", "", none), ("j*=iso-8859-1''%E9", "j", some "é"), ("j=\"%22\"", "j", some "%22"), ("j*=us-ascii'en'%41", "j", some "A"), ("k*=ASCII''%7A", "k", some "z")]
def pairAt (j : Nat) : Str × Str × Option Str := pairTab.getD j ("", "", none)
/-- all four are short -/
abbrev Zs (x k s v : Str) : Prop := x.length ≤ 1000 ∧ k.length ≤ 1000 ∧ s.length ≤ 1000 ∧ v.length ≤ 1000
theorem di_bare {x k0 v0 k : Str} (hp : Txt.partition x "=" = (k0, ("" : Str), v0)) (hz : Zs x k0 "" v0) (hk : strips k0 = k) (hne : k ≠ "") : DI x (some (k, none)) := ⟨_, _, _, hp, hz.1, hz.2.1, hz.2.2.1, hz.2.2.2, by subst hk; exact .bare hne rfl⟩
theorem di_skip {x k0 s v0 : Str} (hp : Txt.partition x "=" = (k0, s, v0)) (hz : Zs x k0 s v0) (hk : strips k0 = "") : DI x none := ⟨_, _, _, hp, hz.1, hz.2.1, hz.2.2.1, hz.2.2.2, .skip hk⟩
theorem di_val {x k0 v0 k v y : Str} (hp : Txt.partition x "=" = (k0, ("=" : Str), v0)) (hz : Zs x k0 "=" v0) (hk : strips k0 = k) (hv : strips v0 = v) (hne : k ≠ "") (he : Txt.endswith k "*" = false) (hu : uq v = y) : DI x (some (k, some y)) :=
  ⟨_, _, _, hp, hz.1, hz.2.1, hz.2.2.1, hz.2.2.2, by subst hk hv hu; exact .val hne (by decide) he⟩
theorem di_star {x k0 v0 k k' v r y : Str} (hp : Txt.partition x "=" = (k0, ("=" : Str), v0)) (hz : Zs x k0 "=" v0) (hk : strips k0 = k') (hs : Txt.slice k' none (some (-1)) = k) (hv : strips v0 = v) (hne : k' ≠ "") (he : Txt.endswith k' "*" = true) (hc : CsOk v r) (hu : uq r = y) : DI x (some (k, some y)) :=
  ⟨_, _, _, hp, hz.1, hz.2.1, hz.2.2.1, hz.2.2.2, by subst hk hv hs hu; exact .star hne (by decide) he hc⟩
def PFact (p : Str × Str × Option Str) : Prop := Cl p.1 ∧ p.1.length ≤ 20 ∧ ∃ rs, DIs (piece p.1) rs ∧ rs.length ≤ 1 ∧ ∀ ds, rs.foldl dstep ds = if p.2.1 = "" then ds else dput ds p.2.1 p.2.2
theorem pf_one {p : Str × Str × Option Str} {x : Str} (hc : calm p.1.cps.toList false false = true) (hl : p.1.length ≤ 20) (hp : piece p.1 = [x]) (hd : DI x (some p.2)) (hn : p.2.1 ≠ "") : PFact p :=
  ⟨cl_calm hc, hl, [some p.2], by rw [hp]; exact .cons hd .nil, Nat.le_refl _, fun ds => by rw [if_neg hn]; rfl⟩
theorem pf_skip {p : Str × Str × Option Str} {x : Str} (hc : calm p.1.cps.toList false false = true) (hl : p.1.length ≤ 20) (hp : piece p.1 = [x]) (hd : DI x none) (hn : p.2.1 = "") : PFact p :=
  ⟨cl_calm hc, hl, [none], by rw [hp]; exact .cons hd .nil, Nat.le_refl _, fun ds => by rw [if_pos hn]; rfl⟩
theorem pf_nil {p : Str × Str × Option Str} (hc : calm p.1.cps.toList false false = true) (hl : p.1.length ≤ 20) (hp : piece p.1 = []) (hn : p.2.1 = "") : PFact p :=
  ⟨cl_calm hc, hl, [], by rw [hp]; exact .nil, Nat.zero_le _, fun ds => by rw [if_pos hn]; rfl⟩
theorem pair_ok : ∀ j : Nat, j < 15 → PFact (pairAt j)
  | 0, _ => pf_one (x := "k") (by decide +kernel) (by decide +kernel) (by decide +kernel) (di_bare (k0 := "k") (v0 := "") (by decide +kernel) (by decide +kernel) (by decide +kernel) (by decide +kernel)) (by decide +kernel)
  | 1, _ => pf_one (x := "k = v") (by decide +kernel) (by decide +kernel) (by decide +kernel) (di_val (k0 := "k ") (v0 := " v") (v := "v") (by decide +kernel) (by decide +kernel) (by decide +kernel) (by decide +kernel) (by decide +kernel) (by decide +kernel) (by decide +kernel)) (by decide +kernel)
  | 2, _ => pf_skip (x := "=v") (by decide +kernel) (by decide +kernel) (by decide +kernel) (di_skip (k0 := "") (s := "=") (v0 := "v") (by decide +kernel) (by decide +kernel) (by decide +kernel)) (by decide +kernel)
  | 3, _ => pf_one (x := "k=\"a, b\"") (by decide +kernel) (by decide +kernel) (by decide +kernel) (di_val (k0 := "k") (v0 := "\"a, b\"") (v := "\"a, b\"") (by decide +kernel) (by decide +kernel) (by decide +kernel) (by decide +kernel) (by decide +kernel) (by decide +kernel) (by decide +kernel)) (by decide +kernel)
  | 4, _ => pf_one (x := "K=1") (by decide +kernel) (by decide +kernel) (by decide +kernel) (di_val (k0 := "K") (v0 := "1") (v := "1") (by decide +kernel) (by decide +kernel) (by decide +kernel) (by decide +kernel) (by decide +kernel) (by decide +kernel) (by decide +kernel)) (by decide +kernel)
  | 5, _ => pf_one (x := "k*=UTF-8''%C3%A9%20") (by decide +kernel) (by decide +kernel) (by decide +kernel) (di_star (k0 := "k*") (k' := "k*") (v0 := "UTF-8''%C3%A9%20") (by decide +kernel) (by decide +kernel) (by decide +kernel) (by decide +kernel) (by decide +kernel) (by decide +kernel) (by decide +kernel) cs1 (by decide +kernel)) (by decide +kernel)
  | 6, _ => pf_one (x := "k*=koi8'x'%41") (by decide +kernel) (by decide +kernel) (by decide +kernel) (di_star (k0 := "k*") (k' := "k*") (v0 := "koi8'x'%41") (by decide +kernel) (by decide +kernel) (by decide +kernel) (by decide +kernel) (by decide +kernel) (by decide +kernel) (by decide +kernel) cs2 (by decide +kernel)) (by decide +kernel)
  | 7, _ => pf_one (x := "j*=plain") (by decide +kernel) (by decide +kernel) (by decide +kernel) (di_star (k0 := "j*") (k' := "j*") (v0 := "plain") (by decide +kernel) (by decide +kernel) (by decide +kernel) (by decide +kernel) (by decide +kernel) (by decide +kernel) (by decide +kernel) cs3 (by decide +kernel)) (by decide +kernel)
  | 8, _ => pf_one (x := "j=") (by decide +kernel) (by decide +kernel) (by decide +kernel) (di_val (k0 := "j") (v0 := "") (v := "") (by decide +kernel) (by decide +kernel) (by decide +kernel) (by decide +kernel) (by decide +kernel) (by decide +kernel) (by decide +kernel)) (by decide +kernel)
  | 9, _ => pf_one (x := "k=\"a\\\"b\"") (by decide +kernel) (by decide +kernel) (by decide +kernel) (di_val (k0 := "k") (v0 := "\"a\\\"b\"") (v := "\"a\\\"b\"") (by decide +kernel) (by decide +kernel) (by decide +kernel) (by decide +kernel) (by decide +kernel) (by decide +kernel) (by decide +kernel)) (by decide +kernel)
  | 10, _ => pf_nil (by decide +kernel) (by decide +kernel) (by decide +kernel) (by decide +kernel)
  | 11, _ => pf_one (x := "j*=iso-8859-1''%E9") (by decide +kernel) (by decide +kernel) (by decide +kernel) (di_star (k0 := "j*") (k' := "j*") (v0 := "iso-8859-1''%E9") (by decide +kernel) (by decide +kernel) (by decide +kernel) (by decide +kernel) (by decide +kernel) (by decide +kernel) (by decide +kernel) cs4 (by decide +kernel)) (by decide +kernel)
  | 12, _ => pf_one (x := "j=\"%22\"") (by decide +kernel) (by decide +kernel) (by decide +kernel) (di_val (k0 := "j") (v0 := "\"%22\"") (v := "\"%22\"") (by decide +kernel) (by decide +kernel) (by decide +kernel) (by decide +kernel) (by decide +kernel) (by decide +kernel) (by decide +kernel)) (by decide +kernel)
  | 13, _ => pf_one (x := "j*=us-ascii'en'%41") (by decide +kernel) (by decide +kernel) (by decide +kernel) (di_star (k0 := "j*") (k' := "j*") (v0 := "us-ascii'en'%41") (by decide +kernel) (by decide +kernel) (by decide +kernel) (by decide +kernel) (by decide +kernel) (by decide +kernel) (by decide +kernel) cs5 (by decide +kernel)) (by decide +kernel)
  | 14, _ => pf_one (x := "k*=ASCII''%7A") (by decide +kernel) (by decide +kernel) (by decide +kernel) (di_star (k0 := "k*") (k' := "k*") (v0 := "ASCII''%7A") (by decide +kernel) (by decide +kernel) (by decide +kernel) (by decide +kernel) (by decide +kernel) (by decide +kernel) (by decide +kernel) cs6 (by decide +kernel)) (by decide +kernel)
-- the pieces one behind another
def pairOf (n : Int) : Str × Str × Option Str := pairAt (n.fmod 15).toNat
def psep (n : Int) : Str := seps.getD ((n.fdiv 15).fmod 3).toNat ""
def ptxt (ns : List Int) : Str := ns.foldl (fun a n => a ++ psep n ++ (pairOf n).1) ""
def pdue (ns : List Int) : List (Str × Option Str) := ns.foldl (fun ds n => if (pairOf n).2.1 = "" then ds else dput ds (pairOf n).2.1 (pairOf n).2.2) []
theorem psep_ok (n : Int) : Sep (psep n) ∧ (psep n).length ≤ 3 := by
  unfold psep
  have h := fmod_lt_nat (a := n.fdiv 15) (b := 3) (n := 3) rfl (by decide)
  generalize ((n.fdiv 15).fmod 3).toNat = k at h
  have : k = 0 ∨ k = 1 ∨ k = 2 := by omega
  rcases this with rfl | rfl | rfl
  · exact ⟨sep3, by decide⟩
  · exact ⟨sep1, by decide⟩
  · exact ⟨sep4, by decide⟩
theorem pairOf_ok (n : Int) : PFact (pairOf n) := pair_ok _ (fmod_lt_nat rfl (by decide))
theorem ptxt_snoc (ns : List Int) (a : Int) : ptxt (ns ++ [a]) = ptxt ns ++ psep a ++ (pairOf a).1 := by unfold ptxt; rw [List.foldl_append]; rfl
theorem pdue_snoc (ns : List Int) (a : Int) : pdue (ns ++ [a]) = if (pairOf a).2.1 = "" then pdue ns else dput (pdue ns) (pairOf a).2.1 (pairOf a).2.2 := by unfold pdue; rw [List.foldl_append]; rfl
theorem pdue_length (ns : List Int) : (pdue ns).length ≤ ns.length := by
  induction ns using snoc_ind with
  | h0 => exact Nat.le_refl _
  | h1 ns a ih =>
    rw [pdue_snoc, List.length_append, List.length_singleton]
    split
    · omega
    · have := dput_length (pdue ns) (pairOf a).2.1 (pairOf a).2.2
      omega
theorem ptxt_length (ns : List Int) : (ptxt ns).length ≤ 23 * ns.length := by
  induction ns using snoc_ind with
  | h0 => exact Nat.le_refl _
  | h1 ns a ih =>
    rw [ptxt_snoc, str_length_append, str_length_append, List.length_append, List.length_singleton]
    have := (psep_ok a).2
    have := (pairOf_ok a).2.1
    omega
theorem pair_rd (ns : List Int) : ∃ due rs, Rd (ptxt ns) due ∧ DIs due rs ∧ rs.length ≤ ns.length ∧ dfold rs = pdue ns := by
  induction ns using snoc_ind with
  | h0 => exact ⟨[], [], Rd.nil, .nil, Nat.le_refl _, rfl⟩
  | h1 ns a ih =>
    obtain ⟨due, rs, h1, h2, h3, h4⟩ := ih
    obtain ⟨p1, p2, qs, p3, p4, p5⟩ := pairOf_ok a
    refine ⟨due ++ piece (pairOf a).1, rs ++ qs, ?_, h2.append p3, ?_, ?_⟩
    · rw [ptxt_snoc]; exact h1.step (psep_ok a).1 p1
    · rw [List.length_append, List.length_append, List.length_singleton]; omega
    · unfold dfold at h4 ⊢
      rw [List.foldl_append, h4, p5, pdue_snoc]
end Mine
end
section
open PySem PySem.W PyProof.Rows PySem.Calls PySem.Spec
namespace Mine
section
variable {C : Cx} {E : Value → Shared → Prop} {st : St}
set_option maxHeartbeats 4000000 in
theorem law_pairs {j : Nat} (hj : j < 15) (hr : 0 < C.room) {Q : Value → St → Prop} (h : ∀ l vs tl, (∃ t a b v, vs[j]? = some (.ref t) ∧ (t, tup [.str (pairAt j).1 a, .str (pairAt j).2.1 b, v] 0) ∈ tl ∧ optIs (pairAt j).2.2 v) → Q (.ref l) ⟨st.m, (l, lst vs 0) :: (tl ++ st.news)⟩) : Ev C E (call (.ref 275) []) st Q := by
  refine call_def (name := _) (binds := []) (by with_unfolding_all rfl) (by with_unfolding_all rfl) (by omega) (by intro S; with_unfolding_all rfl) (by rfl) (by rfl) (by rfl) (by rfl) (by rfl) (by rfl) ?_
  intro C' hw hr' hC'
  tb_rel
  refine ⟨_, .refl _, h _ _ [_, _, _, _, _, _, _, _, _, _, _, _, _, _, _] ?_⟩
  have : j = 0 ∨ j = 1 ∨ j = 2 ∨ j = 3 ∨ j = 4 ∨ j = 5 ∨ j = 6 ∨ j = 7 ∨ j = 8 ∨ j = 9 ∨ j = 10 ∨ j = 11 ∨ j = 12 ∨ j = 13 ∨ j = 14 := by omega
  rcases this with rfl | rfl | rfl | rfl | rfl | rfl | rfl | rfl | rfl | rfl | rfl | rfl | rfl | rfl | rfl <;>
    exact ⟨_, _, _, _, rfl, by repeat (first | exact List.Mem.head _ | refine List.Mem.tail _ ?_), by first | exact rfl | exact ⟨_, rfl⟩⟩
end
end Mine
end
section
open PySem PySem.W PyProof.Rows PySem.Calls PySem.Spec
namespace Mine
section
variable {C : Cx} {E : Value → Shared → Prop} {st : St}
theorem key_at (n : Int) : ∀ {t0 t1 t2 t3 : Tok}, ∃ t, [Value.str "k" t0, .str "long-name" t1, .str "Q" t2, .str "z!" t3][(n.fmod 4).toNat]? = some (.str (lawKeys.getD (n.fmod 4).toNat "") t) := by
  intro t0 t1 t2 t3
  have h := kj n
  generalize (n.fmod 4).toNat = j at h
  have : j = 0 ∨ j = 1 ∨ j = 2 ∨ j = 3 := by omega
  rcases this with rfl | rfl | rfl | rfl <;> exact ⟨_, rfl⟩
theorem Sub.left {a b : Led} (t : Led) (h : Sub a b) : Sub a (t ++ b) := let ⟨l, x, y⟩ := h; ⟨l, x, y.trans (List.sublist_append_right t b)⟩
theorem psep_at {t0 t1 t2 : Tok} {n : Int} : ∃ t, [Value.str "," t0, .str ", " t1, .str " ,\t" t2][((n.fdiv 15).fmod 3).toNat]? = some (.str (psep n) t) := by
  unfold psep
  have h := fmod_lt_nat (a := n.fdiv 15) (b := 3) (n := 3) rfl (by decide)
  generalize ((n.fdiv 15).fmod 3).toNat = k at h
  have : k = 0 ∨ k = 1 ∨ k = 2 := by omega
  rcases this with rfl | rfl | rfl <;> exact ⟨_, rfl⟩
theorem gl_sz (ns : List Int) (m : Nat) (hm : m ≤ 8) : ∀ p ∈ gl ns m, p.1.length ≤ 100 ∧ ∀ v, p.2 = some v → v.length ≤ 100 := fun p hp => by
  obtain ⟨i, hi, rfl⟩ := List.mem_map.mp hp
  have hi := List.mem_range.mp hi
  obtain ⟨b1, b2, b3, b4⟩ := kn_ok2 _ (kj (ns.getD i 0)) i (by omega)
  unfold gpair
  split
  · refine ⟨?_, fun v e => ?_⟩
    · have := str_length_append (kx (ns.getD i 0) i) "*"
      have s1 : ("*" : Str).length = 1 := by decide
      have : (kx (ns.getD i 0) i).length ≤ 10 := b1
      show (kx (ns.getD i 0) i ++ "*").length ≤ 100
      omega
    · cases e; decide
  · refine ⟨Nat.le_trans b1 (by decide), fun v e => ?_⟩
    unfold dval at e
    split at e
    · cases e
    · cases e; exact Nat.le_trans (lawText_len _) (by decide)
set_option maxHeartbeats 8000000 in
theorem law_dicts {l : Addr} {vs : List Value} {n : Nat} {ns : List Int} (hm : (l, lst vs n) ∈ st.news) (hx : IxA vs ns) (hlen : ns.length ≤ 8) (hr : 10 < C.room) {Q : Value → St → Prop} (h : Q (.bool true) st) : Ev C E (call (.ref 308) [.ref l]) st Q := by
  refine call_def (name := _) (binds := [("numbers", .ref l)]) (by with_unfolding_all rfl) (by with_unfolding_all rfl) (by omega) (by intro S; with_unfolding_all rfl) (by rfl) (by rfl) (by rfl) (by rfl) (by rfl) (by rfl) ?_
  intro C' hw hr' hC'
  have hl := hx.length
  refine x_cons ?_
  refine x_swap3 ?_ (by with_unfolding_all rfl) (by with_unfolding_all rfl) (by kernel_rfl!) (by kernel_rfl!) (by kernel_rfl!) (by kernel_rfl!) (by kernel_rfl!)
  tb_rel
  refine e_dict0 fun dg og log hg => ?_
  tb_rel
  refine e_dict0 fun du ou lou hu => ?_
  tb_rel
  rename_i lw tp
  refine ⟨tp, _, _, _, _, rfl, .head _, ?_⟩
  refine x_cons ?_
  refine x_for_range ?_ (fun _ => rfl) (by kernel_rfl!) (by kernel_rfl!) (by kernel_rfl!)
  tb_rel
  refine ⟨_, (vs.length : Int), _, _, _, (fun i s => ∃ og kg vw kw ou ku, look s.m "numbers" = some (.ref l) ∧ look s.m "given" = some (.ref dg) ∧ look s.m "written" = some (.ref lw) ∧ look s.m "due" = some (.ref du) ∧ s.news = (du, ou) :: (lw, lst vw kw) :: (dg, og) :: st.news ∧
    og.IsDictOf (strKind prog C'.w) kg ∧ DxA kg (gl ns i) ∧ TxA vw (wl ns i) ∧ ou.IsDictOf (strKind prog C'.w) ku ∧ DxA ku (ul ns i)), rfl, by mem_news, ⟨by omega, by omega⟩, ?_⟩
  refine ⟨fun i s2 _ p hp => (nomatch hp), ?_, ?_, ?_⟩
  · exact ⟨_, .cons _ (.cons _ (.refl _)), og, [], [], 0, ou, [], by krn_off, by krn_off, by krn_off, by krn_off, rfl, hg, .nil, .nil, hu, .nil⟩
  · rintro i v st₂ I oI hi ⟨ti, rfl⟩ ⟨og, kg, vw, kw, ou, ku, h1, h2, h3, h4, h5, hg, hG, hW, hu, hU⟩
    obtain ⟨m₂, n₂⟩ := st₂
    dsimp only at h1 h2 h3 h4 h5 ⊢
    subst h5
    have hi' : i < vs.length := by omega
    have hi8 : i < 8 := by omega
    obtain ⟨ta, hta⟩ := hx.get (List.getElem?_eq_getElem (show i < ns.length by omega))
    have hga : ns.getD i 0 = ns[i] := by rw [List.getD_eq_getElem?_getD, List.getElem?_eq_getElem (show i < ns.length by omega)]; rfl
    have hGs := gl_put ns i hi8
    have hUs := ul_put ns i hi8
    have hWs := wl_succ ns i
    rw [hga] at hGs hUs hWs
    generalize ns[i] = a at hta hGs hUs hWs
    have hgl := hG.length
    have hul := hU.length
    have hwl := hW.length
    rw [gl_length] at hgl
    rw [ul_length] at hul
    rw [wl_length] at hwl
    have num : ∀ {Q : Value → St → Prop} {st₂ : St} {value slice : PySem.Expr} {u : Tok}, (l, lst vs n) ∈ st₂.news → Q (.int a ta) st₂ →
        subscripted slice false (.ref l) (.int (i : Int) u) = operate [.ref l, .int (i : Int) u] (getItem (.ref l) (.int (i : Int) u)) → Ev C' NoE (subscriptTail value slice (.ref l) (.int (i : Int) u)) st₂ Q := fun hm hq hs =>
      o_item_list hm (by omega) (by omega) hta hq hs
    have f0 := Int.fmod_nonneg_of_pos a (show (0 : Int) < 4 by decide)
    have f1 := Int.fmod_lt_of_pos a (show (0 : Int) < 4 by decide)
    obtain ⟨b1, b2, b3, b4⟩ := kn_ok2 _ (kj a) i hi8
    obtain ⟨a1, a2, a3, a4, a5, a6⟩ := kn_ok1 _ (kj a) i hi8
    obtain ⟨c1, c2, c3, c4, c5, c6⟩ := kn_ok3 _ (kj a) i hi8
    tb_rel
    refine num (by mem_news) ?_ (by with_unfolding_all rfl)
    tb_rel
    obtain ⟨tk, htk⟩ := key_at a
    refine o_item_list (by mem_news) f0 (by omega) htk ?_ (by with_unfolding_all rfl)
    tb_rel
    refine m_strint ?_ fun t6 => ?_
    · exact (show ∀ j : Nat, j < 8 → (j : Int).natAbs.log2 < 1920 by decide +kernel) i hi8
    refine o_add_str ?_ fun t7 => ?_
    · have e := str_length_append (lawKeys.getD (a.fmod 4).toNat "") (toString (i : Int) : Str)
      have e2 : ((lawKeys.getD (a.fmod 4).toNat "") ++ (toString (i : Int) : Str)).length ≤ 10 := b1
      rw [sizeLine_eq]; omega
    rw [show (lawKeys.getD (a.fmod 4).toNat "") ++ (toString (i : Int) : Str) = kn (a.fmod 4).toNat i from rfl]
    generalize hkn : kn (a.fmod 4).toNat i = key at *
    refine Ev.weak (news' := (I, oI) :: (du, ou) :: (lw, lst vw kw) :: (dg, og) :: st.news) (.cons _ (.refl _)) ?_
    refine x_cons (Ev.mono (Q := fun f st' => f = .next ∧ ∃ v, optIs (dval a) v ∧ st' = ⟨put "value" v (put "name" (.str key t7) (put "place" (.int i ti) m₂)), (I, oI) :: (du, ou) :: (lw, lst vw kw) :: (dg, og) :: st.news⟩) ?_ ?_)
    · tb_rel
      refine num (by mem_news) ?_ (by with_unfolding_all rfl)
      tb_rel
      cases hb : (a.fmod 3 == 0) with
      | true =>
        have e : dval a = none := by unfold dval; rw [if_pos (by simpa using hb)]
        refine ite_t ?_
        tb_rel
        exact ⟨rfl, _, by rw [e]; rfl, rfl⟩
      | false =>
        have e : dval a = some (lawText (a.fdiv 2)) := by unfold dval; rw [if_neg (by simpa using hb)]
        refine ite_f ?_
        tb_rel
        refine num (by mem_news) ?_ (by with_unfolding_all rfl)
        tb_rel
        refine law_text (by omega) fun u1 => ?_
        exact ⟨rfl, _, by rw [e]; exact ⟨_, rfl⟩, rfl⟩
    · rintro f st' ⟨rfl, v, hv, rfl⟩
      have s1 : ("*" : Str).length = 1 := by decide
      have s2 : ("*=utf-8''%E2%82%AC" : Str).length = 18 := by decide
      have s3 : ("=" : Str).length = 1 := by decide
      have hkz : kg.length ≤ sizeLine := by rw [sizeLine_eq]; omega
      have huz : ku.length ≤ sizeLine := by rw [sizeLine_eq]; omega
      tb_rel
      refine num (by mem_news) ?_ (by with_unfolding_all rfl)
      tb_rel
      cases hb : (a.fmod 7 == 6) with
      | true =>
        have h76 : a.fmod 7 = 6 := by simpa using hb
        have eg : gpair a i = (key ++ "*", some euro) := by unfold gpair; rw [if_pos h76, ← hkn]; rfl
        have eu : upair a i = (key, some ("€" : Str)) := by unfold upair; rw [if_pos h76, ← hkn]; rfl
        have ew : wtext a i = key ++ "*=utf-8''%E2%82%AC" := by
          unfold wtext
          rw [eg]
          unfold dpiece
          dsimp only
          rw [if_pos c4]
          apply str_ext
          rw [app_toList, app_toList, app_toList, app_toList, List.append_assoc, List.append_assoc]
          rfl
        rw [eg] at hGs
        rw [eu] at hUs
        rw [ew] at hWs
        refine ite_t ?_
        tb_rel
        refine o_dict_set (g := fun o' => (I, oI) :: (du, ou) :: (lw, lst vw kw) :: (dg, o') :: st.news) hg hkz (fun o' => by k_upd) fun og' hg' => ?_
        tb_rel
        refine o_dict_set (g := fun o' => (I, oI) :: (du, o') :: _ :: (dg, og') :: st.news) hu huz (fun o' => by k_upd) fun ou' hu' => ?_
        tb_rel
        exact ⟨_, .refl _, og', _, _, _, ou', _, by krn_off, by krn_off, by krn_off, by krn_off, rfl, hg', hGs ▸ hG.put ⟨_, rfl⟩, hWs ▸ hW.append (.cons .nil), hu', hUs ▸ hU.put ⟨_, rfl⟩⟩
      | false =>
        have h76 : ¬ a.fmod 7 = 6 := by simpa using hb
        have eg : gpair a i = (key, dval a) := by unfold gpair; rw [if_neg h76, ← hkn]; rfl
        have eu : upair a i = (key, dval a) := by unfold upair; rw [if_neg h76, ← hkn]; rfl
        have ew : wtext a i = (match dval a with | none => key | some v => key ++ "=" ++ dumped v) := by
          unfold wtext
          rw [eg]
          unfold dpiece
          dsimp only
          cases dval a with
          | none => rfl
          | some v => dsimp only; rw [a4, if_neg Bool.false_ne_true]
        rw [eg] at hGs
        rw [eu] at hUs
        rw [ew] at hWs
        have hdl : ∀ w, dval a = some w → w.length ≤ 5 := fun w e => by
          unfold dval at e
          split at e
          · cases e
          · cases e; exact lawText_len _
        generalize dval a = dv at *
        refine ite_f ?_
        tb_rel
        refine o_dict_set (g := fun o' => (I, oI) :: (du, ou) :: (lw, lst vw kw) :: (dg, o') :: st.news) hg hkz (fun o' => by k_upd) fun og' hg' => ?_
        tb_rel
        cases dv with
        | none =>
          cases hv
          tb_rel
          refine o_dict_set (g := fun o' => (I, oI) :: (du, o') :: _ :: (dg, og') :: st.news) hu huz (fun o' => by k_upd) fun ou' hu' => ?_
          tb_rel
          exact ⟨_, .refl _, og', _, _, _, ou', _, by krn_off, by krn_off, by krn_off, by krn_off, rfl, hg', hGs ▸ hG.put rfl, hWs ▸ hW.append (.cons .nil), hu', hUs ▸ hU.put rfl⟩
        | some w =>
          obtain ⟨tw, rfl⟩ := hv
          have hw5 := hdl w rfl
          have hdu := dumped_length w
          have hae := str_length_append key "="
          tb_rel
          refine law_dumped (by omega) (by omega) fun u4 => ?_
          tb_rel
          refine o_dict_set (g := fun o' => (I, oI) :: (du, o') :: _ :: (dg, og') :: st.news) hu huz (fun o' => by k_upd) fun ou' hu' => ?_
          tb_rel
          exact ⟨_, .refl _, og', _, _, _, ou', _, by krn_off, by krn_off, by krn_off, by krn_off, rfl, hg', hGs ▸ hG.put ⟨_, rfl⟩, hWs ▸ hW.append (.cons .nil), hu', hUs ▸ hU.put ⟨_, rfl⟩⟩
  · rintro ⟨m₂, n₂⟩ ⟨og, kg, vw, kw, ou, ku, h1, h2, h3, h4, h5, hg, hG, hW, hu, hU⟩
    dsimp only at h1 h2 h3 h4 h5 ⊢
    subst h5
    rw [Int.toNat_natCast, hl] at hG hW hU
    have wz : ∀ z ∈ wl ns ns.length, z.length ≤ 60 := fun z hz => by
      obtain ⟨i, hi, rfl⟩ := List.mem_map.mp hz
      exact (w_ok _ i (by have := List.mem_range.mp hi; omega)).2.2.2
    have hjs : jsum ", " (wl ns ns.length) ≤ 1000 := by
      refine Nat.le_trans (jsum_le (n := 60) wz) ?_
      rw [wl_length, show (", " : Str).length = 2 by decide]
      omega
    have hjl := Nat.le_trans (join_length ", " (wl ns ns.length)) hjs
    tb_rel
    refine m_join (by mem_news) hW (joinOk_of (by rw [sizeLine_eq]; omega)) fun t1 => ?_
    tb_rel
    refine dump_dict log (by mem_news) hg hG (by rw [gl_length]; omega) (gl_sz ns _ (by omega)) (by omega) fun t2 => ?_
    rw [← wl_eq]
    tb_rel
    rw [bne_self_eq_false]
    tb_rel
    refine parse_dict (rs := (ul ns ns.length).map some) (by omega) (by rw [wl_plist ns _ (by omega)]; exact wl_DIs ns _ (by omega)) (by rw [List.length_map, ul_length]; omega) (by omega) fun d3 o3 k3 lo3 hd3 hD3 => ?_
    rw [ul_dfold ns _ (by omega)] at hD3
    have hk3 := hD3.length
    have hku := hU.length
    rw [ul_length] at hk3 hku
    tb_rel
    refine gm_items (.head _) hd3 ?_
    tb_rel
    refine m_items lo3 (.head _) hd3 fun vw => ?_
    tb_rel
    refine o_list_items (.head _) (.tail _ (.head _)) hd3 hD3 (by omega) fun B c vs3 tups hP3 => ?_
    tb_rel
    refine gm_items (List.mem_append_right _ (by mem_news)) hu ?_
    tb_rel
    refine m_items lou (List.mem_append_right _ (by mem_news)) hu fun vw2 => ?_
    tb_rel
    refine o_list_items (.head _) (.tail _ (List.mem_append_right _ (by mem_news))) hu hU (by omega) fun B2 c2 vs4 tups2 hP4 => ?_
    tb_rel
    refine o_ne_pairs (List.mem_append_right _ (.tail _ (.tail _ (List.mem_append_right _ (.head _))))) (List.mem_append_right _ (.head _)) (hP3.mono fun p hp => List.mem_append_right _ (.tail _ (.tail _ (List.mem_append_left _ hp)))) (hP4.mono fun p hp => List.mem_append_left _ hp) ?_
    tb_rel
    refine Ev.weak (news' := st.news) (Sub.left _ (.cons _ (.cons _ (Sub.left _ (.cons _ (.cons _ (.cons _ (.cons _ (.cons _ (.cons _ (.refl _))))))))))) ?_
    clear hg hG hW hu hU hP3 hP4 hd3 hD3 h2 h3 h4
    refine x_swap2 ?_ (by with_unfolding_all rfl) (by with_unfolding_all rfl) (by kernel_rfl!) (by kernel_rfl!) (by kernel_rfl!) (by kernel_rfl!)
    tb_rel
    refine e_dict0 fun d2 o2 lo2 hd2 => ?_
    tb_rel
    rename_i tt2 tp2
    refine ⟨tp2, _, _, _, rfl, .head _, ?_⟩
    tb_rel
    refine x_for_list ?_ (fun _ => rfl) (by kernel_rfl!) (by kernel_rfl!) (by kernel_rfl!)
    tb_rel
    refine ⟨l, vs, n, (fun i s => ∃ o kvs t, look s.m "numbers" = some (.ref l) ∧ look s.m "due" = some (.ref d2) ∧ look s.m "text" = some (.str (ptxt (ns.take i)) t) ∧ s.news = (d2, o) :: st.news ∧ o.IsDictOf (strKind prog C'.w) kvs ∧ DxA kvs (pdue (ns.take i))), rfl, by mem_news, ?_⟩
    refine ⟨?_, ?_, ?_, ?_⟩
    · rintro i s2 ⟨o, kvs, t, g1, g2, g3, g4, g5, g6⟩ p hp
      rw [List.mem_singleton.mp hp, g4]; exact .tail _ hm
    · exact ⟨_, .cons _ (.refl _), o2, [], tt2, by krn_off, by krn_off, by (show look _ _ = some (.str "" tt2)); krn_off, rfl, hd2, .nil⟩
    · rintro i v st₂ I oI hi hv ⟨o, kvs, t, g1, g2, g3, g4, g5, g6⟩
      obtain ⟨m₂, n₂⟩ := st₂
      dsimp only at g1 g2 g3 g4 ⊢
      subst g4
      obtain ⟨a, ta, ha, rfl⟩ := hx.at hv
      have hT0 : ns.take (i + 1) = ns.take i ++ [a] := by rw [List.take_add_one, ha]; rfl
      rw [hT0]
      have z1 := ptxt_length (ns.take i)
      have z2 := pdue_length (ns.take i)
      have z6 := List.length_take_le i ns
      have z7 := g6.length
      have z3 := (psep_ok a).2
      have z4 := (pairOf_ok a).2.1
      have z8 := str_length_append (ptxt (ns.take i)) (psep a)
      have f0 := Int.fmod_nonneg_of_pos a (show (0 : Int) < 15 by decide)
      have f1 := Int.fmod_lt_of_pos a (show (0 : Int) < 15 by decide)
      refine x_cons ?_
      refine x_tup3 ?_ (by kernel_rfl!) (by kernel_rfl!) (by kernel_rfl!) (by kernel_rfl!) (by kernel_rfl!) (by kernel_rfl!) (by kernel_rfl!)
      tb_rel
      refine law_pairs (j := (a.fmod 15).toNat) (by omega) (by omega) fun l2 vs2 tl ⟨t3, a3, b3, v3, ht3, hm3, hv3⟩ => ?_
      tb_rel
      refine o_item_list (.head _) f0 (by omega) ht3 ?_ (by with_unfolding_all rfl)
      refine ⟨t3, _, _, _, _, rfl, .inl (.tail _ (List.mem_append_left _ hm3)), ?_⟩
      refine Ev.weak (news' := (I, oI) :: (d2, o) :: st.news) (.cons _ (Sub.left tl (.refl _))) ?_
      rw [show pairAt (a.fmod 15).toNat = pairOf a from rfl]
      tb_rel
      refine o_item_str (by mem_news) (Int.fmod_nonneg_of_pos _ (by decide)) (by have := Int.fmod_lt_of_pos (a.fdiv 15) (show (0 : Int) < 3 by decide); omega) psep_at (fun t9 => ?_) (by with_unfolding_all rfl)
      tb_rel
      rw [pdue_snoc, ptxt_snoc]
      by_cases hn : (pairOf a).2.1 = ""
      · refine ite_cf (by rw [hn]; rfl) ?_
        tb_rel
        rw [if_pos hn]
        exact ⟨_, .cons _ (.refl _), o, kvs, _, by krn_off, by krn_off, by krn_off, rfl, g5, g6⟩
      · refine ite_ct (by simpa using hn) ?_
        tb_rel
        refine o_dict_set (g := fun o' => _ :: (I, oI) :: (d2, o') :: st.news) g5 (by rw [sizeLine_eq]; omega) (fun o' => by k_upd) fun o' hd' => ?_
        tb_rel
        rw [if_neg hn]
        exact ⟨_, .cons _ (.refl _), o', _, _, by krn_off, by krn_off, by krn_off, rfl, hd', g6.put hv3⟩
    · rintro ⟨m₂, n₂⟩ ⟨o, kvs, t, g1, g2, g3, g4, g5, g6⟩
      dsimp only at g1 g2 g3 g4 ⊢
      subst g4
      rw [hl, List.take_length] at g3 g6
      obtain ⟨due, rs, R, hI, hrl, hrf⟩ := pair_rd ns
      have z1 := ptxt_length ns
      have z2 := pdue_length ns
      have z7 := g6.length
      have s5 : (",k=\"open" : Str).length = 8 := by decide
      have s6 := str_length_append (ptxt ns) ",k=\"open"
      tb_rel
      refine parse_dict (rs := rs) (by omega) (by rw [R.plist]; exact hI) (by omega) (by omega) fun d3 o3 k3 lo3 hd3 hD3 => ?_
      rw [hrf] at hD3
      have hk3 := hD3.length
      tb_rel
      refine gm_items (.head _) hd3 ?_
      tb_rel
      refine m_items lo3 (.head _) hd3 fun vw3 => ?_
      tb_rel
      refine o_list_items (.head _) (.tail _ (.head _)) hd3 hD3 (by omega) fun B3 c3 vs5 tups3 hP5 => ?_
      tb_rel
      refine gm_items (List.mem_append_right _ (by mem_news)) g5 ?_
      tb_rel
      refine m_items lo2 (List.mem_append_right _ (by mem_news)) g5 fun vw4 => ?_
      tb_rel
      refine o_list_items (.head _) (.tail _ (List.mem_append_right _ (by mem_news))) g5 g6 (by omega) fun B4 c4 vs6 tups4 hP6 => ?_
      tb_rel
      refine o_eq_pairs (List.mem_append_right _ (.tail _ (.tail _ (List.mem_append_right _ (.head _))))) (List.mem_append_right _ (.head _)) (hP5.mono fun p hp => List.mem_append_right _ (.tail _ (.tail _ (List.mem_append_left _ hp)))) (hP6.mono fun p hp => List.mem_append_left _ hp) ?_
      tb_rel
      refine Ev.weak (news' := st.news) (Sub.left _ (.cons _ (.cons _ (Sub.left _ (.cons _ (.cons _ (.cons _ (.cons _ (.refl _))))))))) ?_
      refine parse_dict (rs := []) (by omega) (by rw [open3 R]; exact .nil) (by decide) (by omega) fun d5 o5 k5 lo5 hd5 hD5 => ?_
      tb_rel
      refine e_dict0 fun d6 o6 lo6 hd6 => ?_
      cases hD5
      refine o_eq_dict0 lo5 lo6 (.tail _ (.head _)) (.head _) hd5 hd6 ?_
      exact ⟨_, .cons _ (.cons _ (.refl _)), h⟩
end
end Mine
end
section
open PySem PySem.W PyProof.Rows PySem.Calls PySem.Spec
namespace Mine
section
variable {C : Cx} {E : Value → Shared → Prop} {st : St}
theorem o_uptoB {value slice : PySem.Expr} {vs : List Value} {l d : Addr} {o : Obj} {i : Int} {t : Tok} {Q : Value → St → Prop} (hl : C.h₀.IsList d vs.toArray) (hm : (l, o) ∈ st.news) (ho : o = slc .none (.int i t)) (h0 : 0 ≤ i) (hz : vs.length ≤ sizeLine)
    (h : ∀ r, Q (.ref r) ⟨st.m, (r, lst (vs.take i.toNat) 0) :: st.news⟩)
    (hs : subscripted slice false (.ref d) (.ref l) = operate [.ref l, .ref d] (getItem (.ref d) (.ref l))) : Ev C E (subscriptTail value slice (.ref d) (.ref l)) st Q := fun s H => by
  subst ho
  have hL : s.heap.IsList d vs.toArray := let ⟨o, e, r⟩ := hl; ⟨o, H.F.keep _ _ e, r⟩
  refine tail_any hL.typeIs slot_list_getitem.lookup ?_ hs
  refine wpAny_getItem_list_slice hL ⟨_, H.get hm, rfl, rfl⟩ (optV_part none) (optV_part (some (i, t))) .none (by simp) ?_ (by rw [List.size_toArray]; exact hz)
  refine ⟨_, H.toHeld.alloc (tk := s.toks) rfl, ?_⟩
  have e := slicePick_upto' vs.toArray i.toNat
  rw [Int.toNat_of_nonneg h0] at e
  show Q (.ref _) ⟨st.m, (_, lst (slicePick vs.toArray none (some i) none).toList 0) :: st.news⟩
  rw [e]
  exact h _
end
abbrev tabs3 : List (Addr × Addr) := [(52, 48), (64, 60), (74, 72)]
theorem enter_law {w : World} {mg mb : Str → Option Value} {g h₁ : Heap} {L fa l : Addr} {cd : Value} {name : Str} {scope : Scope} {body : List Stmt} {dr : Drawn} {tk : Nat} {os : OsState} {R : Flow → Shared → Prop} {E : Value → Shared → Prop}
    (T : Bs w mg mb g) (B : Below callerA g [] g) (F : Fr g L h₁ (look [("script", .ref l)])) (N : News g L h₁ [(48, tabObj #[]), (60, tabObj #[]), (72, tabObj #[])]) (htk : 0 < tk) (hk : scope.kind = .function)
    (main : ∀ C : Cx, C.room = 100 → C.h₀ = g → C.env = envOf name scope C.L fa cd → EvS C NoE (execs body (envOf name scope C.L fa cd)) ⟨[("script", .ref l)], []⟩ fun C₂ f st' => f = .ret (.bool true))
    (fin : ∀ s', (∀ b o, g.get? b = some o → s'.heap.get? b = some o) → s'.os = os → AllBare s'.gens → GrownAll tabs3 s'.heap → R (.ret (.bool true)) s') :
    wpAny (model prog w) (callerA.deeper (envOf name scope L fa cd)) (execs body (envOf name scope L fa cd)) R E { heap := h₁, gens := #[], drawn := dr, toks := tk, os := os } := by
  let C : Cx := {
    w := w, mg := mg, mb := mb, A₀ := callerA, A := callerA.deeper (envOf name scope L fa cd), base := g, outer := [], h₀ := g, L := L, env := envOf name scope L fa cd, os := os, gb := #[], u0 := none, sb := 0, room := 100
    B := B, T := T, Tg := T, kd := ktsDicts_nil, fr := rfl, ef := rfl, el := rfl, eg := rfl, eb := rfl, ek := hk, hh := rfl, gd := rfl
    dp := by show 1 + 300 + 1 + 100 < 1000; decide
    un := by show 4 + 3 + 8 * 100 + 8 < 9900; decide }
  have H : Holds C ⟨[("script", .ref l)], []⟩ { heap := h₁, gens := #[], drawn := dr, toks := tk, os := os } := by
    refine ⟨⟨⟨none, none, none⟩, F, fun p hp => N p ?_, by show ([48, 72, 60] : List Nat).Nodup; decide, trivial, rfl, .empty, fun k hk => absurd hk (Nat.not_lt_zero k), fun q e => (nomatch e), fun q e => e⟩, htk, Nat.zero_le _⟩
    rcases List.mem_cons.mp hp with rfl | hp
    · exact .head _
    rcases List.mem_cons.mp hp with rfl | hp
    · exact .tail _ (.tail _ (.head _))
    rcases List.mem_cons.mp hp with rfl | hp
    · exact .tail _ (.head _)
    · cases hp
  refine wpAny_mono (main C rfl rfl rfl _ H) (fun f s' q => ?_) (fun _ _ q => q.elim)
  obtain ⟨C₂, st', TU, H', rfl⟩ := q
  obtain ⟨g₂, B₂, T₂, kd₂, KT, rfl⟩ := TU
  refine fin s' (fun b o e => H'.F.keep b o (KT.other b o e List.not_mem_nil)) H'.os H'.gens ⟨?_, ?_, ?_, trivial⟩
  · have h := (H'.N (48, tabG 32 15 H'.δ.q) (List.mem_append_right _ (.head _))).1
    cases hq : H'.δ.q with
    | none => rw [hq] at h; exact ⟨_, h⟩
    | some v => rw [hq] at h; exact ⟨_, h⟩
  · cases hq : H'.δ.u with
    | none => exact ⟨_, (H'.N (60, tabObj #[]) (List.mem_append_right _ (.tail _ (.tail _ (by rw [hq]; exact .head _))))).1⟩
    | some v => exact ⟨_, (H'.N (60, tabObj #[rawInt (39 : Nat), rawInt (31 : Nat), .ref v.1]) (List.mem_append_right _ (.tail _ (.tail _ (by rw [hq]; exact .head _))))).1⟩
  · have h := (H'.N (72, tabG 81 51 H'.δ.p) (List.mem_append_right _ (.tail _ (.head _)))).1
    cases hq : H'.δ.p with
    | none => rw [hq] at h; exact ⟨_, h⟩
    | some v => rw [hq] at h; exact ⟨_, h⟩
/-- what is asked behind the law's run -/
theorem my_post {M : Model} {A : Around} {cd : Code} {s s₁ : Shared} {cw : ClaimW} {cl : Str → Option Addr} {mean : ExcName → Option Value} {args : List WData} (hT : TabsAt tabs3 s₁.heap) (hr : ∀ x, cw.raises args x = false) (hp : cw.post args (ofPy (.bool true)) args = true)
    (hd : ∀ h, ReadsW cw.records cl h (.bool true) (ofPy (.bool true)) [])
    (h : codeAny M A cd (fun r s' => r = .ok (.ret (.bool true)) ∧ (∀ b o, (ghostOf s₁.heap tabs3).get? b = some o → s'.heap.get? b = some o) ∧ s'.os = s₁.os ∧ AllBare s'.gens ∧ GrownAll tabs3 s'.heap) s) : codeAny M A cd (GoodWG cw cl mean args s₁) s :=
  codeAny_mono h fun r s' ⟨hc, hk, hos, hg, hgr⟩ => by
    have keep : ∀ b o, b ∉ tabs3.map (·.2) → s₁.heap.get? b = some o → s'.heap.get? b = some o := fun b o hb e => hk b o (ghost_ne e hb)
    have grown : ∀ b o, b ∈ tabs3.map (·.2) → s₁.heap.get? b = some o → isCodeTable s₁.heap b ∧ o = tabObj #[] ∧ ∃ ps, s'.heap.get? b = some (tabObj ps) := fun b o hb e => by
      obtain ⟨q, hq, rfl⟩ := List.mem_map.mp hb
      have e2 := (hT q hq).2
      rw [e] at e2
      exact ⟨((hT q hq).1.tab (hT q hq).2).isCodeTable, Option.some.inj e2, hgr.get q hq⟩
    refine ⟨.inl ⟨_, _, [], hc, hr, hd _, hp, fun _ => ⟨List.nodup_nil, fun a ha => (nomatch ha)⟩⟩, ⟨fun b o e => ?_, fun b o e => ?_⟩, hos, hg⟩
    · by_cases hb : b ∈ tabs3.map (·.2)
      · obtain ⟨ht, rfl, ps, hP⟩ := grown b o hb e
        exact .inr (.inl ⟨ht, rfl, #[], ps, rfl, by rw [Array.empty_append]; exact hP⟩)
      · exact .inl (keep b o hb e)
    · by_cases hb : b ∈ tabs3.map (·.2)
      · obtain ⟨_, _, ps, hP⟩ := grown b o hb e
        exact ⟨_, hP⟩
      · exact ⟨o, keep b o hb e⟩
end Mine
end
namespace Mine
theorem ixa_of {vs : List Value} {ns : List Int} (h : IntsAre vs ns) : IxA vs ns := by
  induction h with
  | nil => exact .nil
  | cons n t h ih => exact .cons ih
end Mine
set_option maxHeartbeats 40000000 in
theorem PySem.Challenge.cw_fi0022_01_holds : PySem.Challenge.rw_fi0022_01.Holds := by
  w_on
  o_law
  o_head (kmHook Mine.hd.heap_1 [2, 3, 32, 34, 35, 37, 38, 39, 41, 42, 44, 45, 46, 47, 49, 50, 52, 53, 57, 58, 59, 61, 62, 64, 65, 66, 69, 70, 71, 74, 75, 76, 78, 79, 81, 82, 86, 87, 88, 89, 91, 92, 94, 95, 103, 104, 107, 108, 109, 111, 112, 114, 115, 116, 118, 119, 121, 122, 123, 125, 126, 128, 129, 130, 132, 133, 135, 136, 137, 139, 140, 142, 143, 144, 146, 147, 149, 150, 151, 153, 154, 156, 157, 158, 159, 161, 162, 164, 165, 166, 168, 169, 171, 172, 173, 175, 176, 178, 179, 180, 182, 183, 185, 186, 187, 189, 190, 192, 193, 194, 196, 197, 199, 200, 201, 203, 204, 206, 207, 208, 210, 211, 213, 214, 215, 217, 218, 220, 221, 222, 224, 225, 227, 228, 229, 231, 232, 234, 235, 236, 237, 238, 239, 240, 243, 245, 246, 248, 249, 250, 251, 252, 253, 254, 255, 256, 257, 258, 259, 260, 261, 262, 263, 264, 265, 266, 267, 268, 269, 271, 272, 274, 275, 276, 278, 279, 281, 282, 283, 285, 286, 288, 289, 290, 292, 293, 295, 296, 297, 300, 301, 302, 304, 305, 307, 308, 309, 311, 312, 314, 315, 316, 318, 319, 321, 322, 323, 325, 326, 328, 329, 330, 333, 334, 335, 337, 338, 340, 341] (fun _ => by kernel_rfl) [48, 60, 72])
  (case hw => w_witness2)
  k_fill
  intro w s₀ s₁ mg mb G Y fa o pm cd doc dV kV ho hd hcd hD hmg hg args vals as hpre hlay hrd hwl hlo
  have KX := km_in_of Y
  have hT8 := km_tabs_of Y
  refine Ground.open G ?_
  intro T B D TE TW
  try (refine guard_noD D (by decide +kernel) ?_; clear D)
  have hT9 : TabsAt ([(52, 48), (64, 60), (74, 72)] : List (Addr × Addr)) s₁.heap :=
    List.forall_mem_cons.mpr ⟨⟨codeHd_of_K (c := 52) (P := 48) KX (by kernel_rfl), hT8 48 (by decide)⟩, List.forall_mem_cons.mpr ⟨⟨codeHd_of_K (c := 64) (P := 60) KX (by kernel_rfl), hT8 60 (by decide)⟩,
      List.forall_mem_cons.mpr ⟨⟨codeHd_of_K (c := 74) (P := 72) KX (by kernel_rfl), hT8 72 (by decide)⟩, fun _ h => nomatch h⟩⟩⟩
  clear hmg
  wrow_args hpre hlay hrd hwl hlo
  refine enter_call ?_
  w_top on
  refine my_post hT9 (fun _ => rfl) (by first | with_unfolding_all rfl | kernel_rfl | kernel_rfl!) (fun h => ?_) ?_
  · exact ReadsW.bool true
  w_call any ho hd hcd hD T F
  clear hd
  kn_ghosts F T
  rename Frag.In _ _ => X'
  rename Top _ _ _ _ _ _ => T'
  rename Below _ _ _ _ => K'
  rename Fr _ _ _ _ => F'
  rename News _ _ _ _ => N'
  rename IntsAre _ _ => hI
  rename Heap.IsList _ _ _ => hL
  rw [hg]
  refine enter_law ⟨X', T'.g, T'.b, T'.nolimit, T'.builtins, T'.bmain⟩ K' F' N' (by show 0 < s₁.toks + 1; omega) rfl (fun C hroom hh0 henv => ?_) (fun s' a b c d => ⟨rfl, a, b, c, d⟩)
  have hl := hI.length
  have hx := ixa_of hI
  have hL' := hh0 ▸ hL
  clear G Y ho hcd T B TE TW hT9 hT8 X' T' K' F' N'
  refine xs_first ?_
  tb_rel
  refine o_uptoB hL' (.head _) rfl (by omega) (by rw [sizeLine_eq]; omega) (fun r => ?_) (by with_unfolding_all rfl)
  tb_rel
  have hlen : ∀ ns : List Int, (ns.take 6 ++ [73, 10]).length ≤ 8 := fun ns => by rw [List.length_append, List.length_take]; show _ + 2 ≤ 8; omega
  have hx2 := fun t u => (hx.take 6).append (IxA.cons (i := 73) (t := t) (IxA.cons (i := 10) (t := u) IxA.nil))
  refine xs_cons (xs_return (es_and ?_))
  tb_rel
  refine law_lists (.head _) (hx2 _ _) (Nat.le_trans (hlen _) (by decide)) (by simp) (by omega) ?_
  tb_rel
  refine es_and ?_
  tb_rel
  refine law_dicts (.head _) (hx2 _ _) (hlen _) (by omega) ?_
  tb_rel
  refine es_bool1 (es_call ?_ (by kernel_rfl!))
  tb_rel
  refine cws_def (by kernel_rfl!) ?_ (by kernel_rfl!)
  tb_rel
  exact law_sets (.head _) (hx2 _ _) (hlen _) (by omega) fun C₂ T => rfl
