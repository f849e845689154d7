import PyProof.Rows.All
import Wide.All
import OpenK.AllK
import Wide.FinOn
import KE.KxPercentT
import KE.KIntText
import Lean
import PySem.Challenge.RW_pk0066_01
set_option Elab.async false
set_option maxRecDepth 100000
set_option linter.unusedVariables false
namespace Mine
open PySem PySem.W PyProof.Rows PySem.Calls
set_option Elab.async false
set_option maxRecDepth 100000
set_option linter.unusedVariables false

/-! the text's parts, by place -/
def stm (k : Nat) : Stmt := (PySem.Challenge.pw_pk0066_01.main.body)[k]?.getD (.Pass ⟨0,0,0,0⟩)
def stBody : Stmt → List Stmt | .FunctionDef _ _ b _ _ _ _ _ _ _ => b | _ => []
def stScope : Stmt → Scope | .FunctionDef _ _ _ _ _ _ s _ _ _ => s | _ => default
def stArgs : Stmt → Arguments | .FunctionDef _ a _ _ _ _ _ _ _ _ => a | _ => default
def stPos : Stmt → Pos | .FunctionDef _ _ _ _ _ _ _ _ _ p => p | _ => default

abbrev prog66 : Program := PySem.Challenge.pw_pk0066_01
abbrev PH := Addr → Option Obj
def Le (σ τ : PH) : Prop := ∀ a o, σ a = some o → τ a = some o
theorem Le.refl (σ : PH) : Le σ σ := fun _ _ e => e
theorem Le.trans {σ τ υ : PH} (a : Le σ τ) (b : Le τ υ) : Le σ υ := fun x o e => b x o (a x o e)
def Sub (σ : PH) (h : Heap) : Prop := ∀ a o, σ a = some o → h.get? a = some o

def tabA : List Addr := [124, 110, 103, 117]
def Grow (h h' : Heap) : Prop := ∀ b o, b ∉ tabA → h.get? b = some o → h'.get? b = some o
theorem Grow.refl (h : Heap) : Grow h h := fun _ _ _ e => e
theorem Grow.trans {h h' h'' : Heap} (a : Grow h h') (b : Grow h' h'') : Grow h h'' := fun x o n e => b x o n (a x o n e)
theorem Grow.of_keep {h h' : Heap} (k : ∀ b o, h.get? b = some o → h'.get? b = some o) : Grow h h' := fun b o _ e => k b o e

def tabQ : List (Addr × Str) := [(124, "_law_doors.<locals>.search"), (110, "_law_prog.<locals>.<lambda>"), (103, "_law_hit.<locals>.<lambda>"), (117, "_law_nodes.<locals>.search")]
def CodeP (σ : PH) (cv : Value) (q : Str) : Prop := ∃ c o vs t, cv = .ref c ∧ σ c = some o ∧ o.data = .fields vs ∧ vs[1]? = some (.str q t)
theorem CodeP.mono {σ τ : PH} {cv : Value} {q : Str} (k : Le σ τ) (x : CodeP σ cv q) : CodeP τ cv q := let ⟨c, o, vs, t, h1, h2, r⟩ := x; ⟨c, o, vs, t, h1, k _ _ h2, r⟩
theorem CodeP.rec' {σ : PH} {h : Heap} {cv : Value} {q : Str} (k : Sub σ h) (x : CodeP σ cv q) : h.CodeRec cv q := let ⟨c, o, vs, t, h1, h2, r⟩ := x; ⟨c, o, vs, t, h1, k _ _ h2, r⟩
def TI (σ : PH) (h : Heap) : Prop := ∀ q ∈ tabQ, ∃ ps, h.get? q.1 = some (tabObj ps) ∧ TriplesOk ps.toList ∧ ∀ pos cv, codeAmong pos ps.toList = some cv → CodeP σ cv q.2
theorem TI.keeps {σ τ : PH} {h h' : Heap} (t : TI σ h) (k : ∀ b o, h.get? b = some o → h'.get? b = some o) (l : Le σ τ) : TI τ h' := fun q hq => by
  obtain ⟨ps, a, b, c⟩ := t q hq
  exact ⟨ps, k _ _ a, b, fun pos cv e => (c pos cv e).mono l⟩

def fnTab : List (Nat × Str) := [(1, "search_reverse"), (2, "get_line_col"), (5, "_escape_cdata"), (6, "_escape_attrib"), (7, "_escape_attrib_html"), (8, "_escape_cdata_c14n"), (9, "_escape_attrib_c14n"),
  (11, "_law_tables"), (12, "_law_spell"), (13, "_law_row"), (14, "_law_due"), (15, "_law_tree"), (16, "_law_hit"), (17, "_law_prog"), (18, "_law_nodes"), (19, "_law_doors"), (20, "_law_read"), (21, "_law_told"), (22, "_law_round")]
def codeTab : List (Str × Addr × Addr) := [("_law_hit", 107, 103), ("_law_prog", 114, 110), ("_law_nodes", 121, 117), ("_law_doors", 128, 124)]
def biTab : List Str := ["isinstance", "int", "len", "range", "min", "max", "map", "sum"]

structure Gx where
  w : World
  h0 : Heap
  mg : Str → Option Value
  mb : Str → Option Value
  ng : h0.Ns mainGlobals mg
  nb : h0.Ns builtinsNs mb
  nolimit : h0.NoLimit
  nodigits : ∃ mc, h0.Ns cStatics mc ∧ mc "sys.int_max_str_digits" = none
  tabs : ∀ P ∈ tabA, h0.get? P = none
  fn : ∀ k nm, (k, nm) ∈ fnTab → ∃ a o pm cd doc, mg nm = some (.ref a) ∧ h0.get? a = some o ∧ o.cls = .type "function" ∧ o.data = .func (docDef nm (stArgs (stm k)) (stBody (stm k)) (stScope (stm k)) pm cd doc) ∧ h0.CodeRec cd nm ∧
    ∀ c P, (nm, c, P) ∈ codeTab → cd = .ref c ∧ CodeHd h0 c P
  bi : ∀ x ∈ biTab, mg x = none ∧ mb x = bootBuiltins x
  bmain : ∃ bm ob, mg "__builtins__" = some (.ref bm) ∧ bm ≠ builtinsNs ∧ h0.get? bm = some ob ∧ ob.cls = .type "module" ∧ ob.dict = some builtinsNs ∧ ob.data = .plain

structure St (g : Gx) (σ : PH) (h : Heap) : Prop where
  base : Le g.h0.get? σ
  sub : Sub σ h
  ti : TI σ h
  off : ∀ P ∈ tabA, σ P = none

theorem St.keep {g : Gx} {σ : PH} {h : Heap} (S : St g σ h) : ∀ b o, g.h0.get? b = some o → h.get? b = some o := fun b o e => S.sub b o (S.base b o e)

structure Step (g : Gx) (σ : PH) (h : Heap) (σ' : PH) (h' : Heap) : Prop where
  le : Le σ σ'
  grow : Grow h h'
  st : St g σ' h'
  fresh : ∀ a, σ a = none → h.get? a ≠ none → σ' a = none

theorem Step.refl {g : Gx} {σ : PH} {h : Heap} (S : St g σ h) : Step g σ h σ h := ⟨.refl _, .refl _, S, fun _ e _ => e⟩
theorem notTab {g : Gx} {σ : PH} {h : Heap} (S : St g σ h) {a : Addr} {o : Obj} (e : σ a = some o) : a ∉ tabA := fun q => by rw [S.off a q] at e; cases e
theorem ti_tab {σ : PH} {h : Heap} (t : TI σ h) {P : Addr} (hP : P ∈ tabA) : ∃ ps, h.get? P = some (tabObj ps) := by
  simp only [tabA, List.mem_cons, List.not_mem_nil, or_false] at hP
  rcases hP with rfl | rfl | rfl | rfl
  · obtain ⟨ps, e, _⟩ := t (124, "_law_doors.<locals>.search") (.head _); exact ⟨ps, e⟩
  · obtain ⟨ps, e, _⟩ := t (110, "_law_prog.<locals>.<lambda>") (.tail _ (.head _)); exact ⟨ps, e⟩
  · obtain ⟨ps, e, _⟩ := t (103, "_law_hit.<locals>.<lambda>") (.tail _ (.tail _ (.head _))); exact ⟨ps, e⟩
  · obtain ⟨ps, e, _⟩ := t (117, "_law_nodes.<locals>.search") (.tail _ (.tail _ (.tail _ (.head _)))); exact ⟨ps, e⟩
theorem Grow.some {g : Gx} {σ : PH} {h h' : Heap} (k : Grow h h') (S : St g σ h') {a : Addr} (e : h.get? a ≠ none) : h'.get? a ≠ none := by
  by_cases hm : a ∈ tabA
  · obtain ⟨ps, e2⟩ := ti_tab S.ti hm; rw [e2]; exact nofun
  · cases q : h.get? a with
    | none => exact absurd q e
    | some o => rw [k a o hm q]; exact nofun
theorem Step.trans {g : Gx} {σ σ' σ'' : PH} {h h' h'' : Heap} (a : Step g σ h σ' h') (b : Step g σ' h' σ'' h'') : Step g σ h σ'' h'' :=
  ⟨a.le.trans b.le, a.grow.trans b.grow, b.st, fun x e n => b.fresh x (a.fresh x e n) (a.grow.some a.st n)⟩

/-- a new object laid behind everything, and taken among the lasting ones -/
def add (σ : PH) (a : Addr) (o : Obj) : PH := fun b => if b = a then some o else σ b
theorem add_self (σ : PH) (a : Addr) (o : Obj) : add σ a o a = some o := if_pos rfl
theorem St.none_size {g : Gx} {σ : PH} {h : Heap} (S : St g σ h) : σ h.objs.size = none := by
  cases q : σ h.objs.size with
  | none => rfl
  | some o => exact absurd (Heap.lt_size (S.sub _ _ q)) (Nat.lt_irrefl _)
theorem St.add {g : Gx} {σ : PH} {h h' : Heap} {a : Addr} {o : Obj} (S : St g σ h) (e : σ a = none) (hk : ∀ b o, h.get? b = some o → h'.get? b = some o) (ho : h'.get? a = some o) (ht : a ∉ tabA) (hn : h.get? a = none) : Step g σ h (add σ a o) h' := by
  have le : Le σ (Mine.add σ a o) := fun b ob q => by
    unfold Mine.add
    by_cases hb : b = a
    · subst hb; rw [e] at q; cases q
    · rw [if_neg hb]; exact q
  refine ⟨le, .of_keep hk, ⟨S.base.trans le, fun b ob q => ?_, S.ti.keeps hk le, fun P hP => ?_⟩, fun b q n => ?_⟩
  · unfold Mine.add at q
    by_cases hb : b = a
    · subst hb; rw [if_pos rfl] at q; cases q; exact ho
    · rw [if_neg hb] at q; exact hk b ob (S.sub b ob q)
  · unfold Mine.add
    rw [if_neg (fun q : P = a => ht (q ▸ hP))]; exact S.off P hP
  · unfold Mine.add
    rw [if_neg (fun q : b = a => n (q ▸ hn))]; exact q
theorem size_notTab {g : Gx} {σ : PH} {h : Heap} (S : St g σ h) : h.objs.size ∉ tabA := fun q => by
  obtain ⟨ps, e⟩ := ti_tab S.ti q
  exact absurd (Heap.lt_size e) (Nat.lt_irrefl _)
theorem size_none (h : Heap) : h.get? h.objs.size = none := Heap.get?_none_of_le (Nat.le_refl _)
theorem St.push {g : Gx} {σ : PH} {h : Heap} (S : St g σ h) (o : Obj) (hf : o.isFreed = false := by rfl) : Step g σ h (Mine.add σ h.objs.size o) (h.push o) :=
  S.add S.none_size (fun b ob e => Heap.get?_push_of_some _ e) (Heap.get?_push_size _ hf) (size_notTab S) (size_none h)
/-- growth that nobody keeps -/
theorem St.grow {g : Gx} {σ : PH} {h h' : Heap} (S : St g σ h) (hk : ∀ b o, h.get? b = some o → h'.get? b = some o) : Step g σ h σ h' :=
  ⟨.refl _, .of_keep hk, ⟨S.base, fun b o e => hk b o (S.sub b o e), S.ti.keeps hk (.refl _), S.off⟩, fun _ e _ => e⟩

structure Room (A : Around) (n : Nat) : Prop where
  hd : A.handled = none
  dp : A.depth + n < 1000
  un : A.units + 20 * n < 9900
theorem Room.mono {A : Around} {n m : Nat} (r : Room A n) (h : m ≤ n) : Room A m := ⟨r.hd, by have := r.dp; omega, by have := r.un; omega⟩
theorem Room.in1 {A : Around} {n : Nat} (r : Room A (n + 1)) : Room A.in1 n := ⟨r.hd, by have := r.dp; show A.depth + n < 1000; omega, by have := r.un; show A.units + 1 + 20 * n < 9900; omega⟩
theorem Room.deeper {A : Around} {n : Nat} {env : Env} (r : Room A (n + 1)) : Room (A.deeper env) n := ⟨r.hd, by have := r.dp; show A.depth + 1 + n < 1000; omega, by have := r.un; show A.units + 3 + 20 * n < 9900; omega⟩
theorem Room.depth {A : Around} {n : Nat} (r : Room A n) : A.depth < recursionLimit := by have := r.dp; show _ < 1000; omega
theorem Room.units {A : Around} {n : Nat} (r : Room A n) : A.units < cLine := by have := r.un; show _ < 9900; omega

/-! closed contracts of values that are called -/
def CellIs (σ : PH) (c : Addr) (v : Value) : Prop := ∃ o, σ c = some o ∧ o.data = .cell (some v)
def NsP (σ : PH) (a : Addr) (m : Str → Option Value) : Prop := ∃ o es ep, σ a = some o ∧ o.data = .dict es ep ∧ StrKeys es ∧ ∀ name, nsFind es name = m name
def FnP (σ : PH) (a : Addr) (d : Option Addr) : Prop := ∃ oc fd sl, oc = Value.type "function" ∧ σ a = some ⟨oc, d, .func fd, sl⟩

abbrev W (g : Gx) (A : Around) (t : Sem α) (Q : α → Shared → Prop) (E : Value → Shared → Prop) (s : Shared) : Prop := wpAny (model prog66 g.w) A t Q E s

def TupP (σ : PH) (a : Addr) (vs : List Value) : Prop := ∃ o n, σ a = some o ∧ o.cls = .type "tuple" ∧ o.data = .seq vs.toArray n
def ListP (σ : PH) (a : Addr) (vs : List Value) : Prop := ∃ o n, σ a = some o ∧ o.cls = .type "list" ∧ o.dict = none ∧ o.data = .seq vs.toArray n

/-- what answers the two ints -/
def IsSpan (g : Gx) (σ : PH) (f : Addr) (i j : Int) : Prop := FnP σ f none ∧
  ∀ τ A s (Q : Value → Shared → Prop) (E : Value → Shared → Prop), Le σ τ → Room A 3 → St g τ s.heap → 1 ≤ s.toks →
    (∀ t h' tk τ' ti tj, Step g τ s.heap τ' h' → TupP τ' t [.int i ti, .int j tj] → Q (.ref t) { s with heap := h', toks := tk }) → W g A (call (.ref f) []) Q E s
/-- a function object with one attribute -/
def IsObj (σ : PH) (a : Addr) (nm : Str) (X : Addr → Prop) : Prop := ∃ d m f, FnP σ a (some d) ∧ NsP σ d m ∧ m nm = some (.ref f) ∧ X f
/-- a hit: its attribute span answers the two ints -/
def IsHit (g : Gx) (σ : PH) (a : Addr) (i j : Int) : Prop := IsObj σ a "span" fun f => IsSpan g σ f i j

def OptHit (g : Gx) (σ : PH) : Option (Int × Int) → Value → Prop
  | none, v => v = .none
  | some (i, j), v => ∃ a, v = .ref a ∧ IsHit g σ a i j

def IsSearch (g : Gx) (σ : PH) (q : Addr) (f : Str → Int → Option (Int × Int)) : Prop := FnP σ q none ∧
  ∀ τ A s (Q : Value → Shared → Prop) (E : Value → Shared → Prop) (x : Str) (t : Tok) (rest : List Value) (at' : Int), Le σ τ → Room A 12 → St g τ s.heap → 1 ≤ s.toks → (rest = [] ∧ at' = 0 ∨ ∃ u, rest = [.int at' u]) →
    (∀ v h' tk τ', Step g τ s.heap τ' h' → OptHit g τ' (f x at') v → Q v { s with heap := h', toks := tk }) → W g A (call (.ref q) (.str x t :: rest)) Q E s
def IsProg (g : Gx) (σ : PH) (a : Addr) (f : Str → Int → Option (Int × Int)) : Prop := IsObj σ a "search" fun q => IsSearch g σ q f

theorem FnP.mono {σ τ : PH} {a : Addr} {d : Option Addr} (k : Le σ τ) (x : FnP σ a d) : FnP τ a d := let ⟨oc, fd, sl, h1, h2⟩ := x; ⟨oc, fd, sl, h1, k _ _ h2⟩
theorem NsP.mono {σ τ : PH} {a : Addr} {m : Str → Option Value} (k : Le σ τ) (x : NsP σ a m) : NsP τ a m := let ⟨o, es, ep, h1, r⟩ := x; ⟨o, es, ep, k _ _ h1, r⟩
theorem TupP.mono {σ τ : PH} {a : Addr} {vs : List Value} (k : Le σ τ) (x : TupP σ a vs) : TupP τ a vs := let ⟨o, n, h1, r⟩ := x; ⟨o, n, k _ _ h1, r⟩
theorem ListP.mono {σ τ : PH} {a : Addr} {vs : List Value} (k : Le σ τ) (x : ListP σ a vs) : ListP τ a vs := let ⟨o, n, h1, r⟩ := x; ⟨o, n, k _ _ h1, r⟩
theorem CellIs.mono {σ τ : PH} {a : Addr} {v : Value} (k : Le σ τ) (x : CellIs σ a v) : CellIs τ a v := let ⟨o, h1, r⟩ := x; ⟨o, k _ _ h1, r⟩
theorem IsObj.mono {σ τ : PH} {a : Addr} {nm : Str} {X Y : Addr → Prop} (k : Le σ τ) (h : ∀ f, X f → Y f) (x : IsObj σ a nm X) : IsObj τ a nm Y :=
  let ⟨d, m, f, h1, h2, h3, h4⟩ := x; ⟨d, m, f, h1.mono k, h2.mono k, h3, h f h4⟩
theorem IsSpan.mono {g : Gx} {σ τ : PH} {a : Addr} {i j : Int} (k : Le σ τ) (x : IsSpan g σ a i j) : IsSpan g τ a i j := ⟨x.1.mono k, fun υ A s Q E l => x.2 υ A s Q E (k.trans l)⟩
theorem IsSearch.mono {g : Gx} {σ τ : PH} {a : Addr} {f} (k : Le σ τ) (x : IsSearch g σ a f) : IsSearch g τ a f := ⟨x.1.mono k, fun υ A s Q E x' t rest at' l => x.2 υ A s Q E x' t rest at' (k.trans l)⟩
theorem IsHit.mono {g : Gx} {σ τ : PH} {a : Addr} {i j : Int} (k : Le σ τ) (x : IsHit g σ a i j) : IsHit g τ a i j := IsObj.mono k (fun _ h => h.mono k) x
theorem OptHit.mono {g : Gx} {σ τ : PH} {r : Option (Int × Int)} {v : Value} (k : Le σ τ) (x : OptHit g σ r v) : OptHit g τ r v := by
  cases r with
  | none => exact x
  | some ij => obtain ⟨a, e, h⟩ := x; exact ⟨a, e, h.mono k⟩
theorem IsProg.mono {g : Gx} {σ τ : PH} {a : Addr} {f} (k : Le σ τ) (x : IsProg g σ a f) : IsProg g τ a f := IsObj.mono k (fun _ h => h.mono k) x
end Mine
namespace Mine
open PySem PySem.W PyProof.Rows PySem.Calls
set_option Elab.async false
set_option maxRecDepth 100000
set_option maxHeartbeats 8000000
set_option linter.unusedVariables false
abbrev law66 : OpenLaw := PySem.Challenge.rw_pk0066_01
def view66 : Program := { prog66 with main := { prog66.main with body := [1, 2, 4, 5, 6, 7, 8, 9, 11, 12, 13, 14, 15, 16, 17, 18, 19, 20, 21, 22, 23].map stm } }
def fAt (h : Heap) (x : Str) : List Addr := match h.nsMap mainGlobals x with | some (.ref f) => [f] | _ => []
def kOf (h : Heap) : Frag := ([mainGlobals, 107, 114, 121, 128] ++ fnTab.flatMap fun q => fAt h q.2).filterMap fun a => (h.get? a).map (a, ·)
def clsFn (K : Frag) (x : Str) : Bool := match nsIn K mainGlobals x with
  | some (some (.ref f)) => (match K.lookup f with
    | some ⟨.type n, _, _, _⟩ => n == "function"
    | _ => false)
  | _ => false
def kSays (K : Frag) : Bool := (codeTab.all fun q => codeHdIn K q.2.1 q.2.2 && tabIn K q.1 == some q.2) && fnTab.all fun q => clsFn K q.2
def yf66 (s : Shared) : Bool × List (Option Obj) := (kSays (kOf s.heap), tabA.map s.heap.get?)
def ya66 (_ : World) : Bool × List (Option Obj) := (true, tabA.map fun _ => some (tabObj #[]))
def YP66 (_ : World) (h : Heap) : Prop := (∃ K : Frag, K.In h ∧ kSays K = true) ∧ ∀ P ∈ tabA, h.get? P = some (tabObj #[])
theorem kOf_in (h : Heap) : (kOf h).In h := fun a o e => by
  have m := mem_of_lookupK e
  obtain ⟨b, _, q⟩ := List.mem_filterMap.mp m
  obtain ⟨x, hx, e2⟩ := Option.map_eq_some_iff.mp q
  cases e2; exact hx
theorem yp_of (w : World) (s : Shared) (e : yf66 s = ya66 w) : YP66 w s.heap := ⟨⟨kOf s.heap, kOf_in _, (Prod.mk.inj e).1⟩, List.map_inj_left.mp (Prod.mk.inj e).2⟩
theorem yp_keeps (w : World) (h h' : Heap) (x : YP66 w h) (k : ∀ b o, h.get? b = some o → h'.get? b = some o) : YP66 w h' :=
  ⟨let ⟨K, a, b⟩ := x.1; ⟨K, fun c o e => k _ _ (a c o e), b⟩, fun P hP => k _ _ (x.2 P hP)⟩
theorem left66 : LeftO prog66 view66 [] (fun s => xlAt view66 [] s && recOk (OpenRow.toRowW law66.row).records s) yf66 ya66 1452 := fun w => by kernel_rfl
def dLaw : DefRec := ⟨"law", stArgs (stm 23), stBody (stm 23), stScope (stm 23), stPos (stm 23)⟩
theorem def66 : defOf view66 "law" = some (dLaw, []) := by kernel_rfl
theorem the66 : prog66.theDef "law" = some (dLaw.params, dLaw.body, dLaw.scope) := by kernel_rfl
theorem kw66 : kwWritten? dLaw.params.kwonlyargs dLaw.params.kw_defaults = some [] := by kernel_rfl
theorem said66 : law66.wellSaid = true := by kernel_rfl
theorem ok66 : (chainsOk view66 && opensWell law66.row.prog && (frees law66.row.toRowW && law66.row.within.isEmpty)) = true := by kernel_rfl
theorem bare66 : law66.row.prog.bare := ⟨rfl, rfl, rfl, rfl, rfl, by decide +kernel⟩
theorem prom66 : law66.row.toRowW.promised := ⟨[.list []], by decide +kernel, by decide +kernel⟩
theorem recs66 : fnTab.all (fun q => (recsOf view66).any fun d => d.name == q.2) = true := by kernel_rfl
end Mine
namespace Mine
open PySem PySem.W PyProof.Rows PySem.Calls
set_option Elab.async false
set_option maxRecDepth 100000
set_option linter.unusedVariables false

inductive PV where
  | none
  | bool (b : Bool)
  | int (i : Int)
  | str (s : Str)
  | list (l : List PV)
  | tup (l : List PV)
  | dict (l : List (Str × Str))
  | val (v : Value)
  | ohit (r : Option (Int × Int))
  | prog (f : Str → Int → Option (Int × Int))
  | range (a b : Int)
  | srch (f : Str → Int → Option (Int × Int))

def RangeP (σ : PH) (r : Addr) (a b : Int) : Prop := ∃ t u v, σ r = some { cls := .type "range", dict := none, data := .fields #[.int a t, .int b u, .int 1 v], slots := #[] }
def DictP (g : Gx) (σ : PH) (d : Addr) (l : List (Str × Str)) : Prop :=
  ∃ o kvs, (d == sysModules) = false ∧ σ d = some o ∧ o.cls = .type "dict" ∧ o.dict = .none ∧ o.IsDictOf (PySem.strKind prog66 g.w) kvs ∧ Paired (fun (a : Str × Value) (b : Str × Str) => a.1 = b.1 ∧ ∃ t, a.2 = .str b.2 t) kvs l

mutual
def Rep (g : Gx) (σ : PH) : PV → Value → Prop
  | .none, v => v = .none
  | .bool b, v => v = .bool b
  | .int i, v => ∃ t, v = .int i t
  | .str x, v => ∃ t, v = .str x t
  | .list l, v => ∃ a vs, v = .ref a ∧ ListP σ a vs ∧ RepL g σ l vs
  | .tup l, v => ∃ a vs, v = .ref a ∧ TupP σ a vs ∧ RepL g σ l vs
  | .dict l, v => ∃ d, v = .ref d ∧ DictP g σ d l
  | .val u, v => v = u
  | .ohit r, v => OptHit g σ r v
  | .prog f, v => ∃ a, v = .ref a ∧ IsProg g σ a f
  | .range a b, v => ∃ r, v = .ref r ∧ RangeP σ r a b
  | .srch f, v => ∃ q, v = .ref q ∧ IsSearch g σ q f
def RepL (g : Gx) (σ : PH) : List PV → List Value → Prop
  | [], vs => vs = []
  | p :: ps, vs => ∃ v r, vs = v :: r ∧ Rep g σ p v ∧ RepL g σ ps r
end

theorem DictP.mono {g : Gx} {σ τ : PH} {d : Addr} {l} (k : Le σ τ) (x : DictP g σ d l) : DictP g τ d l := let ⟨o, kvs, h1, h2, r⟩ := x; ⟨o, kvs, h1, k _ _ h2, r⟩
mutual
theorem Rep.mono {g : Gx} {σ τ : PH} (k : Le σ τ) : (p : PV) → (v : Value) → Rep g σ p v → Rep g τ p v
  | .none, v, h => h
  | .bool b, v, h => h
  | .int i, v, h => h
  | .str x, v, h => h
  | .list l, v, h => by
    unfold Rep at h ⊢
    obtain ⟨a, vs, e, h1, h2⟩ := h
    exact ⟨a, vs, e, h1.mono k, RepL.mono k l vs h2⟩
  | .tup l, v, h => by
    unfold Rep at h ⊢
    obtain ⟨a, vs, e, h1, h2⟩ := h
    exact ⟨a, vs, e, h1.mono k, RepL.mono k l vs h2⟩
  | .dict l, v, h => by
    unfold Rep at h ⊢
    obtain ⟨d, e, h1⟩ := h
    exact ⟨d, e, h1.mono k⟩
  | .val u, v, h => h
  | .ohit r, v, h => by
    unfold Rep at h ⊢
    exact h.mono k
  | .prog f, v, h => by
    unfold Rep at h ⊢
    obtain ⟨a, e, h1⟩ := h
    exact ⟨a, e, h1.mono k⟩
  | .range a b, v, h => by
    unfold Rep at h ⊢
    obtain ⟨r, e, t, u, w, h1⟩ := h
    exact ⟨r, e, t, u, w, k _ _ h1⟩
  | .srch f, v, h => by
    unfold Rep at h ⊢
    obtain ⟨a, e, h1⟩ := h
    exact ⟨a, e, h1.mono k⟩
theorem RepL.mono {g : Gx} {σ τ : PH} (k : Le σ τ) : (ps : List PV) → (vs : List Value) → RepL g σ ps vs → RepL g τ ps vs
  | [], vs, h => h
  | p :: ps, vs, h => by
    unfold RepL at h ⊢
    obtain ⟨v, r, e, h1, h2⟩ := h
    exact ⟨v, r, e, Rep.mono k p v h1, RepL.mono k ps r h2⟩
end
theorem Rep.up {g : Gx} {σ τ : PH} {p : PV} {v : Value} (h : Rep g σ p v) (k : Le σ τ) : Rep g τ p v := Rep.mono k p v h
theorem RepL.up {g : Gx} {σ τ : PH} {p : List PV} {v : List Value} (h : RepL g σ p v) (k : Le σ τ) : RepL g τ p v := RepL.mono k p v h
theorem RepL.nil {g : Gx} {σ : PH} : RepL g σ [] [] := by unfold RepL; rfl
theorem RepL.cons {g : Gx} {σ : PH} {p ps v vs} (h : Rep g σ p v) (t : RepL g σ ps vs) : RepL g σ (p :: ps) (v :: vs) := by unfold RepL; exact ⟨v, vs, rfl, h, t⟩
theorem RepL.nil_inv {g : Gx} {σ : PH} {vs} (h : RepL g σ [] vs) : vs = [] := by unfold RepL at h; exact h
theorem RepL.cons_inv {g : Gx} {σ : PH} {p ps vs} (h : RepL g σ (p :: ps) vs) : ∃ v r, vs = v :: r ∧ Rep g σ p v ∧ RepL g σ ps r := by unfold RepL at h; exact h
theorem RepL.length {g : Gx} {σ : PH} : ∀ {ps vs}, RepL g σ ps vs → vs.length = ps.length
  | [], vs, h => by rw [h.nil_inv]; rfl
  | p :: ps, vs, h => by obtain ⟨v, r, rfl, _, t⟩ := h.cons_inv; simp [t.length]
theorem RepL.append {g : Gx} {σ : PH} : ∀ {ps qs vs us}, RepL g σ ps vs → RepL g σ qs us → RepL g σ (ps ++ qs) (vs ++ us)
  | [], qs, vs, us, h, t => by rw [h.nil_inv]; exact t
  | p :: ps, qs, vs, us, h, t => by obtain ⟨v, r, rfl, a, b⟩ := h.cons_inv; exact .cons a (b.append t)
theorem RepL.get {g : Gx} {σ : PH} : ∀ {ps vs} {i : Nat} {p}, RepL g σ ps vs → ps[i]? = some p → ∃ v, vs[i]? = some v ∧ Rep g σ p v
  | [], vs, i, p, h, e => by simp at e
  | q :: ps, vs, 0, p, h, e => by obtain ⟨v, r, rfl, a, b⟩ := h.cons_inv; simp at e; subst e; exact ⟨v, rfl, a⟩
  | q :: ps, vs, i + 1, p, h, e => by
    obtain ⟨v, r, rfl, a, b⟩ := h.cons_inv
    simp only [List.getElem?_cons_succ] at e ⊢
    exact b.get e
theorem RepL.get_none {g : Gx} {σ : PH} {ps vs} {i : Nat} (h : RepL g σ ps vs) (e : ps[i]? = none) : vs[i]? = none := by
  rw [List.getElem?_eq_none_iff] at e ⊢; rw [h.length]; exact e
theorem RepL.take {g : Gx} {σ : PH} : ∀ {ps vs} (n : Nat), RepL g σ ps vs → RepL g σ (ps.take n) (vs.take n)
  | [], vs, n, h => by rw [h.nil_inv]; simp; exact .nil
  | p :: ps, vs, 0, h => by simp; exact .nil
  | p :: ps, vs, n + 1, h => by obtain ⟨v, r, rfl, a, b⟩ := h.cons_inv; simp only [List.take_succ_cons]; exact .cons a (b.take n)
theorem RepL.drop {g : Gx} {σ : PH} : ∀ {ps vs} (n : Nat), RepL g σ ps vs → RepL g σ (ps.drop n) (vs.drop n)
  | [], vs, n, h => by rw [h.nil_inv]; simp; exact .nil
  | p :: ps, vs, 0, h => h
  | p :: ps, vs, n + 1, h => by obtain ⟨v, r, rfl, a, b⟩ := h.cons_inv; simp only [List.drop_succ_cons]; exact b.drop n
theorem RepL.snoc {g : Gx} {σ : PH} {ps vs p v} (h : RepL g σ ps vs) (t : Rep g σ p v) : RepL g σ (ps ++ [p]) (vs ++ [v]) := h.append (.cons t .nil)

theorem rep_none {g : Gx} {σ : PH} : Rep g σ .none .none := by unfold Rep; rfl
theorem rep_bool {g : Gx} {σ : PH} {b : Bool} : Rep g σ (.bool b) (.bool b) := by unfold Rep; rfl
theorem rep_int {g : Gx} {σ : PH} {i : Int} {t : Tok} : Rep g σ (.int i) (.int i t) := by unfold Rep; exact ⟨t, rfl⟩
theorem rep_str {g : Gx} {σ : PH} {x : Str} {t : Tok} : Rep g σ (.str x) (.str x t) := by unfold Rep; exact ⟨t, rfl⟩
theorem rep_val {g : Gx} {σ : PH} {u : Value} : Rep g σ (.val u) u := by unfold Rep; rfl
theorem rep_list {g : Gx} {σ : PH} {l a vs} (h : ListP σ a vs) (r : RepL g σ l vs) : Rep g σ (.list l) (.ref a) := by unfold Rep; exact ⟨a, vs, rfl, h, r⟩
theorem rep_tup {g : Gx} {σ : PH} {l a vs} (h : TupP σ a vs) (r : RepL g σ l vs) : Rep g σ (.tup l) (.ref a) := by unfold Rep; exact ⟨a, vs, rfl, h, r⟩
theorem Rep.none_inv {g : Gx} {σ : PH} {v} (h : Rep g σ .none v) : v = .none := by unfold Rep at h; exact h
theorem Rep.bool_inv {g : Gx} {σ : PH} {b v} (h : Rep g σ (.bool b) v) : v = .bool b := by unfold Rep at h; exact h
theorem Rep.int_inv {g : Gx} {σ : PH} {i v} (h : Rep g σ (.int i) v) : ∃ t, v = .int i t := by unfold Rep at h; exact h
theorem Rep.str_inv {g : Gx} {σ : PH} {i v} (h : Rep g σ (.str i) v) : ∃ t, v = .str i t := by unfold Rep at h; exact h
theorem Rep.val_inv {g : Gx} {σ : PH} {u v} (h : Rep g σ (.val u) v) : v = u := by unfold Rep at h; exact h
theorem Rep.list_inv {g : Gx} {σ : PH} {l v} (h : Rep g σ (.list l) v) : ∃ a vs, v = .ref a ∧ ListP σ a vs ∧ RepL g σ l vs := by unfold Rep at h; exact h
theorem Rep.tup_inv {g : Gx} {σ : PH} {l v} (h : Rep g σ (.tup l) v) : ∃ a vs, v = .ref a ∧ TupP σ a vs ∧ RepL g σ l vs := by unfold Rep at h; exact h
theorem Rep.dict_inv {g : Gx} {σ : PH} {l v} (h : Rep g σ (.dict l) v) : ∃ d, v = .ref d ∧ DictP g σ d l := by unfold Rep at h; exact h
theorem Rep.ohit_inv {g : Gx} {σ : PH} {r v} (h : Rep g σ (.ohit r) v) : OptHit g σ r v := by unfold Rep at h; exact h
theorem Rep.prog_inv {g : Gx} {σ : PH} {f v} (h : Rep g σ (.prog f) v) : ∃ a, v = .ref a ∧ IsProg g σ a f := by unfold Rep at h; exact h

theorem rep_range {g : Gx} {σ : PH} {a b : Int} {r : Addr} (h : RangeP σ r a b) : Rep g σ (.range a b) (.ref r) := by unfold Rep; exact ⟨r, rfl, h⟩
theorem Rep.range_inv {g : Gx} {σ : PH} {a b v} (h : Rep g σ (.range a b) v) : ∃ r, v = .ref r ∧ RangeP σ r a b := by unfold Rep at h; exact h

theorem rep_srch {g : Gx} {σ : PH} {q : Addr} {f} (h : IsSearch g σ q f) : Rep g σ (.srch f) (.ref q) := by unfold Rep; exact ⟨q, rfl, h⟩
theorem Rep.srch_inv {g : Gx} {σ : PH} {f v} (h : Rep g σ (.srch f) v) : ∃ q, v = .ref q ∧ IsSearch g σ q f := by unfold Rep at h; exact h
theorem rep_prog {g : Gx} {σ : PH} {q : Addr} {f} (h : IsProg g σ q f) : Rep g σ (.prog f) (.ref q) := by unfold Rep; exact ⟨q, rfl, h⟩
theorem rep_hit {g : Gx} {σ : PH} {q : Addr} {i j : Int} (h : IsHit g σ q i j) : Rep g σ (.ohit (some (i, j))) (.ref q) := by unfold Rep; exact ⟨q, rfl, h⟩

theorem ListP.isList {σ : PH} {h : Heap} {a : Addr} {vs : List Value} (k : Sub σ h) (x : ListP σ a vs) : h.IsList a vs.toArray := let ⟨o, n, h1, h2, _, h3⟩ := x; ⟨o, k _ _ h1, h2, n, h3⟩
theorem TupP.isTuple {σ : PH} {h : Heap} {a : Addr} {vs : List Value} (k : Sub σ h) (x : TupP σ a vs) : h.IsTuple a vs.toArray := let ⟨o, n, h1, h2, h3⟩ := x; ⟨o, k _ _ h1, h2, n, h3⟩
theorem NsP.ns {σ : PH} {h : Heap} {a : Addr} {m} (k : Sub σ h) (x : NsP σ a m) : h.Ns a m := let ⟨o, es, ep, h1, r⟩ := x; ⟨o, es, ep, k _ _ h1, r⟩
theorem CellIs.isCell {σ : PH} {h : Heap} {a : Addr} {v} (k : Sub σ h) (x : CellIs σ a v) : h.IsCell a (some v) := let ⟨o, h1, r⟩ := x; ⟨o, k _ _ h1, r⟩

/-! the frame's names -/
inductive SL where
  | val (p : PV)
  | own (l : List PV)
  | empty
abbrev VEnv := Str → Option SL
def upd (Γ : VEnv) (x : Str) (v : SL) : VEnv := fun y => if y = x then some v else Γ y

def SlotOk (g : Gx) (env : Env) (σ : PH) (h : Heap) (m : Str → Option Value) (x : Str) : SL → Prop
  | .val p => (env.kindOf x = some .local ∧ ∃ v, m x = some v ∧ Rep g σ p v) ∨ ((env.kindOf x = some .cell ∨ env.kindOf x = some .free) ∧ ∃ c v, env.cells.lookup x = some c ∧ CellIs σ c v ∧ Rep g σ p v)
  | .own l => env.kindOf x = some .local ∧ ∃ a vs, m x = some (.ref a) ∧ σ a = none ∧ a ∉ tabA ∧ (∃ o n, h.get? a = some o ∧ (o.cls = .type "list" ∧ o.slots = #[]) ∧ o.dict = none ∧ o.data = .seq (List.toArray vs) n) ∧ RepL g σ l vs
  | .empty => env.kindOf x = some .cell ∧ ∃ c, env.cells.lookup x = some c ∧ σ c = none ∧ c ∉ tabA ∧ h.IsCell c none

structure EnvOk (env : Env) : Prop where
  glob : env.globals = mainGlobals
  bi : env.builtins = builtinsNs
  kind : env.scope.kind = .function

structure Vars (g : Gx) (env : Env) (Γ : VEnv) (σ : PH) (h : Heap) (m : Str → Option Value) : Prop where
  ns : h.Ns env.locals m
  off : σ env.locals = none
  tab : env.locals ∉ tabA
  slot : ∀ x sl, Γ x = some sl → SlotOk g env σ h m x sl

theorem Ns.grow {h h' : Heap} {a : Addr} {m} (x : h.Ns a m) (k : Grow h h') (ht : a ∉ tabA) : h'.Ns a m := let ⟨o, es, ep, h1, r⟩ := x; ⟨o, es, ep, k _ _ ht h1, r⟩
theorem SlotOk.step {g : Gx} {env : Env} {σ σ' : PH} {h h' : Heap} {m x sl} (S : Step g σ h σ' h') (k : SlotOk g env σ h m x sl) : SlotOk g env σ' h' m x sl := by
  cases sl with
  | val p =>
    rcases k with ⟨a, v, b, c⟩ | ⟨a, c, v, b, d, e⟩
    · exact .inl ⟨a, v, b, c.up S.le⟩
    · exact .inr ⟨a, c, v, b, d.mono S.le, e.up S.le⟩
  | own l =>
    obtain ⟨a, b, vs, c, d, e, ⟨o, n, f1, f2⟩, r⟩ := k
    exact ⟨a, b, vs, c, S.fresh b d (by rw [f1]; exact nofun), e, ⟨o, n, S.grow b o e f1, f2⟩, r.up S.le⟩
  | empty =>
    obtain ⟨a, c, b, d, e, ⟨o, f1, f2⟩⟩ := k
    exact ⟨a, c, b, S.fresh c d (by rw [f1]; exact nofun), e, ⟨o, S.grow c o e f1, f2⟩⟩
theorem Vars.step {g : Gx} {env : Env} {Γ : VEnv} {σ σ' : PH} {h h' : Heap} {m} (V : Vars g env Γ σ h m) (S : Step g σ h σ' h') : Vars g env Γ σ' h' m :=
  ⟨Ns.grow V.ns S.grow V.tab, S.fresh _ V.off (by obtain ⟨o, es, ep, e, _⟩ := V.ns; rw [e]; exact nofun), V.tab, fun x sl e => (V.slot x sl e).step S⟩

/-- an expression: in every frame that bears Γ it answers p, and nothing that stands is changed -/
def Ev (g : Gx) (n : Nat) (sc : Scope) (Γ : VEnv) (e : Expr) (p : PV) : Prop :=
  ∀ (A : Around) (env : Env) (s : Shared) (σ : PH) (m : Str → Option Value) (Q E : Value → Shared → Prop), Room A n → env.scope = sc → EnvOk env → St g σ s.heap → Vars g env Γ σ s.heap m → 1 ≤ s.toks →
    (∀ v h' tk σ', Step g σ s.heap σ' h' → Rep g σ' p v → 1 ≤ tk → Q v { s with heap := h', toks := tk }) → W g A (eval e env) Q E s

theorem Ev.mk {g : Gx} {n : Nat} {sc : Scope} {Γ : VEnv} {e : Expr} {p : PV}
    (h : ∀ (A : Around) (env : Env) (s : Shared) (σ : PH) (m : Str → Option Value) (Q E : Value → Shared → Prop), Room A n → env.scope = sc → EnvOk env → St g σ s.heap → Vars g env Γ σ s.heap m → 1 ≤ s.toks →
    (∀ v h' tk σ', Step g σ s.heap σ' h' → Rep g σ' p v → Q v { s with heap := h', toks := tk }) → W g A (eval e env) Q E s) : Ev g n sc Γ e p :=
  fun A env s σ m Q E R hs ok S V ht k => wpAny_with_toks ht (h A env s σ m _ _ R hs ok S V ht fun v h' tk σ' a b c => k v h' tk σ' a b c)

/-- a test -/
def Tt (g : Gx) (n : Nat) (sc : Scope) (Γ : VEnv) (e : Expr) (b : Bool) : Prop :=
  ∀ (A : Around) (env : Env) (s : Shared) (σ : PH) (m : Str → Option Value) (Q : Bool → Shared → Prop) (E : Value → Shared → Prop), Room A n → env.scope = sc → EnvOk env → St g σ s.heap → Vars g env Γ σ s.heap m → 1 ≤ s.toks →
    (∀ h' tk σ', Step g σ s.heap σ' h' → 1 ≤ tk → Q b { s with heap := h', toks := tk }) → W g A (isTrue e env (eval e env)) Q E s
theorem Tt.mk {g : Gx} {n : Nat} {sc : Scope} {Γ : VEnv} {e : Expr} {b : Bool}
    (h : ∀ (A : Around) (env : Env) (s : Shared) (σ : PH) (m : Str → Option Value) (Q : Bool → Shared → Prop) (E : Value → Shared → Prop), Room A n → env.scope = sc → EnvOk env → St g σ s.heap → Vars g env Γ σ s.heap m → 1 ≤ s.toks →
    (∀ h' tk σ', Step g σ s.heap σ' h' → Q b { s with heap := h', toks := tk }) → W g A (isTrue e env (eval e env)) Q E s) : Tt g n sc Γ e b :=
  fun A env s σ m Q E R hs ok S V ht k => wpAny_with_toks ht (h A env s σ m _ _ R hs ok S V ht fun h' tk σ' a c => k h' tk σ' a c)

/-- several expressions, one behind the other -/
def Evs (g : Gx) (n : Nat) (sc : Scope) (Γ : VEnv) (es : List Expr) (ps : List PV) : Prop :=
  ∀ (A : Around) (env : Env) (s : Shared) (σ : PH) (m : Str → Option Value) (pos : Pos) (Q : List Value → Shared → Prop) (E : Value → Shared → Prop), Room A n → env.scope = sc → EnvOk env → St g σ s.heap → Vars g env Γ σ s.heap m → 1 ≤ s.toks →
    (∀ vs h' tk σ', Step g σ s.heap σ' h' → RepL g σ' ps vs → 1 ≤ tk → Q vs { s with heap := h', toks := tk }) → W g A (spliced (backTo pos (starEach es env))) Q E s

theorem Evs.nil {g : Gx} {n : Nat} {sc : Scope} {Γ : VEnv} : Evs g n sc Γ [] [] :=
  fun A env s σ m pos Q E R hs ok S V ht k => wpAny_pure (k [] s.heap s.toks σ (.refl S) .nil ht)
theorem Evs.cons {g : Gx} {n : Nat} {sc : Scope} {Γ : VEnv} {e : Expr} {es : List Expr} {p : PV} {ps : List PV} (h : Ev g n sc Γ e p) (t : Evs g n sc Γ es ps)
    (hst : ∀ env, starEach (e :: es) env = (false, eval e env) :: starEach es env := by intro _; rfl) : Evs g n sc Γ (e :: es) (p :: ps) :=
  fun A env s σ m pos Q E R hs ok S V ht k => wpAny_items_cons (h A env s σ m _ _ R hs ok S V ht fun v h1 t1 σ1 S1 r1 k1 =>
    t A env _ σ1 m pos _ _ R hs ok S1.st (V.step S1) k1 fun vs h2 t2 σ2 S2 r2 k2 => k _ _ _ _ (S1.trans S2) (.cons (r1.up S2.le) r2) k2) (hst env)

/-- a call of a value -/
def Cl (g : Gx) (n : Nat) (f : Value) (args : List PV) (p : PV) : Prop :=
  ∀ (A : Around) (s : Shared) (σ : PH) (vs : List Value) (Q E : Value → Shared → Prop), Room A n → St g σ s.heap → RepL g σ args vs → 1 ≤ s.toks →
    (∀ v h' tk σ', Step g σ s.heap σ' h' → Rep g σ' p v → 1 ≤ tk → Q v { s with heap := h', toks := tk }) → W g A (call f vs) Q E s
theorem Cl.mk {g : Gx} {n : Nat} {f : Value} {args : List PV} {p : PV} (h : ∀ (A : Around) (s : Shared) (σ : PH) (vs : List Value) (Q E : Value → Shared → Prop), Room A n → St g σ s.heap → RepL g σ args vs → 1 ≤ s.toks →
    (∀ v h' tk σ', Step g σ s.heap σ' h' → Rep g σ' p v → Q v { s with heap := h', toks := tk }) → W g A (call f vs) Q E s) : Cl g n f args p :=
  fun A s σ vs Q E R S r ht k => wpAny_with_toks ht (h A s σ vs _ _ R S r ht fun v h' tk σ' a b c => k v h' tk σ' a b c)

/-- a def of the text's top -/
def Fn (g : Gx) (n : Nat) (nm : Str) (args : List PV) (p : PV) : Prop := ∀ f, g.mg nm = some f → Cl g n f args p

/-! statements -/
inductive Out where
  | next (Γ : VEnv)
  | brk (Γ : VEnv)
  | ret (p : PV)

structure Fram (g : Gx) (κ : PH) (σ₀ : PH) (env : Env) (Γ : VEnv) (σ : PH) (h : Heap) (m : Str → Option Value) : Prop extends Vars g env Γ σ h m where
  st : St g σ h
  le : Le σ₀ σ
  grow : ∀ b o, b ∉ tabA → κ b = some o → h.get? b = some o
  fresh : ∀ a, σ₀ a = none → κ a ≠ none → σ a = none
  new : κ env.locals = none
  newOwn : ∀ x l a, Γ x = some (.own l) → m x = some (.ref a) → κ a = none
  apart : ∀ x y l l' a, Γ x = some (.own l) → Γ y = some (.own l') → m x = some (.ref a) → m y = some (.ref a) → x = y
  newCell : ∀ x c, Γ x = some .empty → env.cells.lookup x = some c → κ c = none

theorem kept_some {g : Gx} {κ : PH} {σ : PH} {h : Heap} (k : ∀ b o, b ∉ tabA → κ b = some o → h.get? b = some o) (S : St g σ h) {a : Addr} (e : κ a ≠ none) : h.get? a ≠ none := by
  by_cases hm : a ∈ tabA
  · obtain ⟨ps, e2⟩ := ti_tab S.ti hm; rw [e2]; exact nofun
  · cases q : κ a with
    | none => exact absurd q e
    | some o => rw [k a o hm q]; exact nofun
theorem Fram.step {g : Gx} {κ : PH} {σ₀ : PH} {env : Env} {Γ : VEnv} {σ σ' : PH} {h h' : Heap} {m} (F : Fram g κ σ₀ env Γ σ h m) (S : Step g σ h σ' h') : Fram g κ σ₀ env Γ σ' h' m :=
  { F.toVars.step S with
    st := S.st
    le := F.le.trans S.le
    grow := fun b o n e => S.grow b o n (F.grow b o n e)
    fresh := fun a e n => S.fresh a (F.fresh a e n) (kept_some F.grow F.st n)
    new := F.new
    newOwn := F.newOwn
    apart := F.apart
    newCell := F.newCell }

def OutOk (g : Gx) (κ σ₀ : PH) (env : Env) (σ : PH) (h : Heap) : Out → Flow → Prop
  | .next Γ, f => f = .next ∧ ∃ m, Fram g κ σ₀ env Γ σ h m
  | .brk Γ, f => f = .brk ∧ ∃ m, Fram g κ σ₀ env Γ σ h m
  | .ret p, f => ∃ v, f = .ret v ∧ Rep g σ p v ∧ St g σ h ∧ Le σ₀ σ ∧ (∀ b o, b ∉ tabA → κ b = some o → h.get? b = some o) ∧ ∀ a, σ₀ a = none → κ a ≠ none → σ a = none

def Ex (g : Gx) (n : Nat) (sc : Scope) (Γ : VEnv) (b : List Stmt) (o : Out) : Prop :=
  ∀ (A : Around) (env : Env) (s : Shared) (κ σ₀ σ : PH) (m : Str → Option Value) (Q : Flow → Shared → Prop) (E : Value → Shared → Prop), Room A n → env.scope = sc → EnvOk env → Fram g κ σ₀ env Γ σ s.heap m → 1 ≤ s.toks →
    (∀ f h' tk σ', OutOk g κ σ₀ env σ' h' o f → 1 ≤ tk → Q f { s with heap := h', toks := tk }) → W g A (execs b env) Q E s
def Ex1 (g : Gx) (n : Nat) (sc : Scope) (Γ : VEnv) (b : Stmt) (o : Out) : Prop :=
  ∀ (A : Around) (env : Env) (s : Shared) (κ σ₀ σ : PH) (m : Str → Option Value) (Q : Flow → Shared → Prop) (E : Value → Shared → Prop), Room A n → env.scope = sc → EnvOk env → Fram g κ σ₀ env Γ σ s.heap m → 1 ≤ s.toks →
    (∀ f h' tk σ', OutOk g κ σ₀ env σ' h' o f → 1 ≤ tk → Q f { s with heap := h', toks := tk }) → W g A (exec b env) Q E s
theorem Ex1.mk {g : Gx} {n : Nat} {sc : Scope} {Γ : VEnv} {b : Stmt} {o : Out} (h : ∀ (A : Around) (env : Env) (s : Shared) (κ σ₀ σ : PH) (m : Str → Option Value) (Q : Flow → Shared → Prop) (E : Value → Shared → Prop), Room A n → env.scope = sc → EnvOk env → Fram g κ σ₀ env Γ σ s.heap m → 1 ≤ s.toks →
    (∀ f h' tk σ', OutOk g κ σ₀ env σ' h' o f → Q f { s with heap := h', toks := tk }) → W g A (exec b env) Q E s) : Ex1 g n sc Γ b o :=
  fun A env s κ σ₀ σ m Q E R hs ok F ht k => wpAny_with_toks ht (h A env s κ σ₀ σ m _ _ R hs ok F ht fun f h' tk σ' a c => k f h' tk σ' a c)
theorem Ex.nil {g : Gx} {n : Nat} {sc : Scope} {Γ : VEnv} : Ex g n sc Γ [] (.next Γ) :=
  fun A env s κ σ₀ σ m Q E R hs ok F ht k => wpAny_execs_nil (k .next s.heap s.toks σ ⟨rfl, m, F⟩ ht)
theorem Ex.cons {g : Gx} {n : Nat} {sc : Scope} {Γ Γ' : VEnv} {b : Stmt} {r : List Stmt} {o : Out} (h : Ex1 g n sc Γ b (.next Γ')) (t : Ex g n sc Γ' r o) : Ex g n sc Γ (b :: r) o :=
  fun A env s κ σ₀ σ m Q E R hs ok F ht k => wpAny_execs_cons (h A env s κ σ₀ σ m _ _ R hs ok F ht fun f h1 t1 σ1 o1 k1 => by
    obtain ⟨rfl, m1, F1⟩ := o1
    exact t A env _ κ σ₀ σ1 m1 _ _ R hs ok F1 k1 fun f h2 t2 σ2 o2 k2 => k f h2 t2 σ2 o2 k2)
theorem Ex.stop_ret {g : Gx} {n : Nat} {sc : Scope} {Γ : VEnv} {b : Stmt} {r : List Stmt} {p : PV} (h : Ex1 g n sc Γ b (.ret p)) : Ex g n sc Γ (b :: r) (.ret p) :=
  fun A env s κ σ₀ σ m Q E R hs ok F ht k => wpAny_execs_cons (h A env s κ σ₀ σ m _ _ R hs ok F ht fun f h1 t1 σ1 o1 k1 => by
    obtain ⟨v, rfl, r⟩ := o1
    exact k _ h1 t1 σ1 ⟨v, rfl, r⟩ k1)
theorem Ex.stop_brk {g : Gx} {n : Nat} {sc : Scope} {Γ Γ' : VEnv} {b : Stmt} {r : List Stmt} (h : Ex1 g n sc Γ b (.brk Γ')) : Ex g n sc Γ (b :: r) (.brk Γ') :=
  fun A env s κ σ₀ σ m Q E R hs ok F ht k => wpAny_execs_cons (h A env s κ σ₀ σ m _ _ R hs ok F ht fun f h1 t1 σ1 o1 k1 => by
    obtain ⟨rfl, r⟩ := o1
    exact k _ h1 t1 σ1 ⟨rfl, r⟩ k1)
end Mine
namespace Mine
open PySem PySem.W PyProof.Rows PySem.Calls
set_option Elab.async false
set_option maxRecDepth 100000
set_option linter.unusedVariables false
section
variable {g : Gx} {n : Nat} {sc : Scope} {Γ : VEnv}

theorem Step.tk {g : Gx} {σ : PH} {h : Heap} (S : St g σ h) : Step g σ h σ h := .refl S

theorem listP_push {σ : PH} {a : Addr} {vs : List Value} : ListP (add σ a { cls := .type "list", data := .seq vs.toArray }) a vs := ⟨_, _, add_self _ _ _, rfl, rfl, rfl⟩
theorem tupP_push {σ : PH} {a : Addr} {vs : List Value} : TupP (add σ a { cls := .type "tuple", data := .seq vs.toArray }) a vs := ⟨_, _, add_self _ _ _, rfl, rfl⟩
theorem Ev.name {x : Str} {pos : Pos} {p : PV} (h : Γ x = some (.val p)) (hd : (x == ("__debug__" : Str)) = false := by rfl) (hc : (x == ("__classdict__" : Str)) = false := by rfl) : Ev g n sc Γ (.Name x pos) p :=
  .mk fun A env s σ m Q E R hs ok S V ht k => by
    rcases V.slot x _ h with ⟨a, v, b, r⟩ | ⟨a, c, v, b, d, r⟩
    · exact wpAny_Name (wpAny_loadName_local ok.kind a V.ns b (k v s.heap s.toks σ (.refl S) r)) hd
    · rcases a with a | a
      · exact wpAny_Name (wpAny_loadName_cell ok.kind a b (d.isCell S.sub) (k v s.heap s.toks σ (.refl S) r)) hd
      · exact wpAny_Name (wpAny_loadName_free ok.kind a b (d.isCell S.sub) (k v s.heap s.toks σ (.refl S) r) hc) hd

def gv (g : Gx) (nm : Str) : Value := (g.mg nm).getD .none
theorem Ev.fnv {x : Str} {pos : Pos} {j : Nat} (hm : (j, x) ∈ fnTab) (hk : sc.names.lookup x = some .globalImplicit := by rfl) (hd : (x == ("__debug__" : Str)) = false := by rfl) : Ev g n sc Γ (.Name x pos) (.val (gv g x)) :=
  .mk fun A env s σ m Q E R hs ok S V ht k => by
    obtain ⟨a, o, pm, cd, doc, e, _⟩ := g.fn j x hm
    refine Name_function_global ok.kind (by subst hs; exact hk) (loadGlobal_global (mg := g.mg) (by rw [ok.glob]; exact g.ng.keeps S.keep) e (k _ s.heap s.toks σ (.refl S) ?_)) hd
    unfold gv; rw [e]; exact rep_val
theorem Ev.biv {x : Str} {pos : Pos} {v : Value} (hm : x ∈ biTab) (hv : bootBuiltins x = some v) (hk : sc.names.lookup x = some .globalImplicit := by rfl) (hd : (x == ("__debug__" : Str)) = false := by rfl) : Ev g n sc Γ (.Name x pos) (.val v) :=
  .mk fun A env s σ m Q E R hs ok S V ht k => by
    obtain ⟨e1, e2⟩ := g.bi x hm
    exact Name_function_global ok.kind (by subst hs; exact hk) (loadGlobal_builtin (mg := g.mg) (mb := g.mb) (by rw [ok.glob]; exact g.ng.keeps S.keep) e1 (by rw [ok.bi]; exact g.nb.keeps S.keep) (e2.trans hv) (k _ s.heap s.toks σ (.refl S) rep_val)) hd

theorem Ev.int {i : Int} {k : Nat} {pos : Pos} : Ev g n sc Γ (.Constant (.int i) k pos) (.int i) :=
  .mk fun A env s σ m Q E R hs ok S V ht k => wpAny_Constant_int (k _ s.heap _ σ (.refl S) rep_int)
theorem Ev.str {x : Str} {k : Nat} {pos : Pos} : Ev g n sc Γ (.Constant (.str x) k pos) (.str x) :=
  .mk fun A env s σ m Q E R hs ok S V ht k => wpAny_mkText (k _ s.heap _ σ (.refl S) rep_str)
theorem Ev.none {k : Nat} {pos : Pos} : Ev g n sc Γ (.Constant .none k pos) .none :=
  .mk fun A env s σ m Q E R hs ok S V ht k => wpAny_pure (k _ s.heap s.toks σ (.refl S) rep_none)
theorem Ev.bool {b : Bool} {k : Nat} {pos : Pos} : Ev g n sc Γ (.Constant (.bool b) k pos) (.bool b) :=
  .mk fun A env s σ m Q E R hs ok S V ht k => wpAny_pure (k _ s.heap s.toks σ (.refl S) rep_bool)
theorem Ev.mono {n' : Nat} {e : Expr} {p : PV} (h : Ev g n' sc Γ e p) (hn : n' ≤ n) : Ev g n sc Γ e p :=
  fun A env s σ m Q E R => h A env s σ m Q E (R.mono hn)
theorem Cl.room {n' : Nat} {f : Value} {a : List PV} {p : PV} (h : Cl g n' f a p) (hn : n' ≤ n) : Cl g n f a p :=
  fun A s σ vs Q E R => h A s σ vs Q E (R.mono hn)
theorem Fn.room {n' : Nat} {f : Str} {a : List PV} {p : PV} (h : Fn g n' f a p) (hn : n' ≤ n) : Fn g n f a p := fun v e => (h v e).room hn

/-! two operands -/
def Op2 (g : Gx) (n : Nat) (t : Value → Value → Sem Value) (a b c : PV) : Prop :=
  ∀ (A : Around) (s : Shared) (σ : PH) (u v : Value) (Q E : Value → Shared → Prop), Room A n → St g σ s.heap → Rep g σ a u → Rep g σ b v → 1 ≤ s.toks →
    (∀ r h' tk σ', Step g σ s.heap σ' h' → Rep g σ' c r → Q r { s with heap := h', toks := tk }) → W g A (t u v) Q E s

theorem Ev.bin {l r : Expr} {op : Operator} {pos : Pos} {a b c : PV} (h1 : Ev g n sc Γ l a) (h2 : Ev g n sc Γ r b) (h : Op2 g n (binaryOp op) a b c) : Ev g n sc Γ (.BinOp l op r pos) c :=
  .mk fun A env s σ m Q E R hs ok S V ht k => wpAny_BinOp (h1 A env s σ m _ _ R hs ok S V ht fun u h1 t1 σ1 S1 r1 k1 =>
    h2 A env _ σ1 m _ _ R hs ok S1.st (V.step S1) k1 fun v h2 t2 σ2 S2 r2 k2 =>
      h A _ σ2 u v _ _ R S2.st (r1.up S2.le) r2 k2 fun r h3 t3 σ3 S3 r3 => k _ _ _ _ ((S1.trans S2).trans S3) r3)
theorem Ev.cmp {l r : Expr} {op : CmpOp} {pos : Pos} {a b c : PV} (h1 : Ev g n sc Γ l a) (h2 : Ev g n sc Γ r b) (h : Op2 g n (compareOp op) a b c) (hm : behindInMarks op r = false := by rfl) : Ev g n sc Γ (.Compare l [op] [r] pos) c :=
  .mk fun A env s σ m Q E R hs ok S V ht k => wpAny_Compare1 (h1 A env s σ m _ _ R hs ok S V ht fun u h1 t1 σ1 S1 r1 k1 =>
    h2 A env _ σ1 m _ _ R hs ok S1.st (V.step S1) k1 fun v h2 t2 σ2 S2 r2 k2 =>
      h A _ σ2 u v _ _ R S2.st (r1.up S2.le) r2 k2 fun r h3 t3 σ3 S3 r3 => k _ _ _ _ ((S1.trans S2).trans S3) r3) hm
theorem Tt.cmp {l r : Expr} {op : CmpOp} {pos : Pos} {a b : PV} {c : Bool} (h1 : Ev g n sc Γ l a) (h2 : Ev g n sc Γ r b) (h : Op2 g n (compareOp op) a b (.bool c)) (hm : behindInMarks op r = false := by rfl) : Tt g n sc Γ (.Compare l [op] [r] pos) c :=
  .mk fun A env s σ m Q E R hs ok S V ht k => wpAny_isTrue_Compare1 (h1 A env s σ m _ _ R hs ok S V ht fun u h1 t1 σ1 S1 r1 k1 =>
    h2 A env _ σ1 m _ _ R hs ok S1.st (V.step S1) k1 fun v h2 t2 σ2 S2 r2 k2 =>
      h A _ σ2 u v _ _ R S2.st (r1.up S2.le) r2 k2 fun r h3 t3 σ3 S3 r3 => by
        rw [r3.bool_inv]; exact wpAny_truthy_bool (k _ _ _ ((S1.trans S2).trans S3))) hm

theorem Op2.addI {a b : Int} : Op2 g n (binaryOp .Add) (.int a) (.int b) (.int (a + b)) := fun A s σ u v Q E R S r1 r2 ht k => by
  obtain ⟨t, rfl⟩ := r1.int_inv; obtain ⟨t', rfl⟩ := r2.int_inv; exact add_int (k _ s.heap _ σ (.refl S) rep_int)
theorem Op2.subI {a b : Int} : Op2 g n (binaryOp .Sub) (.int a) (.int b) (.int (a - b)) := fun A s σ u v Q E R S r1 r2 ht k => by
  obtain ⟨t, rfl⟩ := r1.int_inv; obtain ⟨t', rfl⟩ := r2.int_inv; exact sub_int (k _ s.heap _ σ (.refl S) rep_int)
theorem Op2.mulI {a b : Int} (ho : IntMulOk a b) : Op2 g n (binaryOp .Mult) (.int a) (.int b) (.int (a * b)) := fun A s σ u v Q E R S r1 r2 ht k => by
  obtain ⟨t, rfl⟩ := r1.int_inv; obtain ⟨t', rfl⟩ := r2.int_inv; exact mul_int (k _ s.heap _ σ (.refl S) rep_int) ho
theorem Op2.modI {a b : Int} (hb : 0 < b) : Op2 g n (binaryOp .Mod) (.int a) (.int b) (.int (a % b)) := fun A s σ u v Q E R S r1 r2 ht k => by
  obtain ⟨t, rfl⟩ := r1.int_inv; obtain ⟨t', rfl⟩ := r2.int_inv
  refine mod_int' (by omega) ?_
  rw [Int.fmod_eq_emod_of_nonneg _ (by omega)]; exact k _ s.heap _ σ (.refl S) rep_int
theorem Op2.divI {a b : Int} (hb : 0 < b) (hl : Builtin.divisionGoesByPylong a b = false) : Op2 g n (binaryOp .FloorDiv) (.int a) (.int b) (.int (a / b)) := fun A s σ u v Q E R S r1 r2 ht k => by
  obtain ⟨t, rfl⟩ := r1.int_inv; obtain ⟨t', rfl⟩ := r2.int_inv
  refine floordiv_int (by omega) ?_ (.inl hl)
  rw [Int.fdiv_eq_ediv_of_nonneg _ (by omega)]; exact k _ s.heap _ σ (.refl S) rep_int
theorem Op2.addS {a b : Str} (hl : a.length + b.length ≤ sizeLine) : Op2 g n (binaryOp .Add) (.str a) (.str b) (.str (a ++ b)) := fun A s σ u v Q E R S r1 r2 ht k => by
  obtain ⟨t, rfl⟩ := r1.str_inv; obtain ⟨t', rfl⟩ := r2.str_inv; exact add_str (fun t' tk => k _ s.heap _ σ (.refl S) rep_str) hl
theorem Op2.mulS {a : Str} {b : Int} (hl : MulOk a b) : Op2 g n (binaryOp .Mult) (.str a) (.int b) (.str (Txt.mul a b)) := fun A s σ u v Q E R S r1 r2 ht k => by
  obtain ⟨t, rfl⟩ := r1.str_inv; obtain ⟨t', rfl⟩ := r2.int_inv; exact SB.mul hl (fun t' tk => k _ s.heap _ σ (.refl S) rep_str)
theorem Op2.ltI {a b : Int} : Op2 g n (compareOp .Lt) (.int a) (.int b) (.bool (decide (a < b))) := fun A s σ u v Q E R S r1 r2 ht k => by
  obtain ⟨t, rfl⟩ := r1.int_inv; obtain ⟨t', rfl⟩ := r2.int_inv; exact lt_int (k _ s.heap s.toks σ (.refl S) rep_bool)
theorem Op2.leI {a b : Int} : Op2 g n (compareOp .LtE) (.int a) (.int b) (.bool (decide (a ≤ b))) := fun A s σ u v Q E R S r1 r2 ht k => by
  obtain ⟨t, rfl⟩ := r1.int_inv; obtain ⟨t', rfl⟩ := r2.int_inv; exact le_int (k _ s.heap s.toks σ (.refl S) rep_bool)
theorem Op2.geI {a b : Int} : Op2 g n (compareOp .GtE) (.int a) (.int b) (.bool (decide (b ≤ a))) := fun A s σ u v Q E R S r1 r2 ht k => by
  obtain ⟨t, rfl⟩ := r1.int_inv; obtain ⟨t', rfl⟩ := r2.int_inv; exact ge_int (k _ s.heap s.toks σ (.refl S) rep_bool)
theorem Op2.gtI {a b : Int} : Op2 g n (compareOp .Gt) (.int a) (.int b) (.bool (decide (b < a))) := fun A s σ u v Q E R S r1 r2 ht k => by
  obtain ⟨t, rfl⟩ := r1.int_inv; obtain ⟨t', rfl⟩ := r2.int_inv; exact gt_int (k _ s.heap s.toks σ (.refl S) rep_bool)
theorem Op2.eqI {a b : Int} : Op2 g n (compareOp .Eq) (.int a) (.int b) (.bool (a == b)) := fun A s σ u v Q E R S r1 r2 ht k => by
  obtain ⟨t, rfl⟩ := r1.int_inv; obtain ⟨t', rfl⟩ := r2.int_inv; exact eq_int (k _ s.heap s.toks σ (.refl S) rep_bool)
theorem Op2.eqS {a b : Str} : Op2 g n (compareOp .Eq) (.str a) (.str b) (.bool (a == b)) := fun A s σ u v Q E R S r1 r2 ht k => by
  obtain ⟨t, rfl⟩ := r1.str_inv; obtain ⟨t', rfl⟩ := r2.str_inv; exact eq_str (k _ s.heap s.toks σ (.refl S) rep_bool)
theorem Op2.inS {a b : Str} : Op2 g n (compareOp .In) (.str a) (.str b) (.bool (!(Builtin.Str.occurrences b a 0 b.length 1).isEmpty)) := fun A s σ u v Q E R S r1 r2 ht k => by
  obtain ⟨t, rfl⟩ := r1.str_inv; obtain ⟨t', rfl⟩ := r2.str_inv; exact in_str (k _ s.heap s.toks σ (.refl S) rep_bool)
theorem Op2.isNone {r : Option (Int × Int)} : Op2 g n (compareOp .Is) (.ohit r) .none (.bool r.isNone) := fun A s σ u v Q E R S r1 r2 ht k => by
  have e := r1.ohit_inv; have e2 := r2.none_inv; subst e2
  cases r with
  | none => cases e; exact wpAny_is_self rfl (k _ s.heap s.toks σ (.refl S) rep_bool)
  | some ij => obtain ⟨a, rfl, _⟩ := e; exact wpAny_is_other rfl (by exact nofun) (k _ s.heap s.toks σ (.refl S) rep_bool)
theorem Op2.addL {a b : List PV} (hl : a.length + b.length ≤ sizeLine) : Op2 g n (binaryOp .Add) (.list a) (.list b) (.list (a ++ b)) := fun A s σ u v Q E R S r1 r2 ht k => by
  obtain ⟨l, vs, rfl, L1, R1⟩ := r1.list_inv; obtain ⟨l', us, rfl, L2, R2⟩ := r2.list_inv
  obtain ⟨⟨cls, dd, data, sl⟩, n1, e1, hc, hd0, hd⟩ := L1
  obtain ⟨⟨cls2, dd2, data2, sl2⟩, n2, e2, hc2, hd02, hd2⟩ := L2
  simp only at hc hd hc2 hd2
  subst hc hd hc2 hd2
  have ho := S.sub _ _ e1
  have ho2 := S.sub _ _ e2
  have e : vs.toArray ++ us.toArray = (vs ++ us).toArray := by simp
  refine concat_meets ⟨_, ho, rfl⟩ ⟨_, ho2, rfl⟩ noFill_list_add seq_list_add PySem.F.slot_list_add PySem.F.entry_list_add (PySem.F.args_list_add_2 _ _) (list_addW l l' vs.toArray us.toArray n1 n2 dd dd2 sl sl2 (by rw [List.size_toArray, List.size_toArray, R1.length, R2.length]; exact hl)) ⟨ho, ho2, ?_⟩
  rw [e]
  exact k _ _ s.toks _ (S.push _) (rep_list listP_push ((R1.append R2).up (S.push _).le))

/-! tests -/
theorem Tt.not {x : Expr} {pos : Pos} {b : Bool} (h : Tt g n sc Γ x b) : Tt g n sc Γ (.UnaryOp .Not x pos) (!b) :=
  fun A env s σ m Q E R hs ok S V ht k => wpAny_isTrue_Not (h A env s σ m _ _ R hs ok S V ht fun h1 t1 σ1 S1 k1 => k _ _ _ S1 k1)
theorem Tt.and {x y : Expr} {pos : Pos} {b c : Bool} (h1 : Tt g n sc Γ x b) (h2 : b = true → Tt g n sc Γ y c) : Tt g n sc Γ (.BoolOp .And [x, y] pos) (b && c) :=
  fun A env s σ m Q E R hs ok S V ht k => wpAny_isTrue_BoolOp (wpAny_allTrue_And_cons (h1 A env s σ m _ _ R hs ok S V ht fun h1 t1 σ1 S1 k1 => by
    cases b with
    | false => exact k _ _ _ S1 k1
    | true => exact wpAny_allTrue_And_cons (h2 rfl A env _ σ1 m _ _ R hs ok S1.st (V.step S1) k1 fun h2 t2 σ2 S2 k2 => by
        cases c with
        | false => exact k _ _ _ (S1.trans S2) k2
        | true => exact wpAny_allTrue_And_nil (k _ _ _ (S1.trans S2) k2))))
theorem Tt.or {x y : Expr} {pos : Pos} {b c : Bool} (h1 : Tt g n sc Γ x b) (h2 : b = false → Tt g n sc Γ y c) : Tt g n sc Γ (.BoolOp .Or [x, y] pos) (b || c) :=
  fun A env s σ m Q E R hs ok S V ht k => wpAny_isTrue_BoolOp (wpAny_allTrue_Or_cons (h1 A env s σ m _ _ R hs ok S V ht fun h1 t1 σ1 S1 k1 => by
    cases b with
    | true => exact k _ _ _ S1 k1
    | false => exact wpAny_allTrue_Or_cons (h2 rfl A env _ σ1 m _ _ R hs ok S1.st (V.step S1) k1 fun h2 t2 σ2 S2 k2 => by
        cases c with
        | true => exact k _ _ _ (S1.trans S2) k2
        | false => exact wpAny_allTrue_Or_nil (k _ _ _ (S1.trans S2) k2))))
theorem Tt.bool {e : Expr} {b : Bool} (h : Ev g n sc Γ e (.bool b)) (he : ∀ env whole, isTrue e env whole = (do let v ← whole; standAt e.pos; holding [v] (truthy v)) := by intro _ _; rfl) : Tt g n sc Γ e b :=
  fun A env s σ m Q E R hs ok S V ht k => wpAny_isTrue_value (h A env s σ m _ _ R hs ok S V ht fun v h1 t1 σ1 S1 r1 k1 => by
    rw [r1.bool_inv]; exact wpAny_truthy_bool (k _ _ _ S1 k1)) (he _ _)
theorem Ev.ifexp {t a b : Expr} {pos : Pos} {c : Bool} {p : PV} (h : Tt g n sc Γ t c) (ha : c = true → Ev g n sc Γ a p) (hb : c = false → Ev g n sc Γ b p) : Ev g n sc Γ (.IfExp t a b pos) p :=
  fun A env s σ m Q E R hs ok S V ht k => wpAny_IfExp (h A env s σ m _ _ R hs ok S V ht fun h1 t1 σ1 S1 k1 => by
    cases c with
    | true => exact ha rfl A env _ σ1 m _ _ R hs ok S1.st (V.step S1) k1 fun v h2 t2 σ2 S2 r2 k2 => k _ _ _ _ (S1.trans S2) r2 k2
    | false => exact hb rfl A env _ σ1 m _ _ R hs ok S1.st (V.step S1) k1 fun v h2 t2 σ2 S2 r2 k2 => k _ _ _ _ (S1.trans S2) r2 k2)

/-! displays -/
theorem Ev.list {es : List Expr} {pos : Pos} {ps : List PV} (h : Evs g n sc Γ es ps) (hl : ps.length ≤ sizeLine := by decide) : Ev g n sc Γ (.List es pos) (.list ps) :=
  .mk fun A env s σ m Q E R hs ok S V ht k => wpAny_List_spliced (h A env s σ m pos _ _ R hs ok S V ht fun vs h1 t1 σ1 S1 r1 k1 =>
    ⟨by rw [r1.length]; exact hl, k _ _ _ _ (S1.trans (S1.st.push _)) (rep_list listP_push (r1.up (S1.st.push _).le))⟩)
theorem Ev.tup {es : List Expr} {j : Nat} {pos : Pos} {ps : List PV} (h : Evs g n sc Γ es ps) (hl : ps.length ≤ sizeLine := by decide) : Ev g n sc Γ (.Tuple es j pos) (.tup ps) :=
  .mk fun A env s σ m Q E R hs ok S V ht k => wpAny_Tuple_spliced (h A env s σ m pos _ _ R hs ok S V ht fun vs h1 t1 σ1 S1 r1 k1 =>
    ⟨by rw [r1.length]; exact hl, k _ _ _ _ (S1.trans (S1.st.push _)) (rep_tup tupP_push (r1.up (S1.st.push _).le))⟩)

/-! calls -/
def KeepOk (g : Gx) (f : Value) : Prop := ∀ σ h, St g σ h → ∃ k, (k = Keeper.frame ∨ k = Keeper.machine ∨ k = Keeper.boundFrame) ∧ Looks (model prog66 g.w) h (keeperOf f) k
theorem KeepOk.builtin {id : String} : KeepOk g (.builtin id) := fun σ h S => ⟨.machine, .inr (.inl rfl), .of_pure rfl⟩
theorem KeepOk.type {id : String} : KeepOk g (.type id) := fun σ h S => ⟨.machine, .inr (.inl rfl), .of_pure rfl⟩
theorem keep_fn {σ : PH} {h : Heap} {a : Addr} {d : Option Addr} (k : Sub σ h) (x : FnP σ a d) : ∃ k, (k = Keeper.frame ∨ k = Keeper.machine ∨ k = Keeper.boundFrame) ∧ Looks (model prog66 g.w) h (keeperOf (.ref a)) k := by
  obtain ⟨oc, fd, sl, e, f⟩ := x
  exact keeps_F h ⟨oc, d, fd, sl, k _ _ f⟩
theorem KeepOk.fn {j : Nat} {x : Str} (hm : (j, x) ∈ fnTab) : KeepOk g (gv g x) := fun σ h S => by
  obtain ⟨a, o, pm, cd, doc, e, ho, hc, hd, _⟩ := g.fn j x hm
  unfold gv; rw [e]
  obtain ⟨oc, od, dt, sl⟩ := o
  exact keeps_F h ⟨oc, od, _, sl, by rw [← (show dt = _ from hd)]; exact S.keep _ _ ho⟩

theorem callW {A : Around} {env : Env} {s : Shared} {σ : PH} {m} {pos : Pos} {f : Value} {first : List Value} {fps : List PV} {e : Expr} {es : List Expr} {ps : List PV} {p : PV} {Q E : Value → Shared → Prop}
    (R : Room A n) (hs : env.scope = sc) (ok : EnvOk env) (S : St g σ s.heap) (V : Vars g env Γ σ s.heap m) (ht : 1 ≤ s.toks) (he : Evs g n sc Γ (e :: es) ps)
    (hk : ∀ τ h, Le σ τ → St g τ h → ∃ k, (k = Keeper.frame ∨ k = Keeper.machine ∨ k = Keeper.boundFrame) ∧ Looks (model prog66 g.w) h (keeperOf f) k)
    (hf : RepL g σ fps first) (hc : Cl g n f (fps ++ ps) p)
    (k : ∀ v h' tk σ', Step g σ s.heap σ' h' → Rep g σ' p v → 1 ≤ tk → Q v { s with heap := h', toks := tk })
    (hst : (starEach (e :: es) env).any (·.1) = false := by rfl) (hcons : ∃ x r, starEach (e :: es) env = (false, x) :: r := by exact ⟨_, _, rfl⟩) : W g A (callWith pos f first (backTo pos (starEach (e :: es) env)) []) Q E s := by
  have hb : (backTo pos (starEach (e :: es) env)).any (·.1) = false := by
    unfold backTo; rw [List.any_map]; exact hst
  refine callWith_of (P := fun h => ∃ τ, Le σ τ ∧ St g τ h) (by rw [hb]; rfl) (fun h ⟨τ, l, S'⟩ => hk τ h l S') ?_
  have he' := he A env s σ m pos (fun vs s' => (∃ τ, Le σ τ ∧ St g τ s'.heap) ∧ W g A (call f (first ++ vs)) Q E s') E R hs ok S V ht fun vs h1 t1 σ1 S1 r1 k1 => ⟨⟨σ1, S1.le, S1.st⟩, hc A _ σ1 _ _ _ R S1.st ((hf.up S1.le).append r1) k1 fun v h2 t2 σ2 S2 r2 k2 => k _ _ _ _ (S1.trans S2) r2 k2⟩
  obtain ⟨x, r, hx⟩ := hcons
  rw [hx] at he' ⊢
  exact evalArgs_plain he'
theorem callW0 {A : Around} {env : Env} {s : Shared} {σ : PH} {pos : Pos} {f : Value} {first : List Value} {fps : List PV} {p : PV} {Q E : Value → Shared → Prop}
    (R : Room A n) (S : St g σ s.heap) (ht : 1 ≤ s.toks)
    (hk : ∀ τ h, Le σ τ → St g τ h → ∃ k, (k = Keeper.frame ∨ k = Keeper.machine ∨ k = Keeper.boundFrame) ∧ Looks (model prog66 g.w) h (keeperOf f) k)
    (hf : RepL g σ fps first) (hc : Cl g n f fps p)
    (k : ∀ v h' tk σ', Step g σ s.heap σ' h' → Rep g σ' p v → 1 ≤ tk → Q v { s with heap := h', toks := tk }) : W g A (callWith pos f first (backTo pos (starEach [] env)) []) Q E s :=
  callWith_of (P := fun h => ∃ τ, Le σ τ ∧ St g τ h) rfl (fun h ⟨τ, l, S'⟩ => hk τ h l S') (evalArgs_nil3 ⟨⟨σ, .refl _, S⟩, by
    rw [List.append_nil]; exact hc A _ σ _ _ _ R S hf ht k⟩)

/-- a call whose callee is no attribute -/
theorem Ev.call {fe e : Expr} {es : List Expr} {pos : Pos} {f : Value} {ps : List PV} {p : PV} (hf : Ev g n sc Γ fe (.val f)) (hk : KeepOk g f) (he : Evs g n sc Γ (e :: es) ps) (hc : Cl g n f ps p)
    (hq : ∀ env, eval (.Call fe (e :: es) [] pos) env = (do callWith pos (← eval fe env) [] (backTo pos (starEach (e :: es) env)) (backToKw pos (keywordEach [] env))) := by intro _; rfl)
    (hst : ∀ env, (starEach (e :: es) env).any (·.1) = false := by intro _; rfl) (hcons : ∀ env, ∃ x r, starEach (e :: es) env = (false, x) :: r := by intro _; exact ⟨_, _, rfl⟩) : Ev g n sc Γ (.Call fe (e :: es) [] pos) p :=
  fun A env s σ m Q E R hs ok S V ht k => by
    rw [hq]
    exact wpAny_bind (hf A env s σ m _ _ R hs ok S V ht fun v h1 t1 σ1 S1 r1 k1 => by
      rw [r1.val_inv]
      exact callW (fps := []) R hs ok S1.st (V.step S1) k1 he (fun τ h _ S' => hk τ h S') .nil hc (fun v h2 t2 σ2 S2 r2 k2 => k _ _ _ _ (S1.trans S2) r2 k2) (hst _) (hcons _))
theorem Ev.call0 {fe : Expr} {pos : Pos} {f : Value} {p : PV} (hf : Ev g n sc Γ fe (.val f)) (hk : KeepOk g f) (hc : Cl g n f [] p)
    (hq : ∀ env, eval (.Call fe [] [] pos) env = (do callWith pos (← eval fe env) [] (backTo pos (starEach [] env)) (backToKw pos (keywordEach [] env))) := by intro _; rfl) : Ev g n sc Γ (.Call fe [] [] pos) p :=
  fun A env s σ m Q E R hs ok S V ht k => by
    rw [hq]
    exact wpAny_bind (hf A env s σ m _ _ R hs ok S V ht fun v h1 t1 σ1 S1 r1 k1 => by
      rw [r1.val_inv]
      exact callW0 (env := env) (fps := []) R S1.st k1 (fun τ h _ S' => hk τ h S') .nil hc (fun v h2 t2 σ2 S2 r2 k2 => k _ _ _ _ (S1.trans S2) r2 k2))
/-- a call of one of the text's defs by its name -/
theorem Ev.fn {x : Str} {np : Pos} {j : Nat} {e : Expr} {es : List Expr} {pos : Pos} {ps : List PV} {p : PV} (hm : (j, x) ∈ fnTab) (he : Evs g n sc Γ (e :: es) ps) (hc : Fn g n x ps p)
    (hk : sc.names.lookup x = some .globalImplicit := by rfl) (hd : (x == ("__debug__" : Str)) = false := by rfl)
    (hst : ∀ env, (starEach (e :: es) env).any (·.1) = false := by intro _; rfl) (hcons : ∀ env, ∃ x r, starEach (e :: es) env = (false, x) :: r := by intro _; exact ⟨_, _, rfl⟩) : Ev g n sc Γ (.Call (.Name x np) (e :: es) [] pos) p :=
  .call (.fnv hm hk hd) (.fn hm) he (by obtain ⟨a, o, pm, cd, doc, e, _⟩ := g.fn j x hm; exact hc _ (by unfold gv; rw [e]; rfl)) (fun _ => rfl) hst hcons
theorem Ev.fn0 {x : Str} {np : Pos} {j : Nat} {pos : Pos} {p : PV} (hm : (j, x) ∈ fnTab) (hc : Fn g n x [] p)
    (hk : sc.names.lookup x = some .globalImplicit := by rfl) (hd : (x == ("__debug__" : Str)) = false := by rfl) : Ev g n sc Γ (.Call (.Name x np) [] [] pos) p :=
  .call0 (.fnv hm hk hd) (.fn hm) (by obtain ⟨a, o, pm, cd, doc, e, _⟩ := g.fn j x hm; exact hc _ (by unfold gv; rw [e]; rfl)) (fun _ => rfl)
theorem Ev.bi {x : Str} {np : Pos} {v : Value} {e : Expr} {es : List Expr} {pos : Pos} {ps : List PV} {p : PV} (hm : x ∈ biTab) (hv : bootBuiltins x = some v) (hkp : KeepOk g v) (he : Evs g n sc Γ (e :: es) ps) (hc : Cl g n v ps p)
    (hk : sc.names.lookup x = some .globalImplicit := by rfl) (hd : (x == ("__debug__" : Str)) = false := by rfl)
    (hst : ∀ env, (starEach (e :: es) env).any (·.1) = false := by intro _; rfl) (hcons : ∀ env, ∃ x r, starEach (e :: es) env = (false, x) :: r := by intro _; exact ⟨_, _, rfl⟩) : Ev g n sc Γ (.Call (.Name x np) (e :: es) [] pos) p :=
  .call (.biv hm hv hk hd) hkp he hc (fun _ => rfl) hst hcons

/-! methods of the built-in kinds -/
def KindOf (g : Gx) (p : PV) (T : String) : Prop := ∀ σ (s : Shared) v, St g σ s.heap → Rep g σ p v → s.TypeIs v T ∧ ∀ a, v = .ref a → ∃ ob, s.heap.get? a = some ob ∧ ob.dict = Option.none
theorem KindOf.str {x : Str} : KindOf g (.str x) "str" := fun σ s v S r => by
  obtain ⟨t, rfl⟩ := r.str_inv; exact ⟨typeIs_str _ _ _, fun a e => by cases e⟩
theorem KindOf.list {l : List PV} : KindOf g (.list l) "list" := fun σ s v S r => by
  obtain ⟨a, vs, rfl, L, _⟩ := r.list_inv
  refine ⟨(L.isList S.sub).typeIs, fun b e => ?_⟩
  cases e
  obtain ⟨o, n, e1, e2, e3, e4⟩ := L
  exact ⟨o, S.sub _ _ e1, e3⟩
theorem KindOf.dict {l} : KindOf g (.dict l) "dict" := fun σ s v S r => by
  obtain ⟨d, rfl, o, kvs, h1, h2, h3, h4, h5⟩ := r.dict_inv
  refine ⟨⟨o, S.sub _ _ h2, h3⟩, fun b e => ?_⟩
  cases e
  exact ⟨o, S.sub _ _ h2, h4⟩
theorem Ev.meth {o : Expr} {name : Str} {apos pos : Pos} {e : Expr} {es : List Expr} {T id : String} {po p : PV} {ps : List PV} (ho : Ev g n sc Γ o po) (hT : KindOf g po T) (pa : PlainAttrs T) (slot : Slot T name id) (hty : typeOf (.builtin id) = pure (.type "method_descriptor"))
    (he : Evs g n sc Γ (e :: es) ps) (hc : Cl g n (.builtin id) (po :: ps) p)
    (hab : ∀ env, attributeBase o name env (eval o env) = eval o env := by intro _; rfl) (hln : (apos.endLine == pos.line) = true := by rfl)
    (hfew : ∀ env, (((backTo pos (starEach (e :: es) env)).all fun x => !x.1) && (backToKw pos (keywordEach [] env)).all (fun x => x.1.isSome) && decide ((e :: es).length + ([] : List Keyword).length + (if ([] : List (Option Str × Sem Value)).isEmpty = true then 0 else 1) < 30)) = true := by intro _; rfl)
    (hst : ∀ env, (starEach (e :: es) env).any (·.1) = false := by intro _; rfl) (hcons : ∀ env, ∃ x r, starEach (e :: es) env = (false, x) :: r := by intro _; exact ⟨_, _, rfl⟩) : Ev g n sc Γ (.Call (.Attribute o name apos) (e :: es) [] pos) p :=
  fun A env s σ m Q E R hs ok S V ht k => wpAny_Call_method (T := T) (id := id) (hab env) (hfew env) hln pa slot hty (ho A env s σ m _ _ R hs ok S V ht fun v h1 t1 σ1 S1 r1 k1 => by
    obtain ⟨q1, q2⟩ := hT σ1 { s with heap := h1, toks := t1 } v S1.st r1
    exact ⟨q1, q2, callW (fps := [po]) R hs ok S1.st (V.step S1) k1 he (fun τ h _ S' => KeepOk.builtin τ h S') (.cons r1 .nil) hc (fun v h2 t2 σ2 S2 r2 k2 => k _ _ _ _ (S1.trans S2) r2 k2) (hst _) (hcons _)⟩)
end
end Mine
namespace Mine
open PySem PySem.W PyProof.Rows PySem.Calls
set_option Elab.async false
set_option maxRecDepth 100000
set_option linter.unusedVariables false
section
variable {g : Gx} {n : Nat} {sc : Scope} {Γ : VEnv}

/-! subscripts -/
theorem Ev.sub {value slice : Expr} {pos : Pos} {a b c : PV} {T id : String} (h1 : Ev g n sc Γ value a) (h2 : Ev g n sc Γ slice b) (hT : KindOf g a T ∨ (T = "tuple" ∧ ∃ l, a = .tup l)) (hl : typeLookup (.type T) "__getitem__" = pure (some (.builtin id))) (h : Op2 g n getItem a b c)
    (hs : ∀ o i, ∃ ops, subscripted slice false o i = operate ops (getItem o i) := by intro _ _; exact ⟨_, rfl⟩) : Ev g n sc Γ (.Subscript value slice pos) c :=
  .mk fun A env s σ m Q E R hs' ok S V ht k => Subscript_ (h1 A env s σ m _ _ R hs' ok S V ht fun u h1 t1 σ1 S1 r1 k1 =>
    h2 A env _ σ1 m _ _ R hs' ok S1.st (V.step S1) k1 fun v h2 t2 σ2 S2 r2 k2 => by
      obtain ⟨ops, e⟩ := hs u v
      refine tail_any (T := T) (id := id) ?_ hl (h A _ σ2 u v _ _ R S2.st (r1.up S2.le) r2 k2 fun r h3 t3 σ3 S3 r3 => k _ _ _ _ ((S1.trans S2).trans S3) r3) e
      rcases hT with hT | ⟨rfl, l, rfl⟩
      · exact (hT σ2 { s with heap := h2, toks := t2 } u S2.st (r1.up S2.le)).1
      · obtain ⟨t, vs, rfl, L, _⟩ := (r1.up S2.le).tup_inv
        obtain ⟨o, e1, e2, _⟩ := L.isTuple S2.st.sub
        exact ⟨o, e1, e2⟩)
theorem seqIndex_pos {i : Int} {m : Nat} (h0 : 0 ≤ i) (h : i.toNat < m) : seqIndex? i m = some i.toNat := by
  unfold seqIndex?
  have e : (if i < 0 then i + (m : Int) else i) = i := if_neg (by omega)
  simp only [e]
  rw [if_pos]
  simp; omega
theorem Op2.itemL {l : List PV} {i : Int} {c : PV} (h0 : 0 ≤ i) (hi : i < 2 ^ 63) (hx : l[i.toNat]? = some c) : Op2 g n getItem (.list l) (.int i) c := fun A s σ u v Q E R S r1 r2 ht k => by
  obtain ⟨a, vs, rfl, L, rl⟩ := r1.list_inv; obtain ⟨t', rfl⟩ := r2.int_inv
  obtain ⟨w, hw, rw'⟩ := rl.get hx
  exact wpAny_getItem_list (L.isList S.sub) h0 hi (by simpa using hw) (k _ s.heap s.toks σ (.refl S) rw')
theorem Op2.lastL {l : List PV} {c : PV} (hx : l.getLast? = some c) (hlen : l.length < 2 ^ 60) : Op2 g n getItem (.list l) (.int (-1)) c := fun A s σ u v Q E R S r1 r2 ht k => by
  obtain ⟨a, vs, rfl, L, rl⟩ := r1.list_inv; obtain ⟨t', rfl⟩ := r2.int_inv
  rw [List.getLast?_eq_getElem?] at hx
  obtain ⟨w, hw, rw'⟩ := rl.get hx
  have hl := rl.length
  have hpos : 0 < vs.length := by
    cases hv : vs with
    | nil => rw [hv] at hw; simp at hw
    | cons => simp
  refine wpAny_getItem_list_neg (L.isList S.sub) (by omega) (by rw [List.size_toArray]; omega) (by omega) ?_ (k _ s.heap s.toks σ (.refl S) rw')
  rw [List.size_toArray, show (-1 + (vs.length : Int)).toNat = l.length - 1 by omega]
  simpa using hw
theorem Op2.itemT {l : List PV} {i : Int} {c : PV} (h0 : 0 ≤ i) (hi : i < 2 ^ 63) (hx : l[i.toNat]? = some c) : Op2 g n getItem (.tup l) (.int i) c := fun A s σ u v Q E R S r1 r2 ht k => by
  obtain ⟨a, vs, rfl, L, rl⟩ := r1.tup_inv; obtain ⟨t', rfl⟩ := r2.int_inv
  obtain ⟨w, hw, rw'⟩ := rl.get hx
  refine getItem_tuple (j := i.toNat) (L.isTuple S.sub) (by omega) hi ?_ (by simpa using hw) (k _ s.heap s.toks σ (.refl S) rw')
  have hlt : i.toNat < vs.length := by
    rcases Nat.lt_or_ge i.toNat vs.length with h | h
    · exact h
    · rw [List.getElem?_eq_none_iff.mpr h] at hw; cases hw
  rw [List.size_toArray]
  exact seqIndex_pos h0 hlt
theorem Op2.itemS {x : Str} {i : Int} {c : Nat} (h0 : 0 ≤ i) (hi : i < 2 ^ 63) (hx : x.cps[i.toNat]? = some c) : Op2 g n getItem (.str x) (.int i) (.str ⟨#[c]⟩) := fun A s σ u v Q E R S r1 r2 ht k => by
  obtain ⟨t, rfl⟩ := r1.str_inv; obtain ⟨t', rfl⟩ := r2.int_inv
  have hlt : i.toNat < x.cps.size := by
    rcases Nat.lt_or_ge i.toNat x.cps.size with h | h
    · exact h
    · rw [Array.getElem?_eq_none_iff.mpr h] at hx; cases hx
  refine getItem_str (c := c) (by simp; omega) ?_ (k _ s.heap _ σ (.refl S) rep_str)
  rw [show seqIndex? i x.length = some i.toNat from seqIndex_pos h0 hlt]; exact hx
theorem DictP.dictOf {σ : PH} {h : Heap} {d l} (k : Sub σ h) (D : DictP g σ d l) : (d == sysModules) = false ∧ h.DictOf (PySem.strKind prog66 g.w) d (Classical.choose (Classical.choose_spec D)) := by
  have z := Classical.choose_spec (Classical.choose_spec D)
  obtain ⟨h1, h2, h3, h4, ⟨es, ep, x1, x2, x3, x4, x5⟩, h6⟩ := z
  exact ⟨h1, ⟨_, es, ep, k _ _ h2, x1, x2, x3, x4, x5⟩⟩
theorem paired_find {x : Str} : ∀ {kvs : List (Str × Value)} {l : List (Str × Str)}, Paired (fun (a : Str × Value) (b : Str × Str) => a.1 = b.1 ∧ ∃ t, a.2 = .str b.2 t) kvs l → (∀ c, l.lookup x = some c → ∃ w, valueAt kvs x = some w ∧ ∃ t, w = .str c t) ∧ (l.lookup x = Option.none → valueAt kvs x = Option.none)
  | [], [], .nil => ⟨fun c e => (by cases e), fun _ => rfl⟩
  | (a, v) :: kvs, (b, c) :: l, .cons h t => by
    obtain ⟨e1, tk, e2⟩ := h
    simp only at e1 e2
    subst e1 e2
    have ih := paired_find (x := x) t
    by_cases hx : x = a
    · subst hx
      refine ⟨fun d e => ?_, fun e => ?_⟩
      · simp at e; subst e; exact ⟨_, by simp [valueAt], tk, rfl⟩
      · simp at e
    · have hb : (x == a) = false := by simpa using hx
      have hn : ¬ a = x := fun q => hx q.symm
      refine ⟨fun d e => ?_, fun e => ?_⟩
      · rw [List.lookup_cons, hb] at e
        obtain ⟨w, h1, h2⟩ := ih.1 d e
        exact ⟨w, by simpa [valueAt, List.find?_cons, hn] using h1, h2⟩
      · rw [List.lookup_cons, hb] at e
        simpa [valueAt, List.find?_cons, hn] using ih.2 e
theorem DictP.find {σ : PH} {d l} {x c : Str} (D : DictP g σ d l) (hx : l.lookup x = some c) : ∃ w, valueAt (Classical.choose (Classical.choose_spec D)) x = some w ∧ ∃ t, w = .str c t := by
  have z := Classical.choose_spec (Classical.choose_spec D)
  exact (paired_find z.2.2.2.2.2).1 c hx
theorem DictP.miss {σ : PH} {d l} {x : Str} (D : DictP g σ d l) (hx : l.lookup x = Option.none) : valueAt (Classical.choose (Classical.choose_spec D)) x = Option.none := by
  have z := Classical.choose_spec (Classical.choose_spec D)
  exact (paired_find z.2.2.2.2.2).2 hx
theorem Op2.itemD {l : List (Str × Str)} {x c : Str} (hx : l.lookup x = some c) : Op2 g n getItem (.dict l) (.str x) (.str c) := fun A s σ u v Q E R S r1 r2 ht k => by
  obtain ⟨d, rfl, D⟩ := r1.dict_inv; obtain ⟨t', rfl⟩ := r2.str_inv
  obtain ⟨w, hw, t, e⟩ := D.find hx
  exact wpAny_getItem_of (knd := PySem.strKind prog66 g.w) (strKind_is _ _ _ _) (D.dictOf S.sub).2.mapOf hw (k _ s.heap _ σ (.refl S) (e ▸ rep_str))

theorem Cl.get {l : List (Str × Str)} {x y : Str} : Cl g n (.builtin "dict.get") [.dict l, .str x, .str y] (.str ((l.lookup x).getD y)) := .mk fun A s σ vs Q E R S r ht k => by
  obtain ⟨v1, vs, rfl, r1, r⟩ := r.cons_inv; obtain ⟨v2, vs, rfl, r2, r⟩ := r.cons_inv; obtain ⟨v3, vs, rfl, r3, r⟩ := r.cons_inv; rw [r.nil_inv]
  obtain ⟨d, rfl, D⟩ := r1.dict_inv; obtain ⟨t, rfl⟩ := r2.str_inv; obtain ⟨t', rfl⟩ := r3.str_inv
  have M := (D.dictOf S.sub).2.mapOf
  refine call_meetsIn F.slot_dict_get M.typeIs F.entry_dict_get (F.args_dict_get_3 _ _ _) (meets_dict_get_default (PySem.strKind prog66 g.w) d (strKind_is _ _ _ _) (D.dictOf S.sub).1 _) ⟨_, M, ?_⟩
  show Q _ _
  refine k _ s.heap _ σ (.refl S) ?_
  cases hl : l.lookup x with
  | none => rw [D.miss hl]; exact rep_str
  | some c => obtain ⟨w, hw, t, e⟩ := D.find hl; rw [hw, e]; exact rep_str

/-! cuts -/
def clp (n : Nat) (i : Int) : Nat := (max 0 (min (if i < 0 then i + n else i) n)).toNat
def pySl {α : Type} (l : List α) (lo hi : Option Int) : List α :=
  (l.take (match hi with | .none => l.length | .some i => clp l.length i)).drop (match lo with | .none => 0 | .some i => clp l.length i)
theorem filterMap_range {α : Type} (l : List α) (A : Nat) : ∀ c : Nat, ((List.range c).map fun k => A + k).filterMap (fun k => l[k]?) = (l.drop A).take c
  | 0 => by simp
  | c + 1 => by
    rw [List.range_succ, List.map_append, List.filterMap_append, filterMap_range l A c, List.take_add_one, List.getElem?_drop]
    cases h : l[A + c]? <;> simp [h]
theorem pick_range {α : Type} (l : List α) (a b : Nat) : (sliceRange a b 1).filterMap (fun k => l[k]?) = (l.take b).drop a := by
  unfold sliceRange
  have e : ((if (1 : Int) > 0 then (if (a : Int) < b then ((b : Int) - a + 1 - 1) / 1 else 0) else (if (a : Int) > b then ((a : Int) - b - 1 - 1) / (-1) else 0)).toNat) = b - a := by
    rw [if_pos (by decide)]
    split
    · rw [Int.ediv_one]; omega
    · simp; omega
  simp only [e]
  have e2 : (fun k : Nat => ((a : Int) + 1 * (k : Int)).toNat) = fun k => a + k := by funext k; omega
  rw [e2, filterMap_range, List.drop_take]
theorem pick_bounds {α : Type} (l : List α) (lo hi : Option Int) : (sliceRange (sliceBounds lo hi .none l.length).1 (sliceBounds lo hi .none l.length).2.1 (sliceBounds lo hi .none l.length).2.2).filterMap (fun k => l[k]?) = pySl l lo hi := by
  have key : ∀ x : Int, (max 0 (min (if x < 0 then x + (l.length : Int) else x) (l.length : Int))) = ((clp l.length x : Nat) : Int) := fun x => by unfold clp; omega
  unfold pySl
  cases lo <;> cases hi <;> simp only [sliceBounds, Option.getD_none, if_true, show (1 : Int) > 0 from by decide, key]
  · exact pick_range l 0 l.length
  · exact pick_range l 0 _
  · exact pick_range l _ l.length
  · exact pick_range l _ _
theorem pick_str {α : Type} (l : List α) (lo hi : Option Int) : (Builtin.Str.strSliceIndices lo hi 1 l.length).filterMap (fun k => l[k]?) = pySl l lo hi := by
  rw [← pick_bounds]; rfl
theorem RepL.pySl {σ : PH} {ps vs} (h : RepL g σ ps vs) (lo hi : Option Int) : RepL g σ (Mine.pySl ps lo hi) (Mine.pySl vs lo hi) := by
  unfold Mine.pySl; rw [h.length]; exact (h.take _).drop _

def EvO (g : Gx) (n : Nat) (sc : Scope) (Γ : VEnv) (e : Option Expr) (p : Option Int) : Prop :=
  (e = .none ∧ p = .none) ∨ ∃ x i, e = .some x ∧ p = .some i ∧ Ev g n sc Γ x (.int i)
theorem EvO.no : EvO g n sc Γ .none .none := .inl ⟨rfl, rfl⟩
theorem EvO.yes {e : Expr} {i : Int} (h : Ev g n sc Γ e (.int i)) : EvO g n sc Γ (some e) (some i) := .inr ⟨e, i, rfl, rfl, h⟩
theorem EvO.run {e : Option Expr} {p : Option Int} (h : EvO g n sc Γ e p) {A : Around} {env : Env} {s : Shared} {σ : PH} {m} {Q E : Value → Shared → Prop} (R : Room A n) (hs : env.scope = sc) (ok : EnvOk env) (S : St g σ s.heap) (V : Vars g env Γ σ s.heap m) (ht : 1 ≤ s.toks)
    (k : ∀ v q h' tk σ', Step g σ s.heap σ' h' → v = partValue q → q.map (·.1) = p → 1 ≤ tk → Q v { s with heap := h', toks := tk }) : W g A (evalPart e env) Q E s := by
  rcases h with ⟨rfl, rfl⟩ | ⟨x, i, rfl, rfl, h⟩
  · exact wpAny_evalPart_none (k _ .none s.heap s.toks σ (.refl S) rfl rfl ht)
  · exact wpAny_evalPart_some (h A env s σ m _ _ R hs ok S V ht fun v h1 t1 σ1 S1 r1 k1 => by
      obtain ⟨t, rfl⟩ := r1.int_inv
      exact k _ (some (i, t)) _ _ _ S1 rfl rfl k1)
theorem part_of {v : Value} {q : Option (Int × Tok)} {p : Option Int} (e : v = partValue q) (h : q.map (·.1) = p) : IsPart v p := by
  cases q with
  | none => subst e; subst h; exact .none
  | some x => obtain ⟨i, t⟩ := x; subst e; subst h; exact .int i t

theorem Ev.cutL {value : Expr} {lower upper : Option Expr} {p pos : Pos} {l : List PV} {pl pu : Option Int} (h1 : Ev g n sc Γ value (.list l)) (hl : EvO g n sc Γ lower pl) (hu : EvO g n sc Γ upper pu) (hsz : l.length ≤ sizeLine) : Ev g n sc Γ (.Subscript value (.Slice lower upper .none p) pos) (.list (pySl l pl pu)) :=
  .mk fun A env s σ m Q E R hs ok S V ht k => Subscript_ (h1 A env s σ m _ _ R hs ok S V ht fun u h1 t1 σ1 S1 r1 k1 => by
    refine wpAny_Slice (hl.run R hs ok S1.st (V.step S1) k1 fun v2 q2 h2 t2 σ2 S2 e2 p2 k2 => hu.run R hs ok S2.st ((V.step S1).step S2) k2 fun v3 q3 h3 t3 σ3 S3 e3 p3 k3 => wpAny_evalPart_none ?_)
    obtain ⟨a, vs, rfl, L, rl⟩ := ((r1.up S2.le).up S3.le).list_inv
    have L' := L.isList S3.st.sub
    have SS := S3.st.push { cls := .type "slice", data := .fields #[v2, v3, .none] }
    have hsl : Heap.IsSliceOf (h3.push { cls := .type "slice", data := .fields #[v2, v3, .none] }) h3.objs.size v2 v3 .none := ⟨_, Heap.get?_push_size _ rfl, rfl, rfl⟩
    refine tail_any (T := "list") (L'.push _).typeIs PySem.slot_list_getitem.lookup (ops := [.ref h3.objs.size, .ref a]) (wpAny_getItem_list_slice (L'.push _) hsl (part_of e2 p2) (part_of e3 p3) .none (by exact nofun) ?_ (by rw [List.size_toArray, rl.length]; exact hsz)) rfl
    have e : slicePick vs.toArray pl pu .none = (pySl vs pl pu).toArray := by
      unfold slicePick
      rw [List.size_toArray, ← pick_bounds]
      simp
    rw [e]
    have S4 := SS.st.push { cls := .type "list", data := .seq (pySl vs pl pu).toArray }
    exact k _ _ _ _ ((((S1.trans S2).trans S3).trans SS).trans S4) (rep_list listP_push ((rl.pySl pl pu).up (SS.le.trans S4.le))))
theorem sub_full {α : Type} {a b : List α} (h : a.Sublist b) (e : a.length = b.length) : a = b := h.eq_of_length e
theorem picked_in {x : Str} {q2 q3 : Option (Int × Tok)} {j : Nat} (hj : j ∈ slicePicked x q2 q3 .none) : (x.cps[j]?).isSome = true := by
  unfold slicePicked Builtin.Str.strSliceIndices sliceRange at hj
  obtain ⟨k, hk, rfl⟩ := List.mem_map.mp hj
  rw [List.mem_range] at hk
  simp only [Option.map_none, Option.getD_none, show (1 : Int) > 0 from by decide, if_true] at hk ⊢
  have hlt : ∀ a b : Int, 0 ≤ a → b ≤ x.length → k < (if a < b then (b - a + 1 - 1) / 1 else 0).toNat → (a + 1 * (k : Int)).toNat < x.cps.size := fun a b h1 h2 h3 => by
    rw [Int.ediv_one] at h3
    have : x.length = x.cps.size := rfl
    split at h3
    · omega
    · simp at h3
  have := hlt _ _ (by cases q2 <;> simp <;> omega) (by cases q3 <;> simp <;> omega) hk
  rw [Array.getElem?_eq_getElem this]; rfl
def cutS (x : Str) (lo hi : Option Int) : Str := ⟨(pySl x.cps.toList lo hi).toArray⟩
theorem Ev.cutS {value : Expr} {lower upper : Option Expr} {p pos : Pos} {x : Str} {pl pu : Option Int} (h1 : Ev g n sc Γ value (.str x)) (hl : EvO g n sc Γ lower pl) (hu : EvO g n sc Γ upper pu) (hsz : x.length ≤ sizeLine) : Ev g n sc Γ (.Subscript value (.Slice lower upper .none p) pos) (.str (cutS x pl pu)) :=
  .mk fun A env s σ m Q E R hs ok S V ht k => Subscript_ (h1 A env s σ m _ _ R hs ok S V ht fun u h1 t1 σ1 S1 r1 k1 => by
    refine wpAny_Slice (hl.run R hs ok S1.st (V.step S1) k1 fun v2 q2 h2 t2 σ2 S2 e2 p2 k2 => hu.run R hs ok S2.st ((V.step S1).step S2) k2 fun v3 q3 h3 t3 σ3 S3 e3 p3 k3 => wpAny_evalPart_none ?_)
    obtain ⟨t, rfl⟩ := r1.str_inv
    subst e2 e3
    have SS := S3.st.push { cls := .type "slice", data := .fields #[partValue q2, partValue q3, .none] }
    have hsl : Heap.IsSlice (h3.push { cls := .type "slice", data := .fields #[partValue q2, partValue q3, .none] }) h3.objs.size q2 q3 .none := ⟨_, Heap.get?_push_size _ rfl, rfl, rfl⟩
    refine tail_any (T := "str") (typeIs_str _ _ _) PySem.F.slot_str_getitem.lookup (ops := [.ref h3.objs.size, .str x t]) (wpAny_getItem_str_slice hsl rfl ?_) rfl
    have e : (slicePicked x q2 q3 .none).filterMap (x.cps[·]?) = pySl x.cps.toList pl pu := by
      unfold slicePicked
      rw [p2, p3, ← pick_str]
      simp [Str.length]
    have fin : ∀ t tk, Q (.str (Mine.cutS x pl pu) t) { s with heap := h3.push { cls := .type "slice", data := .fields #[partValue q2, partValue q3, .none] }, toks := tk } := fun t tk => k _ _ tk _ (((S1.trans S2).trans S3).trans SS) rep_str
    unfold sliceMade
    split
    · rename_i hfull
      have hx : Mine.cutS x pl pu = x := by
        have hlen : (pySl x.cps.toList pl pu).length = x.cps.size := by
          rw [← e]
          simp only [Bool.and_eq_true, beq_iff_eq] at hfull
          rw [List.length_filterMap_eq_countP, List.countP_eq_length.mpr]
          · exact hfull.2
          · intro j hj
            exact picked_in hj
        unfold Mine.cutS
        rw [show pySl x.cps.toList pl pu = x.cps.toList from sub_full (by unfold pySl; exact (List.drop_sublist _ _).trans (List.take_sublist _ _)) (by rw [hlen, Array.length_toList])]
      rw [hx] at fin
      exact fin t _
    · rw [e]
      exact ⟨(by show (Str.mk _).length ≤ _; unfold Str.length; rw [List.size_toArray]; exact Nat.le_trans (by unfold pySl; exact (List.Sublist.length_le ((List.drop_sublist _ _).trans (List.take_sublist _ _)))) (by rw [Array.length_toList]; exact hsz)), fin _ _⟩)
end
end Mine
namespace Mine
open PySem PySem.W PyProof.Rows PySem.Calls
set_option Elab.async false
set_option maxRecDepth 100000
set_option linter.unusedVariables false
section
variable {g : Gx} {n : Nat} {sc : Scope} {Γ : VEnv}

theorem Cl.lenL {l : List PV} (h : l.length < 2 ^ 63) : Cl g n (.builtin "len") [.list l] (.int l.length) := .mk fun A s σ vs Q E R S r ht k => by
  obtain ⟨v1, vs, rfl, r1, r⟩ := r.cons_inv; rw [r.nil_inv]
  obtain ⟨a, us, rfl, L, rl⟩ := r1.list_inv
  have e := rl.length
  refine call_len_list (L.isList S.sub) (by rw [List.size_toArray]; omega) ?_
  rw [List.size_toArray, e]
  exact k _ s.heap _ σ (.refl S) rep_int
theorem Cl.lenS {x : Str} (h : x.length < 2 ^ 63) : Cl g n (.builtin "len") [.str x] (.int x.length) := .mk fun A s σ vs Q E R S r ht k => by
  obtain ⟨v1, vs, rfl, r1, r⟩ := r.cons_inv; rw [r.nil_inv]
  obtain ⟨t, rfl⟩ := r1.str_inv
  exact len_str (by omega) (k _ s.heap _ σ (.refl S) rep_int)
theorem Cl.isiI {i : Int} : Cl g n (.builtin "isinstance") [.int i, .val (.type "int")] (.bool true) := .mk fun A s σ vs Q E R S r ht k => by
  obtain ⟨v1, vs, rfl, r1, r⟩ := r.cons_inv; obtain ⟨v2, vs, rfl, r2, r⟩ := r.cons_inv; rw [r.nil_inv]
  obtain ⟨t, rfl⟩ := r1.int_inv; rw [r2.val_inv]
  exact call_isinstance (isinstance_true (Tx := "int") (by kernel_rfl) (by kernel_rfl)) ⟨rfl, k _ s.heap s.toks σ (.refl S) rep_bool⟩
theorem Cl.isiS {x : Str} : Cl g n (.builtin "isinstance") [.str x, .val (.type "int")] (.bool false) := .mk fun A s σ vs Q E R S r ht k => by
  obtain ⟨v1, vs, rfl, r1, r⟩ := r.cons_inv; obtain ⟨v2, vs, rfl, r2, r⟩ := r.cons_inv; rw [r.nil_inv]
  obtain ⟨t, rfl⟩ := r1.str_inv; rw [r2.val_inv]
  exact call_isinstance (isinstance_false_str (by rfl) (by kernel_rfl) (by kernel_rfl)) (k _ s.heap _ σ (.refl S) rep_bool)
theorem Cl.find3 {x y : Str} {i : Int} : Cl g n (.builtin "str.find") [.str x, .str y, .int i] (.int (Txt.find3 x y i)) := .mk fun A s σ vs Q E R S r ht k => by
  obtain ⟨v1, vs, rfl, r1, r⟩ := r.cons_inv; obtain ⟨v2, vs, rfl, r2, r⟩ := r.cons_inv; obtain ⟨v3, vs, rfl, r3, r⟩ := r.cons_inv; rw [r.nil_inv]
  obtain ⟨t, rfl⟩ := r1.str_inv; obtain ⟨t', rfl⟩ := r2.str_inv; obtain ⟨t'', rfl⟩ := r3.int_inv
  exact SC.find3 (k _ s.heap _ σ (.refl S) rep_int)
theorem Cl.max {a b : Int} : Cl g n (.builtin "max") [.int a, .int b] (.int (if b > a then b else a)) := .mk fun A s σ vs Q E R S r ht k => by
  obtain ⟨v1, vs, rfl, r1, r⟩ := r.cons_inv; obtain ⟨v2, vs, rfl, r2, r⟩ := r.cons_inv; rw [r.nil_inv]
  obtain ⟨t, rfl⟩ := r1.int_inv; obtain ⟨t', rfl⟩ := r2.int_inv
  refine max_two_ints R.hd fun h' tk hk => k _ h' tk σ (S.grow hk) ?_
  split <;> exact rep_int

theorem reps_strs {σ : PH} : ∀ (ts : List Str) (tk : Nat), RepL g σ (ts.map .str) (strsFrom tk ts)
  | [], tk => .nil
  | t :: ts, tk => .cons rep_str (reps_strs ts (tk + 1))
theorem Cl.split {x y : Str} (hy : (y.length == 0) = false) (hsz : x.length ≤ sizeLine) (hsz2 : (Builtin.Str.partsBetween x (Builtin.Str.occurrences x y 0 x.length (x.length + 1)) y.length).length ≤ sizeLine) :
    Cl g n (.builtin "str.split") [.str x, .str y] (.list ((Txt.split x y).map .str)) := .mk fun A s σ vs Q E R S r ht k => by
  obtain ⟨v1, vs, rfl, r1, r⟩ := r.cons_inv; obtain ⟨v2, vs, rfl, r2, r⟩ := r.cons_inv; rw [r.nil_inv]
  obtain ⟨t, rfl⟩ := r1.str_inv; obtain ⟨u, rfl⟩ := r2.str_inv
  have one : ∀ tk, Q (.ref s.heap.objs.size) { s with heap := s.heap.push { cls := .type "list", data := .seq [Value.str x t].toArray }, toks := tk } ∨ Txt.split x y ≠ [x] := fun tk => by
    by_cases e : Txt.split x y = [x]
    · refine .inl (k _ _ _ _ (S.push _) (rep_list listP_push ?_))
      rw [e]; exact .cons rep_str .nil
    · exact .inr e
  cases h1 : (decide (x.length < y.length) || decide (Builtin.Str.strKind x < Builtin.Str.strKind y))
  · cases hf : (Builtin.Str.occurrences x y 0 x.length (x.length + 1)).isEmpty
    · refine call_meets F.slot_str_split (typeIs_str _ _ _) F.entry_str_split (F.args_str_split_2 _ _) (meets_str_split_sep x y t u h1 hy hf hsz hsz2) ?_
      refine k _ _ _ _ (S.push _) (rep_list listP_push ?_)
      rw [show Txt.split x y = Builtin.Str.partsBetween x (Builtin.Str.occurrences x y 0 x.length (x.length + 1)) y.length from by unfold Txt.split; rw [h1, hf]; rfl]
      exact reps_strs _ _
    · refine call_meets F.slot_str_split (typeIs_str _ _ _) F.entry_str_split (F.args_str_split_2 _ _) (meets_str_split_not_found x y t u h1 hy hf) ?_
      exact (one s.toks).resolve_right fun h => h (by unfold Txt.split; rw [h1, hf]; rfl)
  · refine call_meets F.slot_str_split (typeIs_str _ _ _) F.entry_str_split (F.args_str_split_2 _ _) (meets_str_split_cannot_occur x y t u h1) ?_
    exact (one s.toks).resolve_right fun h => h (by unfold Txt.split; rw [h1]; rfl)
theorem Cl.partition {x y : Str} (hy : (y.length == 0) = false) (hsz : x.length ≤ sizeLine) : Cl g n (.builtin "str.partition") [.str x, .str y] (.tup [.str (Txt.partition x y).1, .str (Txt.partition x y).2.1, .str (Txt.partition x y).2.2]) := .mk fun A s σ vs Q E R S r ht k => by
  obtain ⟨v1, vs, rfl, r1, r⟩ := r.cons_inv; obtain ⟨v2, vs, rfl, r2, r⟩ := r.cons_inv; rw [r.nil_inv]
  obtain ⟨t, rfl⟩ := r1.str_inv; obtain ⟨u, rfl⟩ := r2.str_inv
  refine call_meets F.slot_str_partition (typeIs_str _ _ _) F.entry_str_partition (F.args_str_partition_2 _ _) (meets_str_partition x y t u hy hsz) ?_
  unfold Txt.partition at k
  revert k
  cases Builtin.Str.occurrences x y 0 x.length 1 with
  | nil => intro k; exact k _ _ _ _ (S.push _) (rep_tup (tupP_push (vs := [_, _, _])) (.cons rep_str (.cons rep_str (.cons rep_str .nil))))
  | cons i r => intro k; exact k _ _ _ _ (S.push _) (rep_tup (tupP_push (vs := [_, _, _])) (.cons rep_str (.cons rep_str (.cons rep_str .nil))))
theorem strs_of {σ : PH} : ∀ {ts : List Str} {vs : List Value}, RepL g σ (ts.map .str) vs → ∃ l : List (Str × Tok), vs = strValues l ∧ l.map (·.1) = ts
  | [], vs, r => ⟨[], r.nil_inv, rfl⟩
  | t :: ts, vs, r => by
    obtain ⟨v, us, rfl, r1, r2⟩ := r.cons_inv
    obtain ⟨tk, rfl⟩ := r1.str_inv
    obtain ⟨l, rfl, e⟩ := strs_of r2
    exact ⟨(t, tk) :: l, rfl, by rw [List.map_cons, e]⟩
theorem Cl.join {x : Str} {ts : List Str} (hok : JoinOk x ts = true) : Cl g n (.builtin "str.join") [.str x, .list (ts.map .str)] (.str (Txt.join x ts)) := .mk fun A s σ vs Q E R S r ht k => by
  obtain ⟨v1, vs, rfl, r1, r⟩ := r.cons_inv; obtain ⟨v2, vs, rfl, r2, r⟩ := r.cons_inv; rw [r.nil_inv]
  obtain ⟨t, rfl⟩ := r1.str_inv; obtain ⟨a, us, rfl, L, rl⟩ := r2.list_inv
  obtain ⟨l, rfl, e⟩ := strs_of rl
  exact SC.join (L.isList S.sub) e hok fun t' tk => k _ s.heap _ σ (.refl S) rep_str

/-! equality -/
mutual
def PV.plain : PV → Bool
  | .int _ => true
  | .str _ => true
  | .list l => PV.plainL l
  | .tup l => PV.plainL l
  | _ => false
def PV.plainL : List PV → Bool
  | [] => true
  | p :: ps => p.plain && PV.plainL ps
end
mutual
def PV.dep : PV → Nat
  | .list l => PV.depL l + 1
  | .tup l => PV.depL l + 1
  | _ => 0
def PV.depL : List PV → Nat
  | [] => 0
  | p :: ps => max p.dep (PV.depL ps)
end

theorem all_true (k : Nat) : (List.range k).all (fun _ => true) = true := by simp
mutual
theorem eqAt_rep {σ : PH} {s : Shared} (S : St g σ s.heap) : (p : PV) → p.plain = true → (A : Around) → A.units + p.dep < cLine → (u v : Value) → Rep g σ p u → Rep g σ p v → SeqAt.EqAt A s u v true
  | .int i, _, A, hu, u, v, r1, r2 => by
    obtain ⟨t, rfl⟩ := r1.int_inv; obtain ⟨t', rfl⟩ := r2.int_inv
    have := SeqAt.EqAt.int_int (A := A) (s := s) i t i t'
    simpa using this
  | .str x, _, A, hu, u, v, r1, r2 => by
    obtain ⟨t, rfl⟩ := r1.str_inv; obtain ⟨t', rfl⟩ := r2.str_inv
    have := SeqAt.EqAt.str_str (A := A) (s := s) x t x t'
    simpa using this
  | .list l, hp, A, hu, u, v, r1, r2 => by
    obtain ⟨a, us, rfl, L1, R1⟩ := r1.list_inv; obtain ⟨b, vs, rfl, L2, R2⟩ := r2.list_inv
    by_cases hab : a = b
    · subst hab; exact SeqAt.EqAt.same _
    · unfold PV.dep at hu
      unfold PV.plain at hp
      refine SeqAt.EqAt.of_refs hab ?_
      have := SeqAt.RcAt.lists (A := A) (s := s) (e := fun _ => true) (L1.isList S.sub) (L2.isList S.sub) (by rw [List.size_toArray, List.size_toArray, R1.length, R2.length]) (by omega) (fun j h1 h2 => by
        have := eqAt_repL S l hp A.in1 (by show A.units + 1 + _ < _; omega) us vs R1 R2 j (by simpa using h1) (by simpa using h2)
        simpa using this)
      rw [all_true] at this
      exact this
  | .tup l, hp, A, hu, u, v, r1, r2 => by
    obtain ⟨a, us, rfl, L1, R1⟩ := r1.tup_inv; obtain ⟨b, vs, rfl, L2, R2⟩ := r2.tup_inv
    by_cases hab : a = b
    · subst hab; exact SeqAt.EqAt.same _
    · unfold PV.dep at hu
      unfold PV.plain at hp
      refine SeqAt.EqAt.of_refs hab ?_
      have := SeqAt.RcAt.tuples (A := A) (s := s) (e := fun _ => true) (L1.isTuple S.sub) (L2.isTuple S.sub) (by omega) (fun j h1 h2 => by
        have := eqAt_repL S l hp A.in1 (by show A.units + 1 + _ < _; omega) us vs R1 R2 j (by simpa using h1) (by simpa using h2)
        simpa using this)
      rw [all_true, List.size_toArray, List.size_toArray, R1.length, R2.length] at this
      simpa using this
  | .none, hp, _, _, _, _, _, _ => by cases hp
  | .bool _, hp, _, _, _, _, _, _ => by cases hp
  | .dict _, hp, _, _, _, _, _, _ => by cases hp
  | .val _, hp, _, _, _, _, _, _ => by cases hp
  | .ohit _, hp, _, _, _, _, _, _ => by cases hp
  | .prog _, hp, _, _, _, _, _, _ => by cases hp
  | .range _ _, hp, _, _, _, _, _, _ => by cases hp
  | .srch _, hp, _, _, _, _, _, _ => by cases hp
theorem eqAt_repL {σ : PH} {s : Shared} (S : St g σ s.heap) : (l : List PV) → PV.plainL l = true → (A : Around) → A.units + PV.depL l < cLine → (us vs : List Value) → RepL g σ l us → RepL g σ l vs → ∀ (j : Nat) (h1 : j < us.length) (h2 : j < vs.length), SeqAt.EqAt A s us[j] vs[j] true
  | [], _, A, hu, us, vs, r1, r2, j, h1, h2 => by rw [r1.nil_inv] at h1; exact absurd h1 (Nat.not_lt_zero _)
  | p :: ps, hp, A, hu, us, vs, r1, r2, j, h1, h2 => by
    obtain ⟨u, us, rfl, a1, b1⟩ := r1.cons_inv; obtain ⟨v, vs, rfl, a2, b2⟩ := r2.cons_inv
    unfold PV.plainL at hp
    unfold PV.depL at hu
    rw [Bool.and_eq_true] at hp
    cases j with
    | zero => exact eqAt_rep S p hp.1 A (by omega) u v a1 a2
    | succ j => exact eqAt_repL S ps hp.2 A (by omega) us vs b1 b2 j (by simpa using h1) (by simpa using h2)
end
theorem Op2.neL {l : List PV} (hp : PV.plainL l = true) (hd : PV.depL l < 20 * n) : Op2 g n (compareOp .NotEq) (.list l) (.list l) (.bool false) := fun A s σ u v Q E R S r1 r2 ht k => by
  obtain ⟨a, us, rfl, L1, R1⟩ := r1.list_inv; obtain ⟨b, vs, rfl, L2, R2⟩ := r2.list_inv
  have hu := R.un
  refine cmp_ofNotEq ?_
  have := SeqAt.RcNeAt.lists (A := A) (s := s) (e := fun _ => true) (L1.isList S.sub) (L2.isList S.sub) (by rw [List.size_toArray, List.size_toArray, R1.length, R2.length]) R.units (fun j h1 h2 => by
    have := eqAt_repL S l hp A.in1 (by show A.units + 1 + _ < 9900; omega) us vs R1 R2 j (by simpa using h1) (by simpa using h2)
    simpa using this)
  rw [all_true] at this
  exact this _ _ _ _ (k _ s.heap s.toks σ (.refl S) rep_bool)
theorem Op2.neT {l : List PV} (hp : PV.plainL l = true) (hd : PV.depL l < 20 * n) : Op2 g n (compareOp .NotEq) (.tup l) (.tup l) (.bool false) := fun A s σ u v Q E R S r1 r2 ht k => by
  obtain ⟨a, us, rfl, L1, R1⟩ := r1.tup_inv; obtain ⟨b, vs, rfl, L2, R2⟩ := r2.tup_inv
  have hu := R.un
  refine cmp_ofNotEq ?_
  have := SeqAt.RcNeAt.tuples (A := A) (s := s) (e := fun _ => true) (L1.isTuple S.sub) (L2.isTuple S.sub) R.units (fun j h1 h2 => by
    have := eqAt_repL S l hp A.in1 (by show A.units + 1 + _ < 9900; omega) us vs R1 R2 j (by simpa using h1) (by simpa using h2)
    simpa using this)
  rw [all_true, List.size_toArray, List.size_toArray, R1.length, R2.length] at this
  simp only [beq_self_eq_true, Bool.and_true, Bool.not_true] at this
  exact this _ _ _ _ (k _ s.heap s.toks σ (.refl S) rep_bool)
theorem Op2.eqNil {l : List PV} : Op2 g n (compareOp .Eq) (.list l) (.list []) (.bool l.isEmpty) := fun A s σ u v Q E R S r1 r2 ht k => by
  obtain ⟨a, us, rfl, L1, R1⟩ := r1.list_inv; obtain ⟨b, vs, rfl, L2, R2⟩ := r2.list_inv
  have e2 := R2.nil_inv; subst e2
  cases l with
  | nil =>
    have e1 := R1.nil_inv; subst e1
    exact SeqAt.eq_listAt (e := fun _ => true) (L1.isList S.sub) (L2.isList S.sub) rfl R.units (fun j h1 => absurd h1 (by simp)) (k _ s.heap s.toks σ (.refl S) rep_bool)
  | cons p ps =>
    obtain ⟨v, r, rfl, _⟩ := R1.cons_inv
    exact SeqAt.eq_list_lengthsAt (L1.isList S.sub) (L2.isList S.sub) (by simp) R.units (k _ s.heap s.toks σ (.refl S) rep_bool)
end
end Mine
namespace Mine
open PySem PySem.W PyProof.Rows PySem.Calls
set_option Elab.async false
set_option maxRecDepth 100000
set_option linter.unusedVariables false
/-! frames of functions with a closure -/
theorem cells_app : ∀ (names : List (Str × NameKind)) (n : Nat) (acc cl : List (Str × Addr)), cellsFrom n names (acc ++ cl) = cellsFrom n names acc ++ cl
  | [], n, acc, cl => rfl
  | (x, k) :: r, n, acc, cl => by
    unfold cellsFrom
    split
    · exact cells_app r (n + 1) ((x, n) :: acc) cl
    · exact cells_app r n acc cl
theorem lookup_app {β : Type} {x : Str} {b : β} : ∀ {l r : List (Str × β)}, l.lookup x = some b → (l ++ r).lookup x = some b
  | [], r, h => by cases h
  | (y, c) :: t, r, h => by
    rw [List.cons_append, List.lookup_cons]
    rw [List.lookup_cons] at h
    cases q : x == y with
    | true => rw [q] at h; exact h
    | false => rw [q] at h; exact lookup_app h
theorem lookup_app_none {β : Type} {x : Str} : ∀ {l r : List (Str × β)}, l.lookup x = none → (l ++ r).lookup x = r.lookup x
  | [], r, h => rfl
  | (y, c) :: t, r, h => by
    rw [List.cons_append, List.lookup_cons]
    rw [List.lookup_cons] at h
    cases q : x == y with
    | true => rw [q] at h; cases h
    | false => rw [q] at h; exact lookup_app_none h
theorem store_cells {env : Env} {cs : List (Str × Addr)} {x : Str} {v : Value} (h : env.kindOf x = some .local ∨ (env.kindOf x = some .cell ∧ env.cells.lookup x = cs.lookup x)) : storeName env x v = storeName { env with cells := cs } x v := by
  have hk : ({ env with cells := cs } : Env).kindOf x = env.kindOf x := rfl
  have hb : ({ env with cells := cs } : Env).blockKind = env.blockKind := rfl
  unfold storeName
  rw [hk, hb]
  rcases h with h | ⟨h, hc⟩
  · rw [h]; rfl
  · rw [h]
    have : cellOf env x = cellOf { env with cells := cs } x := by
      unfold cellOf
      rw [hc]
    rw [this]
    rfl
section
variable {M : Model} {A : Around} {E : Value → Shared → Prop} {s₀ : Shared} {env : Env}
theorem stLT {n : Str} {v : Value} {m cm : Str → Option Value} {s : Shared} {Q : Unit → Shared → Prop} (x : InCallC s₀ env.locals m env.cells cm s) (hk : env.scope.kind = .function) (hl : env.kindOf n = some .local)
    (h : ∀ s', InCallC s₀ env.locals (fun y => if y = n then some v else m y) env.cells cm s' → 1 ≤ s'.toks → Q () s') : wpAny M A (storeName env n v) Q E s := by
  refine wpAny_storeName_local hl x.toInCall.ns (fun h' hn' hs' => h _ ⟨⟨?_, hn', fun b o e => ?_, x.toInCall.fresh⟩, fun k c hc => ?_, x.apart, x.above⟩ (Nat.le_add_left 1 _)) (by rw [hk]; rfl)
  · obtain ⟨h₁, tk, rfl⟩ := x.toInCall.same
    exact ⟨h', _, rfl⟩
  · exact hs'.extBut b o (Nat.ne_of_lt (Nat.lt_of_lt_of_le (Heap.lt_size e) x.toInCall.fresh)) (x.toInCall.keep b o e)
  · exact (x.cell k c hc).sameBut hs' (Nat.ne_of_gt (x.above k c (mem_of_lookup hc)))
theorem bindP (env0 : Env) (f : Str × Value → PUnit → Sem (ForInStep PUnit)) (hf : ∀ n v u, f (n, v) u = (do storeName env n v; pure (.yield ⟨⟩))) (hk : env0.scope.kind = .function) :
    ∀ (binds : List (Str × Value)) (m cm : Str → Option Value) (s : Shared) (Q : PUnit → Shared → Prop), InCallC s₀ env0.locals m env0.cells cm s →
      (∀ x ∈ binds, ∀ v, storeName env x.1 v = storeName env0 x.1 v) →
      (∀ x ∈ binds, env0.kindOf x.1 = some .local ∨ (env0.kindOf x.1 = some .cell ∧ (env0.cells.lookup x.1).isSome = true)) →
      (∀ s', InCallC s₀ env0.locals (bindL env0.kindOf binds m) env0.cells (bindC env0.kindOf binds cm) s' → ((∃ x ∈ binds, env0.kindOf x.1 = some .local) → 1 ≤ s'.toks) → Q ⟨⟩ s') → wpAny M A (forIn binds ⟨⟩ f) Q E s
  | [], m, cm, s, Q, x, _, _, h => by rw [List.forIn_nil]; exact wpAny_pure (h s x fun ⟨_, q, _⟩ => nomatch q)
  | (n, v) :: r, m, cm, s, Q, x, he, hkind, h => by
    have hr := fun y (hy : y ∈ r) => hkind y (List.mem_cons_of_mem _ hy)
    have her := fun y (hy : y ∈ r) => he y (List.mem_cons_of_mem _ hy)
    rw [List.forIn_cons, hf, he (n, v) List.mem_cons_self v]
    rcases hkind (n, v) List.mem_cons_self with hl | ⟨hl, hc⟩
    · refine wpAny_bind (wpAny_bind (stLT x hk hl fun s' x' h1 => wpAny_pure (wpAny_mono (wpAny_toks_of h1 (bindP env0 f hf hk r _ _ s' (fun _ s'' => InCallC s₀ env0.locals (bindL env0.kindOf r fun y => if y = n then some v else m y) env0.cells (bindC env0.kindOf r cm) s'') x' her hr fun s'' x'' _ => x'')) (fun _ s'' q => h s'' ?_ fun _ => q.1) fun _ _ q => q.2)))
      have x'' := q.2
      unfold bindL bindC; rw [if_pos hl, if_pos hl]; exact x''
    · obtain ⟨c, hc⟩ := Option.isSome_iff_exists.mp hc
      have hnl : ¬ env0.kindOf n = some .local := by rw [hl]; decide
      refine wpAny_bind (wpAny_bind (stCC x hk hl hc fun s' x' => wpAny_pure (bindP env0 f hf hk r _ _ s' Q x' her hr fun s'' x'' h2 => h s'' ?_ fun ⟨y, hy, hq⟩ => ?_)))
      rotate_left
      · rcases List.mem_cons.mp hy with rfl | hy
        · exact absurd hq hnl
        · exact h2 ⟨y, hy, hq⟩
      unfold bindL bindC; rw [if_neg hnl, if_neg hnl]; exact x''
theorem envClos {s : Shared} {scope : Scope} {globals : Addr} {clos : List (Str × Addr)} {binds : List (Str × Value)} {qual : Str} {func : Option Addr} {code : Value} {builtins : Addr} {Q : Env → Shared → Prop}
    (hk : scope.kind = .function) (hkind : ∀ x ∈ binds, scope.names.lookup x.1 = some .local ∨ scope.names.lookup x.1 = some .cell)
    (hQ : ∀ env, env = newEnv scope s.heap.objs.size globals (cellsFrom (s.heap.objs.size + 1) scope.names [] ++ clos) qual func code none builtins →
      ∀ s', InCallC s env.locals (bindL env.kindOf binds fun _ => none) (cellsFrom (s.heap.objs.size + 1) scope.names []) (bindC env.kindOf binds fun _ => none) s' → ((∃ x ∈ binds, scope.names.lookup x.1 = some .local) → 1 ≤ s'.toks) → Q env s') :
    wpAny M A (newFunctionEnv scope globals clos binds qual func code none builtins) Q E s := by
  simp only [newFunctionEnv, Option.isSome_none, Bool.false_eq_true, if_false]
  refine wpAny_bind (wpAny_alloc ?_)
  refine wpAny_bind (wpAny_layCells _ (fun name kind cells => by cases kind == NameKind.cell <;> simp) _ _ _ _ ?_)
  have ok := cellsFrom_ok scope.names (s.heap.push { cls := .type "frame", data := .dict #[] }) (s.heap.objs.size + 1) [] ⟨fun _ _ hm => (nomatch hm), List.Pairwise.nil⟩ (by rw [Heap.size_push]; exact Nat.le_refl _)
  rw [Heap.size_push] at ok
  rw [show ({ s with heap := s.heap.push { cls := .type "frame", data := .dict #[] } } : Shared).heap.objs.size = s.heap.objs.size + 1 from Heap.size_push ..]
  have ecl : cellsFrom (s.heap.objs.size + 1) scope.names clos = cellsFrom (s.heap.objs.size + 1) scope.names [] ++ clos := cells_app scope.names _ [] clos
  rw [ecl]
  have hk2 : ∀ x ∈ binds, (newEnv scope s.heap.objs.size globals (cellsFrom (s.heap.objs.size + 1) scope.names []) qual func code none builtins).kindOf x.1 = some .local ∨ ((newEnv scope s.heap.objs.size globals (cellsFrom (s.heap.objs.size + 1) scope.names []) qual func code none builtins).kindOf x.1 = some .cell ∧ ((cellsFrom (s.heap.objs.size + 1) scope.names []).lookup x.1).isSome = true) := fun x hx =>
    (hkind x hx).imp id fun q => ⟨q, cellsFrom_some _ _ _ (.inl q)⟩
  refine wpAny_bind (bindP (s₀ := s) (env := newEnv scope s.heap.objs.size globals (cellsFrom (s.heap.objs.size + 1) scope.names [] ++ clos) qual func code none builtins) (newEnv scope s.heap.objs.size globals (cellsFrom (s.heap.objs.size + 1) scope.names []) qual func code none builtins)
    _ (fun _ _ _ => rfl) hk binds (fun _ => none) (fun _ => none) _ _
    ⟨⟨⟨_, _, rfl⟩, (Heap.Ns.new s.heap (.type "frame")).keeps (pushCells_keeps _ _), fun b o e => pushCells_keeps _ _ b o (Heap.get?_push_of_some _ e), Nat.le_refl _⟩,
      fun n c hc => (ok.empty n c (mem_of_lookup hc)).1, ok.apart, fun n c hm => (ok.empty n c hm).2⟩
    (fun x hx v => ?_) hk2 fun s' x ht => wpAny_pure (hQ _ rfl s' x ht))
  refine store_cells (env := newEnv scope s.heap.objs.size globals (cellsFrom (s.heap.objs.size + 1) scope.names [] ++ clos) qual func code none builtins) (cs := cellsFrom (s.heap.objs.size + 1) scope.names []) ((hk2 x hx).imp id fun ⟨q1, q2⟩ => ⟨q1, ?_⟩)
  obtain ⟨c, hc⟩ := Option.isSome_iff_exists.mp q2
  rw [hc]
  exact lookup_app hc
end
end Mine
namespace Mine
open PySem PySem.W PyProof.Rows PySem.Calls
set_option Elab.async false
set_option maxRecDepth 100000
set_option linter.unusedVariables false
theorem bindL_lookup (kindOf : Str → Option NameKind) (x : Str) : ∀ (b : List (Str × Value)) (m : Str → Option Value), bindL kindOf b m x = if kindOf x = some .local then (b.reverse.lookup x).or (m x) else m x
  | [], m => by unfold bindL; split <;> rfl
  | (y, v) :: r, m => by
    unfold bindL
    rw [bindL_lookup kindOf x r]
    by_cases hk : kindOf x = some .local
    · rw [if_pos hk, if_pos hk, List.reverse_cons, List.lookup_append]
      by_cases hx : x = y
      · subst hx; rw [if_pos hk]; simp
      · have : (x == y) = false := by simpa using hx
        have e : List.lookup x [(y, v)] = none := by simp [List.lookup, this]
        rw [e]
        split <;> simp [hx]
    · rw [if_neg hk, if_neg hk]
      by_cases hy : kindOf y = some .local
      · rw [if_pos hy, if_neg (fun q : x = y => hk (q ▸ hy))]
      · rw [if_neg hy]
theorem bindC_lookup (kindOf : Str → Option NameKind) (x : Str) : ∀ (b : List (Str × Value)) (m : Str → Option Value), bindC kindOf b m x = if kindOf x = some .local then m x else (b.reverse.lookup x).or (m x)
  | [], m => by unfold bindC; split <;> rfl
  | (y, v) :: r, m => by
    unfold bindC
    rw [bindC_lookup kindOf x r]
    by_cases hk : kindOf x = some .local
    · rw [if_pos hk, if_pos hk]
      by_cases hy : kindOf y = some .local
      · rw [if_pos hy]
      · rw [if_neg hy, if_neg (fun q : x = y => hy (q ▸ hk))]
    · rw [if_neg hk, if_neg hk, List.reverse_cons, List.lookup_append]
      by_cases hx : x = y
      · subst hx; rw [if_neg hk]; simp
      · have : (x == y) = false := by simpa using hx
        have e : List.lookup x [(y, v)] = none := by simp [List.lookup, this]
        rw [e]
        split <;> simp [hx]

theorem paired_rev {α β : Type} {F : α → β → Prop} : ∀ {a : List α} {b : List β}, Paired F a b → Paired F a.reverse b.reverse
  | _, _, .nil => .nil
  | _, _, .cons h t => by simp only [List.reverse_cons]; exact (paired_rev t).snoc h
theorem paired_lookup {g : Gx} {σ : PH} {x : Str} : ∀ {a : List (Str × PV)} {b : List (Str × Value)}, Paired (fun p q => p.1 = q.1 ∧ Rep g σ p.2 q.2) a b → (∀ p, a.lookup x = some p → ∃ v, b.lookup x = some v ∧ Rep g σ p v) ∧ (a.lookup x = none → b.lookup x = none)
  | _, _, .nil => ⟨fun _ e => (by cases e), fun _ => rfl⟩
  | (y, p) :: a, (z, v) :: b, .cons h t => by
    obtain ⟨e, r⟩ := h
    simp only at e r
    subst e
    cases hx : x == y with
    | true =>
      simp only [List.lookup_cons, hx]
      exact ⟨fun q e => by cases e; exact ⟨v, rfl, r⟩, fun e => by cases e⟩
    | false =>
      simp only [List.lookup_cons, hx]
      exact paired_lookup t
theorem paired_zip {g : Gx} {σ : PH} : ∀ {names : List Str} {ps : List PV} {vs : List Value}, RepL g σ ps vs → Paired (fun p q => p.1 = q.1 ∧ Rep g σ p.2 q.2) (names.zip ps) (names.zip vs)
  | [], ps, vs, r => by simp; exact .nil
  | x :: names, [], vs, r => by rw [r.nil_inv]; exact .nil
  | x :: names, p :: ps, vs, r => by
    obtain ⟨v, vs, rfl, a, b⟩ := r.cons_inv
    exact .cons ⟨rfl, a⟩ (paired_zip b)

def freeze (σ : PH) (h : Heap) (cs : List Addr) : PH := fun a => if a ∈ cs then h.get? a else σ a
theorem St.freeze {g : Gx} {σ : PH} {h h' : Heap} {cs : List Addr} (S : St g σ h) (hk : ∀ b o, h.get? b = some o → h'.get? b = some o) (hc : ∀ c ∈ cs, σ c = none ∧ c ∉ tabA ∧ h.get? c = none) : Step g σ h (freeze σ h' cs) h' := by
  have le : Le σ (Mine.freeze σ h' cs) := fun b o e => by
    unfold Mine.freeze
    rw [if_neg (fun q => by rw [(hc b q).1] at e; cases e)]; exact e
  refine ⟨le, .of_keep hk, ⟨S.base.trans le, fun b o e => ?_, S.ti.keeps hk le, fun P hP => ?_⟩, fun b e n => ?_⟩
  · unfold Mine.freeze at e
    split at e
    · exact e
    · exact hk b o (S.sub b o e)
  · unfold Mine.freeze
    rw [if_neg (fun q => (hc P q).2.1 hP)]; exact S.off P hP
  · unfold Mine.freeze
    rw [if_neg (fun q => n (hc b q).2.2)]; exact e

theorem pair_uniq {α β : Type} : ∀ {l : List (α × β)}, l.Pairwise (fun x y => x.2 ≠ y.2) → ∀ {a b : α} {c : β}, (a, c) ∈ l → (b, c) ∈ l → a = b
  | [], _, _, _, _, h, _ => by cases h
  | (x, y) :: l, .cons hn t, a, b, c, h1, h2 => by
    rcases List.mem_cons.mp h1 with e1 | m1
    · rcases List.mem_cons.mp h2 with e2 | m2
      · cases e1; cases e2; rfl
      · cases e1; exact (hn (b, y) m2 rfl).elim
    · rcases List.mem_cons.mp h2 with e2 | m2
      · cases e2; exact (hn (a, y) m1 rfl).elim
      · exact pair_uniq t m1 m2

theorem lookup_some {β : Type} {x : Str} {b : β} : ∀ {l : List (Str × β)}, (x, b) ∈ l → (l.lookup x).isSome = true
  | [], h => by cases h
  | (y, c) :: l, h => by
    rw [List.lookup_cons]
    cases hx : x == y with
    | true => rfl
    | false =>
      rcases List.mem_cons.mp h with e | m
      · cases e; simp at hx
      · exact lookup_some m
theorem zip_mem {β : Type} {x : Str} : ∀ {names : List Str} {ps : List β}, ps.length = names.length → x ∈ names → ∃ p, (x, p) ∈ names.zip ps
  | [], _, _, h => by cases h
  | y :: names, [], e, _ => by simp at e
  | y :: names, p :: ps, e, h => by
    rcases List.mem_cons.mp h with rfl | m
    · exact ⟨p, .head _⟩
    · obtain ⟨q, hq⟩ := zip_mem (ps := ps) (by simpa using e) m
      exact ⟨q, .tail _ hq⟩
theorem zip_some {β : Type} {x : Str} {names : List Str} {ps : List β} (e : ps.length = names.length) (h : x ∈ names) : ((names.zip ps).reverse.lookup x).isSome = true := by
  obtain ⟨p, hp⟩ := zip_mem e h
  exact lookup_some (List.mem_reverse.mpr hp)
/-- the names of a frame: arguments, empty cells, and what the closure bears -/
def argsC (sc : Scope) (names : List Str) (ps : List PV) (fr : List (Str × PV)) : VEnv := fun x => match (names.zip ps).reverse.lookup x with
  | some p => some (.val p)
  | none => if sc.names.lookup x = some .cell then some .empty else (fr.lookup x).map .val
def args0 (sc : Scope) (names : List Str) (ps : List PV) : VEnv := fun x => match (names.zip ps).reverse.lookup x with
  | some p => some (.val p)
  | none => if sc.names.lookup x = some .cell then some .empty else none
theorem args0_eq {sc : Scope} {names : List Str} {ps : List PV} : argsC sc names ps [] = args0 sc names ps := rfl

section
variable {g : Gx} {n : Nat}
theorem tab_lt {σ : PH} {h : Heap} (S : St g σ h) {c : Addr} (hc : h.objs.size ≤ c) : c ∉ tabA := fun q => by
  obtain ⟨ps, e⟩ := ti_tab S.ti q
  exact absurd (Heap.lt_size e) (Nat.not_lt.mpr hc)
theorem sig_lt {σ : PH} {h : Heap} (S : St g σ h) {c : Addr} (hc : h.objs.size ≤ c) : σ c = none := by
  cases q : σ c with
  | none => rfl
  | some o => exact absurd (Heap.lt_size (S.sub _ _ q)) (Nat.not_lt.mpr hc)

theorem cells_none {x : Str} : ∀ (names : List (Str × NameKind)) (n : Nat) (acc : List (Str × Addr)), (x, NameKind.cell) ∉ names → acc.lookup x = none → (cellsFrom n names acc).lookup x = none := fun names => by
  induction names with
  | nil => exact fun n acc _ h => h
  | cons p r ih =>
    intro n acc hx ha
    obtain ⟨y, k⟩ := p
    unfold cellsFrom
    split
    · rename_i hk
      refine ih _ _ (fun q => hx (.tail _ q)) ?_
      have hy : x ≠ y := fun q => hx (by subst q; rw [show k = .cell by simpa using hk]; exact .head _)
      rw [List.lookup_cons, show (x == y) = false by simpa using hy]; exact ha
    · exact ih _ _ (fun q => hx (.tail _ q)) ha
theorem args_own {sc : Scope} {names : List Str} {ps : List PV} {fr : List (Str × PV)} {x : Str} {l : List PV} : argsC sc names ps fr x ≠ some (.own l) := fun hx => by
  unfold argsC at hx
  split at hx
  · cases hx
  · split at hx
    · cases hx
    · cases q : fr.lookup x with
      | none => rw [q] at hx; cases hx
      | some p => rw [q] at hx; cases hx
/-- a new frame -/
theorem enterF {A : Around} {s : Shared} {σ : PH} {sc : Scope} {clos : List (Str × Addr)} {names : List Str} {ps : List PV} {vs : List Value} {qual : Str} {fa : Option Addr} {code : Value} {fr : List (Str × PV)} {Q : Env → Shared → Prop} {E : Value → Shared → Prop}
    (S : St g σ s.heap) (ht : 1 ≤ s.toks ∨ ∃ x ∈ names, sc.names.lookup x = some .local) (r : RepL g σ ps vs) (hlen : ps.length = names.length) (hkind : ∀ x ∈ names, sc.names.lookup x = some .local ∨ sc.names.lookup x = some .cell) (hk : sc.kind = .function)
    (hfr : ∀ y p, fr.lookup y = some p → sc.names.lookup y = some .free ∧ (y, NameKind.cell) ∉ sc.names ∧ ∃ c v, clos.lookup y = some c ∧ CellIs σ c v ∧ Rep g σ p v)
    (hQ : ∀ env h1 tk1 σ1 m, env.scope = sc → env.code = code → env.qual = qual → EnvOk env → Fram g s.heap.get? σ env (argsC sc names ps fr) σ1 h1 m → 1 ≤ tk1 → h1.NoLimit → Q env { s with heap := h1, toks := tk1 }) :
    W g A (newFunctionEnv sc mainGlobals clos (names.zip vs) qual fa code none builtinsNs) Q E s := by
  have hmem : ∀ x ∈ names.zip vs, x.1 ∈ names := fun x hx => (List.of_mem_zip hx).1
  have go : (∀ env, env = newEnv sc s.heap.objs.size mainGlobals (cellsFrom (s.heap.objs.size + 1) sc.names [] ++ clos) qual fa code none builtinsNs → ∀ s', InCallC s env.locals (bindL env.kindOf (names.zip vs) fun _ => none) (cellsFrom (s.heap.objs.size + 1) sc.names []) (bindC env.kindOf (names.zip vs) fun _ => none) s' → 1 ≤ s'.toks → Q env s') → W g A (newFunctionEnv sc mainGlobals clos (names.zip vs) qual fa code none builtinsNs) Q E s := fun h => by
    rcases ht with ht | ⟨x, hx, hl⟩
    · exact wpAny_with_toks ht (envClos hk (fun x hx => hkind x.1 (hmem x hx)) fun env he s' X _ htk => h env he s' X htk)
    · obtain ⟨v, hv⟩ := zip_mem (x := x) (names := names) (ps := vs) (r.length.trans hlen) hx
      exact envClos hk (fun x hx => hkind x.1 (hmem x hx)) fun env he s' X ht => h env he s' X (ht ⟨_, hv, hl⟩)
  refine go fun env he s' X htk => ?_
  obtain ⟨h1, tk1, rfl⟩ := X.toInCall.same
  have hkeep := X.toInCall.keep
  have hL : env.locals = s.heap.objs.size := by rw [he]; rfl
  have hcells : env.cells = cellsFrom (s.heap.objs.size + 1) sc.names [] ++ clos := by rw [he]; rfl
  have hscope : env.scope = sc := by rw [he]; rfl
  have ok : EnvOk env := ⟨by rw [he]; rfl, by rw [he]; rfl, by rw [hscope]; exact hk⟩
  have hko : ∀ x, env.kindOf x = sc.names.lookup x := fun x => by unfold Env.kindOf; rw [hscope]
  generalize hcf : cellsFrom (s.heap.objs.size + 1) sc.names [] = cf at X hcells
  have hcfs : ∀ x, sc.names.lookup x = some .cell → ∃ c, cf.lookup x = some c := fun x hl => Option.isSome_iff_exists.mp (by rw [← hcf]; exact cellsFrom_some _ _ _ (.inl hl))
  have hlk : ∀ x c, cf.lookup x = some c → env.cells.lookup x = some c := fun x c q => by rw [hcells]; exact lookup_app q
  have habove : ∀ x c, cf.lookup x = some c → s.heap.objs.size ≤ c := fun x c q => Nat.le_of_lt (hL ▸ X.above x c (mem_of_lookup q))
  let cs := names.filterMap fun x => cf.lookup x
  have S1 : Step g σ s.heap (freeze σ h1 cs) h1 := S.freeze hkeep fun c hc => by
    obtain ⟨x, _, q⟩ := List.mem_filterMap.mp hc
    have := habove x c q
    exact ⟨sig_lt S this, tab_lt S this, Heap.get?_none_of_le this⟩
  have PR := paired_rev (paired_zip (names := names) (r.up S1.le))
  have notin : ∀ a, a ∉ cs → freeze σ h1 cs a = σ a := fun a q => if_neg q
  have hemp : ∀ x, argsC sc names ps fr x = some .empty → sc.names.lookup x = some .cell ∧ (names.zip ps).reverse.lookup x = none := fun x hx => by
    unfold argsC at hx
    cases hz : (names.zip ps).reverse.lookup x with
    | some q => rw [hz] at hx; cases hx
    | none =>
      rw [hz] at hx
      by_cases hl : sc.names.lookup x = some .cell
      · exact ⟨hl, rfl⟩
      · simp only [if_neg hl] at hx
        cases q : fr.lookup x with
        | none => rw [q] at hx; cases hx
        | some p => rw [q] at hx; cases hx
  refine hQ env h1 tk1 (freeze σ h1 cs) (bindL env.kindOf (names.zip vs) fun _ => none) hscope (by rw [he]; rfl) (by rw [he]; rfl) ok ?_ htk ((g.nolimit.keeps S.keep).keeps hkeep)
  refine { ns := X.toInCall.ns, off := ?_, tab := hL ▸ size_notTab S, slot := ?_, st := S1.st, le := S1.le, grow := S1.grow, fresh := S1.fresh, new := hL ▸ size_none _, newOwn := fun x l a hx => absurd hx args_own, apart := fun x y l l' a hx => absurd hx args_own, newCell := ?_ }
  · rw [notin _ fun q => ?_]
    · rw [hL]; exact S.none_size
    · obtain ⟨x, _, q⟩ := List.mem_filterMap.mp q
      exact absurd (X.above x _ (mem_of_lookup q)) (Nat.lt_irrefl _)
  · intro x sl hx
    cases hz : ((names.zip ps).reverse.lookup x) with
    | some q =>
      unfold argsC at hx
      rw [hz] at hx
      cases hx
      obtain ⟨v, hv, rv⟩ := (paired_lookup PR).1 q hz
      have hxn : x ∈ names := (List.of_mem_zip (List.mem_reverse.mp (mem_of_lookup hz))).1
      rcases hkind x hxn with hl | hl
      · exact .inl ⟨(hko x).trans hl, v, by rw [bindL_lookup, if_pos ((hko x).trans hl), hv]; rfl, rv⟩
      · obtain ⟨c, hc⟩ := hcfs x hl
        obtain ⟨ob, hob, hdb⟩ := X.cell x c hc
        refine .inr ⟨.inl ((hko x).trans hl), c, v, hlk x c hc, ⟨ob, ?_, ?_⟩, rv⟩
        · unfold freeze
          rw [if_pos (List.mem_filterMap.mpr ⟨x, hxn, hc⟩)]; exact hob
        · rw [hdb, bindC_lookup, if_neg (by rw [hko x, hl]; exact nofun), hv]; rfl
    | none =>
      have hv := (paired_lookup PR).2 hz
      by_cases hl : sc.names.lookup x = some .cell
      · have : sl = .empty := by
          unfold argsC at hx
          rw [hz] at hx
          simp only [if_pos hl] at hx
          cases hx; rfl
        subst this
        obtain ⟨c, hc⟩ := hcfs x hl
        obtain ⟨ob, hob, hdb⟩ := X.cell x c hc
        have hnc : c ∉ cs := fun q => by
          obtain ⟨y, hy, q⟩ := List.mem_filterMap.mp q
          have := pair_uniq X.apart (mem_of_lookup hc) (mem_of_lookup q)
          subst this
          have : ((names.zip ps).reverse.lookup x).isSome = true := zip_some hlen hy
          rw [hz] at this; cases this
        refine ⟨(hko x).trans hl, c, hlk x c hc, ?_, tab_lt S (habove x c hc), ⟨ob, hob, ?_⟩⟩
        · rw [notin _ hnc]; exact sig_lt S (habove x c hc)
        · rw [hdb, bindC_lookup, if_neg (by rw [hko x, hl]; exact nofun), hv]; rfl
      · unfold argsC at hx
        rw [hz] at hx
        simp only [if_neg hl] at hx
        obtain ⟨p, hp, rfl⟩ := Option.map_eq_some_iff.mp hx
        obtain ⟨hf, hno, c, v, hc, hcell, rv⟩ := hfr x p hp
        have hcn : cf.lookup x = none := by rw [← hcf]; exact cells_none sc.names _ [] hno rfl
        exact .inr ⟨.inr ((hko x).trans hf), c, v, by rw [hcells, lookup_app_none hcn]; exact hc, hcell.mono S1.le, rv.up S1.le⟩
  · intro x c hx hc
    obtain ⟨hl, _⟩ := hemp x hx
    obtain ⟨c', hc'⟩ := hcfs x hl
    rw [hlk x c' hc'] at hc
    cases hc
    exact Heap.get?_none_of_le (habove x c hc')
/-- a body in a frame whose code and qualified name are known -/
def ExC (g : Gx) (n : Nat) (sc : Scope) (code : Value) (qual : Str) (Γ : VEnv) (b : List Stmt) (o : Out) : Prop :=
  ∀ (A : Around) (env : Env) (s : Shared) (κ σ₀ σ : PH) (m : Str → Option Value) (Q : Flow → Shared → Prop) (E : Value → Shared → Prop), Room A n → env.scope = sc → env.code = code → env.qual = qual → EnvOk env → Fram g κ σ₀ env Γ σ s.heap m → 1 ≤ s.toks →
    (∀ f h' tk σ', OutOk g κ σ₀ env σ' h' o f → 1 ≤ tk → Q f { s with heap := h', toks := tk }) → W g A (execs b env) Q E s
theorem Fn.ofE {j : Nat} {nm : Str} {ps : List PV} {p : PV} (names : List Str) (hm : (j, nm) ∈ fnTab) (hlen : ps.length = names.length)
    (hbind : ∀ pm cd doc vs, vs.length = names.length → bindArgs (docDef nm (stArgs (stm j)) (stBody (stm j)) (stScope (stm j)) pm cd doc) ⟨vs, []⟩ = pure (names.zip vs))
    (hkind : ∀ x ∈ names, (stScope (stm j)).names.lookup x = some .local ∨ (stScope (stm j)).names.lookup x = some .cell)
    (hco : (stScope (stm j)).isCoroutine = false) (hgen : (stScope (stm j)).isGenerator = false) (hk : (stScope (stm j)).kind = .function)
    (h : ∀ cd, (∀ c P, (nm, c, P) ∈ codeTab → cd = .ref c ∧ CodeHd g.h0 c P) → ExC g n (stScope (stm j)) cd (nm ++ ".<locals>.") (args0 (stScope (stm j)) names ps) (stBody (stm j)) (.ret p)) : Fn g (n + 1) nm ps p := fun f hf A s σ vs Q E R S r ht k => by
  obtain ⟨a, o, pm, cd, doc, e, ho, hc, hd, hrec, htab⟩ := g.fn j nm hm
  rw [hf] at e; cases e
  refine wpAny_call (codeAny_call_function R.depth (S.keep _ _ ho) hd hco hgen rfl (hrec.keeps S.keep) ?_)
  rw [hbind pm cd doc vs (r.length.trans hlen)]
  refine wpAny_pure (enterF (fr := []) S (.inl ht) r hlen hkind hk (fun y p e => nomatch e) fun env h1 tk1 σ1 m hs hcode hq ok F htk hno => ⟨hno, codeAny_func ?_⟩)
  exact h cd htab (A.deeper env) env _ s.heap.get? σ _ _ _ _ R.deeper hs hcode hq ok F htk fun fl h2 t2 σ2 o2 k2 => by
    obtain ⟨v, rfl, rv, St2, le2, gr2, fr2⟩ := o2
    exact k v h2 t2 σ2 ⟨le2, gr2, St2, fr2⟩ rv k2
theorem Fn.of {j : Nat} {nm : Str} {ps : List PV} {p : PV} (names : List Str) (hm : (j, nm) ∈ fnTab) (hlen : ps.length = names.length)
    (hbind : ∀ pm cd doc vs, vs.length = names.length → bindArgs (docDef nm (stArgs (stm j)) (stBody (stm j)) (stScope (stm j)) pm cd doc) ⟨vs, []⟩ = pure (names.zip vs))
    (hkind : ∀ x ∈ names, (stScope (stm j)).names.lookup x = some .local ∨ (stScope (stm j)).names.lookup x = some .cell)
    (hco : (stScope (stm j)).isCoroutine = false) (hgen : (stScope (stm j)).isGenerator = false) (hk : (stScope (stm j)).kind = .function)
    (h : Ex g n (stScope (stm j)) (args0 (stScope (stm j)) names ps) (stBody (stm j)) (.ret p)) : Fn g (n + 1) nm ps p :=
  Fn.ofE names hm hlen hbind hkind hco hgen hk fun cd _ A env s κ σ₀ σ m Q E R hs _ _ ok F ht k => h A env s κ σ₀ σ m Q E R hs ok F ht k
end
end Mine
namespace Mine
open PySem PySem.W PyProof.Rows PySem.Calls
set_option Elab.async false
set_option maxRecDepth 100000
set_option linter.unusedVariables false
section
variable {g : Gx} {n : Nat} {sc : Scope} {Γ : VEnv}

theorem tabQ_mem {q : Addr × Str} (h : q ∈ tabQ) : q.1 ∈ tabA := by
  simp only [tabQ, List.mem_cons, List.not_mem_nil, or_false] at h
  rcases h with rfl | rfl | rfl | rfl <;> decide
/-- a change at one address that is none of the lasting ones, and no table nor code -/
theorem St.change {σ : PH} {h h' : Heap} {a : Addr} (S : St g σ h) (e : σ a = none) (ht : a ∉ tabA) (hs : Heap.SameBut a h h') : St g σ h' := by
  refine ⟨S.base, fun b ob q => ?_, fun q hq => ?_, S.off⟩
  · rw [hs.2 b fun z => ?_]
    · exact S.sub b ob q
    · subst z; rw [e] at q; cases q
  · obtain ⟨ps, h1, h2, h3⟩ := S.ti q hq
    have hne : q.1 ≠ a := fun z => ht (z ▸ tabQ_mem hq)
    exact ⟨ps, (hs.2 _ hne).trans h1, h2, h3⟩

theorem slot_change {env : Env} {σ : PH} {h h' : Heap} {m m' : Str → Option Value} {x : Str} {sl : SL} {a : Addr} {o : Obj} (hs : Heap.SameBut a h h') (ho : h.get? a = some o)
    (hm : m' x = m x) (hown : ∀ l b, sl = .own l → m x = some (.ref b) → b ≠ a) (hcell : ∀ c, sl = .empty → env.cells.lookup x = some c → c ≠ a) (k : SlotOk g env σ h m x sl) : SlotOk g env σ h' m' x sl := by
  cases sl with
  | val p =>
    rcases k with ⟨q, v, b, r⟩ | q
    · exact .inl ⟨q, v, hm.trans b, r⟩
    · exact .inr q
  | own l =>
    obtain ⟨q, b, vs, c, d, e, ⟨ob, n, f1, f2⟩, r⟩ := k
    exact ⟨q, b, vs, hm.trans c, d, e, ⟨ob, n, (hs.2 b (hown l b rfl c)).trans f1, f2⟩, r⟩
  | empty =>
    obtain ⟨q, c, b, d, e, ⟨ob, f1, f2⟩⟩ := k
    exact ⟨q, c, b, d, e, ⟨ob, (hs.2 c (hcell c rfl b)).trans f1, f2⟩⟩

theorem own_ne_locals {env : Env} {σ : PH} {h : Heap} {m : Str → Option Value} (V : Vars g env Γ σ h m) {x : Str} {l : List PV} {b : Addr} (hx : Γ x = some (.own l)) (hm : m x = some (.ref b)) : b ≠ env.locals := fun q => by
  obtain ⟨_, b', vs, c, d, e, ⟨ob, n, f1, f2, f3, f4⟩, r⟩ := V.slot x _ hx
  rw [hm] at c; cases c
  obtain ⟨o, es, ep, h1, h2, _⟩ := V.ns
  rw [q, h1] at f1; cases f1; rw [h2] at f4; cases f4
theorem cell_ne_locals {env : Env} {σ : PH} {h : Heap} {m : Str → Option Value} (V : Vars g env Γ σ h m) {x : Str} {c : Addr} (hx : Γ x = some .empty) (hm : env.cells.lookup x = some c) : c ≠ env.locals := fun q => by
  obtain ⟨_, c', b, d, e, ⟨ob, f1, f2⟩⟩ := V.slot x _ hx
  rw [hm] at b; cases b
  obtain ⟨o, es, ep, h1, h2, _⟩ := V.ns
  rw [q, h1] at f1; cases f1; rw [h2] at f2; cases f2

/-- a value bound to a local name -/
theorem Fram.store {κ σ₀ : PH} {env : Env} {σ : PH} {h h' : Heap} {m : Str → Option Value} {x : Str} {p : PV} {v : Value} (F : Fram g κ σ₀ env Γ σ h m) (hk : env.kindOf x = some .local) (r : Rep g σ p v)
    (hn : h'.Ns env.locals (fun y => if y = x then some v else m y)) (hs : Heap.SameBut env.locals h h') : Fram g κ σ₀ env (upd Γ x (.val p)) σ h' (fun y => if y = x then some v else m y) := by
  obtain ⟨oL, es, ep, hL, hLd, hLr⟩ := id F.ns
  refine { ns := hn, off := F.off, tab := F.tab, slot := ?_, st := F.st.change F.off F.tab hs, le := F.le, grow := ?_, fresh := F.fresh, new := F.new, newOwn := ?_, apart := ?_, newCell := ?_ }
  · intro y sl hy
    unfold upd at hy
    by_cases hyx : y = x
    · subst hyx
      rw [if_pos rfl] at hy; cases hy
      exact .inl ⟨hk, v, if_pos rfl, r⟩
    · rw [if_neg hyx] at hy
      exact slot_change hs hL (if_neg hyx) (fun l b q hb => by subst q; exact own_ne_locals F.toVars hy hb) (fun c q hc => by subst q; exact cell_ne_locals F.toVars hy hc) (F.slot y sl hy)
  · intro b o nb e
    rw [hs.2 b fun q => ?_]
    · exact F.grow b o nb e
    · rw [q, F.new] at e; cases e
  · intro y l a hy hm
    unfold upd at hy
    by_cases hyx : y = x
    · subst hyx; rw [if_pos rfl] at hy; cases hy
    · rw [if_neg hyx] at hy hm; exact F.newOwn y l a hy hm
  · intro y z l l' a hy hz hm hm'
    unfold upd at hy hz
    by_cases hyx : y = x
    · subst hyx; rw [if_pos rfl] at hy; cases hy
    · by_cases hzx : z = x
      · subst hzx; rw [if_pos rfl] at hz; cases hz
      · rw [if_neg hyx] at hy hm; rw [if_neg hzx] at hz hm'; exact F.apart y z l l' a hy hz hm hm'
  · intro y c hy hc
    unfold upd at hy
    by_cases hyx : y = x
    · subst hyx; rw [if_pos rfl] at hy; cases hy
    · rw [if_neg hyx] at hy; exact F.newCell y c hy hc

theorem storeL {A : Around} {env : Env} {s : Shared} {κ σ₀ σ : PH} {m : Str → Option Value} {x : Str} {p : PV} {v : Value} {Q : Unit → Shared → Prop} {E : Value → Shared → Prop} (ok : EnvOk env) (F : Fram g κ σ₀ env Γ σ s.heap m) (hk : env.kindOf x = some .local) (r : Rep g σ p v)
    (k : ∀ h' m', Fram g κ σ₀ env (upd Γ x (.val p)) σ h' m' → Q () { s with heap := h', toks := s.toks + 1 }) : W g A (storeName env x v) Q E s :=
  wpAny_storeName_local hk F.ns (fun h' hn hs => k h' _ (F.store hk r hn hs)) (by rw [ok.kind]; rfl)

/-- a value bound to an empty cell: from there on it lasts -/
theorem Fram.storeC {κ σ₀ : PH} {env : Env} {σ : PH} {h h' : Heap} {m : Str → Option Value} {x : Str} {c : Addr} {p : PV} {v : Value} (F : Fram g κ σ₀ env Γ σ h m) (hx : Γ x = some .empty) (hc : env.cells.lookup x = some c) (r : Rep g σ p v)
    (hn : h'.IsCell c (some v)) (hs : Heap.SameBut c h h') (huniq : ∀ y, Γ y = some .empty → y = x) : ∃ σ', Le σ σ' ∧ Fram g κ σ₀ env (upd Γ x (.val p)) σ' h' m ∧ ∀ b, b ≠ c → σ' b = σ b := by
  obtain ⟨hk, c', e1, e2, e3, ⟨ob, e4, e5⟩⟩ := F.slot x _ hx
  rw [hc] at e1; cases e1
  obtain ⟨oc, ho, hd⟩ := hn
  have S1 := F.st.change e2 e3 hs
  have hcL : env.locals ≠ c := fun q => cell_ne_locals F.toVars hx hc q.symm
  have le : Le σ (add σ c oc) := fun b o q => by
    unfold add
    by_cases hb : b = c
    · subst hb; rw [e2] at q; cases q
    · rw [if_neg hb]; exact q
  have hget : ∀ b, b ≠ c → add σ c oc b = σ b := fun b hb => if_neg hb
  refine ⟨add σ c oc, le, ?_, hget⟩
  refine { ns := F.ns.sameBut hs hcL, off := (hget _ hcL).trans F.off, tab := F.tab, slot := ?_, st := ⟨S1.base.trans le, ?_, S1.ti.keeps (fun _ _ e => e) le, fun P hP => (hget P (fun q => e3 (q ▸ hP))).trans (S1.off P hP)⟩, le := F.le.trans le, grow := ?_, fresh := ?_, new := F.new, newOwn := ?_, apart := ?_, newCell := ?_ }
  · intro y sl hy
    unfold upd at hy
    by_cases hyx : y = x
    · subst hyx
      rw [if_pos rfl] at hy; cases hy
      exact .inr ⟨.inl hk, c, v, hc, ⟨oc, add_self _ _ _, hd⟩, r.up le⟩
    · rw [if_neg hyx] at hy
      cases sl with
      | val q =>
        rcases F.slot y _ hy with ⟨a1, v1, a2, a3⟩ | ⟨a1, c1, v1, a2, a3, a4⟩
        · exact .inl ⟨a1, v1, a2, a3.up le⟩
        · exact .inr ⟨a1, c1, v1, a2, a3.mono le, a4.up le⟩
      | own l =>
        obtain ⟨q, b, vs, a1, a2, a3, ⟨ob', n', f1, f2, f3, f4⟩, r'⟩ := F.slot y _ hy
        have hbc : b ≠ c := fun z => by subst z; rw [e4] at f1; cases f1; rw [e5] at f4; cases f4
        exact ⟨q, b, vs, a1, (hget b hbc).trans a2, a3, ⟨ob', n', (hs.2 b hbc).trans f1, f2, f3, f4⟩, r'.up le⟩
      | empty => exact absurd (huniq y hy) hyx
  · intro b o q
    unfold add at q
    by_cases hb : b = c
    · subst hb; rw [if_pos rfl] at q; cases q; exact ho
    · rw [if_neg hb] at q; exact S1.sub b o q
  · intro b o nb e
    rw [hs.2 b fun q => ?_]
    · exact F.grow b o nb e
    · rw [q, F.newCell x c hx hc] at e; cases e
  · intro a e n'
    rw [hget a fun q => ?_]
    · exact F.fresh a e n'
    · rw [q, F.newCell x c hx hc] at n'; exact n' rfl
  · intro y l a hy
    unfold upd at hy
    by_cases hyx : y = x
    · subst hyx; rw [if_pos rfl] at hy; cases hy
    · rw [if_neg hyx] at hy; exact F.newOwn y l a hy
  · intro y z l l' a hy hz
    unfold upd at hy hz
    by_cases hyx : y = x
    · subst hyx; rw [if_pos rfl] at hy; cases hy
    · by_cases hzx : z = x
      · subst hzx; rw [if_pos rfl] at hz; cases hz
      · rw [if_neg hyx] at hy; rw [if_neg hzx] at hz; exact F.apart y z l l' a hy hz
  · intro y c hy
    unfold upd at hy
    by_cases hyx : y = x
    · subst hyx; rw [if_pos rfl] at hy; cases hy
    · rw [if_neg hyx] at hy; exact F.newCell y c hy

/-- fewer names -/
theorem Fram.weak {κ σ₀ : PH} {env : Env} {Γ' : VEnv} {σ : PH} {h : Heap} {m} (F : Fram g κ σ₀ env Γ σ h m) (hw : ∀ x sl, Γ' x = some sl → Γ x = some sl) : Fram g κ σ₀ env Γ' σ h m :=
  { ns := F.ns, off := F.off, tab := F.tab, slot := fun x sl e => F.slot x sl (hw x sl e), st := F.st, le := F.le, grow := F.grow, fresh := F.fresh, new := F.new, newOwn := fun x l a e => F.newOwn x l a (hw _ _ e),
    apart := fun x y l l' a e e' => F.apart x y l l' a (hw _ _ e) (hw _ _ e'), newCell := fun x c e => F.newCell x c (hw _ _ e) }
theorem Ex.weak {b : List Stmt} {Γ' Γ'' : VEnv} (h : Ex g n sc Γ b (.next Γ')) (hw : ∀ x sl, Γ'' x = some sl → Γ' x = some sl) : Ex g n sc Γ b (.next Γ'') :=
  fun A env s κ σ₀ σ m Q E R hs ok F ht k => h A env s κ σ₀ σ m Q E R hs ok F ht fun f h' tk σ' o => by
    obtain ⟨rfl, m', F'⟩ := o; exact k _ _ _ _ ⟨rfl, m', F'.weak hw⟩
theorem Ex.from {b : List Stmt} {Γ' : VEnv} {o : Out} (h : Ex g n sc Γ' b o) (hw : ∀ x sl, Γ' x = some sl → Γ x = some sl) : Ex g n sc Γ b o :=
  fun A env s κ σ₀ σ m Q E R hs ok F ht k => h A env s κ σ₀ σ m Q E R hs ok (F.weak hw) ht k
theorem Ex1.from {b : Stmt} {Γ' : VEnv} {o : Out} (h : Ex1 g n sc Γ' b o) (hw : ∀ x sl, Γ' x = some sl → Γ x = some sl) : Ex1 g n sc Γ b o :=
  fun A env s κ σ₀ σ m Q E R hs ok F ht k => h A env s κ σ₀ σ m Q E R hs ok (F.weak hw) ht k
theorem Ex.room {n' : Nat} {b : List Stmt} {o : Out} (h : Ex g n' sc Γ b o) (hn : n' ≤ n) : Ex g n sc Γ b o := fun A env s κ σ₀ σ m Q E R => h A env s κ σ₀ σ m Q E (R.mono hn)

theorem Ex1.ret {e : Expr} {pos : Pos} {p : PV} (h : Ev g n sc Γ e p) : Ex1 g n sc Γ (.Return (some e) pos) (.ret p) :=
  fun A env s κ σ₀ σ m Q E R hs ok F ht k => wpAny_Return_some (h A env s σ m _ _ R hs ok F.st F.toVars ht fun v h1 t1 σ1 S1 r1 k1 => by
    have F1 := F.step S1
    exact k _ _ _ _ ⟨v, rfl, r1, S1.st, F1.le, F1.grow, F1.fresh⟩ k1)
theorem Ex1.retNone {pos : Pos} : Ex1 g n sc Γ (.Return Option.none pos) (.ret .none) :=
  fun A env s κ σ₀ σ m Q E R hs ok F ht k => wpAny_Return_none (k _ s.heap s.toks σ ⟨_, rfl, rep_none, F.st, F.le, F.grow, F.fresh⟩ ht)
theorem Ex1.brk {pos : Pos} : Ex1 g n sc Γ (.Break pos) (.brk Γ) :=
  fun A env s κ σ₀ σ m Q E R hs ok F ht k => wpAny_Break (k _ s.heap s.toks σ ⟨rfl, m, F⟩ ht)
theorem Ex1.assign {x : Str} {xp pos : Pos} {e : Expr} {p : PV} (h : Ev g n sc Γ e p) (hk : sc.names.lookup x = some .local := by rfl) (hsw : ∀ env, swapsWith e (some (.Name x xp)) pos.line env = pure false := by intro _; rfl) : Ex1 g n sc Γ (.Assign [.Name x xp] e pos) (.next (upd Γ x (.val p))) :=
  .mk fun A env s κ σ₀ σ m Q E R hs ok F ht k => wpAny_Assign_Name (h A env s σ m _ _ R hs ok F.st F.toVars ht fun v h1 t1 σ1 S1 r1 k1 =>
    storeL ok (F.step S1) (by unfold Env.kindOf; rw [hs]; exact hk) r1 fun h2 m2 F2 => k _ _ _ _ ⟨rfl, m2, F2⟩) (hsw env)
theorem Ex1.assignC {x : Str} {xp pos : Pos} {e : Expr} {p : PV} (h : Ev g n sc Γ e p) (hx : Γ x = some .empty) (huniq : ∀ y, Γ y = some .empty → y = x) (hsw : ∀ env, swapsWith e (some (.Name x xp)) pos.line env = pure false := by intro _; rfl) : Ex1 g n sc Γ (.Assign [.Name x xp] e pos) (.next (upd Γ x (.val p))) :=
  .mk fun A env s κ σ₀ σ m Q E R hs ok F ht k => wpAny_Assign_Name (h A env s σ m _ _ R hs ok F.st F.toVars ht fun v h1 t1 σ1 S1 r1 k1 => by
    have F1 := F.step S1
    obtain ⟨hk, c, e1, e2, e3, e4⟩ := F1.slot x _ hx
    refine wpAny_storeName_cell ok.kind hk e1 e4 fun h' hc' hs' => ?_
    obtain ⟨σ2, l2, F2, _⟩ := F1.storeC hx e1 r1 hc' hs' huniq
    exact k _ _ _ _ ⟨rfl, m, F2⟩) (hsw env)
theorem Ex1.ite {t : Expr} {a b : List Stmt} {pos : Pos} {c : Bool} {o : Out} (h : Tt g n sc Γ t c) (ha : c = true → Ex g n sc Γ a o) (hb : c = false → Ex g n sc Γ b o) : Ex1 g n sc Γ (.If t a b pos) o :=
  fun A env s κ σ₀ σ m Q E R hs ok F ht k => wpAny_If (h A env s σ m _ _ R hs ok F.st F.toVars ht fun h1 t1 σ1 S1 k1 => by
    cases c with
    | true => exact ha rfl A env _ κ σ₀ σ1 m _ _ R hs ok (F.step S1) k1 fun f h2 t2 σ2 o2 k2 => k _ _ _ _ o2 k2
    | false => exact hb rfl A env _ κ σ₀ σ1 m _ _ R hs ok (F.step S1) k1 fun f h2 t2 σ2 o2 k2 => k _ _ _ _ o2 k2)
theorem Ex1.tryR {b : List Stmt} {h₀ : ExceptHandler} {hs' : List ExceptHandler} {pos : Pos} {p : PV} (h : Ex g n sc Γ b (.ret p)) : Ex1 g n sc Γ (.Try b (h₀ :: hs') [] [] pos) (.ret p) :=
  fun A env s κ σ₀ σ m Q E R hs ok F ht k => wpAny_Try_except (h A env s κ σ₀ σ m _ _ R hs ok F ht fun f h2 t2 σ2 o2 k2 => by
    obtain ⟨v, rfl, r⟩ := o2
    exact k _ _ _ _ ⟨v, rfl, r⟩ k2)

/-- the same frame, seen from where it stands -/
noncomputable def kapOf (env : Env) (Γ : VEnv) (h : Heap) (m : Str → Option Value) : PH := open Classical in fun a =>
  if a = env.locals ∨ (∃ x l, Γ x = some (.own l) ∧ m x = some (.ref a)) ∨ (∃ x, Γ x = some .empty ∧ env.cells.lookup x = some a) then none else h.get? a
theorem Fram.rebase {κ σ₀ : PH} {env : Env} {σ : PH} {h : Heap} {m} (F : Fram g κ σ₀ env Γ σ h m) : Fram g (kapOf env Γ h m) σ env Γ σ h m :=
  { ns := F.ns, off := F.off, tab := F.tab, slot := F.slot, st := F.st, le := .refl _, grow := fun b o _ e => by unfold kapOf at e; split at e <;> first | cases e | exact e
    fresh := fun a e _ => e
    new := if_pos (.inl rfl)
    newOwn := fun x l a hx hm => if_pos (.inr (.inl ⟨x, l, hx, hm⟩))
    apart := F.apart
    newCell := fun x c hx hc => if_pos (.inr (.inr ⟨x, hx, hc⟩)) }
theorem kap_of {κ σ₀ : PH} {env : Env} {σ : PH} {h : Heap} {m} (F : Fram g κ σ₀ env Γ σ h m) {b : Addr} (e : κ b ≠ none) : kapOf env Γ h m b = h.get? b := by
  unfold kapOf
  rw [if_neg]
  rintro (q | ⟨x, l, hx, hm⟩ | ⟨x, hx, hc⟩)
  · rw [q, F.new] at e; exact e rfl
  · rw [F.newOwn x l b hx hm] at e; exact e rfl
  · rw [F.newCell x b hx hc] at e; exact e rfl
theorem Fram.unbase {κ σ₀ : PH} {env : Env} {Γ' : VEnv} {σ σ' : PH} {h h' : Heap} {m m'} (F : Fram g κ σ₀ env Γ σ h m) (F' : Fram g (kapOf env Γ h m) σ env Γ' σ' h' m') : Fram g κ σ₀ env Γ' σ' h' m' := by
  have up : ∀ {b}, κ b ≠ none → kapOf env Γ h m b ≠ none := fun {b} e => by rw [kap_of F e]; exact kept_some F.grow F.st e
  refine { ns := F'.ns, off := F'.off, tab := F'.tab, slot := F'.slot, st := F'.st, le := F.le.trans F'.le, grow := fun b o nb e => ?_, fresh := fun a e ne => F'.fresh a (F.fresh a e ne) (up ne), new := F.new, newOwn := fun x l a hx hm => ?_, apart := F'.apart, newCell := fun x c hx hc => ?_ }
  · exact F'.grow b o nb (by rw [kap_of F (by rw [e]; exact nofun)]; exact F.grow b o nb e)
  · have := F'.newOwn x l a hx hm
    cases q : κ a with
    | none => rfl
    | some o => exact absurd this (up (by rw [q]; exact nofun))
  · have := F'.newCell x c hx hc
    cases q : κ c with
    | none => rfl
    | some o => exact absurd this (up (by rw [q]; exact nofun))
end
end Mine
namespace Mine
open PySem PySem.W PyProof.Rows PySem.Calls
set_option Elab.async false
set_option maxRecDepth 100000
set_option linter.unusedVariables false
section
variable {g : Gx} {n : Nat} {sc : Scope} {Γ : VEnv}

def itemsOf : PV → Option (List PV)
  | .list l => some l
  | .range a b => if a ≤ b ∧ -2 ^ 40 < a ∧ b < 2 ^ 40 then some ((List.range (b - a).toNat).map fun i : Nat => .int (a + (i : Int))) else none
  | .str x => some (x.cps.toList.map fun c => .str ⟨#[c]⟩)
  | _ => none

theorem small_of {a b : Int} (hsz : Builtin.Range.rangeSize a b 1 = ((b - a).toNat : Int)) (h : a ≤ b) (h1 : -2 ^ 40 < a) (h2 : b < 2 ^ 40) : Builtin.Range.small a b 1 = true := by
  unfold Builtin.Range.small
  rw [hsz]
  have f : ∀ x : Int, -2 ^ 42 < x → x < 2 ^ 42 → Builtin.Range.rangeFitsLong x = true := fun x a b => by
    unfold Builtin.Range.rangeFitsLong
    simp; omega
  rw [f a (by omega) (by omega), f b (by omega) (by omega), f 1 (by omega) (by omega), f ((b - a).toNat : Int) (by omega) (by omega), if_pos (by decide), f (b + (1 - 1)) (by omega) (by omega)]
  simp
structure Src (g : Gx) (A : Around) (σ : PH) (h : Heap) (ps : List PV) (I : Addr) (fp wr : List Addr) (P : Nat → Value → Prop) (Sx : Nat → Heap → Prop) (h' : Heap) : Prop where
  walks : ∀ A' : Around, A'.handled = none → Walks prog66 g.w A' I fp wr ps.length P Sx
  start : Sx 0 h'
  item : ∀ i u, i < ps.length → P i u → ∃ q, ps[i]? = some q ∧ Rep g σ q u
  fresh : ∀ b ∈ wr, h.get? b = none
  fpIn : ∀ b ∈ fp, b ∈ wr ∨ σ b ≠ none
  there : ∀ i h, Sx i h → ∀ b ∈ wr, h.get? b ≠ none
  bound : ∀ b ∈ fp, b < h'.objs.size

theorem iter_start {A : Around} {s : Shared} {σ : PH} {p : PV} {ps : List PV} {v : Value} {Q E : Value → Shared → Prop} (R : Room A n) (S : St g σ s.heap) (r : Rep g σ p v) (hi : itemsOf p = some ps)
    (k : ∀ I fp wr P Sx h', (∀ b o, s.heap.get? b = some o → h'.get? b = some o) → Src g A σ s.heap ps I fp wr P Sx h' → ((∃ l, p = .list l) → ∀ i h, Sx i h → ∃ l, h.IsListIter I l i) → Q (.ref I) { s with heap := h' }) : W g A (pyIter v) Q E s := by
  unfold itemsOf at hi
  split at hi
  · cases hi
    obtain ⟨a, vs, rfl, L, rl⟩ := r.list_inv
    have L' := L.isList S.sub
    obtain ⟨o, n', e1, _⟩ := id L
    have hlt : a < s.heap.objs.size := Heap.lt_size (S.sub _ _ e1)
    refine wpAny_pyIter_list L' (k s.heap.objs.size [s.heap.objs.size, a] [s.heap.objs.size] (fun i v => vs.toArray[i]? = some v) (fun i h => h.IsListIter s.heap.objs.size a i ∧ h.IsList a vs.toArray) _ (fun b o e => Heap.get?_push_of_some _ e) ⟨fun A' hA => ?_, ⟨⟨_, Heap.get?_push_size _ rfl, rfl, rfl⟩, L'.push _⟩, fun i u hil hu => ?_, fun b hb => ?_, fun b hb => ?_, fun i h hx b hb => ?_, fun b hb => ?_⟩ fun _ i h hx => ⟨a, hx.1⟩)
    · have := Walks.list (prog := prog66) (w := g.w) hA s.heap.objs.size a (Nat.ne_of_lt hlt) vs.toArray
      rw [show vs.toArray.size = ps.length from by rw [List.size_toArray]; exact rl.length] at this
      exact this
    · have hu' : vs[i]? = some u := by simpa using hu
      have hlt : i < ps.length := by rw [← rl.length]; exact (List.getElem?_eq_some_iff.mp hu').1
      obtain ⟨w', h1, h2⟩ := rl.get (List.getElem?_eq_getElem hlt)
      rw [hu'] at h1; cases h1
      exact ⟨_, List.getElem?_eq_getElem hlt, h2⟩
    · rw [List.mem_singleton.mp hb]; exact size_none _
    · rcases List.mem_cons.mp hb with rfl | hb
      · exact .inl (.head _)
      · rw [List.mem_singleton.mp hb]; exact .inr (by rw [e1]; exact nofun)
    · rw [List.mem_singleton.mp hb]
      obtain ⟨o, ho, _⟩ := hx.1
      rw [ho]; exact nofun
    · rw [Heap.size_push]
      rcases List.mem_cons.mp hb with rfl | hb
      · exact Nat.lt_succ_self _
      · rw [List.mem_singleton.mp hb]; exact Nat.lt_succ_of_lt hlt
  · rename_i a b
    split at hi
    · rename_i hab
      cases hi
      obtain ⟨r', rfl, t, u, w', hr⟩ := r.range_inv
      have hsz : Builtin.Range.rangeSize a b 1 = ((b - a).toNat : Int) := by rw [rangeSize_one]; split <;> omega
      refine wpAny_pyIter_range (S.sub _ _ hr) (small_of hsz hab.1 hab.2.1 hab.2.2) (k s.heap.objs.size [s.heap.objs.size] [s.heap.objs.size] (fun i v => ∃ t, v = .int (a + (i : Int) * 1) t) (fun i h => IsRangeIter h s.heap.objs.size (a + (i : Nat) * 1) (((b - a).toNat : Int) - (i : Nat)) 1) _ (fun b o e => Heap.get?_push_of_some _ e) ⟨fun A' hA => ?_, ?_, fun i u hil hu => ?_, fun b hb => ?_, fun b hb => ?_, fun i h hx b hb => ?_, fun b hb => ?_⟩ fun ⟨l, q⟩ => by cases q)
      · have := Walks.range (prog := prog66) (w := g.w) hA s.heap.objs.size a 1 (b - a).toNat
        rw [List.length_map, List.length_range]
        exact this
      · show IsRangeIter _ _ _ _ _
        have := Heap.get?_push_size s.heap (o := { cls := .type "range_iterator", data := .fields #[rawInt a, rawInt (Builtin.Range.rangeSize a b 1), rawInt 1] }) rfl
        rw [hsz] at this ⊢
        simpa using this
      · obtain ⟨t', rfl⟩ := hu
        rw [List.length_map, List.length_range] at hil
        refine ⟨.int (a + (i : Int)), ?_, ?_⟩
        · rw [List.getElem?_map, List.getElem?_range hil]; rfl
        · rw [Int.mul_one]; exact rep_int
      · rw [List.mem_singleton.mp hb]; exact size_none _
      · exact .inl hb
      · rw [List.mem_singleton.mp hb]
        have : IsRangeIter _ _ _ _ _ := hx
        rw [show h.get? _ = _ from this]; exact nofun
      · rw [List.mem_singleton.mp hb, Heap.size_push]; exact Nat.lt_succ_self _
    · cases hi
  · rename_i x
    cases hi
    obtain ⟨t, rfl⟩ := r.str_inv
    have itm : ∀ i u, SignAt x i u → ∃ q, (x.cps.toList.map fun c => PV.str ⟨#[c]⟩)[i]? = some q ∧ Rep g σ q u := fun i u hu => by
      obtain ⟨c, tk, h1, rfl⟩ := hu
      exact ⟨_, by rw [List.getElem?_map]; simp [h1], rep_str⟩
    have hlen : (x.cps.toList.map fun c => PV.str ⟨#[c]⟩).length = x.cps.size := by rw [List.length_map, Array.length_toList]
    cases ha : x.cps.all (· < 128)
    · refine wpAny_pyIter_wide ha (k s.heap.objs.size [s.heap.objs.size] [s.heap.objs.size] (SignAt x) (fun i h => h.IsStrIter s.heap.objs.size "str_iterator" x t i) _ (fun b o e => Heap.get?_push_of_some _ e) ⟨fun A' hA => ?_, ⟨_, Heap.get?_push_size _ rfl, rfl, rfl⟩, (fun i u _ => itm i u), fun b hb => ?_, fun b hb => .inl hb, fun i h hx b hb => ?_, fun b hb => ?_⟩ fun ⟨l, q⟩ => by cases q)
      · rw [hlen]; exact Walks.strWide hA _ x t
      · rw [List.mem_singleton.mp hb]; exact size_none _
      · rw [List.mem_singleton.mp hb]; obtain ⟨o, ho, _⟩ := hx; rw [ho]; exact nofun
      · rw [List.mem_singleton.mp hb, Heap.size_push]; exact Nat.lt_succ_self _
    · refine wpAny_pyIter_ascii ha (k s.heap.objs.size [s.heap.objs.size] [s.heap.objs.size] (SignAt x) (fun i h => h.IsStrIter s.heap.objs.size "str_ascii_iterator" x t i) _ (fun b o e => Heap.get?_push_of_some _ e) ⟨fun A' hA => ?_, ⟨_, Heap.get?_push_size _ rfl, rfl, rfl⟩, (fun i u _ => itm i u), fun b hb => ?_, fun b hb => .inl hb, fun i h hx b hb => ?_, fun b hb => ?_⟩ fun ⟨l, q⟩ => by cases q)
      · rw [hlen]; exact Walks.strAscii hA _ x t
      · rw [List.mem_singleton.mp hb]; exact size_none _
      · rw [List.mem_singleton.mp hb]; obtain ⟨o, ho, _⟩ := hx; rw [ho]; exact nofun
      · rw [List.mem_singleton.mp hb, Heap.size_push]; exact Nat.lt_succ_self _
  · cases hi
end
end Mine
namespace Mine
open PySem PySem.W PyProof.Rows PySem.Calls
set_option Elab.async false
set_option maxRecDepth 100000
set_option linter.unusedVariables false
section
variable {g : Gx} {n : Nat} {sc : Scope} {Γ : VEnv}

def Resv (env : Env) (Γ : VEnv) (σ : PH) (h : Heap) (m : Str → Option Value) (wr : List Addr) : Prop :=
  ∀ b ∈ wr, h.get? b ≠ none ∧ σ b = none ∧ b ∉ tabA ∧ b ≠ env.locals ∧ (∀ x l, Γ x = some (.own l) → m x ≠ some (.ref b)) ∧ (∀ x, Γ x = some .empty → env.cells.lookup x ≠ some b)

theorem Fram.next {κ σ₀ : PH} {env : Env} {σ : PH} {h h' : Heap} {m} {wr : List Addr} (F : Fram g κ σ₀ env Γ σ h m) (rv : Resv env Γ σ h m wr) (hκ : ∀ b ∈ wr, κ b = none)
    (hk : ∀ b o, b ∉ wr → h.get? b = some o → h'.get? b = some o) : Fram g κ σ₀ env Γ σ h' m := by
  have sub : ∀ b o, σ b = some o → h'.get? b = some o := fun b o e => hk b o (fun q => by rw [(rv b q).2.1] at e; cases e) (F.st.sub b o e)
  obtain ⟨oL, es, ep, hL, hLr⟩ := id F.ns
  refine { ns := ⟨oL, es, ep, hk _ _ (fun q => (rv _ q).2.2.2.1 rfl) hL, hLr⟩, off := F.off, tab := F.tab, slot := fun x sl hx => ?_, st := ⟨F.st.base, sub, fun q hq => ?_, F.st.off⟩, le := F.le, grow := fun b o nb e => ?_, fresh := F.fresh, new := F.new, newOwn := F.newOwn, apart := F.apart, newCell := F.newCell }
  · cases sl with
    | val p => exact F.slot x _ hx
    | own l =>
      obtain ⟨q, b, vs, a1, a2, a3, ⟨ob, n', f1, f2⟩, r⟩ := F.slot x _ hx
      exact ⟨q, b, vs, a1, a2, a3, ⟨ob, n', hk b ob (fun z => (rv b z).2.2.2.2.1 x l hx a1) f1, f2⟩, r⟩
    | empty =>
      obtain ⟨q, c, a1, a2, a3, ⟨ob, f1, f2⟩⟩ := F.slot x _ hx
      exact ⟨q, c, a1, a2, a3, ⟨ob, hk c ob (fun z => (rv c z).2.2.2.2.2 x hx a1) f1, f2⟩⟩
  · obtain ⟨ps, h1, h2, h3⟩ := F.st.ti q hq
    exact ⟨ps, hk _ _ (fun z => (rv _ z).2.2.1 (tabQ_mem hq)) h1, h2, h3⟩
  · exact hk b o (fun z => by rw [hκ b z] at e; cases e) (F.grow b o nb e)

/-- what a body leaves alone of what it does not know -/
theorem Resv.kap {env : Env} {σ : PH} {h : Heap} {m} {wr : List Addr} (rv : Resv env Γ σ h m wr) {b : Addr} (hb : b ∈ wr) : kapOf env Γ h m b = h.get? b := by
  unfold kapOf
  rw [if_neg]
  rintro (q | ⟨x, l, hx, hm⟩ | ⟨x, hx, hc⟩)
  · exact (rv b hb).2.2.2.1 q
  · exact (rv b hb).2.2.2.2.1 x l hx hm
  · exact (rv b hb).2.2.2.2.2 x hx hc
theorem Resv.after {env : Env} {Γ' : VEnv} {σ σ' : PH} {h h' : Heap} {m m'} {wr : List Addr} (rv : Resv env Γ σ h m wr) (F' : Fram g (kapOf env Γ h m) σ env Γ' σ' h' m') : Resv env Γ' σ' h' m' wr := fun b hb => by
  obtain ⟨a1, a2, a3, a4, a5, a6⟩ := rv b hb
  have hkb : kapOf env Γ h m b ≠ none := by rw [rv.kap hb]; exact a1
  refine ⟨kept_some F'.grow F'.st hkb, F'.fresh b a2 hkb, a3, a4, fun x l hx hm => ?_, fun x hx hc => ?_⟩
  · exact hkb (F'.newOwn x l b hx hm)
  · exact hkb (F'.newCell x b hx hc)
theorem Resv.same {env : Env} {Γ' : VEnv} {σ σ' : PH} {h h' : Heap} {m m'} {wr : List Addr} (rv : Resv env Γ σ h m wr) (F' : Fram g (kapOf env Γ h m) σ env Γ' σ' h' m') {b : Addr} (hb : b ∈ wr) {o : Obj} (e : h.get? b = some o) : h'.get? b = some o :=
  F'.grow b o (rv b hb).2.2.1 (by rw [rv.kap hb]; exact e)

def As (g : Gx) (n : Nat) (sc : Scope) (t : Expr) (Γ : VEnv) (q : PV) (Γ' : VEnv) : Prop :=
  ∀ (A : Around) (env : Env) (s : Shared) (κ σ₀ σ : PH) (m : Str → Option Value) (v : Value) (Q : Unit → Shared → Prop) (E : Value → Shared → Prop), Room A n → env.scope = sc → EnvOk env → Fram g κ σ₀ env Γ σ s.heap m → Rep g σ q v → 1 ≤ s.toks →
    (∀ h' tk σ' m', Fram g κ σ₀ env Γ' σ' h' m' → 1 ≤ tk → Q () { s with heap := h', toks := tk }) → W g A (assign t env v) Q E s
theorem As.name {x : Str} {xp : Pos} {q : PV} (hk : sc.names.lookup x = some .local := by rfl) : As g n sc (.Name x xp) Γ q (upd Γ x (.val q)) :=
  fun A env s κ σ₀ σ m v Q E R hs ok F r ht k => wpAny_assign_Name (storeL ok F (by unfold Env.kindOf; rw [hs]; exact hk) r fun h' m' F' => k h' _ σ m' F' (Nat.le_succ_of_le ht))
/-- a pair, item by item -/
theorem As.pair {x y : Str} {xp yp tp : Pos} {j : Nat} {a b : PV} (hx : sc.names.lookup x = some .local := by rfl) (hy : sc.names.lookup y = some .local := by rfl) : As g n sc (.Tuple [.Name x xp, .Name y yp] j tp) Γ (.tup [a, b]) (upd (upd Γ x (.val a)) y (.val b)) :=
  fun A env s κ σ₀ σ m v Q E R hs ok F r ht k => by
    obtain ⟨t, vs, rfl, L, rl⟩ := r.tup_inv
    obtain ⟨u, vs, rfl, ru, rl⟩ := rl.cons_inv
    obtain ⟨w', vs, rfl, rw', rl⟩ := rl.cons_inv
    rw [rl.nil_inv] at L
    refine wpAny_with_toks ht ?_
    refine wpAny_assign_Tuple R.hd (L.isTuple F.st.sub) rfl rfl fun h1 hx1 => ?_
    have S1 : Step g σ s.heap σ h1 := F.st.grow fun b o e => hx1 b o (Nat.ne_of_lt (Heap.lt_size e)) e
    have F1 := F.step S1
    show W g A (assignInOrder [assign (.Name x xp) env, assign (.Name y yp) env] [u, w']) _ _ _
    unfold assignInOrder
    refine wpAny_bind (wpAny_holding (wpAny_assign_Name (storeL ok F1 (by unfold Env.kindOf; rw [hs]; exact hx) ru fun h2 m2 F2 => ?_)))
    unfold assignInOrder
    refine wpAny_bind (wpAny_holding (wpAny_assign_Name (storeL ok F2 (by unfold Env.kindOf; rw [hs]; exact hy) rw' fun h3 m3 F3 => ?_)))
    exact wpAny_pure fun htk => k h3 _ σ m3 F3 htk

theorem Ex1.forC {t e : Expr} {body : List Stmt} {pos : Pos} {p : PV} {ps : List PV} {Γf : VEnv} (K : Nat) (G Gt : Nat → VEnv) (h : Ev g n sc Γ e p) (hi : itemsOf p = some ps) (h0 : ∀ x sl, G 0 x = some sl → Γ x = some sl) (hK : K ≤ ps.length)
    (has : ∀ i q, i ≤ K → ps[i]? = some q → As g n sc t (G i) q (Gt i))
    (turn : ∀ i q, i < K → ps[i]? = some q → Ex g n sc (Gt i) body (.next (G (i + 1))))
    (last : ∀ q, ps[K]? = some q → Ex g n sc (Gt K) body (.brk Γf))
    (fin : K = ps.length → ∀ x sl, Γf x = some sl → G K x = some sl)
    (hgo : (∃ x xp, t = .Name x xp) ∨ ((∃ l, p = .list l) ∧ (∃ es j tp, t = .Tuple es j tp) ∧ ∀ q ∈ ps, ∃ l, q = .tup l))
    (hf : ∀ env x, foldedSetIterable e env x = pure x := by intro _ _; rfl) : Ex1 g n sc Γ (.For t e body [] pos) (.next Γf) :=
  .mk fun A env s κ σ₀ σ m Q E R hs ok F ht k => wpAny_For (h A env s σ m _ _ R hs ok F.st F.toVars ht fun v h1 t1 σ1 S1 r1 k1 => by
    have F1 := F.step S1
    refine iter_start R S1.st r1 hi fun I fp wr P Sx h2 hk2 src hlist => ?_
    have S2 : Step g σ1 h1 σ1 h2 := S1.st.grow hk2
    have F2 := (F1.step S2).weak h0
    have rv2 : Resv env (G 0) σ1 h2 m wr := fun b hb => by
      have hn := src.fresh b hb
      refine ⟨src.there 0 h2 src.start b hb, ?_, ?_, fun q => ?_, fun x l hx hm => ?_, fun x hx hc => ?_⟩
      · cases q : σ1 b with
        | none => rfl
        | some o => rw [S1.st.sub b o q] at hn; cases hn
      · intro q; obtain ⟨ps', e⟩ := ti_tab S1.st.ti q; rw [show h1.get? b = _ from e] at hn; cases hn
      · obtain ⟨o, es, ep, e, _⟩ := F1.ns; rw [q] at hn; rw [show h1.get? env.locals = _ from e] at hn; cases hn
      · obtain ⟨_, b', vs, a1, _, _, ⟨ob, n', f1, _⟩, _⟩ := F1.slot x _ (h0 _ _ hx)
        rw [hm] at a1; cases a1; rw [show h1.get? b = _ from f1] at hn; cases hn
      · obtain ⟨_, c, a1, _, _, ⟨ob, f1, _⟩⟩ := F1.slot x _ (h0 _ _ hx)
        rw [hc] at a1; cases a1; rw [show h1.get? b = _ from f1] at hn; cases hn
    have hκ : ∀ b ∈ wr, κ b = none := fun b hb => by
      cases q : κ b with
      | none => rfl
      | some o =>
        have := F1.grow b o (rv2 b hb).2.2.1 q
        have hn : h1.get? b = none := src.fresh b hb
        rw [show h1.get? b = some o from this] at hn; cases hn
    have Wk := src.walks A R.hd
    refine codeAny_forLoop_any (fun d s' => ∃ i σ' h' tk m', s' = { s with heap := h', toks := tk } ∧ 1 ≤ tk ∧ Fram g κ σ₀ env (G i) σ' h' m' ∧ Resv env (G i) σ' h' m' wr ∧ Sx i h' ∧ Le σ1 σ' ∧ i ≤ K ∧ d = K + 1 - i) ?_ (K + 1) ⟨0, σ1, h2, t1, m, rfl, k1, F2, rv2, src.start, .refl _, Nat.zero_le _, rfl⟩
    rintro d s' ⟨i, σ', h', tk, m', rfl, htk, F', rv', hx', le', hiK, rfl⟩
    by_cases hend : i = ps.length
    · subst hend
      have hKe : K = ps.length := Nat.le_antisymm hK hiK
      refine Wk.done _ _ _ hx' fun h3 t3 hk3 => ?_
      have F3 := F'.next rv' hκ hk3
      exact wpAny_execs_nil (k _ _ _ _ ⟨rfl, m', F3.weak (hKe ▸ fin hKe)⟩)
    · have hlt : i < ps.length := by omega
      refine wpAny_with_toks htk (Wk.item i _ _ _ hlt hx' fun u h3 t3 hP hx3 hk3 htk3 => ?_)
      obtain ⟨q, hq, rq⟩ := src.item i u hlt hP
      have F3 := F'.next rv' hκ hk3
      have rv3 : Resv env (G i) σ' h3 m' wr := fun b hb => ⟨src.there _ _ hx3 b hb, (rv' b hb).2⟩
      have go : ∀ (Q' : Unit → Shared → Prop) (E' : Value → Shared → Prop), Q' () { s with heap := h3, toks := t3 } → W g A (letOwnedTupleGo t (.ref I) u) Q' E' { s with heap := h3, toks := t3 } := fun Q' E' hq' => by
        rcases hgo with ⟨x, xp, rfl⟩ | ⟨hl, ⟨es, j, tp, rfl⟩, htup⟩
        · exact wpAny_pure hq'
        · obtain ⟨l', e'⟩ := hlist hl _ _ hx3
          obtain ⟨l, rfl⟩ := htup q (List.mem_of_getElem? hq)
          obtain ⟨T, vs, rfl, _⟩ := rq.tup_inv
          exact wpAny_letOwnedTupleGo_listiter (s := { s with heap := h3, toks := t3 }) e' hq'
      refine go _ _ ?_
      have F3b := F3.rebase
      refine has i q hiK hq A env _ _ _ _ m' u _ _ R hs ok F3b (rq.up le') htk3 fun h4 t4 σ4 m4 F4 k4 => ?_
      by_cases hbrk : i = K
      · subst hbrk
        refine last q hq A env _ _ _ _ m4 _ _ R hs ok F4 k4 fun f h5 t5 σ5 o5 k5 => ?_
        obtain ⟨rfl, m5, F5⟩ := o5
        exact k _ _ _ _ ⟨rfl, m5, F3.unbase F5⟩
      · have hiK' : i < K := by omega
        refine turn i q hiK' hq A env _ _ _ _ m4 _ _ R hs ok F4 k4 fun f h5 t5 σ5 o5 k5 => ?_
        obtain ⟨rfl, m5, F5⟩ := o5
        refine ⟨K + 1 - (i + 1), by omega, i + 1, σ5, h5, t5, m5, rfl, k5, F3.unbase F5, rv3.after F5, Wk.frame _ _ _ hx3 fun b hb o e => ?_, le'.trans F5.le, by omega, rfl⟩
        rcases src.fpIn b hb with hw | hw
        · exact rv3.same F5 hw e
        · cases q' : σ1 b with
          | none => exact absurd q' hw
          | some ob =>
            have e1 : h3.get? b = some ob := F3.st.sub b ob (le' b ob q')
            have e2 : ob = o := Option.some.inj (e1.symm.trans e)
            subst e2
            exact F5.st.sub b ob (F5.le b ob (le' b ob q'))) (hf env)
end
end Mine
namespace Mine
open PySem PySem.W PyProof.Rows PySem.Calls
set_option Elab.async false
set_option maxRecDepth 100000
set_option linter.unusedVariables false

def closOf (cells : List (Str × Addr)) : List (Str × NameKind) → List (Str × Addr) → List (Str × Addr)
  | [], acc => acc
  | (x, k) :: r, acc => if k == .free then closOf cells r ((x, (cells.lookup x).getD 0) :: acc) else closOf cells r acc
theorem closFor_aux (env : Env) : ∀ (names : List (Str × NameKind)) (acc : List (Str × Addr)), (∀ x, (x, NameKind.free) ∈ names → (env.cells.lookup x).isSome = true) →
    (forIn names acc fun (x : Str × NameKind) (cs : List (Str × Addr)) => (if (x.2 == .free) = true then (do let a ← cellOf env x.1; pure (ForInStep.yield ((x.1, a) :: cs))) else pure (ForInStep.yield cs) : Sem (ForInStep (List (Str × Addr))))) = (pure (closOf env.cells names acc) : Sem _)
  | [], acc, _ => rfl
  | (x, k) :: r, acc, h => by
    rw [List.forIn_cons]
    unfold closOf
    cases hk : k == NameKind.free with
    | false =>
      simp only [Bool.false_eq_true, if_false]
      exact closFor_aux env r acc fun y hy => h y (.tail _ hy)
    | true =>
      have hkf : k = .free := by simpa using hk
      subst hkf
      obtain ⟨c, hc⟩ := Option.isSome_iff_exists.mp (h x (.head _))
      have e : cellOf env x = pure c := by unfold cellOf; rw [hc]
      simp only [if_true, e, hc, Option.getD_some]
      exact closFor_aux env r ((x, c) :: acc) fun y hy => h y (.tail _ hy)
theorem closureFor_eq {scope : Scope} {env : Env} (h : ∀ x, (x, NameKind.free) ∈ scope.names → (env.cells.lookup x).isSome = true) : closureFor scope env = pure (closOf env.cells scope.names []) := by
  unfold closureFor
  have := closFor_aux env scope.names [] h
  show (forIn scope.names [] _ >>= _) = _
  rw [show (forIn scope.names ([] : List (Str × Addr)) fun x cs => (match x with | (name, kind) => if (kind == .free) = true then (do let a ← cellOf env name; pure (ForInStep.yield ((name, a) :: cs))) else pure (ForInStep.yield cs) : Sem (ForInStep (List (Str × Addr))))) = _ from this]
  rfl
theorem closOf_lookup {cells : List (Str × Addr)} {y : Str} {c : Addr} (hc : cells.lookup y = some c) : ∀ (names : List (Str × NameKind)) (acc : List (Str × Addr)), ((y, NameKind.free) ∈ names ∨ acc.lookup y = some c) → (acc.lookup y = none ∨ acc.lookup y = some c) → (closOf cells names acc).lookup y = some c
  | [], acc, h, _ => by
    rcases h with h | h
    · cases h
    · exact h
  | (x, k) :: r, acc, h, ha => by
    unfold closOf
    split
    · rename_i hk
      have hkf : k = .free := by simpa using hk
      by_cases hx : y = x
      · subst hx
        refine closOf_lookup hc r _ (.inr ?_) (.inr ?_) <;> simp [hc]
      · have hb : (y == x) = false := by simpa using hx
        refine closOf_lookup hc r _ ?_ ?_
        · rcases h with h | h
          · rcases List.mem_cons.mp h with e | m
            · cases e; exact absurd rfl hx
            · exact .inl m
          · exact .inr (by rw [List.lookup_cons, hb]; exact h)
        · rw [List.lookup_cons, hb]; exact ha
    · rename_i hk
      refine closOf_lookup hc r _ ?_ ha
      rcases h with h | h
      · rcases List.mem_cons.mp h with e | m
        · cases e; exact absurd rfl hk
        · exact .inl m
      · exact .inr h

def relab (scope sc : Scope) : Scope := { scope with names := scope.names.map fun (x, k) => if (k == .free && sc.kind == .function && sc.names.lookup x == some .cell) then (x, .cell) else (x, k) }
theorem relabel_eq (scope : Scope) (env : Env) : relabel scope env = relab scope env.scope := rfl

/-- the names that a comprehension sees of the frame round it -/
def seen (scope : Scope) (Γ : VEnv) : VEnv := fun y => if (y, NameKind.free) ∈ scope.names then (match Γ y with | some (.val p) => some (.val p) | _ => none) else none

section
variable {g : Gx} {n : Nat} {sc : Scope} {Γ : VEnv}

theorem lookup_relab {scope sc : Scope} {y : Str} {k : NameKind} (h : scope.names.lookup y = some k) : (relab scope sc).names.lookup y = some (if (k == .free && sc.kind == .function && sc.names.lookup y == some .cell) then .cell else k) := by
  unfold relab
  generalize scope.names = names at h
  simp only
  induction names with
  | nil => cases h
  | cons a r ih =>
    obtain ⟨x, k'⟩ := a
    rw [List.lookup_cons] at h
    rw [List.map_cons]
    cases hx : y == x with
    | true =>
      rw [hx] at h
      simp only at h
      cases h
      have : y = x := by simpa using hx
      subst this
      split <;> simp
    | false =>
      rw [hx] at h
      simp only at h
      have e := ih h
      simp only
      split <;> (rw [List.lookup_cons, hx]; exact e)

structure CompSide (scope sc : Scope) (Γ : VEnv) (x : Str) : Prop where
  cell : ∀ y ∈ scope.names, y.2 ≠ .cell
  kind : scope.kind = .function
  names : ∀ y ∈ scope.names, y.2 = .local → scope.names.lookup y.1 = some .local
  free : ∀ y, (y, NameKind.free) ∈ scope.names → scope.names.lookup y = some .free ∧ (sc.names.lookup y = some .cell ∨ sc.names.lookup y = some .free) ∧ ∃ p, Γ y = some (.val p)
  x : scope.names.lookup x = some .local

theorem St.take {σ : PH} {h : Heap} {a : Addr} {o : Obj} (S : St g σ h) (e : σ a = none) (ht : a ∉ tabA) (ho : h.get? a = some o) : Le σ (Mine.add σ a o) ∧ St g (Mine.add σ a o) h := by
  have le : Le σ (Mine.add σ a o) := fun b ob q => by
    unfold Mine.add
    by_cases hb : b = a
    · subst hb; rw [e] at q; cases q
    · rw [if_neg hb]; exact q
  refine ⟨le, S.base.trans le, fun b ob q => ?_, S.ti.keeps (fun _ _ e => e) le, fun P hP => ?_⟩
  · unfold Mine.add at q
    by_cases hb : b = a
    · subst hb; rw [if_pos rfl] at q; cases q; exact ho
    · rw [if_neg hb] at q; exact S.sub b ob q
  · unfold Mine.add
    rw [if_neg (fun q : P = a => ht (q ▸ hP))]; exact S.off P hP
theorem compCore {A : Around} {env : Env} {s : Shared} {σ : PH} {m : Str → Option Value} {elt iter : Expr} {x : Str} {px : Pos} {ifs : List Expr} {scope : Scope} {pos : Pos} {use : Option (Value → Sem Unit)} {p : PV} {ps : List PV} {Q E : Value → Shared → Prop} (keep : PV → Bool) (res : Nat → List PV)
    (R : Room A n) (hs : env.scope = sc) (ok : EnvOk env) (S : St g σ s.heap) (V : Vars g env Γ σ s.heap m) (ht : 1 ≤ s.toks) (C : CompSide scope sc Γ x)
    (h : Ev g n sc Γ iter p) (hi : itemsOf p = some ps) (hsz : ps.length ≤ sizeLine)
    (hif : ∀ q ∈ ps, (ifs = [] ∧ keep q = true) ∨ ∃ c, ifs = [c] ∧ Tt g n (relab scope sc) (upd (seen scope Γ) x (.val q)) c (keep q))
    (hr0 : res 0 = []) (hrk : ∀ i q, ps[i]? = some q → keep q = false → res (i + 1) = res i) (hrl : ∀ i, i ≤ ps.length → (res i).length ≤ ps.length)
    (helt : ∀ i q, ps[i]? = some q → keep q = true → ∃ p, res (i + 1) = res i ++ [p] ∧ Ev g n (relab scope sc) (upd (seen scope Γ) x (.val q)) elt p)
    (fin : ∀ D Cl h' tk σ' mC, Step g σ s.heap σ' h' → Rep g σ' (.list (res ps.length)) (.ref D) → h'.Ns Cl mC → σ' Cl = none → Cl ∉ tabA → s.heap.get? Cl = none → 1 ≤ tk →
      compPost (model prog66 g.w) A E use Q (.ref D) Cl (.ok .next) { s with heap := h', toks := tk })
    (hf : ∀ env x, foldedSetIterable iter env x = pure x := by intro _ _; rfl) :
    W g A (comprehension (.ListComp elt [⟨.Name x px, iter, ifs, 0⟩] scope pos) scope env (firstIterPos [⟨.Name x px, iter, ifs, 0⟩] pos) (newList []) false (eval iter env) use) Q E s := by
  have hcl : ∀ y, (y, NameKind.free) ∈ scope.names → (env.cells.lookup y).isSome = true := fun y hy => by
    obtain ⟨hy1, hy2, q, hy3⟩ := C.free y hy
    rcases V.slot y _ hy3 with ⟨a, _⟩ | ⟨a, c, v, b, _⟩
    · unfold Env.kindOf at a; rw [hs] at a; rcases hy2 with e | e <;> (rw [e] at a; cases a)
    · rw [b]; rfl
  refine wpAny_comprehension_free (cl := closOf env.cells scope.names []) rfl (hf env) (closureFor_eq hcl) C.kind C.names ?_
  refine h A env s σ m _ _ R hs ok S V ht fun v h1 t1 σ1 S1 r1 k1 => ?_
  have V1 := V.step S1
  refine iter_start R S1.st r1 hi fun I fp wr P Sx h2 hk2 src _ => ?_
  have S2 : Step g σ1 h1 σ1 h2 := S1.st.grow hk2
  refine wpAny_newObj_type ?_ (by size_fits)
  refine wpAny_with_toks (s := { s with heap := h2.push { cls := .type "list", data := .seq #[] }, toks := t1 }) k1 (wpAny_newFunctionEnv C.cell (by intro y hy; cases hy) (fun h4 hns4 hsb4 htk4 => ?_) C.kind)
  dsimp only at hns4 hsb4 htk4 ⊢
  have hD : (h2.push { cls := .type "list", data := .seq #[] }).objs.size = h2.objs.size + 1 := Heap.size_push ..
  simp only [newEnv, hD] at hns4 hsb4 ⊢
  have keep4 : ∀ b o, h2.get? b = some o → h4.get? b = some o := fun b o e => by
    have := Heap.lt_size e
    rw [hsb4.2 b (Nat.ne_of_lt (Nat.lt_succ_of_lt this))]
    exact Heap.get?_push_of_some _ (Heap.get?_push_of_some _ e)
  have S4 : Step g σ1 h2 σ1 h4 := S2.st.grow keep4
  have S14 : Step g σ s.heap σ1 h4 := (S1.trans S2).trans S4
  have hDlt : h2.objs.size ≠ h2.objs.size + 1 := by omega
  have gD : h4.get? h2.objs.size = some { cls := .type "list", data := .seq #[] } := by
    rw [hsb4.2 _ hDlt]
    exact Heap.get?_push_of_some _ (Heap.get?_push_size _ rfl)
  have size12 : ∀ b, h2.objs.size ≤ b → h1.get? b = none ∧ s.heap.get? b = none ∧ σ1 b = none ∧ b ∉ tabA := fun b hb => by
    have q1 : σ1 b = none := sig_lt S2.st hb
    have q2 : b ∉ tabA := tab_lt S2.st hb
    have q3 : h1.get? b = none := by
      cases e : h1.get? b with
      | none => rfl
      | some o => exact absurd (Heap.lt_size (hk2 b o e)) (Nat.not_lt.mpr hb)
    refine ⟨q3, ?_, q1, q2⟩
    cases e : s.heap.get? b with
    | none => rfl
    | some o => have := S1.grow b o q2 e; rw [q3] at this; cases this
  have seenX : seen scope Γ x = none := by
    unfold seen
    split
    · rename_i hx; have := (C.free x hx).1; rw [C.x] at this; cases this
    · rfl
  have seenV : ∀ y sl, seen scope Γ y = some sl → (y, NameKind.free) ∈ scope.names ∧ ∃ q, sl = .val q ∧ Γ y = some (.val q) := fun y sl e => by
    unfold seen at e
    split at e
    · rename_i hy
      split at e
      · rename_i q hq; cases e; exact ⟨hy, q, rfl, hq⟩
      · cases e
    · cases e
  obtain ⟨z1, z2, z3, z4⟩ := size12 (h2.objs.size + 1) (Nat.le_succ _)
  obtain ⟨d1, d2, d3, d4⟩ := size12 h2.objs.size (Nat.le_refl _)
  let cenv : Env := compEnvC scope (closOf env.cells scope.names []) (h2.objs.size + 1) env
  have hcs : cenv.scope = relab scope sc := by rw [← hs]; rfl
  have cok : EnvOk cenv := ⟨ok.glob, ok.bi, C.kind⟩
  have kin : ∀ y, cenv.kindOf y = (relab scope sc).names.lookup y := fun y => by unfold Env.kindOf; rw [hcs]
  have hx' : (relab scope sc).names.lookup x = some .local := by rw [lookup_relab C.x]; rfl
  have F4 : Fram g h1.get? σ1 cenv (seen scope Γ) σ1 h4 (fun x => [].reverse.lookup x) := by
    refine { ns := hns4, off := z3, tab := z4, slot := fun y sl hy => ?_, st := S4.st, le := .refl _, grow := fun b o _ e => keep4 b o (hk2 b o e), fresh := fun a e _ => e, new := z1, newOwn := fun y l a hy => ?_, apart := fun y y' l l' a hy => ?_, newCell := fun y c hy => ?_ }
    · obtain ⟨hy1, q, rfl, hq⟩ := seenV y sl hy
      obtain ⟨hf1, hf2, _⟩ := C.free y hy1
      rcases V1.slot y _ hq with ⟨a, _⟩ | ⟨a, c, v', b, hc, hr⟩
      · unfold Env.kindOf at a; rw [hs] at a; rcases hf2 with e | e <;> (rw [e] at a; cases a)
      · refine .inr ⟨?_, c, v', closOf_lookup b scope.names [] (.inl hy1) (.inl rfl), hc, hr⟩
        rw [kin, lookup_relab hf1]
        split
        · exact .inl rfl
        · exact .inr rfl
    · obtain ⟨_, q, e, _⟩ := seenV y _ hy; cases e
    · obtain ⟨_, q, e, _⟩ := seenV y _ hy; cases e
    · obtain ⟨_, q, e, _⟩ := seenV y _ hy; cases e
  have noOwn : ∀ q y l, upd (seen scope Γ) x (.val q) y ≠ some (.own l) := fun q y l e => by
    unfold upd at e
    split at e
    · cases e
    · obtain ⟨_, q, e, _⟩ := seenV y _ e; cases e
  have noEmp : ∀ q y, upd (seen scope Γ) x (.val q) y ≠ some .empty := fun q y e => by
    unfold upd at e
    split at e
    · cases e
    · obtain ⟨_, q, e, _⟩ := seenV y _ e; cases e
  have wkx : ∀ q y sl, seen scope Γ y = some sl → upd (seen scope Γ) x (.val q) y = some sl := fun q y sl e => by
    unfold upd
    rw [if_neg (fun z => by rw [z, seenX] at e; cases e)]; exact e
  have rvOf : ∀ {Γ' : VEnv} {σ' : PH} {h' : Heap} {m' : Str → Option Value}, (∀ y l, Γ' y ≠ some (.own l)) → (∀ y, Γ' y ≠ some .empty) → (∀ b ∈ h2.objs.size :: wr, h'.get? b ≠ none ∧ σ' b = none ∧ b ∉ tabA ∧ b ≠ h2.objs.size + 1) → Resv cenv Γ' σ' h' m' (h2.objs.size :: wr) := fun ho he hb b hb' =>
    ⟨(hb b hb').1, (hb b hb').2.1, (hb b hb').2.2.1, (hb b hb').2.2.2, fun y l e => absurd e (ho y l), fun y e => absurd e (he y)⟩
  have wrIn : ∀ b ∈ wr, b < h2.objs.size := fun b hb => src.bound b ((src.walks A R.hd).sub b hb)
  have rv4 : Resv cenv (seen scope Γ) σ1 h4 (fun x => [].reverse.lookup x) (h2.objs.size :: wr) := by
    refine rvOf (fun y l e => ?_) (fun y e => ?_) fun b hb => ?_
    · obtain ⟨_, q, e, _⟩ := seenV y _ e; cases e
    · obtain ⟨_, q, e, _⟩ := seenV y _ e; cases e
    · rcases List.mem_cons.mp hb with rfl | hb
      · exact ⟨by rw [gD]; exact nofun, d3, d4, hDlt⟩
      · have hlt := wrIn b hb
        have hn : h1.get? b = none := src.fresh b hb
        refine ⟨?_, ?_, ?_, Nat.ne_of_lt (Nat.lt_succ_of_lt hlt)⟩
        · have := src.there 0 h2 src.start b hb
          cases q : h2.get? b with
          | none => exact absurd q this
          | some o => rw [keep4 b o q]; exact nofun
        · cases q : σ1 b with
          | none => rfl
          | some o => rw [show h1.get? b = _ from S1.st.sub b o q] at hn; cases hn
        · intro q; obtain ⟨ps', e⟩ := ti_tab S1.st.ti q; rw [show h1.get? b = _ from e] at hn; cases hn
  have hκ : ∀ b ∈ h2.objs.size :: wr, h1.get? b = none := fun b hb => by
    rcases List.mem_cons.mp hb with rfl | hb
    · exact d1
    · exact src.fresh b hb
  have Wk := src.walks A R.hd
  have sx4 : Sx 0 h4 := Wk.frame _ _ _ src.start fun b _ o e => keep4 b o e
  have loop : codeAny (model prog66 g.w) A (.compLoop (.ListComp elt [⟨.Name x px, iter, ifs, 0⟩] scope pos) 0 (.ref I) (.ref h2.objs.size) cenv) (compPost (model prog66 g.w) A E use Q (.ref h2.objs.size) (h2.objs.size + 1)) { s with heap := h4, toks := t1 + 0 } := by
    refine codeAny_compLoop_tests (fun d s' => ∃ i σ' h' tk m' ys, s' = { s with heap := h', toks := tk } ∧ 1 ≤ tk ∧ Fram g h1.get? σ1 cenv (seen scope Γ) σ' h' m' ∧ Resv cenv (seen scope Γ) σ' h' m' (h2.objs.size :: wr) ∧ h'.PlainList h2.objs.size ys ∧
      RepL g σ' (res i) ys.toList ∧ Sx i h' ∧ i ≤ ps.length ∧ d = ps.length + 1 - i) ?_ (ps.length + 1) ⟨0, σ1, h4, _, _, #[], rfl, by omega, F4, rv4, ⟨_, gD⟩, (by rw [hr0]; exact .nil), sx4, Nat.zero_le _, rfl⟩
    rintro d s' ⟨i, σ', h', tk, m', ys, rfl, htk, F', rv', pl', rl', hx3, hil, rfl⟩
    have subF : ∀ {h'' : Heap} {b : Addr} {o : Obj} {σ'' : PH}, Le σ' σ'' → Sub σ'' h'' → σ1 b ≠ none → h'.get? b = some o → h''.get? b = some o := fun {h'' b o σ''} l k hb e => by
      cases q' : σ1 b with
      | none => exact absurd q' hb
      | some ob =>
        have e1 : h'.get? b = some ob := F'.st.sub b ob (F'.le b ob q')
        have e2 : ob = o := Option.some.inj (e1.symm.trans e)
        subst e2
        exact k b ob (l b ob (F'.le b ob q'))
    have rvw : Resv cenv (seen scope Γ) σ' h' m' wr := fun b hb => rv' b (.tail _ hb)
    by_cases hend : i = ps.length
    · subst hend
      refine wpAny_with_toks htk (Wk.done _ _ _ hx3 fun h3 t3 hk3 htk3 => ?_)
      have F3 := F'.next rvw (fun b hb => hκ b (.tail _ hb)) hk3
      obtain ⟨n3, e3⟩ := pl'
      have hDw : h2.objs.size ∉ wr := fun q => Nat.lt_irrefl _ (wrIn _ q)
      have eD := hk3 _ _ hDw e3
      have tk := F3.st.take (rv' _ (.head _)).2.1 (rv' _ (.head _)).2.2.1 eD
      have S5 : Step g σ1 h1 (add σ' h2.objs.size { cls := .type "list", data := .seq ys n3 }) h3 := ⟨F3.le.trans tk.1, F3.grow, tk.2, fun a e ne => by
        unfold add
        rw [if_neg (fun q => ne (by rw [q]; exact d1))]
        exact F3.fresh a e ne⟩
      refine fin _ _ _ _ _ m' (S1.trans S5) (rep_list ⟨_, n3, add_self _ _ _, rfl, rfl, by simp⟩ (rl'.up tk.1)) F3.ns ?_ z4 z2 ?_
      · unfold add
        rw [if_neg (fun q => hDlt q.symm)]; exact F3.off
      · exact htk3
    · have hlt : i < ps.length := Nat.lt_of_le_of_ne hil hend
      refine wpAny_with_toks htk (Wk.item i _ _ _ hlt hx3 fun u h3 t3 hP hx3' hk3 htk3 => ?_)
      obtain ⟨q, hq, rq⟩ := src.item i u hlt hP
      have hqm : q ∈ ps := List.mem_of_getElem? hq
      have F3 := F'.next rvw (fun b hb => hκ b (.tail _ hb)) hk3
      have hDw : h2.objs.size ∉ wr := fun q => Nat.lt_irrefl _ (wrIn _ q)
      obtain ⟨n3, e3⟩ := pl'
      have eD := hk3 _ _ hDw e3
      have rv3 : Resv cenv (seen scope Γ) σ' h3 m' (h2.objs.size :: wr) := fun b hb => ⟨by
        rcases List.mem_cons.mp hb with rfl | hb
        · rw [eD]; exact nofun
        · exact src.there _ _ hx3' b hb, (rv' b hb).2⟩
      refine As.name hx' A cenv _ _ _ _ m' u _ _ R hcs cok F3.rebase (rq.up F'.le) htk3 fun h4' t4 σ4 m4 F4' k4 => ?_
      have frameX : ∀ {h'' : Heap} {σ'' : PH} {Γ'' : VEnv} {m''}, Fram g (kapOf cenv (seen scope Γ) h3 m') σ' cenv Γ'' σ'' h'' m'' → Sx (i + 1) h'' := fun F'' => Wk.frame _ _ _ hx3' fun b hb o e => by
        rcases src.fpIn b hb with hw | hw
        · exact rv3.same F'' (.tail _ hw) e
        · cases q' : σ1 b with
          | none => exact absurd q' hw
          | some ob =>
            have e1 : h3.get? b = some ob := F3.st.sub b ob (F'.le b ob q')
            have e2 : ob = o := Option.some.inj (e1.symm.trans e)
            subst e2
            exact F''.st.sub b ob (F''.le b ob (F'.le b ob q'))
      have rest : ∀ (b : Bool) (h5 : Heap) (t5 : Nat) (σ5 : PH), b = keep q → Step g σ4 h4' σ5 h5 → 1 ≤ t5 →
          (if b = true then wpAny (model prog66 g.w) A (eval elt cenv) (fun xx s₄ =>
              wpAny (model prog66 g.w) A (call (.builtin "list.append") [.ref h2.objs.size, xx]) (fun _ s₅ => ∃ mm, mm < ps.length + 1 - i ∧ ∃ i σ' h' tk m' ys, s₅ = { s with heap := h', toks := tk } ∧ 1 ≤ tk ∧ Fram g h1.get? σ1 cenv (seen scope Γ) σ' h' m' ∧ Resv cenv (seen scope Γ) σ' h' m' (h2.objs.size :: wr) ∧ h'.PlainList h2.objs.size ys ∧
      RepL g σ' (res i) ys.toList ∧ Sx i h' ∧ i ≤ ps.length ∧ mm = ps.length + 1 - i) (notedBy (model prog66 g.w) A cenv fun e s' => compPost (model prog66 g.w) A E use Q (.ref h2.objs.size) (h2.objs.size + 1) (.error e) s') s₄) (notedBy (model prog66 g.w) A cenv fun e s' => compPost (model prog66 g.w) A E use Q (.ref h2.objs.size) (h2.objs.size + 1) (.error e) s') { s with heap := h5, toks := t5 }
            else ∃ mm, mm < ps.length + 1 - i ∧ ∃ i σ' h' tk m' ys, ({ s with heap := h5, toks := t5 } : Shared) = { s with heap := h', toks := tk } ∧ 1 ≤ tk ∧ Fram g h1.get? σ1 cenv (seen scope Γ) σ' h' m' ∧ Resv cenv (seen scope Γ) σ' h' m' (h2.objs.size :: wr) ∧ h'.PlainList h2.objs.size ys ∧
      RepL g σ' (res i) ys.toList ∧ Sx i h' ∧ i ≤ ps.length ∧ mm = ps.length + 1 - i) := fun b h5 t5 σ5 hb S5 k5 => by
        have F5 := F4'.step S5
        cases hkq : keep q with
        | false =>
          subst hb
          rw [hkq]
          simp only [Bool.false_eq_true, if_false]
          have hout := hrk i q hq hkq
          have F5u := (F3.unbase F5).weak (wkx q)
          have rv5 : Resv cenv (seen scope Γ) σ5 h5 m4 (h2.objs.size :: wr) := fun b hb => by
            have := rv3.after F5 b hb
            exact ⟨this.1, this.2.1, this.2.2.1, this.2.2.2.1, fun y l e => this.2.2.2.2.1 y l (wkx q y _ e), fun y e => this.2.2.2.2.2 y (wkx q y _ e)⟩
          refine ⟨_, ?_, i + 1, σ5, h5, t5, m4, ys, rfl, k5, F5u, rv5, ⟨n3, rv3.same F5 (.head _) eD⟩, ?_, frameX F5, hlt, rfl⟩
          · omega
          · rw [hout]; exact rl'.up F5.le
        | true =>
          subst hb
          rw [hkq]
          simp only [if_true]
          obtain ⟨po, hout, hev⟩ := helt i q hq hkq
          refine hev A cenv _ σ5 m4 _ _ R hcs cok F5.st F5.toVars k5 fun xx h6 t6 σ6 S6 r6 k6 => ?_
          have F6 := F5.step S6
          have eD6 := rv3.same F6 (.head _) eD
          have hysz : ys.size ≤ sizeLine := by
            have := rl'.length
            rw [Array.length_toList] at this
            rw [this]
            exact Nat.le_trans (hrl i hil) hsz
          refine wpAny_list_append_plain (items := ys) ⟨n3, eD6⟩ (fun h7 pl7 hs7 => ?_) hysz
          have F6u := (F3.unbase F6).weak (wkx q)
          have rv6 : Resv cenv (seen scope Γ) σ6 h6 m4 (h2.objs.size :: wr) := fun b hb => by
            have := rv3.after F6 b hb
            exact ⟨this.1, this.2.1, this.2.2.1, this.2.2.2.1, fun y l e => this.2.2.2.2.1 y l (wkx q y _ e), fun y e => this.2.2.2.2.2 y (wkx q y _ e)⟩
          have F7 := F6u.next (wr := [h2.objs.size]) (fun b hb => rv6 b (by rw [List.mem_singleton.mp hb]; exact .head _)) (fun b hb => by rw [List.mem_singleton.mp hb]; exact d1) (fun b o hb e => by rw [hs7.2 b (fun z => hb (by rw [z]; exact .head _))]; exact e)
          have rv7 : Resv cenv (seen scope Γ) σ6 h7 m4 (h2.objs.size :: wr) := fun b hb => by
            refine ⟨?_, (rv6 b hb).2⟩
            by_cases hbD : b = h2.objs.size
            · obtain ⟨n7, e7⟩ := pl7; rw [hbD, e7]; exact nofun
            · rw [hs7.2 b hbD]; exact (rv6 b hb).1
          refine ⟨_, ?_, i + 1, σ6, h7, t6, m4, ys.push xx, rfl, k6, F7, rv7, pl7, ?_, Wk.frame _ _ _ (frameX F6) fun b hb o e => ?_, hlt, rfl⟩
          · omega
          · rw [hout, Array.toList_push]
            exact (rl'.up F6.le).append (.cons r6 .nil)
          · rw [hs7.2 b (Nat.ne_of_lt (src.bound b hb))]; exact e
      rcases hif q hqm with ⟨rfl, hkq⟩ | ⟨c, rfl, hc⟩
      · exact wpAny_tests_nil (rest true h4' t4 σ4 hkq.symm (.refl F4'.st) k4)
      · exact wpAny_tests_one (hc A cenv _ σ4 m4 _ _ R hcs cok F4'.st F4'.toVars k4 fun h5 t5 σ5 S5 k5 => rest _ _ _ _ rfl S5 k5)
  exact codeAny_compStart_list loop (Wk.self 0 _ _ _ sx4 loop)

theorem res_keep (keep : PV → Bool) (out : PV → PV) {ps : List PV} : ∀ i q, ps[i]? = some q → keep q = false → ((ps.take (i + 1)).filter keep).map out = ((ps.take i).filter keep).map out := fun i q hq hk => by
  rw [take_succ_filter keep ps i q hq, hk]; simp
theorem res_more (keep : PV → Bool) (out : PV → PV) {ps : List PV} {i : Nat} {q : PV} (hq : ps[i]? = some q) (hk : keep q = true) : ((ps.take (i + 1)).filter keep).map out = ((ps.take i).filter keep).map out ++ [out q] := by
  rw [take_succ_filter keep ps i q hq, hk]; simp
theorem res_len (keep : PV → Bool) (out : PV → PV) {ps : List PV} : ∀ i, i ≤ ps.length → (((ps.take i).filter keep).map out).length ≤ ps.length := fun i _ => by
  rw [List.length_map]
  exact Nat.le_trans (List.length_filter_le _ _) (by rw [List.length_take]; exact Nat.min_le_right _ _)
theorem Ev.compR {elt iter : Expr} {x : Str} {px : Pos} {ifs : List Expr} {scope : Scope} {pos : Pos} {p : PV} {ps : List PV} (keep : PV → Bool) (res : Nat → List PV) (C : CompSide scope sc Γ x)
    (h : Ev g n sc Γ iter p) (hi : itemsOf p = some ps) (hsz : ps.length ≤ sizeLine)
    (hif : ∀ q ∈ ps, (ifs = [] ∧ keep q = true) ∨ ∃ c, ifs = [c] ∧ Tt g n (relab scope sc) (upd (seen scope Γ) x (.val q)) c (keep q))
    (hr0 : res 0 = []) (hrk : ∀ i q, ps[i]? = some q → keep q = false → res (i + 1) = res i) (hrl : ∀ i, i ≤ ps.length → (res i).length ≤ ps.length)
    (helt : ∀ i q, ps[i]? = some q → keep q = true → ∃ p, res (i + 1) = res i ++ [p] ∧ Ev g n (relab scope sc) (upd (seen scope Γ) x (.val q)) elt p)
    (hf : ∀ env x, foldedSetIterable iter env x = pure x := by intro _ _; rfl) : Ev g n sc Γ (.ListComp elt [⟨.Name x px, iter, ifs, 0⟩] scope pos) (.list (res ps.length)) :=
  .mk fun A env s σ m Q E R hs ok S V ht k => by
    rw [eval_ListComp]
    refine compCore keep res R hs ok S V ht C h hi hsz hif hr0 hrk hrl helt (fun D Cl h' tk σ' mC S1 r1 hn hC ht' hfr htk => ?_) hf
    refine ⟨mC, hn, fun h'' hs'' => k _ h'' tk σ' ⟨S1.le, fun b o nb e => ?_, S1.st.change hC ht' hs'', S1.fresh⟩ r1⟩
    rw [hs''.2 b (fun z => by rw [z, hfr] at e; cases e)]
    exact S1.grow b o nb e
theorem Ev.comp {elt iter : Expr} {x : Str} {px : Pos} {ifs : List Expr} {scope : Scope} {pos : Pos} {p : PV} {ps : List PV} (keep : PV → Bool) (out : PV → PV) (C : CompSide scope sc Γ x)
    (h : Ev g n sc Γ iter p) (hi : itemsOf p = some ps) (hsz : ps.length ≤ sizeLine)
    (hif : ∀ q ∈ ps, (ifs = [] ∧ keep q = true) ∨ ∃ c, ifs = [c] ∧ Tt g n (relab scope sc) (upd (seen scope Γ) x (.val q)) c (keep q))
    (helt : ∀ q ∈ ps, keep q = true → Ev g n (relab scope sc) (upd (seen scope Γ) x (.val q)) elt (out q))
    (hf : ∀ env x, foldedSetIterable iter env x = pure x := by intro _ _; rfl) : Ev g n sc Γ (.ListComp elt [⟨.Name x px, iter, ifs, 0⟩] scope pos) (.list ((ps.filter keep).map out)) := by
  have := Ev.compR (px := px) (pos := pos) keep (fun i => ((ps.take i).filter keep).map out) C h hi hsz hif rfl (res_keep keep out) (res_len keep out) (fun i q hq hk => ⟨_, res_more keep out hq hk, helt q (List.mem_of_getElem? hq) hk⟩) hf
  simpa only [List.take_length] using this
theorem Ex1.comp {elt iter : Expr} {x y : Str} {px yp : Pos} {ifs : List Expr} {scope : Scope} {pos spos : Pos} {p : PV} {ps : List PV} (keep : PV → Bool) (out : PV → PV) (C : CompSide scope sc Γ x)
    (h : Ev g n sc Γ iter p) (hi : itemsOf p = some ps) (hsz : ps.length ≤ sizeLine)
    (hif : ∀ q ∈ ps, (ifs = [] ∧ keep q = true) ∨ ∃ c, ifs = [c] ∧ Tt g n (relab scope sc) (upd (seen scope Γ) x (.val q)) c (keep q))
    (helt : ∀ q ∈ ps, keep q = true → Ev g n (relab scope sc) (upd (seen scope Γ) x (.val q)) elt (out q))
    (hy : sc.names.lookup y = some .local) (hsw : ∀ env, env.scope = sc → swapsWith (.ListComp elt [⟨.Name x px, iter, ifs, 0⟩] scope pos) (some (.Name y yp)) spos.line env = pure true)
    (hf : ∀ env x, foldedSetIterable iter env x = pure x := by intro _ _; rfl) : Ex1 g n sc Γ (.Assign [.Name y yp] (.ListComp elt [⟨.Name x px, iter, ifs, 0⟩] scope pos) spos) (.next (upd Γ y (.val (.list ((ps.filter keep).map out))))) :=
  .mk fun A env s κ σ₀ σ m Q E R hs ok F ht k => by
    rw [exec_Assign_Name_used _ _ _ _ (hsw env hs)]
    refine wpAny_bind (wpAny_standAt (wpAny_bind ?_))
    show W g A (do let _ ← comprehension (.ListComp elt [⟨.Name x px, iter, ifs, 0⟩] scope pos) scope env _ (newList []) false (eval iter env) (some (PySem.assign (.Name y yp) env))) _ _ s
    refine wpAny_bind (wpAny_mono (compCore (use := some (PySem.assign (.Name y yp) env)) (Q := fun _ s' => Q .next s') keep (fun i => ((ps.take i).filter keep).map out) R hs ok F.st F.toVars ht C h hi hsz hif rfl (res_keep keep out) (res_len keep out) (fun i q hq hk => ⟨_, res_more keep out hq hk, helt q (List.mem_of_getElem? hq) hk⟩) (fun D Cl h' tk σ' mC S1 r1 hn hC ht' hfr htk => ?_) hf) (fun _ s' hq => wpAny_pure (wpAny_pure hq)) fun _ _ e => e)
    simp only [List.take_length] at r1
    have F1 := F.step S1
    show W g A (PySem.assign (.Name y yp) env (.ref D)) _ _ _
    have hyk : env.kindOf y = some .local := by unfold Env.kindOf; rw [hs]; exact hy
    have hCL : env.locals ≠ Cl := fun z => by obtain ⟨o, es, ep, e, _⟩ := F.ns; rw [z, hfr] at e; cases e
    refine wpAny_assign_Name (wpAny_storeName_local hyk F1.ns (fun h2 hn2 hs2 => ?_) (by rw [ok.kind]; rfl))
    have F2 := F1.store hyk r1 hn2 hs2
    have hn3 := hn.sameBut hs2 (Ne.symm hCL)
    refine ⟨mC, hn3, fun h3 hs3 => k _ h3 _ σ' ⟨rfl, _, F2.next (wr := [Cl]) (fun b hb => ?_) (fun b hb => ?_) fun b o hb e => ?_⟩⟩
    · rw [List.mem_singleton.mp hb]
      refine ⟨by obtain ⟨o, es, ep, e, _⟩ := hn3; rw [e]; exact nofun, hC, ht', Ne.symm hCL, fun z l hz hm => ?_, fun z hz hc => ?_⟩
      · unfold upd at hz
        by_cases hzy : z = y
        · subst hzy; rw [if_pos rfl] at hz; cases hz
        · rw [if_neg hzy] at hz hm
          obtain ⟨_, b', vs, a1, _, _, ⟨ob, n', f1, _⟩, _⟩ := F.slot z _ hz
          rw [hm] at a1; cases a1; rw [hfr] at f1; cases f1
      · unfold upd at hz
        by_cases hzy : z = y
        · subst hzy; rw [if_pos rfl] at hz; cases hz
        · rw [if_neg hzy] at hz
          obtain ⟨_, c, a1, _, _, ⟨ob, f1, _⟩⟩ := F.slot z _ hz
          rw [hc] at a1; cases a1; rw [hfr] at f1; cases f1
    · rw [List.mem_singleton.mp hb]
      cases q : κ Cl with
      | none => rfl
      | some o => have := F.grow Cl o ht' q; rw [hfr] at this; cases this
    · rw [hs3.2 b (fun z => hb (by rw [z]; exact .head _))]; exact e
end
end Mine
namespace Mine
open PySem PySem.W PyProof.Rows PySem.Calls
set_option Elab.async false
set_option maxRecDepth 100000
set_option linter.unusedVariables false
section
variable {g : Gx} {n : Nat} {sc : Scope} {Γ : VEnv}

theorem Ex1.while {test : Expr} {body : List Stmt} {pos : Pos} {Γf : VEnv} (K : Nat) (G : Nat → VEnv) (h0 : ∀ x sl, G 0 x = some sl → Γ x = some sl)
    (turn : ∀ i, i < K → Tt g n sc (G i) test true ∧ Ex g n sc (G i) body (.next (G (i + 1))))
    (stop : (Tt g n sc (G K) test false ∧ ∀ x sl, Γf x = some sl → G K x = some sl) ∨ (Tt g n sc (G K) test true ∧ Ex g n sc (G K) body (.brk Γf))) : Ex1 g n sc Γ (.While test body [] pos) (.next Γf) :=
  .mk fun A env s κ σ₀ σ m Q E R hs ok F ht k => wpAny_While (by
    refine codeAny_whileLoop (fun d s' => ∃ i σ' h' tk m', s' = { s with heap := h', toks := tk } ∧ 1 ≤ tk ∧ Fram g κ σ₀ env (G i) σ' h' m' ∧ i ≤ K ∧ d = K - i) ?_ K ⟨0, σ, s.heap, s.toks, m, rfl, ht, F.weak h0, Nat.zero_le _, rfl⟩
    rintro d s' ⟨i, σ', h', tk, m', rfl, htk, F', hiK, rfl⟩
    by_cases hK : i = K
    · subst hK
      rcases stop with ⟨ht', hw⟩ | ⟨ht', hb⟩
      · refine ht' A env _ σ' m' _ _ R hs ok F'.st F'.toVars htk fun h2 t2 σ2 S2 k2 => ?_
        simp only [Bool.false_eq_true, if_false]
        exact wpAny_execs_nil (k _ _ _ _ ⟨rfl, m', (F'.step S2).weak hw⟩)
      · refine ht' A env _ σ' m' _ _ R hs ok F'.st F'.toVars htk fun h2 t2 σ2 S2 k2 => ?_
        simp only [if_true]
        refine hb A env _ κ σ₀ σ2 m' _ _ R hs ok (F'.step S2) k2 fun f h3 t3 σ3 o3 k3 => ?_
        obtain ⟨rfl, m3, F3⟩ := o3
        exact k _ _ _ _ ⟨rfl, m3, F3⟩
    · have hlt : i < K := Nat.lt_of_le_of_ne hiK hK
      obtain ⟨ht', hb⟩ := turn i hlt
      refine ht' A env _ σ' m' _ _ R hs ok F'.st F'.toVars htk fun h2 t2 σ2 S2 k2 => ?_
      simp only [if_true]
      refine hb A env _ κ σ₀ σ2 m' _ _ R hs ok (F'.step S2) k2 fun f h3 t3 σ3 o3 k3 => ?_
      obtain ⟨rfl, m3, F3⟩ := o3
      exact ⟨K - (i + 1), by omega, i + 1, σ3, h3, t3, m3, rfl, k3, F3, hlt, rfl⟩)

theorem Ev.neg {e : Expr} {pos : Pos} {i : Int} (h : Ev g n sc Γ e (.int i)) : Ev g n sc Γ (.UnaryOp .USub e pos) (.int (-i)) :=
  .mk fun A env s σ m Q E R hs ok S V ht k => wpAny_UnaryOp (h A env s σ m _ _ R hs ok S V ht fun v h1 t1 σ1 S1 r1 k1 => by
    obtain ⟨t, rfl⟩ := r1.int_inv
    exact PyProof.Rows.neg_int (k _ _ _ _ S1 rep_int))

/-! lists of the frame's own -/
theorem Fram.storeOwn {κ σ₀ : PH} {env : Env} {σ : PH} {h h' : Heap} {m : Str → Option Value} {x : Str} {l : List PV} {vs : List Value} {a : Addr} {nn : Nat} (F : Fram g κ σ₀ env Γ σ h m) (hk : env.kindOf x = some .local) (r : RepL g σ l vs)
    (ha : h.get? a = some { cls := .type "list", data := .seq vs.toArray nn }) (hσ : σ a = none) (ht : a ∉ tabA) (hκ : κ a = none) (hno : ∀ y l', Γ y = some (.own l') → m y ≠ some (.ref a))
    (hn : h'.Ns env.locals (fun y => if y = x then some (.ref a) else m y)) (hs : Heap.SameBut env.locals h h') : Fram g κ σ₀ env (upd Γ x (.own l)) σ h' (fun y => if y = x then some (.ref a) else m y) := by
  have F1 := F.store (p := .val (.ref a)) hk rep_val hn hs
  obtain ⟨oL, es, ep, hL, hLd, _⟩ := id F.ns
  have haL : a ≠ env.locals := fun q => by rw [q, hL] at ha; cases ha; cases hLd
  have e1 : ∀ y, y ≠ x → upd Γ x (.own l) y = upd Γ x (.val (.val (.ref a))) y := fun y hy => by unfold upd; rw [if_neg hy, if_neg hy]
  have e2 : upd Γ x (.own l) x = some (.own l) := if_pos rfl
  have e3 : ∀ y, y ≠ x → upd Γ x (.own l) y = Γ y := fun y hy => if_neg hy
  refine { ns := F1.ns, off := F1.off, tab := F1.tab, slot := fun y sl hy => ?_, st := F1.st, le := F1.le, grow := F1.grow, fresh := F1.fresh, new := F1.new, newOwn := fun y l' b hy hm => ?_, apart := fun y z l' l'' b hy hz hm hm' => ?_, newCell := fun y c hy hc => ?_ }
  · by_cases hyx : y = x
    · subst hyx
      rw [e2] at hy; cases hy
      exact ⟨hk, a, vs, if_pos rfl, hσ, ht, ⟨_, nn, (hs.2 a haL).trans ha, ⟨rfl, rfl⟩, rfl, rfl⟩, r⟩
    · rw [e1 y hyx] at hy
      exact F1.slot y sl hy
  · by_cases hyx : y = x
    · subst hyx; rw [if_pos rfl] at hm; cases hm; exact hκ
    · rw [e3 y hyx] at hy; rw [if_neg hyx] at hm; exact F.newOwn y l' b hy hm
  · by_cases hyx : y = x
    · by_cases hzx : z = x
      · exact hyx.trans hzx.symm
      · rw [e3 z hzx] at hz; rw [if_neg hzx] at hm'; rw [if_pos hyx] at hm; cases hm; exact absurd hm' (hno z l'' hz)
    · by_cases hzx : z = x
      · rw [e3 y hyx] at hy; rw [if_neg hyx] at hm; rw [if_pos hzx] at hm'; cases hm'; exact absurd hm (hno y l' hy)
      · rw [e3 y hyx] at hy; rw [e3 z hzx] at hz; rw [if_neg hyx] at hm; rw [if_neg hzx] at hm'; exact F.apart y z l' l'' b hy hz hm hm'
  · by_cases hyx : y = x
    · subst hyx; rw [e2] at hy; cases hy
    · rw [e3 y hyx] at hy; exact F.newCell y c hy hc

theorem fresh_own {κ σ₀ : PH} {env : Env} {σ : PH} {h : Heap} {m : Str → Option Value} (F : Fram g κ σ₀ env Γ σ h m) {a : Addr} (hn : h.get? a = none) (ht : a ∉ tabA) : κ a = none ∧ ∀ y l', Γ y = some (.own l') → m y ≠ some (.ref a) := by
  refine ⟨?_, fun y l' hy hm => ?_⟩
  · cases q : κ a with
    | none => rfl
    | some o => have := F.grow a o ht q; rw [hn] at this; cases this
  · obtain ⟨_, b, vs, a1, _, _, ⟨ob, n', f1, _⟩, _⟩ := F.slot y _ hy
    rw [hm] at a1; cases a1; rw [hn] at f1; cases f1

theorem Ex1.assignOwn {x : Str} {xp lp pos : Pos} {es : List Expr} {ps : List PV} (h : Evs g n sc Γ es ps) (hl : ps.length ≤ sizeLine := by decide) (hk : sc.names.lookup x = some .local := by rfl) (hsw : ∀ env, swapsWith (.List es lp) (some (.Name x xp)) pos.line env = pure false := by intro _; rfl) :
    Ex1 g n sc Γ (.Assign [.Name x xp] (.List es lp) pos) (.next (upd Γ x (.own ps))) :=
  .mk fun A env s κ σ₀ σ m Q E R hs ok F ht k => wpAny_Assign_Name (wpAny_List_spliced (h A env s σ m lp _ _ R hs ok F.st F.toVars ht fun vs h1 t1 σ1 S1 r1 k1 => ⟨by rw [r1.length]; exact hl, by
    have F1 := F.step S1
    have S2 := S1.st.grow (h' := h1.push { cls := .type "list", data := .seq vs.toArray }) fun b o e => Heap.get?_push_of_some _ e
    have F2 := F1.step S2
    have hkx : env.kindOf x = some .local := by unfold Env.kindOf; rw [hs]; exact hk
    obtain ⟨f1, f2⟩ := fresh_own F1 (size_none h1) (size_notTab S1.st)
    exact wpAny_storeName_local hkx F2.ns (fun h3 hn3 hs3 => k _ _ _ _ ⟨rfl, _, F2.storeOwn hkx r1 (Heap.get?_push_size _ rfl) S1.st.none_size (size_notTab S1.st) f1 f2 hn3 hs3⟩) (by rw [ok.kind]; rfl)⟩)) (hsw env)

/-- an object of the frame's own that is put anew -/
theorem Fram.setOwn {κ σ₀ : PH} {env : Env} {σ : PH} {h h' : Heap} {m : Str → Option Value} {x : Str} {l l' : List PV} {vs : List Value} {a : Addr} {nn : Nat} (F : Fram g κ σ₀ env Γ σ h m) (hx : Γ x = some (.own l)) (hm : m x = some (.ref a)) (r : RepL g σ l' vs)
    (ha : h'.get? a = some { cls := .type "list", data := .seq vs.toArray nn }) (hs : Heap.SameBut a h h') : Fram g κ σ₀ env (upd Γ x (.own l')) σ h' m := by
  obtain ⟨hk, b, us, a1, a2, a3, ⟨ob, n', f1, f2, f3, f4⟩, r0⟩ := F.slot x _ hx
  rw [hm] at a1; cases a1
  have haL := own_ne_locals F.toVars hx hm
  have e2 : upd Γ x (.own l') x = some (.own l') := if_pos rfl
  have e3 : ∀ y, y ≠ x → upd Γ x (.own l') y = Γ y := fun y hy => if_neg hy
  refine { ns := F.ns.sameBut hs (Ne.symm haL), off := F.off, tab := F.tab, slot := fun y sl hy => ?_, st := F.st.change a2 a3 hs, le := F.le, grow := fun b o nb e => ?_, fresh := F.fresh, new := F.new, newOwn := fun y l1 b hy hm' => ?_, apart := fun y z l1 l2 b hy hz hm1 hm2 => ?_, newCell := fun y c hy hc => ?_ }
  · by_cases hyx : y = x
    · subst hyx
      rw [e2] at hy; cases hy
      exact ⟨hk, a, vs, hm, a2, a3, ⟨_, nn, ha, ⟨rfl, rfl⟩, rfl, rfl⟩, r⟩
    · rw [e3 y hyx] at hy
      refine slot_change hs f1 rfl (fun l1 b q hb z => ?_) (fun c q hc z => ?_) (F.slot y sl hy)
      · subst q; subst z; exact hyx (F.apart y x l1 l _ hy hx hb hm)
      · subst q; subst z
        obtain ⟨_, c', b1, _, _, ⟨oc, g1, g2⟩⟩ := F.slot y _ hy
        rw [hc] at b1; cases b1; rw [f1] at g1; cases g1; rw [f4] at g2; cases g2
  · rw [hs.2 b fun z => by rw [z, F.newOwn x l a hx hm] at e; cases e]; exact F.grow b o nb e
  · by_cases hyx : y = x
    · subst hyx; rw [hm] at hm'; cases hm'; exact F.newOwn y l a hx hm
    · rw [e3 y hyx] at hy; exact F.newOwn y l1 b hy hm'
  · by_cases hyx : y = x
    · by_cases hzx : z = x
      · exact hyx.trans hzx.symm
      · rw [e3 z hzx] at hz; subst hyx; exact F.apart y z l l2 b hx hz hm1 hm2
    · by_cases hzx : z = x
      · rw [e3 y hyx] at hy; subst hzx; exact F.apart y z l1 l b hy hx hm1 hm2
      · rw [e3 y hyx] at hy; rw [e3 z hzx] at hz; exact F.apart y z l1 l2 b hy hz hm1 hm2
  · by_cases hyx : y = x
    · subst hyx; rw [e2] at hy; cases hy
    · rw [e3 y hyx] at hy; exact F.newCell y c hy hc
theorem own_plain {κ σ₀ : PH} {env : Env} {σ : PH} {h : Heap} {m : Str → Option Value} {x : Str} {l : List PV} (F : Fram g κ σ₀ env Γ σ h m) (hx : Γ x = some (.own l)) : ∃ a vs, env.kindOf x = some .local ∧ m x = some (.ref a) ∧ h.PlainList a (List.toArray vs) ∧ RepL g σ l vs := by
  obtain ⟨hk, a, us, a1, a2, a3, ⟨⟨c, d, dt, sl⟩, n', f1, ⟨f2, f2'⟩, f3, f4⟩, r0⟩ := F.slot x _ hx
  simp only at f2 f2' f3 f4
  subst f2 f2' f3 f4
  exact ⟨a, us, hk, a1, ⟨n', f1⟩, r0⟩

theorem Ex1.append {x : Str} {xp ap cp pos : Pos} {e : Expr} {l : List PV} {p : PV} (hx : Γ x = some (.own l)) (h : Ev g n sc Γ e p) (hl : l.length ≤ sizeLine) (hd : (x == ("__debug__" : Str)) = false := by rfl) (hln : (ap.endLine == cp.line) = true := by rfl)
    (hst : ∀ env, (starEach [e] env) = [(false, eval e env)] := by intro _; rfl)
    (hsw : ∀ env, swapsWith (.Call (.Attribute (.Name x xp) "append" ap) [e] [] cp) none pos.line env = pure false := by intro _; rfl) :
    Ex1 g n sc Γ (.Expr (.Call (.Attribute (.Name x xp) "append" ap) [e] [] cp) pos) (.next (upd Γ x (.own (l ++ [p])))) :=
  .mk fun A env s κ σ₀ σ m Q E R hs ok F ht k => by
    obtain ⟨a, vs, hk, hm, pl, rl⟩ := own_plain F hx
    refine wpAny_Expr_any ?_ ?_ (hsw env)
    · refine wpAny_Call_method (T := "list") (id := "list.append") rfl ?_ hln PySem.F.plainAttrs_list PySem.slot_list_append (by kernel_rfl) ?_
      · unfold backTo; rw [hst]; rfl
      refine wpAny_Name (wpAny_loadName_local ok.kind hk F.ns hm ?_) hd
      refine ⟨pl.isList.typeIs, fun b q => by cases q; obtain ⟨nn, e1⟩ := pl; exact ⟨_, e1, rfl⟩, ?_⟩
      refine callWith_of (P := fun _ => True) (by unfold backTo; rw [hst]; rfl) (fun h _ => ⟨.machine, .inr (.inl rfl), .of_pure rfl⟩) ?_
      unfold backTo
      rw [hst]
      refine evalArgs_plain ?_
      have hsp : (List.map (fun (x : Bool × Sem Value) => (x.1, if x.1 = true then (do let v ← x.2; standAt cp; pure v) else x.2)) [(false, eval e env)]) = [(false, eval e env)] := rfl
      show W g A (spliced [(false, eval e env)]) _ _ _
      show W g A (do let v ← eval e env; let here ← pure [v]; return here ++ (← holding here (spliced []))) _ _ _
      refine wpAny_bind (h A env s σ m _ _ R hs ok F.st F.toVars ht fun v h1 t1 σ1 S1 r1 k1 => ?_)
      refine wpAny_bind (wpAny_pure (wpAny_bind (wpAny_holding (wpAny_pure (wpAny_pure ⟨trivial, ?_⟩)))))
      have F1 := F.step S1
      obtain ⟨a', vs', hk', hm', pl', rl'⟩ := own_plain F1 hx
      rw [hm] at hm'; cases hm'
      show W g A (call (.builtin "list.append") [.ref a, v]) _ _ _
      refine wpAny_list_append_plain pl' (fun h2 pl2 hs2 => ?_) (by rw [List.size_toArray, rl'.length]; exact hl)
      obtain ⟨n2, e2⟩ := pl2
      refine k _ _ _ _ ⟨rfl, m, F1.setOwn hx hm (rl'.snoc r1) (nn := n2) ?_ hs2⟩
      rw [e2]; simp
    · unfold interactive; rw [ok.kind]; rfl

theorem own_plainV {env : Env} {σ : PH} {h : Heap} {m : Str → Option Value} {x : Str} {l : List PV} (F : Vars g env Γ σ h m) (hx : Γ x = some (.own l)) : ∃ a vs, env.kindOf x = some .local ∧ m x = some (.ref a) ∧ h.PlainList a (List.toArray vs) ∧ RepL g σ l vs := by
  obtain ⟨hk, a, us, a1, a2, a3, ⟨⟨c, d, dt, sl⟩, n', f1, ⟨f2, f2'⟩, f3, f4⟩, r0⟩ := F.slot x _ hx
  simp only at f2 f2' f3 f4
  subst f2 f2' f3 f4
  exact ⟨a, us, hk, a1, ⟨n', f1⟩, r0⟩
theorem Ev.ownLast {x : Str} {xp pos : Pos} {e : Expr} {l : List PV} {p : PV} (hx : Γ x = some (.own (l ++ [p]))) (he : Ev g n sc Γ e (.int (-1))) (hlen : l.length < 2 ^ 60) (hd : (x == ("__debug__" : Str)) = false := by rfl)
    (hs0 : ∀ o i, ∃ ops, subscripted e false o i = operate ops (getItem o i) := by intro _ _; exact ⟨_, rfl⟩) : Ev g n sc Γ (.Subscript (.Name x xp) e pos) p :=
  .mk fun A env s σ m Q E R hs ok S V ht k => Subscript_ (by
    obtain ⟨a, vs, hk, hm, pl, rl⟩ := own_plainV V hx
    refine wpAny_Name (wpAny_loadName_local ok.kind hk V.ns hm ?_) hd
    refine he A env s σ m _ _ R hs ok S V ht fun v h1 t1 σ1 S1 r1 k1 => ?_
    obtain ⟨t, rfl⟩ := r1.int_inv
    have V1 := V.step S1
    obtain ⟨a', vs', hk', hm', pl', rl'⟩ := own_plainV V1 hx
    rw [hm] at hm'; cases hm'
    obtain ⟨ops, e'⟩ := hs0 (.ref a) (.int (-1) t)
    have hL := rl'.length
    rw [List.length_append, List.length_singleton] at hL
    obtain ⟨w, hw, rw'⟩ := rl'.get (i := l.length) (p := p) (by simp)
    refine tail_any (T := "list") pl'.isList.typeIs PySem.slot_list_getitem.lookup (wpAny_getItem_list_neg pl'.isList (by omega) (by rw [List.size_toArray]; omega) (by omega) ?_ (k _ _ _ _ S1 rw')) e'
    rw [List.size_toArray, show (-1 + (vs'.length : Int)).toNat = l.length by omega]
    simpa using hw)

theorem setItem_last {A : Around} {E : Value → Shared → Prop} {s : Shared} {l : Addr} {items : Array Value} {t : Tok} {v : Value} {Q : Unit → Shared → Prop} (pl : s.heap.PlainList l items) (hpos : 0 < items.size)
    (hQ : ∀ h', h'.PlainList l (items.setIfInBounds (items.size - 1) v) → Heap.SameBut l s.heap h' → Q () { s with heap := h' }) : W g A (setItem (.ref l) (.int (-1) t) v) Q E s := by
  obtain ⟨nn, ho⟩ := id pl
  have hl := pl.isList
  unfold setItem
  try with_reducible refine wpAny_holding ?_
  first | refine wpAny_bind (wpAny_pure ?_) | skip
  refine wpAny_bind (wpAny_sequenceKey hl.typeIs (by decide) ?_)
  refine wpAny_bind (wpAny_callSpecial?_slot (name := Str.ofString "__setitem__") hl.typeIs PySem.slot_list_setitem
    (wpAny_call_entry PySem.slot_list_setitem hl.typeIs PySem.entry_list_setitem ?_ (PySem.args_list_setitem _ _ _)))
  show wpAny _ _ (Builtin.List.listSubscript? (.int (-1) t) >>= _) _ _ s
  refine wpAny_bind (wpAny_listSubscript_int (fitsIndex_neg (by omega) (by omega)) ?_)
  have hidx : seqIndex? (-1) items.size = some (items.size - 1) := by
    rw [seqIndex_neg (by omega) (by omega)]; congr 1; omega
  have hx' : items[items.size - 1]? = some items[items.size - 1] := Array.getElem?_eq_getElem (by omega)
  show wpAny _ _ ((Builtin.List.listItems (.ref l) >>= fun xs => pure ((seqIndex? (Int.negSucc 0) xs.size).bind fun i => xs[i]?.map (i, ·))) >>= _) _ _ s
  refine wpAny_bind (wpAny_bind ?_)
  show wpAny _ _ (seqItems? (.ref l) >>= _) _ _ s
  refine wpAny_bind (wpAny_seqItems ho rfl (wpAny_pure (wpAny_pure ?_)))
  rw [show seqIndex? (Int.negSucc 0) items.size = some (items.size - 1) from hidx]
  simp only [Option.bind_some, hx', Option.map_some]
  show wpAny _ _ (setSeqItemAt l (items.size - 1) v >>= _) _ _ s
  have hfin : (s.heap.update l (Obj.mapSeq (·.setIfInBounds (items.size - 1) v))).PlainList l (items.setIfInBounds (items.size - 1) v) := by
    have := Heap.get?_update_self (Obj.mapSeq (·.setIfInBounds (items.size - 1) v)) ho rfl
    exact ⟨_, this⟩
  refine wpAny_bind (wpAny_setSeqItemAt ho rfl ?_)
  first
    | exact wpAny_bind (wpAny_pure (wpAny_pure ⟨.none, rfl, wpAny_pure (hQ _ hfin (Heap.SameBut.update ..))⟩))
    | exact wpAny_pure ⟨.none, rfl, wpAny_pure (hQ _ hfin (Heap.SameBut.update ..))⟩
theorem Ex1.setLast {x : Str} {xp sp pos : Pos} {e i : Expr} {l : List PV} {p q : PV} (hx : Γ x = some (.own (l ++ [p]))) (h : Ev g n sc Γ e q) (hi : Ev g n sc Γ i (.int (-1))) (hd : (x == ("__debug__" : Str)) = false := by rfl)
    (hsw : ∀ env, swapsWith e (some (.Subscript (.Name x xp) i sp)) pos.line env = pure false := by intro _; rfl) : Ex1 g n sc Γ (.Assign [.Subscript (.Name x xp) i sp] e pos) (.next (upd Γ x (.own (l ++ [q])))) :=
  .mk fun A env s κ σ₀ σ m Q E R hs ok F ht k => wpAny_Assign_Subscript (h A env s σ m _ _ R hs ok F.st F.toVars ht fun v h1 t1 σ1 S1 r1 k1 => by
    have F1 := F.step S1
    obtain ⟨a, vs, hk, hm, pl, rl⟩ := own_plain F1 hx
    refine wpAny_Name (wpAny_loadName_local ok.kind hk F1.ns hm ?_) hd
    refine hi A env _ σ1 m _ _ R hs ok F1.st F1.toVars k1 fun v2 h2 t2 σ2 S2 r2 k2 => ?_
    obtain ⟨t, rfl⟩ := r2.int_inv
    have F2 := F1.step S2
    obtain ⟨a', vs', hk', hm', pl', rl'⟩ := own_plain F2 hx
    rw [hm] at hm'; cases hm'
    have hL := rl'.length
    rw [List.length_append, List.length_singleton] at hL
    refine setItem_last pl' (by rw [List.size_toArray]; omega) fun h3 pl3 hs3 => ?_
    obtain ⟨n3, e3⟩ := pl3
    have e4 : (vs'.toArray.setIfInBounds (vs'.toArray.size - 1) v) = (vs'.take l.length ++ [v]).toArray := by
      rw [List.size_toArray, List.setIfInBounds_toArray, show vs'.length - 1 = l.length by omega]
      congr 1
      rw [List.set_eq_take_append_cons_drop, if_pos (by omega), List.drop_eq_nil_of_le (by omega)]
    rw [e4] at e3
    have rt := rl'.take l.length
    rw [List.take_left] at rt
    exact k _ _ _ _ ⟨rfl, m, F2.setOwn hx hm (rt.snoc (r1.up S2.le)) e3 hs3⟩) (hsw env)

theorem Fram.thaw {κ σ₀ : PH} {env : Env} {σ : PH} {h : Heap} {m : Str → Option Value} {x : Str} {l : List PV} (F : Fram g κ σ₀ env Γ σ h m) (hx : Γ x = some (.own l)) : ∃ σ', Fram g κ σ₀ env (upd Γ x (.val (.list l))) σ' h m := by
  obtain ⟨hk, a, us, a1, a2, a3, ⟨ob, n', f1, ⟨f2, f2'⟩, f3, f4⟩, r0⟩ := F.slot x _ hx
  obtain ⟨le, S'⟩ := F.st.take a2 a3 f1
  have hκ := F.newOwn x l a hx a1
  have haL := own_ne_locals F.toVars hx a1
  have hget : ∀ b, b ≠ a → add σ a ob b = σ b := fun b hb => if_neg hb
  have e3 : ∀ y, y ≠ x → upd Γ x (.val (.list l)) y = Γ y := fun y hy => if_neg hy
  refine ⟨add σ a ob, { ns := F.ns, off := (hget _ (Ne.symm haL)).trans F.off, tab := F.tab, slot := fun y sl hy => ?_, st := S', le := F.le.trans le, grow := F.grow, fresh := fun b e ne => ?_, new := F.new, newOwn := fun y l1 b hy hm' => ?_, apart := fun y z l1 l2 b hy hz hm1 hm2 => ?_, newCell := fun y c hy hc => ?_ }⟩
  · by_cases hyx : y = x
    · subst hyx
      rw [show upd Γ y (.val (.list l)) y = some (.val (.list l)) from if_pos rfl] at hy; cases hy
      exact .inl ⟨hk, _, a1, rep_list ⟨ob, n', add_self _ _ _, f2, f3, f4⟩ (r0.up le)⟩
    · rw [e3 y hyx] at hy
      cases sl with
      | val q =>
        rcases F.slot y _ hy with ⟨b1, v1, b2, b3⟩ | ⟨b1, c1, v1, b2, b3, b4⟩
        · exact .inl ⟨b1, v1, b2, b3.up le⟩
        · exact .inr ⟨b1, c1, v1, b2, b3.mono le, b4.up le⟩
      | own l1 =>
        obtain ⟨b0, b, vs, b1, b2, b3, b4, b5⟩ := F.slot y _ hy
        have hba : b ≠ a := fun z => hyx (F.apart y x l1 l a hy hx (z ▸ b1) a1)
        exact ⟨b0, b, vs, b1, (hget b hba).trans b2, b3, b4, b5.up le⟩
      | empty =>
        obtain ⟨b0, c, b1, b2, b3, ⟨oc, g1, g2⟩⟩ := F.slot y _ hy
        have hca : c ≠ a := fun z => by subst z; rw [f1] at g1; cases g1; rw [f4] at g2; cases g2
        exact ⟨b0, c, b1, (hget c hca).trans b2, b3, ⟨oc, g1, g2⟩⟩
  · rw [hget b fun z => ne (z ▸ hκ)]; exact F.fresh b e ne
  · by_cases hyx : y = x
    · subst hyx; rw [show upd Γ y (.val (.list l)) y = some (.val (.list l)) from if_pos rfl] at hy; cases hy
    · rw [e3 y hyx] at hy; exact F.newOwn y l1 b hy hm'
  · by_cases hyx : y = x
    · subst hyx; rw [show upd Γ y (.val (.list l)) y = some (.val (.list l)) from if_pos rfl] at hy; cases hy
    · by_cases hzx : z = x
      · subst hzx; rw [show upd Γ z (.val (.list l)) z = some (.val (.list l)) from if_pos rfl] at hz; cases hz
      · rw [e3 y hyx] at hy; rw [e3 z hzx] at hz; exact F.apart y z l1 l2 b hy hz hm1 hm2
  · by_cases hyx : y = x
    · subst hyx; rw [show upd Γ y (.val (.list l)) y = some (.val (.list l)) from if_pos rfl] at hy; cases hy
    · rw [e3 y hyx] at hy; exact F.newCell y c hy hc
theorem Ex.thaw {b : List Stmt} {o : Out} {x : Str} {l : List PV} (hx : Γ x = some (.own l)) (h : Ex g n sc (upd Γ x (.val (.list l))) b o) : Ex g n sc Γ b o :=
  fun A env s κ σ₀ σ m Q E R hs ok F ht k => by
    obtain ⟨σ', F'⟩ := F.thaw hx
    exact h A env s κ σ₀ σ' m Q E R hs ok F' ht k
end
end Mine
namespace Mine
open PySem PySem.W PyProof.Rows PySem.Calls
set_option Elab.async false
set_option maxRecDepth 100000
set_option linter.unusedVariables false
section
variable {g : Gx} {n : Nat} {sc : Scope} {Γ : VEnv}

theorem Ex1.assignAs {t e : Expr} {pos : Pos} {q : PV} {Γ' : VEnv} (h : Ev g n sc Γ e q) (ha : As g n sc t Γ q Γ') (h1 : ∀ env, swapsWithSole [t] e pos.line env = pure false := by intro _; rfl) (h2 : ∀ env, swappedStores [t] e env = pure Option.none := by intro _; rfl)
    (h3 : ∀ env, (assignEach [t] env) = [(false, PySem.assign t env)] := by intro _; rfl) : Ex1 g n sc Γ (.Assign [t] e pos) (.next Γ') :=
  .mk fun A env s κ σ₀ σ m Q E R hs ok F ht k => wpAny_Assign_stores (h A env s σ m _ _ R hs ok F.st F.toVars ht fun v h1 t1 σ1 S1 r1 k1 => by
    rw [h3]
    show W g A (PySem.assign t env v) _ _ _
    exact ha A env _ κ σ₀ σ1 m v _ _ R hs ok (F.step S1) r1 k1 fun h2 t2 σ2 m2 F2 k2 => k _ _ _ _ ⟨rfl, m2, F2⟩) (h1 env) (h2 env)

def updL (Γ : VEnv) : List (Str × PV) → VEnv
  | [] => Γ
  | (x, p) :: r => updL (upd Γ x (.val p)) r
theorem bindAll {A : Around} {env : Env} {κ σ₀ σ : PH} {E : Value → Shared → Prop} (ok : EnvOk env) : ∀ (xs : List Str) (ps : List PV) (vs : List Value) (Γ : VEnv) (s : Shared) (m : Str → Option Value) (Q : Unit → Shared → Prop), (∀ x ∈ xs, env.kindOf x = some .local) → xs.length = ps.length → RepL g σ ps vs → Fram g κ σ₀ env Γ σ s.heap m →
    (∀ h' tk m', Fram g κ σ₀ env (updL Γ (xs.zip ps)) σ h' m' → Q () { s with heap := h', toks := tk }) → W g A (assignInOrder (xs.map fun x => bindName env x) vs) Q E s
  | [], [], vs, Γ, s, m, Q, hk, hl, r, F, k => by
    rw [r.nil_inv]; exact wpAny_pure (k s.heap s.toks m F)
  | x :: xs, p :: ps, vs, Γ, s, m, Q, hk, hl, r, F, k => by
    obtain ⟨v, vs, rfl, r1, r2⟩ := r.cons_inv
    show W g A (assignInOrder (bindName env x :: xs.map fun x => bindName env x) (v :: vs)) Q E s
    unfold assignInOrder
    refine wpAny_bind (wpAny_holding (wpAny_bindName (storeL ok F (hk x (.head _)) r1 fun h' m' F' => ?_)))
    exact bindAll ok xs ps vs _ _ m' Q (fun y hy => hk y (.tail _ hy)) (by simpa using hl) r2 F' fun h'' tk m'' F'' => k h'' tk m'' F''
  | [], _ :: _, _, _, _, _, _, _, hl, _, _, _ => by simp at hl
  | _ :: _, [], _, _, _, _, _, _, hl, _, _, _ => by simp at hl

theorem RepL.rev {σ : PH} : ∀ {ps vs}, RepL g σ ps vs → RepL g σ ps.reverse vs.reverse
  | [], vs, r => by rw [r.nil_inv]; exact .nil
  | p :: ps, vs, r => by obtain ⟨v, vs, rfl, a, b⟩ := r.cons_inv; simp only [List.reverse_cons]; exact b.rev.snoc a

theorem Ex1.swap {ts es : List Expr} {j k' : Nat} {tp vp pos : Pos} {xs : List Str} {ps : List PV} (h : Evs g n sc Γ es ps) (hl : ps.length ≤ sizeLine) (hlen : xs.length = ps.length) (hk : ∀ x ∈ xs, sc.names.lookup x = some .local)
    (h2 : ∀ env, env.scope = sc → swappedStores [.Tuple ts j tp] (.Tuple es k' vp) env = pure (some xs)) : Ex1 g n sc Γ (.Assign [.Tuple ts j tp] (.Tuple es k' vp) pos) (.next (updL Γ (xs.reverse.zip ps.reverse))) :=
  .mk fun A env s κ σ₀ σ m Q E R hs ok F ht k => by
    show W g A (do standAt pos; let v ← eval (.Tuple es k' vp) env; assignStores env v (← swappedStores [.Tuple ts j tp] (.Tuple es k' vp) env) ((assignEach [.Tuple ts j tp] env).map (·.2))) _ _ _
    rw [h2 env hs]
    refine wpAny_bind (wpAny_standAt (wpAny_bind ?_))
    refine (Ev.tup h hl) A env s σ m _ _ R hs ok F.st F.toVars ht fun v h1 t1 σ1 S1 r1 k1 => ?_
    refine wpAny_bind (wpAny_pure ?_)
    obtain ⟨t, vs, rfl, L, rl⟩ := r1.tup_inv
    refine wpAny_bind (wpAny_rule (wpAny_bind ?_))
    have hL := rl.length
    have := wpAny_unpackItems_tuple (prog := prog66) (w := g.w) (A := A) (E := E) (s := { s with heap := h1, toks := t1 }) (t := t) (items := vs.toArray) (Q := fun items s' => W g A (assignInOrder (xs.reverse.map fun x => bindName env x) items.reverse >>= fun _ => pure Flow.next) Q E s') R.hd (L.isTuple S1.st.sub) fun h2 hx2 => ?_
    · rw [List.size_toArray, hL, ← hlen] at this; exact this
    have S2 : Step g σ1 h1 σ1 h2 := S1.st.grow fun b o e => hx2 b o (Nat.ne_of_lt (Heap.lt_size e)) e
    have F2 := (F.step S1).step S2
    refine wpAny_bind ?_
    refine bindAll ok xs.reverse ps.reverse vs.reverse Γ _ m _ (fun x hx => by unfold Env.kindOf; rw [hs]; exact hk x (List.mem_reverse.mp hx)) (by simpa using hlen) rl.rev F2 fun h3 t3 m3 F3 => ?_
    exact wpAny_pure (k _ _ _ _ ⟨rfl, m3, F3⟩)

/-! a dict of written texts -/
inductive DictEs : List (Option Expr) → List Expr → List (Str × Str) → Prop
  | nil : DictEs [] [] []
  | cons {k v : Str} {a b : Nat} {p q : Pos} {ks vs l} : DictEs ks vs l → DictEs (some (.Constant (.str k) a p) :: ks) (.Constant (.str v) b q :: vs) ((k, v) :: l)
theorem merged_nodup {K : Type} [DecidableEq K] : ∀ (kvs acc : List (K × Value)), ((acc ++ kvs).map (·.1)).Nodup → merged acc kvs = acc ++ kvs
  | [], acc, _ => by simp [merged]
  | (k, v) :: r, acc, h => by
    have e : stored acc k v = acc ++ [(k, v)] := by
      unfold stored
      rw [if_neg]
      intro q
      obtain ⟨x, hx, hk⟩ := List.any_eq_true.mp q
      have hk : x.1 = k := by simpa using hk
      rw [List.map_append, List.nodup_append] at h
      exact h.2.2 x.1 (List.mem_map_of_mem hx) k (by simp) hk
    show merged (stored acc k v) r = _
    rw [e, merged_nodup r (acc ++ [(k, v)]) (by simpa using h)]
    simp
theorem evalPairs_dict {A : Around} {env : Env} {pos : Pos} {E : Value → Shared → Prop} : ∀ {ks vs l}, DictEs ks vs l → ∀ (s : Shared) (Q : List (Value × Value) → Shared → Prop), (∀ us kvs tk, Carries (PySem.strKind prog66 g.w) us kvs → Paired (fun (a : Str × Value) (b : Str × Str) => a.1 = b.1 ∧ ∃ t, a.2 = .str b.2 t) kvs l → us.length = l.length → Q us { s with toks := tk }) →
    W g A (evalPairs (pairTrees ks vs env pos)) Q E s
  | _, _, _, .nil, s, Q, k => wpAny_pure (k [] [] s.toks trivial .nil rfl)
  | _, _, _, .cons (k := kk) (v := vv) t, s, Q, k => by
    unfold pairTrees evalPairs
    refine wpAny_bind (wpAny_mkText (wpAny_bind (wpAny_holding (wpAny_bind (wpAny_mkText (wpAny_bind (wpAny_standAt (wpAny_pure ?_))))))))
    refine wpAny_bind (wpAny_holding (evalPairs_dict t _ _ fun us kvs tk c p hl => wpAny_pure ?_))
    exact k _ ((kk, _) :: kvs) tk ⟨strKind_is _ _ _ _, rfl, c⟩ (.cons ⟨rfl, _, rfl⟩ p) (by simp [hl])
theorem paired_keys : ∀ {kvs : List (Str × Value)} {l : List (Str × Str)}, Paired (fun (a : Str × Value) (b : Str × Str) => a.1 = b.1 ∧ ∃ t, a.2 = .str b.2 t) kvs l → kvs.map (·.1) = l.map (·.1)
  | _, _, .nil => rfl
  | _, _, .cons h t => by rw [List.map_cons, List.map_cons, paired_keys t, h.1]
theorem DictEs.side : ∀ {ks vs l}, DictEs ks vs l → (ks.all fun x => x.isSome) = true ∧ ks.length = vs.length ∧ ks.length = l.length
  | _, _, _, .nil => ⟨rfl, rfl, rfl⟩
  | _, _, _, .cons t => by obtain ⟨a, b, c⟩ := t.side; exact ⟨by simp [a], by simp [b], by simp [c]⟩
theorem Ev.dict {ks : List (Option Expr)} {vs : List Expr} {pos : Pos} {l : List (Str × Str)} (h : DictEs ks vs l) (hne : l ≠ []) (h15 : l.length ≤ 15) (hnd : (l.map (·.1)).Nodup) : Ev g n sc Γ (.Dict ks vs pos) (.dict l) :=
  .mk fun A env s σ m Q E R hs ok S V ht k => by
    obtain ⟨d1, d2, d3⟩ := h.side
    refine wpAny_Dict_walk (knd := PySem.strKind prog66 g.w) d1 d2 (fun q => hne (by rw [q] at d3; exact List.length_eq_zero_iff.mp d3.symm)) (by rw [d3]; exact h15) ?_
    refine evalPairs_dict h _ _ fun us kvs tk c p hl => ⟨kvs, c, Heap.DictOf.new _, fun h' hd hsb => ?_⟩
    have hk := paired_keys p
    rw [merged_nodup kvs [] (by rw [List.nil_append, hk]; exact hnd), List.nil_append] at hd
    obtain ⟨o, es, ep, ho, hex, hr⟩ := hd
    have hkeep : ∀ b ob, s.heap.get? b = some ob → h'.get? b = some ob := fun b ob e => by
      rw [hsb.2 b (Nat.ne_of_lt (Heap.lt_size e))]; exact Heap.get?_push_of_some _ e
    have S1 := S.add (h' := h') S.none_size hkeep ho (size_notTab S) (size_none _)
    refine k _ h' _ _ S1 ?_
    unfold Rep
    refine ⟨_, rfl, o, kvs, ?_, add_self _ _ _, hex.1, hex.2.1, ⟨es, ep, hex, hr⟩, p⟩
    have hlt : sysModules < s.heap.objs.size := modules_low (g.nolimit.keeps S.keep)
    exact beq_eq_false_iff_ne.mpr (Nat.ne_of_gt hlt)

/-- two lists of the frame's own at once -/
theorem Ex1.own2 {es1 es2 : List Expr} {x y : Str} {xp yp tp lp1 lp2 vp pos : Pos} {j k' : Nat} {ps qs : List PV} (h1 : Evs g n sc Γ es1 ps) (h2 : Evs g n sc Γ es2 qs) (hl1 : ps.length ≤ sizeLine) (hl2 : qs.length ≤ sizeLine) (hx : sc.names.lookup x = some .local) (hy : sc.names.lookup y = some .local) (hxy : x ≠ y)
    (h3 : ∀ env, env.scope = sc → swappedStores [.Tuple [.Name x xp, .Name y yp] j tp] (.Tuple [.List es1 lp1, .List es2 lp2] k' vp) env = pure (some [x, y])) :
    Ex1 g n sc Γ (.Assign [.Tuple [.Name x xp, .Name y yp] j tp] (.Tuple [.List es1 lp1, .List es2 lp2] k' vp) pos) (.next (upd (upd Γ y (.own qs)) x (.own ps))) :=
  .mk fun A env s κ σ₀ σ m Q E R hs ok F ht k => by
    show W g A (do standAt pos; let v ← eval (.Tuple [.List es1 lp1, .List es2 lp2] k' vp) env; assignStores env v (← swappedStores [.Tuple [.Name x xp, .Name y yp] j tp] (.Tuple [.List es1 lp1, .List es2 lp2] k' vp) env) ((assignEach [.Tuple [.Name x xp, .Name y yp] j tp] env).map (·.2))) _ _ _
    rw [h3 env hs]
    refine wpAny_bind (wpAny_standAt (wpAny_bind (wpAny_Tuple_spliced (wpAny_items_cons (wpAny_List_spliced (h1 A env s σ m lp1 _ _ R hs ok F.st F.toVars ht fun vs a1 t1 σ1 S1 r1 k1 => ⟨by rw [r1.length]; exact hl1, ?_⟩))))))
    have F1 := F.step S1
    have Sp := S1.st.grow (h' := a1.push { cls := .type "list", data := .seq vs.toArray }) fun b o e => Heap.get?_push_of_some _ e
    have F2 := F1.step Sp
    refine wpAny_items_cons (wpAny_List_spliced (h2 A env _ σ1 m lp2 _ _ R hs ok F2.st F2.toVars k1 fun us a2 t2 σ2 S2 r2 k2 => ⟨by rw [r2.length]; exact hl2, wpAny_pure ⟨(show 2 ≤ sizeLine by decide), ?_⟩⟩))
    have F3 := F2.step S2
    have Sq := S2.st.grow (h' := (a2.push { cls := .type "list", data := .seq us.toArray }).push { cls := .type "tuple", data := .seq [Value.ref a1.objs.size, .ref a2.objs.size].toArray }) fun b o e => Heap.get?_push_of_some _ (Heap.get?_push_of_some _ e)
    have F4 := F3.step Sq
    refine wpAny_bind (wpAny_pure (wpAny_bind (wpAny_rule (wpAny_bind ?_))))
    refine wpAny_unpackItems_tuple (items := [Value.ref a1.objs.size, .ref a2.objs.size].toArray) R.hd ⟨_, Heap.get?_push_size _ rfl, rfl, _, rfl⟩ fun a3 hx3 => ?_
    have S5 : Step g σ2 _ σ2 a3 := Sq.st.grow fun b o e => hx3 b o (Nat.ne_of_lt (Heap.lt_size e)) e
    have F5 := F4.step S5
    have hxk : env.kindOf x = some .local := by unfold Env.kindOf; rw [hs]; exact hx
    have hyk : env.kindOf y = some .local := by unfold Env.kindOf; rw [hs]; exact hy
    have o1 : (a1.push { cls := .type "list", data := .seq vs.toArray }).get? a1.objs.size = some { cls := .type "list", data := .seq vs.toArray } := Heap.get?_push_size _ rfl
    have tb1 := size_notTab S1.st
    have tb2 := size_notTab S2.st
    have g1 : a3.get? a1.objs.size = some { cls := .type "list", data := .seq vs.toArray } := S5.grow _ _ tb1 (Sq.grow _ _ tb1 (S2.grow _ _ tb1 o1))
    have g2 : a3.get? a2.objs.size = some { cls := .type "list", data := .seq us.toArray } := S5.grow _ _ tb2 (Heap.get?_push_of_some _ (Heap.get?_push_size _ rfl))
    obtain ⟨f1, f2⟩ := fresh_own F1 (size_none a1) tb1
    obtain ⟨f3, f4⟩ := fresh_own F3 (size_none a2) tb2
    have s1 : σ2 a1.objs.size = none := S2.fresh _ S1.st.none_size (by rw [o1]; exact nofun)
    show W g A (assignInOrder [bindName env y, bindName env x] [.ref a2.objs.size, .ref a1.objs.size] >>= fun _ => pure Flow.next) _ _ _
    refine wpAny_bind ?_
    unfold assignInOrder
    refine wpAny_bind (wpAny_holding (wpAny_bindName (wpAny_storeName_local hyk F5.ns (fun a4 hn4 hs4 => ?_) (by rw [ok.kind]; rfl))))
    have F6 := F5.storeOwn hyk r2 g2 S2.st.none_size tb2 f3 f4 hn4 hs4
    unfold assignInOrder
    have g1' : a4.get? a1.objs.size = some { cls := .type "list", data := .seq vs.toArray } := by
      rw [hs4.2 _ fun q => ?_]
      · exact g1
      · obtain ⟨oL, es', ep', hL, hLd, _⟩ := F5.ns
        rw [← q] at hL
        rw [show a3.get? a1.objs.size = _ from hL] at g1; cases g1; cases hLd
    refine wpAny_bind (wpAny_holding (wpAny_bindName (wpAny_storeName_local hxk F6.ns (fun a5 hn5 hs5 => ?_) (by rw [ok.kind]; rfl))))
    refine wpAny_pure (wpAny_pure (k _ _ _ _ ⟨rfl, _, F6.storeOwn hxk ((r1.up Sp.le).up S2.le) g1' s1 tb1 f1 (fun z l' hz hm => ?_) hn5 hs5⟩))
    by_cases hzy : z = y
    · rw [if_pos hzy] at hm
      have : a2.objs.size = a1.objs.size := Value.ref.inj (Option.some.inj hm)
      have hlt := Heap.lt_size (S2.grow _ _ tb1 o1)
      rw [show a2.objs.size = a1.objs.size from this] at hlt
      exact Nat.lt_irrefl _ hlt
    · rw [if_neg hzy] at hm
      unfold upd at hz
      rw [if_neg hzy] at hz
      exact f2 z l' hz hm
end
end Mine
namespace Mine
open PySem PySem.W PyProof.Rows PySem.Calls PySem.Builtin PySem.Builtin.ObjectAttr
set_option Elab.async false
set_option maxRecDepth 100000
set_option linter.unusedVariables false
theorem slot_fun_sa : Slot "function" "__setattr__" "object.__setattr__" := .of (owner := "object") (n := "__setattr__") (by rw [typeLookup_type, builtinLookup_eq_fast]; kernel_rfl) (by decide +kernel) (by decide +kernel) (by decide +kernel)
  (by first | exact .inl (by decide +kernel) | exact .inr (by decide +kernel)) (by rw [isSubtype_type]; kernel_rfl)
theorem args_osa (a b c : Value) : argsOk "object.__setattr__" ⟨[a, b, c], []⟩ := by unfold argsOk; kernel_rfl
theorem slot_fun_ga : Slot "function" "__getattribute__" "object.__getattribute__" := .of (owner := "object") (n := "__getattribute__") (by rw [typeLookup_type, builtinLookup_eq_fast]; kernel_rfl) (by decide +kernel) (by decide +kernel) (by decide +kernel)
  (by first | exact .inl (by decide +kernel) | exact .inr (by decide +kernel)) (by rw [isSubtype_type]; kernel_rfl)
theorem args_oga (a b : Value) : argsOk "object.__getattribute__" ⟨[a, b], []⟩ := by unfold argsOk; kernel_rfl
theorem fun_ga : typeLookup (.type "function") "__getattribute__" = pure (some (.builtin "object.__getattribute__")) := by rw [typeLookup_type, builtinLookup_eq_fast]; kernel_rfl
theorem fun_hook : typeLookup (.type "function") "__getattr__" = pure Option.none := by rw [typeLookup_type, builtinLookup_eq_fast]; kernel_rfl
theorem fun_span : typeLookup (.type "function") "span" = pure Option.none := by rw [typeLookup_type, builtinLookup_eq_fast]; kernel_rfl
theorem fun_search : typeLookup (.type "function") "search" = pure Option.none := by rw [typeLookup_type, builtinLookup_eq_fast]; kernel_rfl
theorem fun_hasDict : typeHasDict (.type "function") = true := by kernel_rfl

theorem refuse_fun (self : Value) : refuseLoop self "__setattr__" [.type "function", .type "object"] = pure () := by kernel_rfl
section
variable {g : Gx} {A : Around} {E : Value → Shared → Prop} {s : Shared} {f : Addr} {o : Obj} {name : Str} {v : Value}

theorem fset {Q : Unit → Shared → Prop} (ho : s.heap.get? f = some o) (hc : o.cls = .type "function") (hd : o.dict = none) (hfd : ∃ fd, o.data = .func fd) (hl : typeLookup (.type "function") name = pure Option.none)
    (k : ∀ d h' tk, s.heap.get? d = none → h'.get? f = some { o with dict := some d } → h'.Ns d (fun y => if y = name then some v else none) → (∀ b ob, b ≠ f → s.heap.get? b = some ob → h'.get? b = some ob) → s.heap.objs.size ≤ d → Q () { s with heap := h', toks := tk }) :
    W g A (setAttr (.ref f) name v) Q E s := by
  have hT : s.TypeIs (.ref f) "function" := ⟨o, ho, hc⟩
  obtain ⟨fd, hfd⟩ := hfd
  unfold setAttr
  refine wpAny_bind (wpAny_mkText ?_)
  have hT' : ({ s with toks := s.toks + 1 } : Shared).TypeIs (.ref f) "function" := ⟨o, ho, hc⟩
  refine wpAny_bind (wpAny_callSpecial?_slot (name := Str.ofString "__setattr__") hT' slot_fun_sa (wpAny_call_entry slot_fun_sa hT' F.entry_object_setattr ?_ (args_osa _ _ _)))
  rw [osa_eq]
  refine wpAny_bind ?_
  rw [refuse_eq]
  refine wpAny_bind (wpAny_typeOf hT' (wpAny_bind (wpAny_of_eq (a := [.type "function", .type "object"]) (by kernel_rfl) (wpAny_of_eq (a := ()) (refuse_fun _) ?_))))
  refine wpAny_bind (wpAny_typeOf hT' (wpAny_bind (wpAny_of_eq hl (wpAny_bind (wpAny_pure ?_)))))
  show wpAny _ _ (storeInOwnDict (.ref f) (.type "function") (.str name s.toks) name v false) _ _ _
  unfold storeInOwnDict
  refine wpAny_bind (wpAny_of_eq (a := ()) rfl ?_)
  rw [if_neg (show ¬ ((Value.type "function" == Value.type "module") = true) by decide)]
  refine wpAny_bind ?_
  show wpAny _ _ (instanceDict f true) _ _ _
  unfold instanceDict
  refine wpAny_bind (wpAny_loadPart ho ?_)
  obtain ⟨oc, od, odt, osl⟩ := o
  simp only at hc hd hfd
  subst hc hd hfd
  simp only [fun_hasDict, Bool.not_true, Bool.or_self, Bool.false_eq_true, if_false]
  refine wpAny_bind (wpAny_alloc ?_)
  have hx₁ : (s.heap.push { cls := .type "dict", data := .dict #[] }).get? f = some ⟨.type "function", none, .func fd, osl⟩ := Heap.get?_push_of_some _ ho
  have hxs : f ≠ s.heap.objs.size := Nat.ne_of_lt (Heap.lt_size ho)
  refine wpAny_bind (wpAny_update hx₁ ?_)
  refine wpAny_of_eq (a := some s.heap.objs.size) rfl ?_
  generalize hH : ((s.heap.push { cls := .type "dict", data := .dict #[] }).update f fun o => { cls := o.cls, dict := some s.heap.objs.size, data := o.data, slots := o.slots }) = H
  have hgd : H.get? s.heap.objs.size = some { cls := .type "dict", data := .dict #[] } := by
    rw [← hH]; exact (Heap.get?_update_ne _ _ _ _ hxs.symm).trans (Heap.get?_push_at rfl rfl)
  have hgf : H.get? f = some ⟨.type "function", some s.heap.objs.size, .func fd, osl⟩ := by
    rw [← hH]; exact Heap.get?_update_self _ hx₁ rfl
  have hgb : ∀ b ob, b ≠ f → s.heap.get? b = some ob → H.get? b = some ob := fun b ob hb e => by
    rw [← hH]; exact (Heap.get?_update_ne _ _ _ _ hb).trans (Heap.get?_push_of_some _ e)
  have hnd : H.Ns s.heap.objs.size (fun _ => none) := ⟨_, #[], _, hgd, rfl, fun e he => absurd he (by simp), fun _ => rfl⟩
  show wpAny _ _ (storeInDict s.heap.objs.size (.str name s.toks) name v) _ _ _
  unfold storeInDict newKeyGuard
  refine wpAny_bind (wpAny_pure (wpAny_bind (wpAny_nsSet1 (Heap.Ns1.of_empty hnd) fun h' hn' hs => ?_)))
  obtain ⟨oD, esD, epD, hoD, hdD, hcD⟩ := hn'.count (Within.cons name v Within.nil)
  refine wpAny_bind (wpAny_lookBehind hoD (by rw [hdD]; exact pastItsLine_dict (Nat.le_trans hcD (by rw [List.length_cons, List.length_nil, sizeLine_eq]; omega))) ?_)
  refine wpAny_pure ⟨_, rfl, wpAny_pure (k s.heap.objs.size h' _ (size_none _) ((hs.2 f hxs).trans hgf) ?_ (fun b ob hb e => (hs.2 b (Nat.ne_of_lt (Heap.lt_size e))).trans (hgb b ob hb e)) (Nat.le_refl _))⟩
  obtain ⟨o', es, ep, e1, e2, e3, eu, e4⟩ := hn'
  exact ⟨o', es, ep, e1, e2, e3, e4⟩

theorem fget {Q : Value → Shared → Prop} {d q : Addr} {m : Str → Option Value} {fill ex : Bool} (ho : s.heap.get? f = some o) (hc : o.cls = .type "function") (hd : o.dict = some d) (hfd : ∃ fd, o.data = .func fd) (hl : typeLookup (.type "function") name = pure Option.none)
    (hn : s.heap.Ns d m) (hm : m name = some (.ref q)) (k : ∀ tk, Q (.ref q) { s with toks := tk }) : W g A (getAttr (.ref f) name ex) Q E s := by
  obtain ⟨fd, hfd⟩ := hfd
  have hT' : ({ s with toks := s.toks + 1 } : Shared).TypeIs (.ref f) "function" := ⟨o, ho, hc⟩
  unfold getAttr
  refine wpAny_bind (wpAny_mkText ?_)
  unfold getAttrBy
  refine wpAny_holding (wpAny_bind (wpAny_typeOf hT' (wpAny_bind (wpAny_of_eq fun_ga ?_))))
  show wpAny _ _ (getAttrByItsOwn (.ref f) (.str name s.toks) (.type "function") (.builtin "object.__getattribute__") true ex) _ _ _
  unfold getAttrByItsOwn hookBefore callGetattribute boundAndCalled
  refine wpAny_bind (wpAny_of_eq (a := Option.none) rfl ?_)
  refine wpAny_bind (wpAny_attempt (wpAny_holding ?_))
  rw [if_neg (show ¬ ((ex && onTheHeap (.builtin "object.__getattribute__")) = true) by cases ex <;> decide)]
  refine wpAny_bind (wpAny_of_eq (slot_fun_ga.bind _) ?_)
  refine wpAny_call_entry slot_fun_ga hT' F.entry_object_getattribute ?_ (args_oga _ _)
  show wpAny _ _ (typeOf (.ref f) >>= _) _ _ _
  refine wpAny_bind (wpAny_typeOf hT' (wpAny_bind ?_))
  unfold ObjectAttr.find
  refine wpAny_bind (wpAny_of_eq hl (wpAny_bind (wpAny_pure (wpAny_bind (wpAny_pure ?_)))))
  show wpAny _ _ (ownThenClass (.ref f) name Option.none Option.none) _ _ _
  unfold ownThenClass
  refine wpAny_bind ?_
  show wpAny _ _ (ObjectAttr.ownDict f >>= fun z => inDict name z) _ _ _
  refine wpAny_bind ?_
  unfold ObjectAttr.ownDict loadHead
  refine wpAny_bind (wpAny_loadPart ho ?_)
  rw [hfd]
  show wpAny _ _ (instanceDict f false) _ _ _
  unfold instanceDict
  refine wpAny_bind (wpAny_loadPart ho ?_)
  rw [hc, hd]
  refine wpAny_pure ?_
  show wpAny _ _ (nsGet d name) _ _ _
  refine wpAny_nsGet hn ?_
  rw [hm]
  refine wpAny_bind (wpAny_rule (wpAny_pure ?_))
  exact wpAny_pure ⟨_, rfl, wpAny_pure (k _)⟩

theorem fmeth {Q : Value × List Value → Shared → Prop} {d q : Addr} {m : Str → Option Value} {pl : Sem Bool} (ho : s.heap.get? f = some o) (hc : o.cls = .type "function") (hd : o.dict = some d) (hfd : ∃ fd, o.data = .func fd) (hl : typeLookup (.type "function") name = pure Option.none)
    (hn : s.heap.Ns d m) (hm : m name = some (.ref q)) (k : ∀ tk, Q (.ref q, []) { s with toks := tk }) : W g A (getMethod (.ref f) name pl) Q E s := by
  have hT : s.TypeIs (.ref f) "function" := ⟨o, ho, hc⟩
  unfold getMethod
  refine wpAny_bind (wpAny_specialOf hT fun_ga ?_)
  try dsimp only
  rw [if_neg (show ¬ ((Manifest.canonical "object.__getattribute__" != "object.__getattribute__") = true) by decide +kernel)]
  refine wpAny_bind (wpAny_specialOf hT fun_hook ?_)
  try dsimp only
  rw [if_neg (show ¬ ((Option.none : Option Value).isSome = true) by decide)]
  refine wpAny_bind (wpAny_specialOf hT hl ?_)
  try dsimp only
  exact wpAny_bind (fget (fill := true) ho hc hd hfd hl hn hm fun tk => wpAny_pure (k tk))
end
end Mine
namespace Mine
open PySem PySem.W PyProof.Rows PySem.Calls PySem.Builtin
set_option Elab.async false
set_option maxRecDepth 100000
set_option linter.unusedVariables false
section
variable {g : Gx} {n : Nat} {sc : Scope} {Γ : VEnv}

theorem callAttr {A : Around} {env : Env} {s : Shared} {E : Value → Shared → Prop} {o : Expr} {name : Str} {apos pos : Pos} {args : List Expr} {Q : Value → Shared → Prop} (hab : attributeBase o name env (eval o env) = eval o env)
    (hfew : methodCallForm args.length (backTo pos (starEach args env)) [] = true) (hln : (apos.endLine == pos.line) = true)
    (h : W g A (eval o env) (fun ov s₁ => W g A (getMethod ov name (do return (← importBound o env).getD true)) (fun fm s₂ => W g A (callWith pos fm.1 fm.2 (backTo pos (starEach args env)) []) Q E s₂) E s₁) E s) :
    W g A (eval (.Call (.Attribute o name apos) args [] pos) env) Q E s := by
  rw [arm_eval_Call, hab]
  refine wpAny_bind (wpAny_mono h (fun ov s₁ h₁ => ?_) fun _ _ e => e)
  refine wpAny_bind (wpAny_standAt ?_)
  show W g A (methodCall o name apos pos env ov (args.length + ([] : List Keyword).length) (backTo pos (starEach args env)) []) Q E s₁
  unfold methodCall
  rw [show args.length + ([] : List Keyword).length = args.length from rfl, hfew]
  refine wpAny_bind (wpAny_holding ?_)
  show W g A (getMethod ov name (do return (← importBound o env).getD true)) _ _ _
  refine wpAny_mono h₁ (fun fm s₂ h₂ => ?_) fun _ _ e => e
  refine wpAny_bind (wpAny_of_eq (a := pos) ?_ h₂)
  unfold methodCallPos
  rw [hln]; rfl

theorem FnP.obj {σ : PH} {h : Heap} {a : Addr} {d : Option Addr} (k : Sub σ h) (x : FnP σ a d) : ∃ o, h.get? a = some o ∧ o.cls = .type "function" ∧ o.dict = d ∧ ∃ fd, o.data = .func fd := by
  obtain ⟨oc, fd, sl, h1, h2⟩ := x
  exact ⟨_, k _ _ h2, h1, rfl, fd, rfl⟩

theorem Ev.span {o : Expr} {apos pos : Pos} {i j : Int} (h : Ev g n sc Γ o (.ohit (some (i, j)))) (hn : 3 ≤ n) (hab : ∀ env, attributeBase o "span" env (eval o env) = eval o env := by intro _; rfl) (hln : (apos.endLine == pos.line) = true := by rfl) : Ev g n sc Γ (.Call (.Attribute o "span" apos) [] [] pos) (.tup [.int i, .int j]) :=
  .mk fun A env s σ m Q E R hs ok S V ht k => callAttr (hab env) rfl hln (h A env s σ m _ _ R hs ok S V ht fun v h1 t1 σ1 S1 r1 k1 => by
    obtain ⟨a, rfl, d, mm, f, hf, hns, hsp, hff, hcall⟩ := r1.ohit_inv
    obtain ⟨ob, e1, e2, e3, e4⟩ := hf.obj S1.st.sub
    refine wpAny_with_toks k1 (fmeth e1 e2 e3 e4 fun_span (hns.ns S1.st.sub) hsp fun tk htk => ?_)
    refine callWith_of (P := fun h => ∃ τ, Le σ1 τ ∧ St g τ h) rfl (fun h ⟨τ, l, S'⟩ => keep_fn S'.sub (hff.mono l)) (evalArgs_nil3 ⟨⟨σ1, .refl _, S1.st⟩, ?_⟩)
    exact hcall σ1 A _ _ _ (.refl _) (R.mono hn) S1.st htk fun t h2 t2 τ' ti tj S2 tp => k _ _ _ _ (S1.trans S2) (rep_tup tp (.cons rep_int (.cons rep_int .nil))))
theorem Ev.search1 {o e : Expr} {apos pos : Pos} {f : Str → Int → Option (Int × Int)} {x : Str} (h : Ev g n sc Γ o (.prog f)) (he : Ev g n sc Γ e (.str x)) (hn : 12 ≤ n) (hab : ∀ env, attributeBase o "search" env (eval o env) = eval o env := by intro _; rfl) (hln : (apos.endLine == pos.line) = true := by rfl)
    (hst : ∀ env, starEach [e] env = [(false, eval e env)] := by intro _; rfl) : Ev g n sc Γ (.Call (.Attribute o "search" apos) [e] [] pos) (.ohit (f x 0)) :=
  .mk fun A env s σ m Q E R hs ok S V ht k => callAttr (hab env) (by unfold backTo; rw [hst]; rfl) hln (h A env s σ m _ _ R hs ok S V ht fun v h1 t1 σ1 S1 r1 k1 => by
    obtain ⟨a, rfl, d, mm, q, hf, hns, hsp, hff, hcall⟩ := r1.prog_inv
    obtain ⟨ob, e1, e2, e3, e4⟩ := hf.obj S1.st.sub
    refine wpAny_with_toks k1 (fmeth e1 e2 e3 e4 fun_search (hns.ns S1.st.sub) hsp fun tk htk => ?_)
    refine callWith_of (P := fun h => ∃ τ, Le σ1 τ ∧ St g τ h) (by unfold backTo; rw [hst]; rfl) (fun h ⟨τ, l, S'⟩ => keep_fn S'.sub (hff.mono l)) ?_
    have hev := (Evs.cons he Evs.nil hst) A env { s with heap := h1, toks := tk } σ1 m pos (fun vs s' => (∃ τ, Le σ1 τ ∧ St g τ s'.heap) ∧ W g A (PySem.call (.ref q) ([] ++ vs)) Q E s') E R hs ok S1.st (V.step S1) htk fun vs h2 t2 σ2 S2 r2 k2 => by
      obtain ⟨w', vs, rfl, rw', r2⟩ := r2.cons_inv
      rw [r2.nil_inv]
      obtain ⟨t, rfl⟩ := rw'.str_inv
      exact ⟨⟨σ2, S2.le, S2.st⟩, hcall σ2 A _ _ _ x t [] 0 S2.le (R.mono hn) S2.st k2 (.inl ⟨rfl, rfl⟩) fun v h3 t3 τ' S3 oh => k _ _ _ _ ((S1.trans S2).trans S3) (by unfold Rep; exact oh)⟩
    rw [hst] at hev ⊢
    exact evalArgs_plain hev)
theorem Ev.search2 {o e e' : Expr} {apos pos : Pos} {f : Str → Int → Option (Int × Int)} {x : Str} {i : Int} (h : Ev g n sc Γ o (.prog f)) (he : Ev g n sc Γ e (.str x)) (he' : Ev g n sc Γ e' (.int i)) (hn : 12 ≤ n) (hab : ∀ env, attributeBase o "search" env (eval o env) = eval o env := by intro _; rfl) (hln : (apos.endLine == pos.line) = true := by rfl)
    (hst : ∀ env, starEach [e, e'] env = [(false, eval e env), (false, eval e' env)] := by intro _; rfl) (hst' : ∀ env, starEach [e'] env = [(false, eval e' env)] := by intro _; rfl) : Ev g n sc Γ (.Call (.Attribute o "search" apos) [e, e'] [] pos) (.ohit (f x i)) :=
  .mk fun A env s σ m Q E R hs ok S V ht k => callAttr (hab env) (by unfold backTo; rw [hst]; rfl) hln (h A env s σ m _ _ R hs ok S V ht fun v h1 t1 σ1 S1 r1 k1 => by
    obtain ⟨a, rfl, d, mm, q, hf, hns, hsp, hff, hcall⟩ := r1.prog_inv
    obtain ⟨ob, e1, e2, e3, e4⟩ := hf.obj S1.st.sub
    refine wpAny_with_toks k1 (fmeth e1 e2 e3 e4 fun_search (hns.ns S1.st.sub) hsp fun tk htk => ?_)
    refine callWith_of (P := fun h => ∃ τ, Le σ1 τ ∧ St g τ h) (by unfold backTo; rw [hst]; rfl) (fun h ⟨τ, l, S'⟩ => keep_fn S'.sub (hff.mono l)) ?_
    have hev := (Evs.cons he (Evs.cons he' Evs.nil hst') (fun env => by rw [hst, hst'])) A env { s with heap := h1, toks := tk } σ1 m pos (fun vs s' => (∃ τ, Le σ1 τ ∧ St g τ s'.heap) ∧ W g A (PySem.call (.ref q) ([] ++ vs)) Q E s') E R hs ok S1.st (V.step S1) htk fun vs h2 t2 σ2 S2 r2 k2 => by
      obtain ⟨w', vs, rfl, rw', r2⟩ := r2.cons_inv
      obtain ⟨w'', vs, rfl, rw'', r2⟩ := r2.cons_inv
      rw [r2.nil_inv]
      obtain ⟨t, rfl⟩ := rw'.str_inv
      obtain ⟨t', rfl⟩ := rw''.int_inv
      exact ⟨⟨σ2, S2.le, S2.st⟩, hcall σ2 A _ _ _ x t [.int i t'] i S2.le (R.mono hn) S2.st k2 (.inr ⟨t', rfl⟩) fun v h3 t3 τ' S3 oh => k _ _ _ _ ((S1.trans S2).trans S3) (by unfold Rep; exact oh)⟩
    rw [hst] at hev ⊢
    exact evalArgs_plain hev)
theorem fun_bool : typeLookup (.type "function") "__bool__" = pure Option.none := by rw [typeLookup_type, builtinLookup_eq_fast]; kernel_rfl
theorem fun_len : typeLookup (.type "function") "__len__" = pure Option.none := by rw [typeLookup_type, builtinLookup_eq_fast]; kernel_rfl
theorem Tt.hit {e : Expr} {r : Option (Int × Int)} (h : Ev g n sc Γ e (.ohit r)) (he : ∀ env whole, isTrue e env whole = (do let v ← whole; standAt e.pos; holding [v] (truthy v)) := by intro _ _; rfl) : Tt g n sc Γ e r.isSome :=
  fun A env s σ m Q E R hs ok S V ht k => wpAny_isTrue_value (h A env s σ m _ _ R hs ok S V ht fun v h1 t1 σ1 S1 r1 k1 => by
    have e := r1.ohit_inv
    cases r with
    | none => cases e; exact wpAny_pure (k _ _ _ S1 k1)
    | some ij =>
      obtain ⟨a, rfl, d, mm, f, hf, _⟩ := e
      obtain ⟨ob, e1, e2, e3, e4⟩ := hf.obj S1.st.sub
      have hT : ({ s with heap := h1, toks := t1 } : Shared).TypeIs (.ref a) "function" := ⟨ob, e1, e2⟩
      unfold truthy
      refine wpAny_bind (wpAny_callSpecial?_none hT fun_bool ?_)
      refine wpAny_bind (wpAny_specialOf hT fun_len ?_)
      exact wpAny_pure (k _ _ _ S1 k1)) (he _ _)
end
end Mine
namespace Mine
open PySem PySem.W PyProof.Rows PySem.Calls
set_option Elab.async false
set_option maxRecDepth 100000
set_option linter.unusedVariables false
theorem among_snoc {pos : Pos} {a b : Int} {c cv : Value} : ∀ (l : List Value), TriplesOk l → codeAmong pos (l ++ [rawInt a, rawInt b, c]) = some cv → codeAmong pos l = some cv ∨ cv = c
  | [], _, h => by
    simp only [List.nil_append, rawInt, codeAmong] at h
    split at h
    · cases h; exact .inr rfl
    · cases h
  | .int x t :: .int y u :: d :: r, ok, h => by
    simp only [List.cons_append, codeAmong] at h ⊢
    split at h
    · rename_i hc; rw [if_pos hc]; exact .inl h
    · rename_i hc; rw [if_neg hc]; exact among_snoc r ok h
  | .int _ _ :: .int _ _ :: [], ok, _ => by cases ok
  | [.int _ _], ok, _ => by cases ok
  | .none :: _, ok, _ | .ellipsis :: _, ok, _ | .notImplemented :: _, ok, _ | .bool _ :: _, ok, _ | .float _ _ :: _, ok, _ | .str _ _ :: _, ok, _ | .bytes _ _ :: _, ok, _ | .type _ :: _, ok, _ | .builtin _ :: _, ok, _ | .ref _ :: _, ok, _ => by cases ok
  | .int _ _ :: .none :: _, ok, _ | .int _ _ :: .ellipsis :: _, ok, _ | .int _ _ :: .notImplemented :: _, ok, _ | .int _ _ :: .bool _ :: _, ok, _ | .int _ _ :: .float _ _ :: _, ok, _ | .int _ _ :: .str _ _ :: _, ok, _ | .int _ _ :: .bytes _ _ :: _, ok, _ | .int _ _ :: .type _ :: _, ok, _ | .int _ _ :: .builtin _ :: _, ok, _ | .int _ _ :: .ref _ :: _, ok, _ => by cases ok
theorem tabQ_inj {P : Addr} {q q' : Str} (h : (P, q) ∈ tabQ) (h' : (P, q') ∈ tabQ) : q = q' := by
  simp only [tabQ, List.mem_cons, List.not_mem_nil, or_false, Prod.mk.injEq] at h h'
  rcases h with ⟨e, r⟩ | ⟨e, r⟩ | ⟨e, r⟩ | ⟨e, r⟩ <;> subst e <;> rcases h' with ⟨e', r'⟩ | ⟨e', r'⟩ | ⟨e', r'⟩ | ⟨e', r'⟩ <;> first | (subst r; subst r'; rfl) | (exact absurd e' (by decide))
section
variable {g : Gx}
theorem newCode {σ : PH} {h h' : Heap} {P c' : Addr} {qual : Str} {ps : Array Value} {a b : Int} (S : St g σ h) (hq : (P, qual) ∈ tabQ) (hP : h.get? P = some (tabObj ps)) (ht : TriplesOk ps.toList)
    (hc : ∀ pos cv, codeAmong pos ps.toList = some cv → CodeP σ cv qual) (hx : Heap.ExtBut P h h') (hge : h.objs.size ≤ c') (hlt : c' < h'.objs.size) (hrec : h'.CodeRec (.ref c') qual) (hP' : h'.get? P = some (tabObj (ps ++ #[rawInt a, rawInt b, .ref c']))) :
    ∃ σ', Step g σ h σ' h' ∧ CodeP σ' (.ref c') qual ∧ ∀ b, h'.objs.size ≤ b → σ' b = none := by
  obtain ⟨c2, oc, vs, t, e1, e2, e3, e4⟩ := hrec
  cases e1
  have hPt : P ∈ tabA := tabQ_mem hq
  have hcn : σ c' = none := sig_lt S hge
  have hct : c' ∉ tabA := tab_lt S hge
  have le : Le σ (add σ c' oc) := fun b ob q => by
    unfold add
    by_cases hb : b = c'
    · subst hb; rw [hcn] at q; cases q
    · rw [if_neg hb]; exact q
  have sub : Sub (add σ c' oc) h' := fun b ob q => by
    unfold add at q
    by_cases hb : b = c'
    · subst hb; rw [if_pos rfl] at q; cases q; exact e2
    · rw [if_neg hb] at q
      exact hx b ob (fun z => by subst z; rw [S.off b hPt] at q; cases q) (S.sub b ob q)
  have CP : CodeP (add σ c' oc) (.ref c') qual := ⟨c', oc, vs, t, rfl, add_self _ _ _, e3, e4⟩
  refine ⟨add σ c' oc, ⟨le, fun b o nb e => hx b o (fun z => nb (z ▸ hPt)) e, ⟨S.base.trans le, sub, fun q hq' => ?_, fun Q hQ => ?_⟩, fun b e ne => ?_⟩, CP, fun b hb => ?_⟩
  · by_cases hqP : q.1 = P
    · obtain ⟨q1, q2⟩ := q
      simp only at hqP
      subst hqP
      have := tabQ_inj hq hq'
      subst this
      refine ⟨_, hP', by simpa using TriplesOk_snoc a b (.ref c') ps.toList ht, fun pos cv hcv => ?_⟩
      rcases among_snoc ps.toList ht (by simpa using hcv) with hh | hh
      · exact (hc pos cv hh).mono le
      · subst hh; exact CP
    · obtain ⟨ps', a1, a2, a3⟩ := S.ti q hq'
      exact ⟨ps', hx _ _ hqP a1, a2, fun pos cv e => (a3 pos cv e).mono le⟩
  · unfold add
    rw [if_neg (fun z : Q = c' => hct (z ▸ hQ))]; exact S.off Q hQ
  · unfold add
    rw [if_neg (fun z : b = c' => ne (by rw [z]; exact Heap.get?_none_of_le hge))]; exact e
  · unfold add
    rw [if_neg (fun z : b = c' => Nat.lt_irrefl _ (Nat.lt_of_lt_of_le hlt (z ▸ hb)))]
    cases q : σ b with
    | none => rfl
    | some o =>
      have := hx b o (fun z => by subst z; rw [S.off b hPt] at q; cases q) (S.sub b o q)
      exact absurd (Heap.lt_size this) (Nat.not_lt.mpr hb)
theorem bmain_at {σ : PH} {h : Heap} (S : St g σ h) {P : Addr} (hP : P ∈ tabA) : h.BuiltinsAt g.mg P := by
  obtain ⟨bm, ob, b1, b2, b3, b4, b5, b6⟩ := g.bmain
  refine ⟨bm, ob, b1, b2, fun q => ?_, fun q => ?_, S.keep _ _ b3, b4, b5, b6⟩
  · obtain ⟨o, es, ep, e, hd, _⟩ := g.ng
    rw [q, e] at b3; cases b3; rw [hd] at b6; cases b6
  · rw [q, g.tabs P hP] at b3; cases b3
theorem glob_tab (g : Gx) {P : Addr} (hP : P ∈ tabA) : mainGlobals ≠ P := fun q => by
  obtain ⟨o, es, ep, e, _⟩ := g.ng
  rw [q, g.tabs P hP] at e; cases e

/-- a function is made -/
theorem mkW {A : Around} {env : Env} {s : Shared} {σ : PH} {c P : Addr} {qual nm : Str} {params : Arguments} {body : FuncBody} {scope : Scope} {clos : List (Str × Addr)} {pos : Pos} {ln : Nat} {dV : Value} {Q E : Value → Shared → Prop}
    (hcode : env.code = .ref c) (hC : CodeHd g.h0 c P) (hq : (P, qual) ∈ tabQ) (hglob : env.globals = mainGlobals) (S : St g σ s.heap) (hcl : closureFor scope env = pure clos)
    (k : ∀ f cv ctv doc h' tk σ', Step g σ s.heap σ' h' → h'.get? f = some { cls := .type "function", data := .func (kdv_fn nm qual params body scope clos dV doc ((g.mg "__name__").getD .none) cv ctv) } → σ' f = none → f ∉ tabA → s.heap.get? f = none → CodeP σ' cv qual → Q (.ref f) { s with heap := h', toks := tk }) :
    W g A (makeTail nm qual params body scope env dV .none none pos ln) Q E s := by
  have hPt : P ∈ tabA := tabQ_mem hq
  obtain ⟨ps, h1, h2, h3⟩ := S.ti (P, qual) hq
  have hC' := hC.keeps S.keep
  cases hca : codeAmong pos ps.toList with
  | some cv =>
    refine kdv_makeTailHit (mg := g.mg) hcl hglob (g.ng.keeps S.keep) hcode hC' h1 h2 hca (bmain_at S hPt) fun ctv doc h' tk hk hsz => ?_
    have S1 : Step g σ s.heap σ h' := S.grow hk
    have S2 : Step g σ h' σ (h'.push { cls := .type "function", data := .func (kdv_fn nm qual params body scope clos dV doc ((g.mg "__name__").getD .none) cv ctv) }) := S1.st.grow fun b o e => Heap.get?_push_of_some _ e
    exact k _ cv ctv doc _ tk σ (S1.trans S2) (Heap.get?_push_size _ rfl) S1.st.none_size (size_notTab S1.st) (Heap.get?_none_of_le hsz) (h3 pos cv hca)
  | none =>
    refine kdv_makeTail (mg := g.mg) hcl hglob (g.ng.keeps S.keep) hcode hC' h1 h2 hca (glob_tab g hPt) (bmain_at S hPt) fun c' ctv doc h' tk hx hge hlt hrec htb => ?_
    obtain ⟨σ', S1, CP, hn⟩ := newCode S hq h1 h2 h3 hx hge hlt hrec htb
    have S2 : Step g σ' h' σ' (h'.push (kdv_obj nm qual params body scope clos dV doc ((g.mg "__name__").getD .none) c' ctv)) := S1.st.grow fun b o e => Heap.get?_push_of_some _ e
    exact k _ (.ref c') ctv doc _ tk σ' (S1.trans S2) (Heap.get?_push_size _ rfl) (hn _ (Nat.le_refl _)) (size_notTab S1.st) (Heap.get?_none_of_le (Nat.le_of_lt (Nat.lt_of_le_of_lt hge hlt))) CP
/-- a lambda without parameters -/
theorem lamW {A : Around} {env : Env} {s : Shared} {σ : PH} {c P : Addr} {qual : Str} {params : Arguments} {body : Expr} {scope : Scope} {clos : List (Str × Addr)} {pos : Pos} {Q E : Value → Shared → Prop}
    (hcode : env.code = .ref c) (hC : CodeHd g.h0 c P) (hq : (P, qual) ∈ tabQ) (hqual : env.qual ++ "<lambda>" = qual) (hglob : env.globals = mainGlobals) (S : St g σ s.heap) (hcl : closureFor scope env = pure clos) (hp : defaultsOf params env = ([], []))
    (k : ∀ f cv ctv doc h' tk σ', Step g σ s.heap σ' h' → h'.get? f = some { cls := .type "function", data := .func (kdv_fn "<lambda>" qual params (.expr body) scope clos .none doc ((g.mg "__name__").getD .none) cv ctv) } → σ' f = none → f ∉ tabA → s.heap.get? f = none → CodeP σ' cv qual → Q (.ref f) { s with heap := h', toks := tk }) :
    W g A (eval (.Lambda params body scope pos) env) Q E s := by
  show W g A (match defaultsOf params env with | (d, kd) => do let dv ← evalAll d; let kdv ← holding dv (evalAllOpt kd); makeFunction "<lambda>" (env.qual ++ "<lambda>") params (.expr body) scope env dv kdv [] pos pos.line) Q E s
  rw [hp]
  refine wpAny_bind (wpAny_pure (wpAny_bind (wpAny_holding (wpAny_pure ?_))))
  rw [hqual, makeFunction_eq]
  simp only [List.zip_nil_right, List.filterMap_nil, List.isEmpty_nil, if_true, pure_bind]
  exact mkW hcode hC hq hglob S hcl k
end
end Mine
namespace Mine
open PySem PySem.W PyProof.Rows
set_option Elab.async false
set_option linter.unusedVariables false
/-! texts as lists of signs -/
abbrev Tx := List Nat
def mkS (l : Tx) : Str := ⟨l.toArray⟩
theorem mkS_cps (l : Tx) : (mkS l).cps.toList = l := by simp [mkS]
theorem mkS_of (x : Str) : mkS x.cps.toList = x := by cases x; simp [mkS]
theorem str_ext {x y : Str} (h : x.cps.toList = y.cps.toList) : x = y := by rw [← mkS_of x, ← mkS_of y, h]
theorem mkS_inj {a b : Tx} (h : mkS a = mkS b) : a = b := by rw [← mkS_cps a, ← mkS_cps b, h]
theorem mkS_len (l : Tx) : (mkS l).length = l.length := by simp [mkS, Str.length]
theorem cpsA (a b : Str) : (a ++ b).cps.toList = a.cps.toList ++ b.cps.toList := by show (a.cps ++ b.cps).toList = _; simp
theorem mkS_app (a b : Tx) : mkS a ++ mkS b = mkS (a ++ b) := str_ext (by rw [cpsA, mkS_cps, mkS_cps, mkS_cps])

def splitL (c : Nat) : Tx → List Tx
  | [] => [[]]
  | d :: r => if d = c then [] :: splitL c r else match splitL c r with
    | [] => [[d]]
    | p :: ps => (d :: p) :: ps
theorem splitL_ne (c : Nat) : ∀ l, splitL c l ≠ []
  | [] => by simp [splitL]
  | d :: r => by
    unfold splitL
    split
    · simp
    · split <;> simp
theorem splitL_free (c : Nat) : ∀ p : Tx, c ∉ p → splitL c p = [p]
  | [], _ => rfl
  | d :: r, h => by
    have hd : d ≠ c := fun e => h (by simp [e])
    unfold splitL
    rw [if_neg hd, splitL_free c r fun q => h (.tail _ q)]
theorem splitL_cat (c : Nat) (q : Tx) : ∀ p : Tx, c ∉ p → splitL c (p ++ c :: q) = p :: splitL c q
  | [], _ => by simp [splitL]
  | d :: r, h => by
    have hd : d ≠ c := fun e => h (by simp [e])
    show (if d = c then [] :: splitL c (r ++ c :: q) else match splitL c (r ++ c :: q) with | [] => [[d]] | p :: ps => (d :: p) :: ps) = _
    rw [if_neg hd, splitL_cat c q r fun q => h (.tail _ q)]
theorem split_one (x : Str) (c : Nat) : (Txt.split x (mkS [c])).map (·.cps.toList) = splitL c x.cps.toList := by
  have h1 := StrLaws.join_split x (mkS [c])
  have h2 : ∀ p ∈ Txt.split x (mkS [c]), c ∉ p.cps.toList := StrLaws.split_free x c
  have key : ∀ (parts : List Str), parts ≠ [] → (∀ p ∈ parts, c ∉ p.cps.toList) → parts.map (·.cps.toList) = splitL c (Str.join (mkS [c]) parts).cps.toList := by
    intro parts
    induction parts with
    | nil => intro h; exact absurd rfl h
    | cons p r ih =>
      intro _ hf
      cases r with
      | nil =>
        show [p.cps.toList] = splitL c p.cps.toList
        rw [splitL_free c _ (hf p (.head _))]
      | cons q r =>
        have e : (Str.join (mkS [c]) (p :: q :: r)).cps.toList = p.cps.toList ++ c :: (Str.join (mkS [c]) (q :: r)).cps.toList := by
          show (p ++ mkS [c] ++ Str.join (mkS [c]) (q :: r)).cps.toList = _
          rw [cpsA, cpsA, mkS_cps]
          simp
        rw [e, splitL_cat c _ _ (hf p (.head _)), List.map_cons, ih (by simp) fun p' hp => hf p' (.tail _ hp)]
  have hne : Txt.split x (mkS [c]) ≠ [] := by
    unfold Txt.split
    split
    · simp
    · split
      · simp
      · rw [StrLaws.partsBetween_eq]
        obtain ⟨p, r, e⟩ := StrLaws.partsFrom_ne x (mkS [c]).length 0 (Builtin.Str.occurrences x (mkS [c]) 0 x.length (x.length + 1))
        rw [e]; simp
  rw [key _ hne h2, h1]
def joinL (z : Tx) : List Tx → Tx
  | [] => []
  | [p] => p
  | p :: q :: r => p ++ z ++ joinL z (q :: r)
theorem join_list (z : Str) : ∀ parts : List Str, (Str.join z parts).cps.toList = joinL z.cps.toList (parts.map (·.cps.toList))
  | [] => rfl
  | [p] => rfl
  | p :: q :: r => by
    show (p ++ z ++ Str.join z (q :: r)).cps.toList = p.cps.toList ++ z.cps.toList ++ joinL z.cps.toList ((q :: r).map (·.cps.toList))
    rw [cpsA, cpsA, join_list z (q :: r)]
theorem joinL_split (z : Tx) (c : Nat) : ∀ l : Tx, joinL z (splitL c l) = l.flatMap fun d => if d = c then z else [d]
  | [] => rfl
  | d :: r => by
    have ih := joinL_split z c r
    show joinL z (if d = c then [] :: splitL c r else match splitL c r with | [] => [[d]] | p :: ps => (d :: p) :: ps) = _
    rw [List.flatMap_cons]
    cases hs : splitL c r with
    | nil => exact absurd hs (splitL_ne c r)
    | cons p ps =>
      rw [hs] at ih
      by_cases hd : d = c
      · rw [if_pos hd, if_pos hd, ← ih]; simp [joinL]
      · rw [if_neg hd, if_neg hd, ← ih]
        cases ps <;> simp [joinL]
theorem replace_sign (x z : Str) (c : Nat) : (Txt.replace x (mkS [c]) z).cps.toList = x.cps.toList.flatMap fun d => if d = c then z.cps.toList else [d] := by
  have e0 : Txt.replace x (mkS [c]) z = Str.join z (Txt.split x (mkS [c])) := StrLaws.replace_one x z c
  rw [e0, join_list, split_one, joinL_split]

theorem at_iff (x y : Str) (i : Nat) : StrLaws.At x y x.length i ↔ i + y.length ≤ x.length ∧ (x.cps.toList.drop i).take y.length = y.cps.toList := by
  unfold StrLaws.At
  rw [StrLaws.subAt_eq]
  simp
/-- the first place from i on where y stands in x -/
def findL (y : Tx) : Tx → Nat → Option Nat
  | [], i => if y = [] then some i else none
  | d :: r, i => if (d :: r).take y.length = y then some i else findL y r (i + 1)
theorem findL_some {y : Tx} : ∀ {l : Tx} {i k : Nat}, findL y l i = some k → i ≤ k ∧ k ≤ i + l.length ∧ (l.drop (k - i)).take y.length = y ∧ ∀ j, i ≤ j → j < k → (l.drop (j - i)).take y.length ≠ y
  | [], i, k, h => by
    unfold findL at h
    split at h
    · rename_i hy; cases h; subst hy; exact ⟨Nat.le_refl _, by simp, by simp, fun j h1 h2 => by omega⟩
    · cases h
  | d :: r, i, k, h => by
    unfold findL at h
    split at h
    · rename_i hy; cases h; exact ⟨Nat.le_refl _, by simp, by simpa using hy, fun j h1 h2 => by omega⟩
    · rename_i hy
      obtain ⟨h1, h2, h3, h4⟩ := findL_some h
      refine ⟨by omega, by simp only [List.length_cons]; omega, ?_, fun j q1 q2 => ?_⟩
      · rw [show k - i = (k - (i + 1)) + 1 by omega, List.drop_succ_cons]; exact h3
      · by_cases hji : j = i
        · subst hji; simpa using hy
        · rw [show j - i = (j - (i + 1)) + 1 by omega, List.drop_succ_cons]; exact h4 j (by omega) q2
theorem findL_none {y : Tx} : ∀ {l : Tx} {i : Nat}, findL y l i = none → ∀ j, i ≤ j → j ≤ i + l.length → (l.drop (j - i)).take y.length ≠ y
  | [], i, h, j, h1, h2 => by
    unfold findL at h
    split at h
    · cases h
    · rename_i hy; intro e; exact hy (by simpa using e.symm)
  | d :: r, i, h, j, h1, h2 => by
    unfold findL at h
    split at h
    · cases h
    · rename_i hy
      by_cases hji : j = i
      · subst hji; simpa using hy
      · rw [show j - i = (j - (i + 1)) + 1 by omega, List.drop_succ_cons]; exact findL_none h j (by omega) (by simp only [List.length_cons] at h2; omega)
theorem find3_list (x y : Str) (i : Nat) (hy : y.length ≠ 0) (hi : i ≤ x.length) : Txt.find3 x y (i : Int) = match findL y.cps.toList (x.cps.toList.drop i) i with | some k => (k : Int) | none => -1 := by
  have hyl : y.cps.toList.length = y.length := by simp [Str.length]
  have hxl : x.cps.toList.length = x.length := by simp [Str.length]
  have hf : fromIndex x.length (i : Int) = i := by
    unfold fromIndex
    rw [if_neg (by omega)]; omega
  unfold Txt.find3
  rw [hf]
  have dd : ∀ j, i ≤ j → (List.drop (j - i) (x.cps.toList.drop i)) = x.cps.toList.drop j := fun j hj => by rw [List.drop_drop]; congr 1; omega
  rcases StrLaws.occ_head_from x y i 1 (Nat.le_refl _) with ⟨e, hn⟩ | ⟨k, r, e, h1, h2, h3⟩
  · rw [e]
    cases hfl : findL y.cps.toList (x.cps.toList.drop i) i with
    | none => rfl
    | some k =>
      obtain ⟨a1, a2, a3, _⟩ := findL_some hfl
      rw [dd k a1, hyl] at a3
      refine absurd ((at_iff x y k).mpr ⟨?_, a3⟩) (hn k a1)
      have := congrArg List.length a3
      rw [List.length_take, List.length_drop, hyl, hxl] at this
      omega
  · rw [e]
    obtain ⟨b1, b2⟩ := (at_iff x y k).mp h2
    cases hfl : findL y.cps.toList (x.cps.toList.drop i) i with
    | none =>
      have := findL_none hfl k h1 (by rw [List.length_drop, hxl]; omega)
      rw [dd k h1, hyl] at this
      exact absurd b2 this
    | some k' =>
      obtain ⟨a1, a2, a3, a4⟩ := findL_some hfl
      rw [dd k' a1, hyl] at a3
      have hk' : StrLaws.At x y x.length k' := (at_iff x y k').mpr ⟨by
        have := congrArg List.length a3
        rw [List.length_take, List.length_drop, hyl, hxl] at this
        omega, a3⟩
      have : k = k' := by
        rcases Nat.lt_trichotomy k k' with h | h | h
        · have := a4 k h1 h
          rw [dd k h1, hyl] at this
          exact absurd b2 this
        · exact h
        · exact absurd hk' (h3 k' a1 h)
      subst this; rfl
theorem partition_sign (x : Str) (c : Nat) : (Txt.partition x (mkS [c])).1.cps.toList = x.cps.toList.takeWhile (· != c) ∧ (Txt.partition x (mkS [c])).2.2.cps.toList = (x.cps.toList.dropWhile (· != c)).drop 1 := by
  have hxl : x.cps.toList.length = x.length := by simp [Str.length]
  have one : ∀ i, StrLaws.At x (mkS [c]) x.length i ↔ x.cps.toList[i]? = some c := fun i => by
    rw [at_iff, mkS_cps, mkS_len]
    show i + 1 ≤ x.length ∧ (x.cps.toList.drop i).take 1 = [c] ↔ _
    constructor
    · rintro ⟨_, h⟩
      have := StrLaws.take1_drop.mp (show ((x.cps.toList.drop i).take 1 == [c]) = true by rw [h]; simp)
      exact this
    · intro h
      refine ⟨?_, by simpa using StrLaws.take1_drop.mpr h⟩
      have := (List.getElem?_eq_some_iff.mp h).1
      omega
  have tw : ∀ (l : Tx) (i : Nat), l[i]? = some c → (∀ k, k < i → l[k]? ≠ some c) → l.takeWhile (· != c) = l.take i ∧ (l.dropWhile (· != c)).drop 1 = l.drop (i + 1) := by
    intro l
    induction l with
    | nil => intro i h; simp at h
    | cons d r ih =>
      intro i h hn
      cases i with
      | zero => simp at h; subst h; simp
      | succ i =>
        have hd : d ≠ c := fun q => hn 0 (by omega) (by simp [q])
        obtain ⟨e1, e2⟩ := ih i (by simpa using h) fun k hk => by simpa using hn (k + 1) (by omega)
        simp [hd, e1, e2]
  unfold Txt.partition
  rcases StrLaws.occ_head x (mkS [c]) 1 (Nat.le_refl _) with ⟨e, hn⟩ | ⟨i, r, e, h2, h3⟩
  · rw [e]
    have hfree : ∀ d ∈ x.cps.toList, (d != c) = true := fun d hd => by
      obtain ⟨i, hi⟩ := List.mem_iff_getElem?.mp hd
      by_cases q : d = c
      · subst q; exact absurd ((one i).mpr hi) (hn i)
      · simpa using q
    have fr : ∀ l : Tx, (∀ d ∈ l, (d != c) = true) → l.takeWhile (· != c) = l ∧ l.dropWhile (· != c) = [] := by
      intro l
      induction l with
      | nil => intro _; exact ⟨rfl, rfl⟩
      | cons d r ih =>
        intro h
        obtain ⟨a, b⟩ := ih fun e he => h e (.tail _ he)
        have hd := h d (.head _)
        simp only [List.takeWhile_cons, List.dropWhile_cons, hd, if_true, a, b, and_self]
    obtain ⟨a, b⟩ := fr _ hfree
    exact ⟨a.symm, by rw [b]; rfl⟩
  · rw [e]
    obtain ⟨e1, e2⟩ := tw x.cps.toList i ((one i).mp h2) fun k hk q => h3 k hk ((one k).mpr q)
    refine ⟨?_, ?_⟩
    · rw [e1, StrLaws.strSub_toList]; simp
    · rw [e2, StrLaws.strSub_toList, mkS_len]
      show ((x.cps.toList.drop (i + 1)).take (x.length - (i + 1))) = _
      rw [List.take_of_length_le (by rw [List.length_drop, hxl]; omega)]
theorem in_sign (x : Str) (c : Nat) : (!(Builtin.Str.occurrences x (mkS [c]) 0 x.length 1).isEmpty) = decide (c ∈ x.cps.toList) := by
  have hxl : x.cps.toList.length = x.length := by simp [Str.length]
  have h := StrLaws.found_iff x (mkS [c])
  rw [Bool.eq_iff_iff, h, decide_eq_true_iff]
  constructor
  · rintro ⟨i, h1, h2⟩
    rw [StrLaws.subAt_eq, mkS_cps, mkS_len] at h2
    exact List.mem_iff_getElem?.mpr ⟨i, StrLaws.take1_drop.mp h2⟩
  · intro hc
    obtain ⟨i, hi⟩ := List.mem_iff_getElem?.mp hc
    have := (List.getElem?_eq_some_iff.mp hi).1
    refine ⟨i, by rw [mkS_len]; show i + 1 ≤ _; omega, ?_⟩
    rw [StrLaws.subAt_eq, mkS_cps, mkS_len]
    exact StrLaws.take1_drop.mpr hi
theorem mul_list (x : Tx) (n : Nat) : Txt.mul (mkS x) (n : Int) = mkS ((List.replicate n x).flatten) := by
  have key : ∀ (l : List (Array Nat)) (acc : Array Nat), (l.foldl (fun a b => a ++ b) acc).toList = acc.toList ++ (l.map (·.toList)).flatten := by
    intro l
    induction l with
    | nil => intro acc; simp
    | cons a r ih => intro acc; rw [List.foldl_cons, ih]; simp
  unfold Txt.mul
  by_cases h0 : (n : Int) < 1
  · have : n = 0 := by omega
    subst this
    rw [if_pos h0]; rfl
  · rw [if_neg h0]
    split
    · rename_i h1
      simp only [Bool.or_eq_true, beq_iff_eq] at h1
      rcases h1 with h1 | h1
      · have : n = 1 := by omega
        subst this; simp
      · rw [mkS_len] at h1
        have : x = [] := List.length_eq_zero_iff.mp h1
        subst this
        congr 1
        induction n with
        | zero => rfl
        | succ k ih => simp [List.replicate_succ]
    · apply str_ext
      rw [mkS_cps]
      show (List.foldl (fun a b => a ++ b) #[] (List.replicate (n : Int).toNat (mkS x).cps)).toList = _
      rw [key]
      simp [mkS]
end Mine
namespace Mine
open PySem PySem.W PyProof.Rows PySem.Calls
set_option Elab.async false
set_option maxRecDepth 100000
set_option linter.unusedVariables false
section
variable {g : Gx} {n : Nat} {sc : Scope} {Γ : VEnv}

theorem Ev.replaceC {o : Expr} {x y z : Str} {apos pos p1 p2 : Pos} {j1 j2 : Nat} (h : Ev g n sc Γ o (.str x)) (hyz : (y == z) = false) (hb : x.length + (x.length + 1) * z.length ≤ 16777216) (hab : ∀ env, attributeBase o "replace" env (eval o env) = eval o env := by intro _; rfl) (hln : (apos.endLine == pos.line) = true := by rfl) :
    Ev g n sc Γ (.Call (.Attribute o "replace" apos) [.Constant (.str y) j1 p1, .Constant (.str z) j2 p2] [] pos) (.str (Txt.replace x y z)) :=
  .mk fun A env s σ m Q E R hs ok S V ht k => wpAny_Call_method (T := "str") (id := "str.replace") (hab env) rfl hln F.plainAttrs_str F.slot_str_replace (by kernel_rfl) (h A env s σ m _ _ R hs ok S V ht fun v h1 t1 σ1 S1 r1 k1 => by
    obtain ⟨t, rfl⟩ := r1.str_inv
    refine ⟨typeIs_str _ _ _, fun a e => (by cases e), ?_⟩
    refine callWith_of (P := fun _ => True) rfl (fun h _ => ⟨.machine, .inr (.inl rfl), .of_pure rfl⟩) (evalArgs_plain ?_)
    refine wpAny_items_cons (env := env) (pos := pos) (e := .Constant (.str y) j1 p1) (rest := [.Constant (.str z) j2 p2]) ?_
    refine wpAny_mkText ?_
    refine wpAny_items_cons (env := env) (pos := pos) (e := .Constant (.str z) j2 p2) (rest := []) ?_
    refine wpAny_mkText (wpAny_pure ⟨trivial, ?_⟩)
    exact SC.replace (Nat.ne_of_gt k1) (Nat.succ_ne_zero _) (Nat.ne_of_lt (Nat.lt_succ_self _)) hyz hb fun t' tk => k _ _ tk _ S1 rep_str)

theorem upd_same {x : Str} {v : SL} (h : Γ x = some v) : ∀ y sl, upd Γ x v y = some sl → Γ y = some sl := fun y sl e => by
  unfold upd at e
  split at e
  · rename_i hy; subst hy; cases e; exact h
  · exact e

theorem replace_absent {x y z : Str} (h : (!(Builtin.Str.occurrences x y 0 x.length 1).isEmpty) = false) : Txt.replace x y z = x := by
  have : (Builtin.Str.occurrences x y 0 x.length (x.length + 1)).isEmpty = true := by
    rcases StrLaws.occ_head x y 1 (Nat.le_refl _) with ⟨e, hn⟩ | ⟨i, r, e, _⟩
    · rcases StrLaws.occ_head x y (x.length + 1) (by omega) with ⟨e', _⟩ | ⟨i, r, e', ha, _⟩
      · rw [e']; rfl
      · exact absurd ha (hn i)
    · rw [e] at h; cases h
  unfold Txt.replace
  rw [this]; rfl

/-- if c in text: text = text.replace(c, code) -/
theorem Ex1.esc {tx c z : Str} {x : Str} {p1 p2 p3 p4 p5 p6 p7 p8 pc pos pos' : Pos} {j1 j2 j3 : Nat} (hx : Γ tx = some (.val (.str x))) (hyz : (c == z) = false) (hb : x.length + (x.length + 1) * z.length ≤ 16777216) (hk : sc.names.lookup tx = some .local := by rfl) (hd : (tx == ("__debug__" : Str)) = false := by rfl) (hc : (tx == ("__classdict__" : Str)) = false := by rfl) (hln : (p5.endLine == p8.line) = true := by rfl) :
    Ex1 g n sc Γ (.If (.Compare (.Constant (.str c) j1 p1) [.In] [.Name tx p2] pc) [.Assign [.Name tx p3] (.Call (.Attribute (.Name tx p4) "replace" p5) [.Constant (.str c) j2 p6, .Constant (.str z) j3 p7] [] p8) pos'] [] pos) (.next (upd Γ tx (.val (.str (Txt.replace x c z))))) := by
  refine Ex1.ite (Tt.cmp Ev.str (Ev.name hx hd hc) Op2.inS) (fun _ => Ex.cons (Ex1.assign (Ev.replaceC (Ev.name hx hd hc) hyz hb (fun _ => rfl) hln) hk (fun _ => rfl)) Ex.nil) fun hf => ?_
  rw [replace_absent hf]
  exact Ex.nil.weak (upd_same hx)
end



def rp (c : Nat) (z : Tx) (d : Nat) : Tx := if d = c then z else [d]
def run (st : List (Nat × Tx)) (l : Tx) : Tx := st.foldl (fun l p => l.flatMap (rp p.1 p.2)) l
def tabOf (st : List (Nat × Tx)) (d : Nat) : Tx := (st.lookup d).getD [d]
def Good (st : List (Nat × Tx)) : Prop := st.Pairwise fun p q => q.1 ∉ p.2
theorem flat_free {c : Nat} {z : Tx} : ∀ {l : Tx}, c ∉ l → l.flatMap (rp c z) = l
  | [], _ => rfl
  | d :: r, h => by
    have hd : d ≠ c := fun q => h (by simp [q])
    rw [List.flatMap_cons, flat_free (l := r) fun q => h (.tail _ q)]
    simp [rp, hd]
theorem mem_lookup {d : Nat} {z : Tx} : ∀ {st : List (Nat × Tx)}, st.lookup d = some z → (d, z) ∈ st
  | [], h => by cases h
  | (e, y) :: r, h => by
    rw [List.lookup_cons] at h
    cases hb : d == e with
    | true => rw [hb] at h; cases h; have : d = e := by simpa using hb
              subst this; exact .head _
    | false => rw [hb] at h; exact .tail _ (mem_lookup h)
theorem flat_flat {l : Tx} {f h : Nat → Tx} : (l.flatMap f).flatMap h = l.flatMap fun d => (f d).flatMap h := by
  induction l with
  | nil => rfl
  | cons d r ih => rw [List.flatMap_cons, List.flatMap_append, ih, List.flatMap_cons]
theorem tab_snoc {st : List (Nat × Tx)} {c : Nat} {z : Tx} (h : Good (st ++ [(c, z)])) (d : Nat) : (tabOf st d).flatMap (rp c z) = tabOf (st ++ [(c, z)]) d := by
  unfold tabOf
  rw [List.lookup_append]
  cases hl : st.lookup d with
  | some y =>
    have hm := mem_lookup hl
    have : c ∉ y := (List.pairwise_append.mp h).2.2 _ hm _ (.head _)
    simp [flat_free this]
  | none =>
    simp only [Option.getD_none, Option.none_or, List.flatMap_cons, List.flatMap_nil, List.append_nil]
    unfold rp
    by_cases hd : d = c
    · subst hd; simp
    · have : (d == c) = false := by simpa using hd
      simp [List.lookup, this, hd]
theorem run_aux {l : Tx} : ∀ (n : Nat) (st : List (Nat × Tx)), st.length = n → Good st → run st l = l.flatMap (tabOf st)
  | 0, st, hn, _ => by
    have : st = [] := List.length_eq_zero_iff.mp hn
    subst this
    show l = _
    have : (fun d => tabOf [] d) = fun d => [d] := rfl
    show l = l.flatMap fun d => [d]
    induction l with
    | nil => rfl
    | cons d r ih => rw [List.flatMap_cons, ← ih]; rfl
  | n + 1, st, hn, h => by
    have hne : st ≠ [] := fun q => by rw [q] at hn; cases hn
    obtain ⟨init, c, z, e⟩ : ∃ init c z, st = init ++ [(c, z)] := ⟨st.dropLast, (st.getLast hne).1, (st.getLast hne).2, (List.dropLast_concat_getLast hne).symm⟩
    subst e
    have hi : Good init := (List.pairwise_append.mp h).1
    have : run (init ++ [(c, z)]) l = (run init l).flatMap (rp c z) := by simp [run, List.foldl_append]
    rw [this, run_aux n init (by simpa using hn) hi, flat_flat]
    congr 1
    funext d
    exact tab_snoc h d
theorem run_eq {st : List (Nat × Tx)} (h : Good st) (l : Tx) : run st l = l.flatMap (tabOf st) := run_aux _ st rfl h
theorem flat_len {f : Nat → Tx} {k : Nat} (hf : ∀ d, (f d).length ≤ k) : ∀ l : Tx, (l.flatMap f).length ≤ k * l.length
  | [] => by simp
  | d :: r => by
    rw [List.flatMap_cons, List.length_append, List.length_cons]
    have := hf d; have := flat_len hf r
    rw [Nat.mul_succ]; omega
theorem tab_len {st : List (Nat × Tx)} (h : ∀ p ∈ st, p.2.length ≤ 6) (d : Nat) : (tabOf st d).length ≤ 6 := by
  unfold tabOf
  cases hl : st.lookup d with
  | none => simp
  | some z => exact h _ (mem_lookup hl)
theorem run_len {st : List (Nat × Tx)} (hg : Good st) (h : ∀ p ∈ st, p.2.length ≤ 6) (l : Tx) : (run st l).length ≤ 6 * l.length := by rw [run_eq hg]; exact flat_len (tab_len h) l

section
variable {g : Gx} {n : Nat} {sc : Scope} {Γ : VEnv}
theorem Ex1.escL {tx cs zs : Str} {c : Nat} {z a : Tx} {p1 p2 p3 p4 p5 p6 p7 p8 pc pos pos' : Pos} {j1 j2 j3 : Nat} (hx : Γ tx = some (.val (.str (mkS a)))) (hc' : cs = mkS [c]) (hz' : zs = mkS z) (hyz : (cs == zs) = false) (hlz : z.length ≤ 6) (hb : a.length ≤ 2100000) (hk : sc.names.lookup tx = some .local := by rfl) (hd : (tx == ("__debug__" : Str)) = false := by rfl) (hc : (tx == ("__classdict__" : Str)) = false := by rfl) (hln : (p5.endLine == p8.line) = true := by rfl) :
    Ex1 g n sc Γ (.If (.Compare (.Constant (.str cs) j1 p1) [.In] [.Name tx p2] pc) [.Assign [.Name tx p3] (.Call (.Attribute (.Name tx p4) "replace" p5) [.Constant (.str cs) j2 p6, .Constant (.str zs) j3 p7] [] p8) pos'] [] pos) (.next (upd Γ tx (.val (.str (mkS (a.flatMap (rp c z))))))) := by
  have e : mkS (a.flatMap (rp c z)) = Txt.replace (mkS a) cs zs := str_ext (by
    rw [hc', replace_sign, mkS_cps, mkS_cps, hz', mkS_cps]; rfl)
  rw [e]
  refine Ex1.esc hx hyz ?_ hk hd hc hln
  rw [mkS_len, hz', mkS_len]
  have : (a.length + 1) * z.length ≤ (a.length + 1) * 6 := Nat.mul_le_mul_left _ hlz
  omega
end
def amp : Tx := [38, 97, 109, 112, 59]
def sLt : Tx := [38, 108, 116, 59]
def sGt : Tx := [38, 103, 116, 59]
def sQuot : Tx := [38, 113, 117, 111, 116, 59]
def st0 : List (Nat × Tx) := [(38, amp), (60, sLt), (62, sGt)]
def st1 : List (Nat × Tx) := [(38, amp), (60, sLt), (62, sGt), (34, sQuot), (13, [38, 35, 49, 51, 59]), (10, [38, 35, 49, 48, 59]), (9, [38, 35, 48, 57, 59])]
def st2 : List (Nat × Tx) := [(38, amp), (62, sGt), (34, sQuot)]
def st3 : List (Nat × Tx) := [(38, amp), (60, sLt), (62, sGt), (13, [38, 35, 120, 68, 59])]
def st4 : List (Nat × Tx) := [(38, amp), (60, sLt), (34, sQuot), (9, [38, 35, 120, 57, 59]), (10, [38, 35, 120, 65, 59]), (13, [38, 35, 120, 68, 59])]
section
variable {g : Gx} {l : Tx}
theorem pre_ok {st : List (Nat × Tx)} (j : Nat) (hg : Good st) (h : ∀ p ∈ st, p.2.length ≤ 6) (hl : l.length ≤ 350000) : (run (st.take j) l).length ≤ 2100000 := by
  have := run_len (hg.sublist (List.take_sublist j st)) (fun p hp => h p (List.mem_of_mem_take hp)) l
  omega
theorem fn_esc0 (hl : l.length ≤ 350000) : Fn g 1 "_escape_cdata" [.str (mkS l)] (.str (mkS (l.flatMap (tabOf st0)))) := by
  have hg : Good st0 := by unfold Good; decide
  have h6 : ∀ p ∈ st0, p.2.length ≤ 6 := by decide
  rw [← run_eq hg]
  refine Fn.of (j := 5) ["text"] (by decide) rfl (fun pm cd doc vs hl => ?_) (by decide) rfl rfl rfl ?_
  · match vs, hl with
    | [a], _ => rfl
  · conv => arg 5; whnf
    refine Ex.stop_ret (Ex1.tryR ?_)
    refine Ex.cons (Ex1.escL (a := run (st0.take 0) l) (c := 38) (z := amp) rfl (by decide) (by decide) (by decide) (by decide) (pre_ok 0 hg h6 hl)) ?_
    refine Ex.cons (Ex1.escL (a := run (st0.take 1) l) (c := 60) (z := sLt) rfl (by decide) (by decide) (by decide) (by decide) (pre_ok 1 hg h6 hl)) ?_
    refine Ex.cons (Ex1.escL (a := run (st0.take 2) l) (c := 62) (z := sGt) rfl (by decide) (by decide) (by decide) (by decide) (pre_ok 2 hg h6 hl)) ?_
    exact Ex.stop_ret (Ex1.ret (Ev.name rfl))
theorem fn_esc1 (hl : l.length ≤ 350000) : Fn g 1 "_escape_attrib" [.str (mkS l)] (.str (mkS (l.flatMap (tabOf st1)))) := by
  have hg : Good st1 := by unfold Good; decide
  have h6 : ∀ p ∈ st1, p.2.length ≤ 6 := by decide
  rw [← run_eq hg]
  refine Fn.of (j := 6) ["text"] (by decide) rfl (fun pm cd doc vs hl => ?_) (by decide) rfl rfl rfl ?_
  · match vs, hl with
    | [a], _ => rfl
  · conv => arg 5; whnf
    refine Ex.stop_ret (Ex1.tryR ?_)
    refine Ex.cons (Ex1.escL (a := run (st1.take 0) l) (c := 38) (z := amp) rfl (by decide) (by decide) (by decide) (by decide) (pre_ok 0 hg h6 hl)) ?_
    refine Ex.cons (Ex1.escL (a := run (st1.take 1) l) (c := 60) (z := sLt) rfl (by decide) (by decide) (by decide) (by decide) (pre_ok 1 hg h6 hl)) ?_
    refine Ex.cons (Ex1.escL (a := run (st1.take 2) l) (c := 62) (z := sGt) rfl (by decide) (by decide) (by decide) (by decide) (pre_ok 2 hg h6 hl)) ?_
    refine Ex.cons (Ex1.escL (a := run (st1.take 3) l) (c := 34) (z := sQuot) rfl (by decide) (by decide) (by decide) (by decide) (pre_ok 3 hg h6 hl)) ?_
    refine Ex.cons (Ex1.escL (a := run (st1.take 4) l) (c := 13) (z := [38, 35, 49, 51, 59]) rfl (by decide) (by decide) (by decide) (by decide) (pre_ok 4 hg h6 hl)) ?_
    refine Ex.cons (Ex1.escL (a := run (st1.take 5) l) (c := 10) (z := [38, 35, 49, 48, 59]) rfl (by decide) (by decide) (by decide) (by decide) (pre_ok 5 hg h6 hl)) ?_
    refine Ex.cons (Ex1.escL (a := run (st1.take 6) l) (c := 9) (z := [38, 35, 48, 57, 59]) rfl (by decide) (by decide) (by decide) (by decide) (pre_ok 6 hg h6 hl)) ?_
    exact Ex.stop_ret (Ex1.ret (Ev.name rfl))
theorem fn_esc2 (hl : l.length ≤ 350000) : Fn g 1 "_escape_attrib_html" [.str (mkS l)] (.str (mkS (l.flatMap (tabOf st2)))) := by
  have hg : Good st2 := by unfold Good; decide
  have h6 : ∀ p ∈ st2, p.2.length ≤ 6 := by decide
  rw [← run_eq hg]
  refine Fn.of (j := 7) ["text"] (by decide) rfl (fun pm cd doc vs hl => ?_) (by decide) rfl rfl rfl ?_
  · match vs, hl with
    | [a], _ => rfl
  · conv => arg 5; whnf
    refine Ex.stop_ret (Ex1.tryR ?_)
    refine Ex.cons (Ex1.escL (a := run (st2.take 0) l) (c := 38) (z := amp) rfl (by decide) (by decide) (by decide) (by decide) (pre_ok 0 hg h6 hl)) ?_
    refine Ex.cons (Ex1.escL (a := run (st2.take 1) l) (c := 62) (z := sGt) rfl (by decide) (by decide) (by decide) (by decide) (pre_ok 1 hg h6 hl)) ?_
    refine Ex.cons (Ex1.escL (a := run (st2.take 2) l) (c := 34) (z := sQuot) rfl (by decide) (by decide) (by decide) (by decide) (pre_ok 2 hg h6 hl)) ?_
    exact Ex.stop_ret (Ex1.ret (Ev.name rfl))
theorem fn_esc3 (hl : l.length ≤ 350000) : Fn g 1 "_escape_cdata_c14n" [.str (mkS l)] (.str (mkS (l.flatMap (tabOf st3)))) := by
  have hg : Good st3 := by unfold Good; decide
  have h6 : ∀ p ∈ st3, p.2.length ≤ 6 := by decide
  rw [← run_eq hg]
  refine Fn.of (j := 8) ["text"] (by decide) rfl (fun pm cd doc vs hl => ?_) (by decide) rfl rfl rfl ?_
  · match vs, hl with
    | [a], _ => rfl
  · conv => arg 5; whnf
    refine Ex.stop_ret (Ex1.tryR ?_)
    refine Ex.cons (Ex1.escL (a := run (st3.take 0) l) (c := 38) (z := amp) rfl (by decide) (by decide) (by decide) (by decide) (pre_ok 0 hg h6 hl)) ?_
    refine Ex.cons (Ex1.escL (a := run (st3.take 1) l) (c := 60) (z := sLt) rfl (by decide) (by decide) (by decide) (by decide) (pre_ok 1 hg h6 hl)) ?_
    refine Ex.cons (Ex1.escL (a := run (st3.take 2) l) (c := 62) (z := sGt) rfl (by decide) (by decide) (by decide) (by decide) (pre_ok 2 hg h6 hl)) ?_
    refine Ex.cons (Ex1.escL (a := run (st3.take 3) l) (c := 13) (z := [38, 35, 120, 68, 59]) rfl (by decide) (by decide) (by decide) (by decide) (pre_ok 3 hg h6 hl)) ?_
    exact Ex.stop_ret (Ex1.ret (Ev.name rfl))
theorem fn_esc4 (hl : l.length ≤ 350000) : Fn g 1 "_escape_attrib_c14n" [.str (mkS l)] (.str (mkS (l.flatMap (tabOf st4)))) := by
  have hg : Good st4 := by unfold Good; decide
  have h6 : ∀ p ∈ st4, p.2.length ≤ 6 := by decide
  rw [← run_eq hg]
  refine Fn.of (j := 9) ["text"] (by decide) rfl (fun pm cd doc vs hl => ?_) (by decide) rfl rfl rfl ?_
  · match vs, hl with
    | [a], _ => rfl
  · conv => arg 5; whnf
    refine Ex.stop_ret (Ex1.tryR ?_)
    refine Ex.cons (Ex1.escL (a := run (st4.take 0) l) (c := 38) (z := amp) rfl (by decide) (by decide) (by decide) (by decide) (pre_ok 0 hg h6 hl)) ?_
    refine Ex.cons (Ex1.escL (a := run (st4.take 1) l) (c := 60) (z := sLt) rfl (by decide) (by decide) (by decide) (by decide) (pre_ok 1 hg h6 hl)) ?_
    refine Ex.cons (Ex1.escL (a := run (st4.take 2) l) (c := 34) (z := sQuot) rfl (by decide) (by decide) (by decide) (by decide) (pre_ok 2 hg h6 hl)) ?_
    refine Ex.cons (Ex1.escL (a := run (st4.take 3) l) (c := 9) (z := [38, 35, 120, 57, 59]) rfl (by decide) (by decide) (by decide) (by decide) (pre_ok 3 hg h6 hl)) ?_
    refine Ex.cons (Ex1.escL (a := run (st4.take 4) l) (c := 10) (z := [38, 35, 120, 65, 59]) rfl (by decide) (by decide) (by decide) (by decide) (pre_ok 4 hg h6 hl)) ?_
    refine Ex.cons (Ex1.escL (a := run (st4.take 5) l) (c := 13) (z := [38, 35, 120, 68, 59]) rfl (by decide) (by decide) (by decide) (by decide) (pre_ok 5 hg h6 hl)) ?_
    exact Ex.stop_ret (Ex1.ret (Ev.name rfl))
end
end Mine
namespace Mine
open PySem PySem.W PyProof.Rows PySem.Calls
set_option Elab.async false
set_option maxRecDepth 100000
set_option linter.unusedVariables false
/-! the law's own tables: lists of (sign, spelling) -/
def dst (e : Nat) : List (Nat × Tx) := match e with
  | 0 => [(38, amp), (60, sLt), (62, sGt)]
  | 1 => [(38, amp), (60, sLt), (62, sGt), (34, sQuot), (13, [38, 35, 49, 51, 59]), (9, [38, 35, 48, 57, 59])]
  | 2 => [(38, amp), (62, sGt), (34, sQuot)]
  | 3 => [(38, amp), (60, sLt), (62, sGt), (13, [38, 35, 120, 68, 59])]
  | _ => [(38, amp), (60, sLt), (34, sQuot), (13, [38, 35, 120, 68, 59]), (9, [38, 35, 120, 57, 59])]
def dPV (st : List (Nat × Tx)) : PV := .dict (st.map fun p => (mkS [p.1], mkS p.2))
def spell1 (code : Tx) (st : List (Nat × Tx)) : Tx := if 1 < code.length then amp ++ code.drop 1 else match code with
  | [c] => tabOf st c
  | _ => code
def spellT (chain : List (List (Nat × Tx))) (code : Tx) : Tx := chain.foldl spell1 code

theorem look_map (st : List (Nat × Tx)) (c : Nat) : (st.map fun p => (mkS [p.1], mkS p.2)).lookup (mkS [c]) = (st.lookup c).map mkS := by
  induction st with
  | nil => rfl
  | cons p r ih =>
    obtain ⟨d, z⟩ := p
    rw [List.map_cons, List.lookup_cons, List.lookup_cons]
    by_cases h : c = d
    · subst h; simp
    · have h1 : (c == d) = false := by simpa using h
      have h2 : (mkS [c] == mkS [d]) = false := by
        rw [beq_eq_false_iff_ne]; intro q; exact h (by have := mkS_inj q; simpa using this)
      rw [h1, h2]; exact ih
theorem look_nil (st : List (Nat × Tx)) : (st.map fun p => (mkS [p.1], mkS p.2)).lookup (mkS []) = none := by
  induction st with
  | nil => rfl
  | cons p r ih =>
    rw [List.map_cons, List.lookup_cons]
    have h2 : (mkS [] == mkS [p.1]) = false := by
      rw [beq_eq_false_iff_ne]; intro q; have := mkS_inj q; cases this
    rw [h2]; exact ih

section
variable {g : Gx} {n : Nat} {sc : Scope} {Γ : VEnv}
/-- a for over one name -/
theorem Ex1.forN {x : Str} {xp : Pos} {e : Expr} {body : List Stmt} {pos : Pos} {p : PV} {ps : List PV} {Γf : VEnv} (K : Nat) (G : Nat → VEnv) (h : Ev g n sc Γ e p) (hi : itemsOf p = some ps) (h0 : ∀ y sl, G 0 y = some sl → Γ y = some sl) (hK : K ≤ ps.length)
    (turn : ∀ i q, i < K → ps[i]? = some q → Ex g n sc (upd (G i) x (.val q)) body (.next (G (i + 1))))
    (last : ∀ q, ps[K]? = some q → Ex g n sc (upd (G K) x (.val q)) body (.brk Γf))
    (fin : K = ps.length → ∀ y sl, Γf y = some sl → G K y = some sl)
    (hx : sc.names.lookup x = some .local := by rfl) (hf : ∀ env x, foldedSetIterable e env x = pure x := by intro _ _; rfl) : Ex1 g n sc Γ (.For (.Name x xp) e body [] pos) (.next Γf) :=
  Ex1.forC K G (fun i => upd (G i) x (.val (ps[i]?.getD .none))) h hi h0 hK (fun i q _ hq => by rw [hq]; exact As.name hx) (fun i q hi hq => by rw [hq]; exact turn i q hi hq) (fun q hq => by rw [hq]; exact last q hq) fin (.inl ⟨x, xp, rfl⟩) hf
/-- all the turns, no break -/
theorem Ex1.forAll {x : Str} {xp : Pos} {e : Expr} {body : List Stmt} {pos : Pos} {p : PV} {ps : List PV} (G : Nat → VEnv) (h : Ev g n sc Γ e p) (hi : itemsOf p = some ps) (h0 : ∀ y sl, G 0 y = some sl → Γ y = some sl)
    (turn : ∀ i q, ps[i]? = some q → Ex g n sc (upd (G i) x (.val q)) body (.next (G (i + 1))))
    (hx : sc.names.lookup x = some .local := by rfl) (hf : ∀ env x, foldedSetIterable e env x = pure x := by intro _ _; rfl) : Ex1 g n sc Γ (.For (.Name x xp) e body [] pos) (.next (G ps.length)) :=
  Ex1.forN ps.length G h hi h0 (Nat.le_refl _) (fun i q _ hq => turn i q hq) (fun q hq => by rw [List.getElem?_eq_none_iff.mpr (Nat.le_refl _)] at hq; cases hq) (fun _ _ _ e => e) hx hf
end
theorem line_ok {k : Nat} (h : Nat.ble k 1000 = true) : k ≤ sizeLine := Nat.le_trans (Nat.le_of_ble_eq_true h) (by show 1000 ≤ 2 ^ 24; decide)
theorem upd_eq {Γ : VEnv} {x : Str} {v : SL} : upd Γ x v x = some v := if_pos rfl
theorem upd_ne {Γ : VEnv} {x y : Str} {v : SL} (h : y ≠ x) : upd Γ x v y = Γ y := if_neg h

section
variable {g : Gx}
theorem dst_ok (e : Nat) : dst e ≠ [] ∧ (dst e).length ≤ 15 ∧ ((dst e).map (·.1)).Nodup := by
  unfold dst; split <;> decide
theorem dd_ev {n sc Γ ks vs pos} {l : List (Str × Str)} {e : Nat} (h : DictEs ks vs l) (q : l = ((dst e).map fun p => (mkS [p.1], mkS p.2))) : Ev g n sc Γ (.Dict ks vs pos) (dPV (dst e)) := by
  obtain ⟨h1, h2, h3⟩ := dst_ok e
  unfold dPV; rw [← q]
  refine Ev.dict h (by rw [q]; intro e; exact h1 (List.map_eq_nil_iff.mp e)) (by rw [q, List.length_map]; exact h2) ?_
  rw [q, List.map_map]
  have : ((fun p : Str × Str => p.1) ∘ fun p : Nat × Tx => (mkS [p.1], mkS p.2)) = fun p => mkS [p.1] := rfl
  rw [this]
  have : (dst e).map (fun p => mkS [p.1]) = ((dst e).map (·.1)).map (fun c => mkS [c]) := by rw [List.map_map]; rfl
  rw [this]
  unfold List.Nodup at h3 ⊢
  rw [List.pairwise_map]
  exact h3.imp fun hne e => hne (by have := mkS_inj e; simpa using this)
theorem Evs.dict {n sc Γ ks vs pos es ps p} (h : Ev g n sc Γ (.Dict ks vs pos) p) (t : Evs g n sc Γ es ps) : Evs g n sc Γ (.Dict ks vs pos :: es) (p :: ps) := Evs.cons h t
theorem fn_tables0 {d0 d1 d2 d3 d4 : PV} (e0 : d0 = dPV (dst 0)) (e1 : d1 = dPV (dst 1)) (e2 : d2 = dPV (dst 2)) (e3 : d3 = dPV (dst 3)) (e4 : d4 = dPV (dst 4)) : Fn g 1 "_law_tables" [] (.list [d0, d1, d2, d3, d4]) := by
  refine Fn.of (j := 11) [] (by decide) rfl (fun pm cd doc vs hl => ?_) (by decide) rfl rfl rfl ?_
  · match vs, hl with
    | [], _ => rfl
  · conv => arg 5; whnf
    refine Ex.stop_ret ?_
    refine Ex1.ret ?_
    refine Ev.list ?_ ?_
    rotate_left
    · exact line_ok rfl
    refine Evs.dict ?_ ?_
    · rw [e0]; refine dd_ev (l := ?l0) (e := 0) ?_ ?_; rotate_left
      · exact (.cons (.cons (.cons .nil)))
      · kernel_rfl
    refine Evs.dict ?_ ?_
    · rw [e1]; refine dd_ev (l := ?l1) (e := 1) ?_ ?_; rotate_left
      · exact (.cons (.cons (.cons (.cons (.cons (.cons .nil))))))
      · kernel_rfl
    refine Evs.dict ?_ ?_
    · rw [e2]; refine dd_ev (l := ?l2) (e := 2) ?_ ?_; rotate_left
      · exact (.cons (.cons (.cons .nil)))
      · kernel_rfl
    refine Evs.dict ?_ ?_
    · rw [e3]; refine dd_ev (l := ?l3) (e := 3) ?_ ?_; rotate_left
      · exact (.cons (.cons (.cons (.cons .nil))))
      · kernel_rfl
    refine Evs.dict ?_ ?_
    · rw [e4]; refine dd_ev (l := ?l4) (e := 4) ?_ ?_; rotate_left
      · exact (.cons (.cons (.cons (.cons (.cons .nil)))))
      · kernel_rfl
    exact Evs.nil
theorem fn_tables : Fn g 1 "_law_tables" [] (.list [dPV (dst 0), dPV (dst 1), dPV (dst 2), dPV (dst 3), dPV (dst 4)]) := fn_tables0 rfl rfl rfl rfl rfl

theorem spell_len {st : List (Nat × Tx)} {code : Tx} (h : ∀ p ∈ st, p.2.length ≤ 6) : (spell1 code st).length ≤ code.length + 6 := by
  unfold spell1
  split
  · simp [amp]; omega
  · split
    · have := tab_len h (by assumption); simp; omega
    · omega
theorem fn_spell {chain : List (List (Nat × Tx))} {code : Tx} (hc : chain.length ≤ 100) (hl : code.length ≤ 100) (h6 : ∀ st ∈ chain, ∀ p ∈ st, p.2.length ≤ 6) : Fn g 1 "_law_spell" [.list (chain.map dPV), .str (mkS code)] (.str (mkS (spellT chain code))) := by
  refine Fn.of (j := 12) ["chain", "code"] (by decide) rfl (fun pm cd doc vs hl => ?_) (by decide) rfl rfl rfl ?_
  · match vs, hl with
    | [a, b], _ => rfl
  · conv => arg 5; whnf
    refine Ex.cons (Ex1.forAll (fun i => upd (args0 (stScope (stm 12)) ["chain", "code"] [.list (chain.map dPV), .str (mkS code)]) "code" (.val (.str (mkS (spellT (chain.take i) code))))) (Ev.name rfl) rfl (upd_same rfl) (fun i q hq => ?_)) (Ex.stop_ret (Ex1.ret ?_))
    · rw [List.getElem?_map] at hq
      obtain ⟨st, hst, rfl⟩ := Option.map_eq_some_iff.mp hq
      have hsp : spellT (chain.take (i + 1)) code = spell1 (spellT (chain.take i) code) st := by
        rw [List.take_add_one, hst]
        simp [spellT, List.foldl_append]
      generalize hcd : spellT (chain.take i) code = cd at hsp
      have hlen : cd.length ≤ 1000 := by
        have key : ∀ (ch : List (List (Nat × Tx))) (c : Tx), (∀ st ∈ ch, ∀ p ∈ st, p.2.length ≤ 6) → (spellT ch c).length ≤ c.length + 6 * ch.length := by
          intro ch
          induction ch with
          | nil => intro c _; simp [spellT]
          | cons st r ih =>
            intro c h
            have h1 := spell_len (code := c) (h st (.head _))
            have h2 := ih (spell1 c st) fun s hs => h s (.tail _ hs)
            show (spellT r (spell1 c st)).length ≤ _
            rw [List.length_cons]; omega
        have := key (chain.take i) code fun s hs => h6 s (List.mem_of_mem_take hs)
        rw [hcd, List.length_take] at this
        omega
      have hcode : ∀ {n : Nat} {p : Pos}, Ev g n (stScope (stm 12)) (upd (upd (args0 (stScope (stm 12)) ["chain", "code"] [.list (chain.map dPV), .str (mkS code)]) "code" (.val (.str (mkS cd)))) "table" (.val (dPV st))) (.Name "code" p) (.str (mkS cd)) := Ev.name rfl
      refine Ex.weak (Ex.cons (Ex1.assign (p := .str (mkS (spell1 cd st))) (Ev.ifexp (Tt.cmp (Ev.bi (by decide) rfl KeepOk.builtin (Evs.cons hcode Evs.nil) (Cl.lenS ?_)) Ev.int Op2.gtI) (fun hb => ?_) (fun hb => ?_))) Ex.nil) ?_
      · rw [mkS_len]; omega
      · rw [mkS_len] at hb
        have hb : 1 < cd.length := by have := of_decide_eq_true hb; omega
        have e : mkS (spell1 cd st) = Str.ofString "&amp;" ++ cutS (mkS cd) (some 1) none := by
          unfold spell1 cutS
          rw [if_pos hb, mkS_cps]
          have : pySl cd (some 1) none = cd.drop 1 := by
            unfold pySl clp
            show (cd.take cd.length).drop (max 0 (min (if (1 : Int) < 0 then 1 + (cd.length : Int) else 1) (cd.length : Int))).toNat = _
            rw [List.take_length, if_neg (by decide)]
            congr 1
            omega
          rw [this]
          exact (mkS_app amp (cd.drop 1)).symm
        rw [e]
        refine Ev.bin Ev.str (Ev.cutS hcode (EvO.yes Ev.int) EvO.no ?_) (Op2.addS ?_)
        · rw [mkS_len]; exact Nat.le_trans hlen (line_ok rfl)
        · rw [show (Str.ofString "&amp;").length = 5 from rfl]
          rw [show (cutS (mkS cd) (some 1) none).length = (pySl (mkS cd).cps.toList (some 1) none).length from List.size_toArray, mkS_cps]
          refine Nat.le_trans (m := 5 + cd.length) (Nat.add_le_add_left ?_ 5) (Nat.le_trans (m := 1005) (by omega) (by show 1005 ≤ 2 ^ 24; decide))
          unfold pySl
          rw [List.length_drop, List.length_take]; omega
      · rw [mkS_len] at hb
        have hb : ¬ 1 < cd.length := by have := of_decide_eq_false hb; omega
        have e : mkS (spell1 cd st) = ((st.map fun p => (mkS [p.1], mkS p.2)).lookup (mkS cd)).getD (mkS cd) := by
          unfold spell1
          rw [if_neg hb]
          match cd, hb with
          | [], _ => rw [look_nil]; rfl
          | [c], _ => rw [look_map]; show mkS (tabOf st c) = _; unfold tabOf; cases st.lookup c <;> rfl
          | _ :: _ :: _, hb => simp at hb
        rw [e]
        exact Ev.meth (po := dPV st) (Ev.name rfl) KindOf.dict F.plainAttrs_dict F.slot_dict_get (by kernel_rfl) (Evs.cons hcode (Evs.cons hcode Evs.nil)) Cl.get
      · rw [hsp]
        intro y sl h
        unfold upd at h ⊢
        by_cases h1 : y = "code"
        · rw [if_pos h1] at h ⊢; exact h
        · rw [if_neg h1] at h
          rw [if_neg h1]
          by_cases h2 : y = "table"
          · subst h2; exact absurd h (by rw [show args0 (stScope (stm 12)) ["chain", "code"] [.list (chain.map dPV), .str (mkS code)] "table" = none from rfl]; exact nofun)
          · rw [if_neg h2, if_neg h1]; exact h
    · rw [List.length_map, List.take_length]
      exact Ev.name rfl
end
end Mine
namespace Mine
open PySem PySem.W PyProof.Rows PySem.Calls
set_option Elab.async false
set_option maxRecDepth 100000
set_option linter.unusedVariables false
/-! the nodes, the trees, and what the text's functions make of them -/
structure Nd where
  e : Nat
  ps : List (Nat ⊕ Tx)
  par : Int
  dep : Nat
  rem : Nat
def pcPV : Nat ⊕ Tx → PV
  | .inl k => .int k
  | .inr t => .str (mkS t)
def ndPV (d : Nd) : PV := .tup [.int d.e, .list (d.ps.map pcPV), .int d.par, .int d.dep]
def ndsPV (ns : List Nd) : PV := .list (ns.map ndPV)
def Tr : Nat → Type
  | 0 => Unit
  | h + 1 => Nat × List (Tr h ⊕ Tx)
def treeOf (ns : List Nd) : (h : Nat) → Nat → Tr h
  | 0, _ => ()
  | h + 1, k => match ns[k]? with
    | some d => (d.e, d.ps.map (Sum.map (treeOf ns h) id))
    | none => ((0, []) : Nat × List (Tr h ⊕ Tx))
def stE : Nat → List (Nat × Tx)
  | 0 => st0
  | 1 => st1
  | 2 => st2
  | 3 => st3
  | _ => st4
def escT (e : Nat) (l : Tx) : Tx := l.flatMap (tabOf (stE e))
def insT {h : Nat} (row : Tr h → Tx) (its : List (Tr h ⊕ Tx)) : Tx := its.flatMap (Sum.elim row id)
def rowT : (h : Nat) → Tr h → Tx
  | 0, _ => []
  | h + 1, t => [38, 91] ++ escT t.1 (insT (rowT h) t.2) ++ [38, 93]
def reps (n : Nat) : Tx := (List.replicate n [97, 109, 112, 59]).flatten
def opM (d : Nat) : Tx := 38 :: (reps d ++ [91])
def clM (d : Nat) : Tx := 38 :: (reps d ++ [93])
def dueT : (h : Nat) → List (List (Nat × Tx)) → Tr h → Tx
  | 0, _, _ => []
  | h + 1, ab, t => opM ab.length ++ t.2.flatMap (Sum.elim (dueT h (dst t.1 :: ab)) (fun x => x.flatMap fun c => spellT (dst t.1 :: ab) [c])) ++ clM ab.length
/-- the texts between the kids: all but the last, and the last -/
def txStep {α : Type} (p : List Tx × Tx) : α ⊕ Tx → List Tx × Tx
  | .inl _ => (p.1 ++ [p.2], [])
  | .inr t => (p.1, p.2 ++ t)
def txs {α : Type} (its : List (α ⊕ Tx)) : List Tx × Tx := its.foldl txStep ([], [])
def kidsOf {α : Type} (its : List (α ⊕ Tx)) : List α := its.filterMap (Sum.elim some fun _ => none)
def strL (l : List Tx) : List PV := l.map fun t => .str (mkS t)
def treeP : (h : Nat) → Tr h → PV
  | 0, _ => .none
  | h + 1, t => .list [.list (strL ((txs t.2).1 ++ [(txs t.2).2])), .list ((kidsOf t.2).map (treeP h))]
def pieces : List Tx := [[38], [60], [62], [34], [13], [9], [97], [59], [97, 109, 112, 59], [108, 116, 59], [35, 57], [112, 59]]
/-- what holds of the nodes when they all stand -/
structure Wf (ns : List Nd) : Prop where
  esc : ∀ d ∈ ns, d.e < 5
  dep : ∀ d ∈ ns, d.dep ≤ 3
  kid : ∀ d ∈ ns, ∀ k, .inl k ∈ d.ps → ∃ d', ns[k]? = some d' ∧ d'.dep = d.dep + 1
  few : ∀ d ∈ ns, d.ps.length ≤ 100
  len : ns.length ≤ 100
  txt : ∀ d ∈ ns, ∀ x, .inr x ∈ d.ps → x ∈ pieces

theorem joinL_flat : ∀ l : List Tx, joinL [] l = l.flatten
  | [] => rfl
  | [p] => by simp [joinL]
  | p :: q :: r => by
    show p ++ [] ++ joinL [] (q :: r) = _
    rw [joinL_flat (q :: r)]; simp
theorem join_flat (l : List Tx) : Txt.join (Str.ofString "") (l.map mkS) = mkS l.flatten := str_ext (by
  rw [show Txt.join (Str.ofString "") (l.map mkS) = Str.join (Str.ofString "") (l.map mkS) from StrLaws.glued_eq_join _ _, join_list, mkS_cps, List.map_map]
  rw [show ((fun x : Str => x.cps.toList) ∘ mkS) = id from funext fun x => mkS_cps x, List.map_id]
  exact joinL_flat l)
theorem joinOk_flat {l : List Tx} (h : l.flatten.length ≤ sizeLine) : JoinOk (Str.ofString "") (l.map mkS) = true := by
  unfold JoinOk
  have : ∀ (l : List Tx) (a : Nat), (l.map mkS).foldl (fun (x : Nat) (y : Str) => x + y.length + (Str.ofString "").length) a = a + l.flatten.length := by
    intro l
    induction l with
    | nil => intro a; simp
    | cons p r ih =>
      intro a
      rw [List.map_cons, List.foldl_cons, ih, mkS_len]
      rw [show (Str.ofString "").length = 0 from rfl]
      simp; omega
  rw [List.foldl_toArray, this]
  simp only [Builtin.Str.tooLong, Nat.zero_add]
  simpa using h
end Mine
namespace Mine
open PySem PySem.W PyProof.Rows PySem.Calls
set_option Elab.async false
set_option maxRecDepth 100000
set_option linter.unusedVariables false
theorem gi_list : typeLookup (.type "list") "__getitem__" = pure (some (.builtin "list.__getitem__")) := by rw [typeLookup_type, builtinLookup_eq_fast]; kernel_rfl
theorem gi_tuple : typeLookup (.type "tuple") "__getitem__" = pure (some (.builtin "tuple.__getitem__")) := by rw [typeLookup_type, builtinLookup_eq_fast]; kernel_rfl
theorem gi_str : typeLookup (.type "str") "__getitem__" = pure (some (.builtin "str.__getitem__")) := by rw [typeLookup_type, builtinLookup_eq_fast]; kernel_rfl
theorem gi_dict : typeLookup (.type "dict") "__getitem__" = pure (some (.builtin "dict.__getitem__")) := by rw [typeLookup_type, builtinLookup_eq_fast]; kernel_rfl
section
variable {g : Gx} {n : Nat} {sc : Scope} {Γ : VEnv}
theorem Ev.atL {value slice : Expr} {pos : Pos} {l : List PV} {i : Nat} {c : PV} (h1 : Ev g n sc Γ value (.list l)) (h2 : Ev g n sc Γ slice (.int i)) (hx : l[i]? = some c) (hl : l.length ≤ 2 ^ 40)
    (hs : ∀ o i, ∃ ops, subscripted slice false o i = operate ops (getItem o i) := by intro _ _; exact ⟨_, rfl⟩) : Ev g n sc Γ (.Subscript value slice pos) c := by
  have hk' : i < l.length := (List.getElem?_eq_some_iff.mp hx).1
  exact Ev.sub (T := "list") h1 h2 (.inl KindOf.list) gi_list (Op2.itemL (by omega) (by omega) (by rw [Int.toNat_natCast]; exact hx)) hs
theorem Ev.atT {value slice : Expr} {pos : Pos} {l : List PV} {i : Nat} {c : PV} (h1 : Ev g n sc Γ value (.tup l)) (h2 : Ev g n sc Γ slice (.int i)) (hx : l[i]? = some c) (hl : l.length ≤ 2 ^ 40)
    (hs : ∀ o i, ∃ ops, subscripted slice false o i = operate ops (getItem o i) := by intro _ _; exact ⟨_, rfl⟩) : Ev g n sc Γ (.Subscript value slice pos) c := by
  have hk' : i < l.length := (List.getElem?_eq_some_iff.mp hx).1
  exact Ev.sub (T := "tuple") h1 h2 (.inr ⟨rfl, _, rfl⟩) gi_tuple (Op2.itemT (by omega) (by omega) (by rw [Int.toNat_natCast]; exact hx)) hs
theorem CompSide.of {scope : Scope} {x : Str} (frees : List Str) (hd : ∀ y ∈ scope.names, y.2 ≠ .cell ∧ (y.2 = .local → scope.names.lookup y.1 = some .local) ∧ (y.2 = .free → y.1 ∈ frees ∧ scope.names.lookup y.1 = some .free ∧ (sc.names.lookup y.1 = some .cell ∨ sc.names.lookup y.1 = some .free))) (hk : scope.kind = .function) (hΓ : ∀ y ∈ frees, ∃ p, Γ y = some (.val p)) (hx : scope.names.lookup x = some .local) : CompSide scope sc Γ x :=
  ⟨fun y hy => (hd y hy).1, hk, fun y hy => (hd y hy).2.1, fun y hy => by obtain ⟨a, b, c⟩ := (hd _ hy).2.2 rfl; exact ⟨b, c, hΓ _ a⟩, hx⟩
/-- nodes[k][i] -/
theorem ev_nd {ns : List Nd} {k : Nat} {d : Nd} {a b c : Expr} {p q : Pos} {j : Nat} {r : PV} (ha : Ev g n sc Γ a (ndsPV ns)) (hb : Ev g n sc Γ b (.int k)) (hc : Ev g n sc Γ c (.int j)) (hk : ns[k]? = some d) (hl : ns.length ≤ 100)
    (hr : ([.int d.e, .list (d.ps.map pcPV), .int d.par, .int d.dep] : List PV)[j]? = some r)
    (hs1 : ∀ o i, ∃ ops, subscripted b false o i = operate ops (getItem o i) := by intro _ _; exact ⟨_, rfl⟩) (hs2 : ∀ o i, ∃ ops, subscripted c false o i = operate ops (getItem o i) := by intro _ _; exact ⟨_, rfl⟩) :
    Ev g n sc Γ (.Subscript (.Subscript a b p) c q) r :=
  Ev.atT (Ev.atL (c := ndPV d) ha hb (by rw [List.getElem?_map, hk]; rfl) (by rw [List.length_map]; omega) hs1) hc hr (by show 4 ≤ 2 ^ 40; decide) hs2
theorem Ev.join {o e : Expr} {apos pos : Pos} {l : List Tx} (h1 : Ev g n sc Γ o (.str (Str.ofString ""))) (h2 : Ev g n sc Γ e (.list (l.map fun t => .str (mkS t)))) (hl : l.flatten.length ≤ sizeLine)
    (hab : ∀ env, attributeBase o "join" env (eval o env) = eval o env := by intro _; rfl) (hln : (apos.endLine == pos.line) = true := by rfl)
    (hst : ∀ env, starEach [e] env = [(false, eval e env)] := by intro _; rfl) : Ev g n sc Γ (.Call (.Attribute o "join" apos) [e] [] pos) (.str (mkS l.flatten)) := by
  rw [← join_flat]
  refine Ev.meth (po := .str (Str.ofString "")) h1 KindOf.str F.plainAttrs_str F.slot_str_join (by kernel_rfl) (Evs.cons (p := .list ((l.map mkS).map .str)) (by rw [List.map_map]; exact h2) Evs.nil (fun env => by rw [hst]; rfl)) (Cl.join (joinOk_flat hl)) hab hln (fun env => by rw [hst]; rfl) (fun env => by rw [hst]; rfl) (fun env => ⟨_, _, hst env⟩)

theorem map_at {α β : Type} {f : α → β} {l : List α} {i : Nat} {a : α} (h : l[i]? = some a) : (l.map f)[i]? = some (f a) := by rw [List.getElem?_map, h]; rfl
theorem tab_len6 {e : Nat} : ∀ p ∈ stE e, p.2.length ≤ 6 := by unfold stE; split <;> decide
theorem esc_len (e : Nat) (l : Tx) : (escT e l).length ≤ 6 * l.length := by
  unfold escT
  induction l with
  | nil => simp
  | cons c r ih =>
    rw [List.flatMap_cons, List.length_append, List.length_cons]
    have : (tabOf (stE e) c).length ≤ 6 := tab_len tab_len6 c
    omega
theorem len_app (a b : Str) : (a ++ b).length = a.length + b.length := by
  show (a.cps ++ b.cps).size = _
  rw [Array.size_append]; rfl
theorem esc_name {e : Nat} (he : e < 5) {l : Tx} (hl : l.length ≤ 350000) : ∃ (j : Nat) (nm : Str), (j, nm) ∈ fnTab ∧ (["_escape_cdata", "_escape_attrib", "_escape_attrib_html", "_escape_cdata_c14n", "_escape_attrib_c14n"] : List Str)[e]? = some nm ∧ Fn g 1 nm [.str (mkS l)] (.str (mkS (escT e l))) := by
  match e, he with
  | 0, _ => exact ⟨5, _, by decide, rfl, fn_esc0 hl⟩
  | 1, _ => exact ⟨6, _, by decide, rfl, fn_esc1 hl⟩
  | 2, _ => exact ⟨7, _, by decide, rfl, fn_esc2 hl⟩
  | 3, _ => exact ⟨8, _, by decide, rfl, fn_esc3 hl⟩
  | 4, _ => exact ⟨9, _, by decide, rfl, fn_esc4 hl⟩
theorem row_step {ns : List Nd} (wf : Wf ns) {h k : Nat} {d : Nd} (hk : ns[k]? = some d) (hn : 1 ≤ n) (hl : (insT (rowT h) (d.ps.map (Sum.map (treeOf ns h) id))).length ≤ 350000)
    (ih : ∀ k' : Nat, .inl k' ∈ d.ps → Fn g n "_law_row" [ndsPV ns, .int k'] (.str (mkS (rowT h (treeOf ns h k'))))) : Fn g (n + 1) "_law_row" [ndsPV ns, .int k] (.str (mkS (rowT (h + 1) (treeOf ns (h + 1) k)))) := by
  have hm : d ∈ ns := List.mem_of_getElem? hk
  refine Fn.of (j := 13) ["nodes", "k"] (by decide) rfl (fun pm cd doc vs hl => ?_) (by decide) rfl rfl rfl ?_
  · match vs, hl with
    | [a, b], _ => rfl
  · conv => arg 5; whnf
    refine Ex.cons (Ex1.assign (p := .str (mkS (insT (rowT h) (d.ps.map (Sum.map (treeOf ns h) id))))) ?_) ?_
    · have e1 : insT (rowT h) (d.ps.map (Sum.map (treeOf ns h) id)) = (d.ps.map (Sum.elim (fun k' => rowT h (treeOf ns h k')) id)).flatten := by
        unfold insT
        rw [List.flatMap_map, List.flatMap_def]
        congr 1
        refine List.map_congr_left fun p _ => ?_
        cases p <;> rfl
      rw [e1] at hl ⊢
      refine Ev.join Ev.str ?_ (Nat.le_trans hl (by show 350000 ≤ 2 ^ 24; decide))
      have e2 : (List.map (fun t => PV.str (mkS t)) (d.ps.map (Sum.elim (fun k' => rowT h (treeOf ns h k')) id))) = ((d.ps.map pcPV).filter fun _ => true).map (fun q => match q with | .int i => .str (mkS (rowT h (treeOf ns h i.toNat))) | q => q) := by
        rw [List.filter_eq_self.mpr (fun _ _ => rfl), List.map_map, List.map_map]
        refine List.map_congr_left fun p _ => ?_
        cases p <;> simp [pcPV]
      rw [e2]
      refine Ev.comp (p := .list (d.ps.map pcPV)) (fun _ => true) _ (CompSide.of ["nodes"] (by decide) rfl (fun y hy => ?_) rfl) ?_ rfl ?_ (fun q hq => .inl ⟨rfl, rfl⟩) ?_
      · rw [List.mem_singleton] at hy; subst hy; exact ⟨_, rfl⟩
      · exact ev_nd (Ev.name rfl) (Ev.name rfl) Ev.int hk wf.len rfl
      · rw [List.length_map]; exact Nat.le_trans (wf.few d hm) (by show 100 ≤ 2 ^ 24; decide)
      · intro q hq _
        obtain ⟨p, hp, rfl⟩ := List.mem_map.mp hq
        cases p with
        | inl k' =>
          refine Ev.ifexp (c := true) (Tt.bool (Ev.bi (by decide) rfl KeepOk.builtin (Evs.cons (Ev.name rfl) (Evs.cons (Ev.biv (by decide) rfl) Evs.nil)) Cl.isiI)) (fun _ => ?_) nofun
          exact Ev.fn (j := 13) (by decide) (Evs.cons (Ev.name rfl) (Evs.cons (Ev.name rfl) Evs.nil)) (ih k' hp)
        | inr x =>
          refine Ev.ifexp (c := false) (Tt.bool (Ev.bi (by decide) rfl KeepOk.builtin (Evs.cons (Ev.name rfl) (Evs.cons (Ev.biv (by decide) rfl) Evs.nil)) Cl.isiS)) nofun (fun _ => ?_)
          exact Ev.name rfl
    · refine Ex.stop_ret (Ex1.ret ?_)
      have e3 : rowT (h + 1) (treeOf ns (h + 1) k) = [38, 91] ++ escT d.e (insT (rowT h) (d.ps.map (Sum.map (treeOf ns h) id))) ++ [38, 93] := by
        show [38, 91] ++ escT (treeOf ns (h + 1) k).1 (insT (rowT h) (treeOf ns (h + 1) k).2) ++ [38, 93] = _
        rw [show treeOf ns (h + 1) k = (d.e, d.ps.map (Sum.map (treeOf ns h) id)) by unfold treeOf; rw [hk]]
      obtain ⟨j, nm, hj, hnm, hf⟩ := esc_name (g := g) (wf.esc d hm) hl
      have hcl : Cl g n (gv g nm) [.str (mkS (insT (rowT h) (d.ps.map (Sum.map (treeOf ns h) id))))] (.str (mkS (escT d.e (insT (rowT h) (d.ps.map (Sum.map (treeOf ns h) id)))))) := by
        obtain ⟨a, o, pm, cd, doc, e, _⟩ := g.fn j nm hj
        exact (hf.room hn) _ (by unfold gv; rw [e]; rfl)
      rw [e3, ← mkS_app, ← mkS_app]
      have hlen : (escT d.e (insT (rowT h) (d.ps.map (Sum.map (treeOf ns h) id)))).length ≤ 2100000 := Nat.le_trans (esc_len _ _) (by omega)
      have hsz : 2200000 ≤ sizeLine := by show 2200000 ≤ 2 ^ 24; decide
      refine Ev.bin (Ev.bin Ev.str ?_ (Op2.addS ?_)) Ev.str (Op2.addS ?_)
      · refine Ev.call (f := gv g nm) ?_ (.fn hj) (Evs.cons (Ev.name rfl) Evs.nil) hcl
        refine Ev.atL (l := [.val (gv g "_escape_cdata"), .val (gv g "_escape_attrib"), .val (gv g "_escape_attrib_html"), .val (gv g "_escape_cdata_c14n"), .val (gv g "_escape_attrib_c14n")]) (Ev.list (Evs.cons (Ev.fnv (j := 5) (by decide)) (Evs.cons (Ev.fnv (j := 6) (by decide)) (Evs.cons (Ev.fnv (j := 7) (by decide)) (Evs.cons (Ev.fnv (j := 8) (by decide)) (Evs.cons (Ev.fnv (j := 9) (by decide)) Evs.nil))))) ?_) (ev_nd (Ev.name rfl) (Ev.name rfl) Ev.int hk wf.len rfl) ?_ ?_
        · exact line_ok rfl
        · exact map_at (f := fun nm => PV.val (gv g nm)) hnm
        · show 5 ≤ 2 ^ 40; decide
      · rw [mkS_len]; show 2 + _ ≤ _; omega
      · rw [len_app, mkS_len]; show 2 + _ + 2 ≤ _; omega
theorem fn_row {ns : List Nd} (wf : Wf ns) (hL : ∀ (h k : Nat) (d : Nd), ns[k]? = some d → d.dep + h = 3 → (insT (rowT h) (d.ps.map (Sum.map (treeOf ns h) id))).length ≤ 350000) :
    ∀ (h k : Nat) (d : Nd), ns[k]? = some d → d.dep + h = 3 → Fn g (h + 2) "_law_row" [ndsPV ns, .int k] (.str (mkS (rowT (h + 1) (treeOf ns (h + 1) k)))) := by
  intro h
  induction h with
  | zero =>
    intro k d hk hd
    refine row_step wf hk (by omega) (hL 0 k d hk hd) fun k' hp => ?_
    obtain ⟨d', h1, h2⟩ := wf.kid d (List.mem_of_getElem? hk) k' hp
    have := wf.dep d' (List.mem_of_getElem? h1)
    omega
  | succ h ih =>
    intro k d hk hd
    refine row_step wf hk (by omega) (hL (h + 1) k d hk hd) fun k' hp => ?_
    obtain ⟨d', h1, h2⟩ := wf.kid d (List.mem_of_getElem? hk) k' hp
    exact ih k' d' h1 (by omega)
end
end Mine
namespace Mine
open PySem PySem.W PyProof.Rows PySem.Calls
set_option Elab.async false
set_option maxRecDepth 100000
set_option linter.unusedVariables false
theorem lookup_mem {β : Type} {x : Str} {b : β} : ∀ {l : List (Str × β)}, l.lookup x = some b → (x, b) ∈ l
  | [], h => by cases h
  | (y, c) :: r, h => by
    rw [List.lookup_cons] at h
    by_cases q : x = y
    · subst q; simp at h; subst h; exact .head _
    · have : (x == y) = false := by simpa using q
      rw [this] at h
      exact .tail _ (lookup_mem h)
theorem cell_uniq {sc : Scope} {names : List Str} {ps : List PV} {x : Str} (hl : ps.length = names.length) (h : ∀ q ∈ sc.names, q.2 = .cell → q.1 ∈ names ∨ q.1 = x) : ∀ y, args0 sc names ps y = some .empty → y = x := fun y e => by
  unfold args0 at e
  split at e
  · cases e
  · rename_i hn
    split at e
    · rename_i hc
      rcases h _ (lookup_mem hc) rfl with q | q
      · have := zip_some hl q; rw [hn] at this; cases this
      · exact q
    · cases e
theorem mulOk_amp (n : Nat) (h : n ≤ 100) : MulOk (Str.ofString "amp;") (n : Int) := by
  unfold MulOk
  have hl : (Str.ofString "amp;").length = 4 := rfl
  refine ⟨?_, fun h1 h2 => ?_, fun h1 h2 => ?_⟩
  · simp; omega
  · rw [hl]
    have : (2 ^ 63 - 1 : Int) / (n : Int) ≥ 4 := by
      refine (Int.le_ediv_iff_mul_le (by omega)).mpr (by omega)
    omega
  · rw [hl, Int.toNat_natCast]
    simp only [Builtin.Str.tooLong]
    have : ¬ 4 * n > sizeLine := by have : 400 ≤ sizeLine := by { show 400 ≤ 2 ^ 24; decide }
                                    omega
    simpa using this
section
variable {g : Gx} {n : Nat} {sc : Scope} {Γ : VEnv}
theorem Ev.amps {a b : Expr} {pos : Pos} {d : Nat} (ha : Ev g n sc Γ a (.str (Str.ofString "amp;"))) (hb : Ev g n sc Γ b (.int d)) (hd : d ≤ 100) : Ev g n sc Γ (.BinOp a .Mult b pos) (.str (mkS (reps d))) := by
  have e : mkS (reps d) = Txt.mul (Str.ofString "amp;") (d : Int) := (mul_list [97, 109, 112, 59] d).symm
  rw [e]
  exact Ev.bin ha hb (Op2.mulS (mulOk_amp d hd))
theorem reps_len (d : Nat) : (reps d).length = 4 * d := by
  unfold reps
  induction d with
  | zero => rfl
  | succ k ih => rw [List.replicate_succ, List.flatten_cons, List.length_append, ih]; simp; omega
def tabsPV : PV := .list [dPV (dst 0), dPV (dst 1), dPV (dst 2), dPV (dst 3), dPV (dst 4)]
def dueI {h : Nat} (f : Tr h → Tx) (ch : List (List (Nat × Tx))) : Tr h ⊕ Tx → Tx := Sum.elim f fun x => x.flatMap fun c => spellT ch [c]
theorem pc_len {x : Tx} (h : x ∈ pieces) : x.length ≤ 4 := by
  have : ∀ x ∈ pieces, x.length ≤ 4 := by decide
  exact this x h
theorem dst_len6 (e : Nat) : ∀ p ∈ dst e, p.2.length ≤ 6 := by unfold dst; split <;> decide
theorem items_str (x : Tx) : itemsOf (.str (mkS x)) = some (x.map fun c => PV.str ⟨#[c]⟩) := by
  show some ((mkS x).cps.toList.map _) = _
  rw [mkS_cps]
theorem flat_le {α : Type} {f : α → Tx} {a : α} : ∀ {l : List α}, a ∈ l → (f a).length ≤ (l.flatMap f).length
  | [], h => by cases h
  | b :: r, h => by
    rw [List.flatMap_cons, List.length_append]
    cases h with
    | head => omega
    | tail _ h => have := flat_le (f := f) h; omega
theorem due_step {ns : List Nd} (wf : Wf ns) {h k : Nat} {d : Nd} {es : List Nat} (hk : ns[k]? = some d) (hn : 1 ≤ n) (hes : es.length ≤ 5) (hl : (dueT (h + 1) (es.map dst) (treeOf ns (h + 1) k)).length ≤ 2200000)
    (ih : ∀ k' : Nat, .inl k' ∈ d.ps → Fn g n "_law_due" [ndsPV ns, .int k', tabsPV, .list (((d.e :: es).map dst).map dPV)] (.str (mkS (dueT h ((d.e :: es).map dst) (treeOf ns h k'))))) :
    Fn g (n + 1) "_law_due" [ndsPV ns, .int k, tabsPV, .list ((es.map dst).map dPV)] (.str (mkS (dueT (h + 1) (es.map dst) (treeOf ns (h + 1) k)))) := by
  have hm : d ∈ ns := List.mem_of_getElem? hk
  have e3 : dueT (h + 1) (es.map dst) (treeOf ns (h + 1) k) = opM es.length ++ (d.ps.map (Sum.map (treeOf ns h) id)).flatMap (dueI (dueT h ((d.e :: es).map dst)) ((d.e :: es).map dst)) ++ clM es.length := by
    show opM (es.map dst).length ++ (treeOf ns (h + 1) k).2.flatMap _ ++ clM (es.map dst).length = _
    rw [show treeOf ns (h + 1) k = (d.e, d.ps.map (Sum.map (treeOf ns h) id)) by unfold treeOf; rw [hk], List.length_map]
    rfl
  rw [e3] at hl ⊢
  generalize hits : d.ps.map (Sum.map (treeOf ns h) id) = its at hl ⊢
  generalize hch : (d.e :: es).map dst = ch at hl ih ⊢
  have hcl : ch.length ≤ 100 := by rw [← hch, List.length_map, List.length_cons]; omega
  have hc6 : ∀ st ∈ ch, ∀ p ∈ st, p.2.length ≤ 6 := by
    rw [← hch]; intro st hst
    obtain ⟨e, _, rfl⟩ := List.mem_map.mp hst
    exact dst_len6 e
  have hpre : ∀ i, ((its.take i).flatMap (dueI (dueT h ch) ch)).length ≤ 2200000 := fun i => by
    have : its.flatMap (dueI (dueT h ch) ch) = (its.take i).flatMap (dueI (dueT h ch) ch) ++ (its.drop i).flatMap (dueI (dueT h ch) ch) := by rw [← List.flatMap_append, List.take_append_drop]
    rw [this] at hl
    simp only [List.length_append] at hl
    omega
  have hsz : 2300000 ≤ sizeLine := by show 2300000 ≤ 2 ^ 24; decide
  refine Fn.of (j := 14) ["nodes", "k", "tables", "above"] (by decide) rfl (fun pm cd doc vs hl => ?_) (by decide) rfl rfl rfl ?_
  · match vs, hl with
    | [a, b, c, d], _ => rfl
  · conv => arg 5; whnf
    refine Ex.cons (Ex1.assignC (p := .list (ch.map dPV)) ?_ rfl (cell_uniq rfl (by decide))) ?_
    · rw [← hch, List.map_cons, List.map_cons]
      refine Ev.bin (Ev.list (Evs.cons (Ev.atL (l := [dPV (dst 0), dPV (dst 1), dPV (dst 2), dPV (dst 3), dPV (dst 4)]) (c := dPV (dst d.e)) (Ev.name rfl) (ev_nd (Ev.name rfl) (Ev.name rfl) Ev.int hk wf.len rfl) ?_ ?_) Evs.nil) ?_) (Ev.name rfl) (Op2.addL ?_)
      · have := wf.esc d hm
        match d.e, this with
        | 0, _ => rfl
        | 1, _ => rfl
        | 2, _ => rfl
        | 3, _ => rfl
        | 4, _ => rfl
      · show 5 ≤ 2 ^ 40; decide
      · exact line_ok rfl
      · rw [List.length_map, List.length_map]; show 1 + _ ≤ _; omega
    refine Ex.cons (Ex1.assign (p := .str (mkS [])) Ev.str) ?_
    refine Ex.cons (Ex1.forAll (fun i => upd (upd (args0 (stScope (stm 14)) ["nodes", "k", "tables", "above"] [ndsPV ns, .int k, tabsPV, .list ((es.map dst).map dPV)]) "chain" (.val (.list (ch.map dPV)))) "line" (.val (.str (mkS ((its.take i).flatMap (dueI (dueT h ch) ch)))))) (ev_nd (Ev.name rfl) (Ev.name rfl) Ev.int hk wf.len rfl) rfl (fun _ _ e => e) (fun i q hq => ?_)) (Ex.stop_ret (Ex1.ret ?_))
    · rw [List.getElem?_map] at hq
      obtain ⟨p, hp, rfl⟩ := Option.map_eq_some_iff.mp hq
      have hpm : p ∈ d.ps := List.mem_of_getElem? hp
      have hit : its[i]? = some (Sum.map (treeOf ns h) id p) := by rw [← hits, List.getElem?_map, hp]; rfl
      have hnext : (its.take (i + 1)).flatMap (dueI (dueT h ch) ch) = (its.take i).flatMap (dueI (dueT h ch) ch) ++ dueI (dueT h ch) ch (Sum.map (treeOf ns h) id p) := by
        rw [List.take_add_one, hit, List.flatMap_append]; simp
      have hb := hpre (i + 1)
      rw [hnext] at hb
      rw [hnext, ← mkS_app]
      rw [List.length_append] at hb
      refine Ex.weak (Ex.cons (Ex1.assign (Ev.bin (Ev.name rfl) (b := .str (mkS (dueI (dueT h ch) ch (Sum.map (treeOf ns h) id p)))) ?_ (Op2.addS ?_))) Ex.nil) ?_
      · cases p with
        | inl k' =>
          refine Ev.ifexp (c := true) (Tt.bool (Ev.bi (by decide) rfl KeepOk.builtin (Evs.cons (Ev.name rfl) (Evs.cons (Ev.biv (by decide) rfl) Evs.nil)) Cl.isiI)) (fun _ => ?_) nofun
          exact Ev.fn (j := 14) (by decide) (Evs.cons (Ev.name rfl) (Evs.cons (Ev.name rfl) (Evs.cons (Ev.name rfl) (Evs.cons (Ev.name rfl) Evs.nil)))) (ih k' hpm)
        | inr x =>
          have hx4 := pc_len (wf.txt d hm x hpm)
          refine Ev.ifexp (c := false) (Tt.bool (Ev.bi (by decide) rfl KeepOk.builtin (Evs.cons (Ev.name rfl) (Evs.cons (Ev.biv (by decide) rfl) Evs.nil)) Cl.isiS)) nofun (fun _ => ?_)
          have e1 : dueI (dueT h ch) ch (Sum.map (treeOf ns h) id (.inr x)) = (x.map fun c => spellT ch [c]).flatten := by
            show x.flatMap _ = _
            rw [List.flatMap_def]
          rw [e1] at hb ⊢
          refine Ev.join Ev.str ?_ (by omega)
          have e2 : (x.map fun c => spellT ch [c]).map (fun t => PV.str (mkS t)) = ((x.map fun c => PV.str ⟨#[c]⟩).filter fun _ => true).map (fun q => match q with | .str y => .str (mkS (spellT ch y.cps.toList)) | q => q) := by
            rw [List.filter_eq_self.mpr (fun _ _ => rfl), List.map_map, List.map_map]; rfl
          rw [e2]
          refine Ev.comp (p := .str (mkS x)) (ps := x.map fun c => PV.str ⟨#[c]⟩) (fun _ => true) _ (CompSide.of ["chain"] (by decide) rfl (fun y hy => ?_) rfl) (Ev.name rfl) (items_str x) ?_ (fun q hq => .inl ⟨rfl, rfl⟩) ?_
          · rw [List.mem_singleton] at hy; subst hy; exact ⟨_, rfl⟩
          · rw [List.length_map]; omega
          · intro q hq _
            obtain ⟨c, hc, rfl⟩ := List.mem_map.mp hq
            exact Ev.fn (j := 12) (by decide) (Evs.cons (Ev.name rfl) (Evs.cons (Ev.name rfl) Evs.nil)) ((fn_spell (code := [c]) hcl (by simp) hc6).room hn)
      · rw [mkS_len, mkS_len]; omega
      · intro y sl e
        unfold upd at e ⊢
        by_cases h1 : y = "line"
        · rw [if_pos h1] at e ⊢; exact e
        · rw [if_neg h1] at e ⊢
          by_cases h3 : y = "piece"
          · subst h3; exact absurd e (by rw [if_neg (by decide), show args0 (stScope (stm 14)) ["nodes", "k", "tables", "above"] [ndsPV ns, .int k, tabsPV, .list ((es.map dst).map dPV)] "piece" = none from rfl]; exact nofun)
          · rw [if_neg h3, if_neg h1]; exact e
    · rw [show ((d.ps.map pcPV).length) = its.length by rw [← hits, List.length_map, List.length_map], List.take_length]
      have hrl : reps es.length = reps (es.map dst |>.map dPV).length := by rw [List.length_map, List.length_map]
      have ee : mkS (opM es.length ++ its.flatMap (dueI (dueT h ch) ch) ++ clM es.length) = Str.ofString "&" ++ mkS (reps es.length) ++ Str.ofString "[" ++ mkS (its.flatMap (dueI (dueT h ch) ch)) ++ Str.ofString "&" ++ mkS (reps es.length) ++ Str.ofString "]" := by
        show _ = mkS [38] ++ mkS (reps es.length) ++ mkS [91] ++ mkS (its.flatMap (dueI (dueT h ch) ch)) ++ mkS [38] ++ mkS (reps es.length) ++ mkS [93]
        simp only [mkS_app]
        congr 1
        simp [opM, clM]
      rw [ee]
      have hb := hpre its.length
      rw [List.take_length] at hb
      have hr := reps_len es.length
      have hlen : ∀ {n : Nat} {p q r : Pos} , Ev g n (stScope (stm 14)) (upd (upd (args0 (stScope (stm 14)) ["nodes", "k", "tables", "above"] [ndsPV ns, .int k, tabsPV, .list ((es.map dst).map dPV)]) "chain" (.val (.list (ch.map dPV)))) "line" (.val (.str (mkS (its.flatMap (dueI (dueT h ch) ch)))))) (.Call (.Name "len" p) [.Name "above" q] [] r) (.int es.length) := fun {n p q r} => by
        have := Ev.bi (g := g) (n := n) (sc := stScope (stm 14)) (np := p) (pos := r) (Γ := upd (upd (args0 (stScope (stm 14)) ["nodes", "k", "tables", "above"] [ndsPV ns, .int k, tabsPV, .list ((es.map dst).map dPV)]) "chain" (.val (.list (ch.map dPV)))) "line" (.val (.str (mkS (its.flatMap (dueI (dueT h ch) ch)))))) (x := "len") (by decide) rfl KeepOk.builtin (Evs.cons (e := .Name "above" q) (Ev.name rfl) Evs.nil) (Cl.lenL (l := (es.map dst).map dPV) (by rw [List.length_map, List.length_map]; omega))
        rw [List.length_map, List.length_map] at this
        exact this
      refine Ev.bin (Ev.bin (Ev.bin (Ev.bin (Ev.bin (Ev.bin Ev.str (Ev.amps Ev.str hlen (by omega)) (Op2.addS ?_)) Ev.str (Op2.addS ?_)) (Ev.name rfl) (Op2.addS ?_)) Ev.str (Op2.addS ?_)) (Ev.amps Ev.str hlen (by omega)) (Op2.addS ?_)) Ev.str (Op2.addS ?_)
      all_goals
        simp only [len_app, mkS_len, show (Str.ofString "&").length = 1 from rfl, show (Str.ofString "[").length = 1 from rfl, show (Str.ofString "]").length = 1 from rfl]
        omega
theorem fn_due {ns : List Nd} (wf : Wf ns) :
    ∀ (h k : Nat) (d : Nd) (es : List Nat), ns[k]? = some d → d.dep + h = 3 → es.length + h ≤ 5 → (dueT (h + 1) (es.map dst) (treeOf ns (h + 1) k)).length ≤ 2200000 → Fn g (h + 2) "_law_due" [ndsPV ns, .int k, tabsPV, .list ((es.map dst).map dPV)] (.str (mkS (dueT (h + 1) (es.map dst) (treeOf ns (h + 1) k)))) := by
  intro h
  induction h with
  | zero =>
    intro k d es hk hd he hl
    refine due_step wf hk (by omega) (by omega) hl fun k' hp => ?_
    obtain ⟨d', h1, h2⟩ := wf.kid d (List.mem_of_getElem? hk) k' hp
    have := wf.dep d' (List.mem_of_getElem? h1)
    omega
  | succ h ih =>
    intro k d es hk hd he hl
    refine due_step wf hk (by omega) (by omega) hl fun k' hp => ?_
    obtain ⟨d', h1, h2⟩ := wf.kid d (List.mem_of_getElem? hk) k' hp
    refine ih k' d' (d.e :: es) h1 (by omega) (by rw [List.length_cons]; omega) (Nat.le_trans ?_ hl)
    have e3 : dueT (h + 1 + 1) (es.map dst) (treeOf ns (h + 1 + 1) k) = opM es.length ++ (d.ps.map (Sum.map (treeOf ns (h + 1)) id)).flatMap (dueI (dueT (h + 1) ((d.e :: es).map dst)) ((d.e :: es).map dst)) ++ clM es.length := by
      show opM (es.map dst).length ++ (treeOf ns (h + 1 + 1) k).2.flatMap _ ++ clM (es.map dst).length = _
      rw [show treeOf ns (h + 1 + 1) k = (d.e, d.ps.map (Sum.map (treeOf ns (h + 1)) id)) by conv => lhs; unfold treeOf; rw [hk], List.length_map]
      rfl
    rw [e3, List.length_append, List.length_append]
    have : ((dueI (dueT (h + 1) ((d.e :: es).map dst)) ((d.e :: es).map dst)) (.inl (treeOf ns (h + 1) k'))).length ≤ ((d.ps.map (Sum.map (treeOf ns (h + 1)) id)).flatMap (dueI (dueT (h + 1) ((d.e :: es).map dst)) ((d.e :: es).map dst))).length :=
      flat_le (List.mem_map.mpr ⟨_, hp, rfl⟩)
    have e4 : ((dueI (dueT (h + 1) ((d.e :: es).map dst)) ((d.e :: es).map dst)) (.inl (treeOf ns (h + 1) k'))) = dueT (h + 1) ((d.e :: es).map dst) (treeOf ns (h + 1) k') := rfl
    rw [e4] at this
    omega
end
end Mine
namespace Mine
open PySem PySem.W PyProof.Rows PySem.Calls
set_option Elab.async false
set_option maxRecDepth 100000
set_option linter.unusedVariables false
section
variable {g : Gx} {n : Nat} {sc : Scope} {Γ : VEnv}
theorem Cl.range1 {b : Int} : Cl g n (.type "range") [.int b] (.range 0 b) := .mk fun A s σ vs Q E R S r ht k => by
  obtain ⟨v, r1, rfl, h1, h2⟩ := r.cons_inv
  obtain rfl := h2.nil_inv
  obtain ⟨t, rfl⟩ := h1.int_inv
  exact call_range_1 (k _ _ _ _ (S.push _) (rep_range ⟨_, _, _, add_self _ _ _⟩))
theorem Cl.range2 {a b : Int} : Cl g n (.type "range") [.int a, .int b] (.range a b) := .mk fun A s σ vs Q E R S r ht k => by
  obtain ⟨v, r1, rfl, h1, h2⟩ := r.cons_inv
  obtain ⟨v2, r2, rfl, h3, h4⟩ := h2.cons_inv
  obtain rfl := h4.nil_inv
  obtain ⟨t, rfl⟩ := h1.int_inv
  obtain ⟨u, rfl⟩ := h3.int_inv
  exact call_range_2 (k _ _ _ _ (S.push _) (rep_range ⟨_, _, _, add_self _ _ _⟩))
theorem wk {Γ Γ' : VEnv} (ys : List Str) (h : ∀ y ∈ ys, ∀ sl, Γ' y = some sl → Γ y = some sl) (h2 : ∀ y, y ∉ ys → Γ' y = Γ y) : ∀ y sl, Γ' y = some sl → Γ y = some sl := fun y sl e => by
  by_cases q : y ∈ ys
  · exact h y q sl e
  · rw [← h2 y q]; exact e
theorem strL_snoc (A : List Tx) (b : Tx) : strL (A ++ [b]) = strL A ++ [.str (mkS b)] := by unfold strL; rw [List.map_append]; rfl
theorem kids_len {α : Type} (its : List (α ⊕ Tx)) : (kidsOf its).length ≤ its.length := List.length_filterMap_le _ _
theorem txs_len {α : Type} (its : List (α ⊕ Tx)) (h4 : ∀ x, .inr x ∈ its → x.length ≤ 4) : (txs its).1.length ≤ its.length ∧ (txs its).2.length ≤ 4 * its.length := by
  have key : ∀ (its : List (α ⊕ Tx)) (p : List Tx × Tx), (∀ x, .inr x ∈ its → x.length ≤ 4) → (its.foldl txStep p).1.length ≤ p.1.length + its.length ∧ (its.foldl txStep p).2.length ≤ p.2.length + 4 * its.length := by
    intro its
    induction its with
    | nil => intro p _; simp
    | cons a r ih =>
      intro p h
      have := ih (txStep p a) fun x hx => h x (.tail _ hx)
      rw [List.foldl_cons, List.length_cons]
      cases a with
      | inl b =>
        have e1 : (txStep p (.inl b : α ⊕ Tx)).1.length = p.1.length + 1 := by simp [txStep]
        have e2 : (txStep p (.inl b : α ⊕ Tx)).2.length = 0 := by simp [txStep]
        omega
      | inr x =>
        have h4 := h x (.head _)
        have e1 : (txStep p (.inr x : α ⊕ Tx)).1.length = p.1.length := by simp [txStep]
        have e2 : (txStep p (.inr x : α ⊕ Tx)).2.length = p.2.length + x.length := by simp [txStep]
        omega
  have := key its ([], []) h4
  simpa [txs] using this
theorem tree_step {ns : List Nd} (wf : Wf ns) {h k : Nat} {d : Nd} (hk : ns[k]? = some d)
    (ih : ∀ k' : Nat, .inl k' ∈ d.ps → Fn g n "_law_tree" [ndsPV ns, .int k'] (treeP h (treeOf ns h k'))) :
    Fn g (n + 1) "_law_tree" [ndsPV ns, .int k] (treeP (h + 1) (treeOf ns (h + 1) k)) := by
  have hm : d ∈ ns := List.mem_of_getElem? hk
  have e3 : treeP (h + 1) (treeOf ns (h + 1) k) = .list [.list (strL ((txs (d.ps.map (Sum.map (treeOf ns h) id))).1 ++ [(txs (d.ps.map (Sum.map (treeOf ns h) id))).2])), .list ((kidsOf (d.ps.map (Sum.map (treeOf ns h) id))).map (treeP h))] := by
    rw [show treeOf ns (h + 1) k = (d.e, d.ps.map (Sum.map (treeOf ns h) id)) by unfold treeOf; rw [hk]]
    rfl
  rw [e3]
  have hfew := wf.few d hm
  have hil : (d.ps.map (Sum.map (treeOf ns h) id)).length ≤ 100 := by rw [List.length_map]; exact hfew
  generalize hits : d.ps.map (Sum.map (treeOf ns h) id) = its at hil ⊢
  have hsz : 2300000 ≤ sizeLine := by show 2300000 ≤ 2 ^ 24; decide
  refine Fn.of (j := 15) ["nodes", "k"] (by decide) rfl (fun pm cd doc vs hl => ?_) (by decide) rfl rfl rfl ?_
  · match vs, hl with
    | [a, b], _ => rfl
  · conv => arg 5; whnf
    refine Ex.cons (Ex1.own2 (ps := [.str (mkS [])]) (qs := []) (Evs.cons Ev.str Evs.nil) Evs.nil (by show 1 ≤ _; omega) (by show 0 ≤ _; omega) rfl rfl (by decide) ?_) ?_
    · intro env hs
      unfold swappedStores Env.blockKind Env.kindOf
      rw [hs]
      rfl
    refine Ex.cons (Ex1.forAll (fun i => upd (upd (args0 (stScope (stm 15)) ["nodes", "k"] [ndsPV ns, .int k]) "kids" (.own ((kidsOf (its.take i)).map (treeP h)))) "texts" (SL.own (strL (txs (its.take i)).1 ++ [PV.str (mkS (txs (its.take i)).2)]))) (ev_nd (Ev.name rfl) (Ev.name rfl) Ev.int hk wf.len rfl) rfl (fun _ _ e => e) (fun i q hq => ?_)) ?_
    · rw [List.getElem?_map] at hq
      obtain ⟨p, hp, rfl⟩ := Option.map_eq_some_iff.mp hq
      have hpm : p ∈ d.ps := List.mem_of_getElem? hp
      have hit : its[i]? = some (Sum.map (treeOf ns h) id p) := by rw [← hits, List.getElem?_map, hp]; rfl
      have hk1 : kidsOf (its.take (i + 1)) = kidsOf (its.take i) ++ kidsOf [Sum.map (treeOf ns h) id p] := by
        unfold kidsOf; rw [List.take_add_one, hit, List.filterMap_append]; rfl
      have ht1 : txs (its.take (i + 1)) = txStep (txs (its.take i)) (Sum.map (treeOf ns h) id p) := by
        unfold txs; rw [List.take_add_one, hit, List.foldl_append]; rfl
      have hx4 : ∀ x, .inr x ∈ its.take i → x.length ≤ 4 := fun x hx => by
        have := List.mem_of_mem_take hx
        rw [← hits] at this
        obtain ⟨q, hq, e⟩ := List.mem_map.mp this
        cases q with
        | inl _ => cases e
        | inr y => cases e; exact pc_len (wf.txt d hm _ hq)
      rw [hk1, ht1]
      cases p with
      | inl k' =>
        refine Ex.weak (Ex.cons (Ex1.ite (c := true) (Tt.bool (Ev.bi (by decide) rfl KeepOk.builtin (Evs.cons (Ev.name rfl) (Evs.cons (Ev.biv (by decide) rfl) Evs.nil)) Cl.isiI)) (fun _ => Ex.cons (Ex1.append (x := "kids") rfl (Ev.fn (j := 15) (by decide) (Evs.cons (Ev.name rfl) (Evs.cons (Ev.name rfl) Evs.nil)) (ih k' hpm)) ?_) (Ex.cons (Ex1.append (x := "texts") rfl Ev.str ?_) Ex.nil)) nofun) Ex.nil) ?_
        · rw [List.length_map]
          have := kids_len (its.take i)
          rw [List.length_take] at this; omega
        · rw [List.length_append, strL, List.length_map]
          have := (txs_len (its.take i) hx4).1
          rw [List.length_take] at this; show _ + 1 ≤ _; omega
        · refine wk ["texts", "kids", "piece"] (fun y hy sl e => ?_) (fun y hy => ?_)
          · simp only [List.mem_cons, List.not_mem_nil, or_false] at hy
            rcases hy with rfl | rfl | rfl
            · rw [← e]
              show some _ = some _
              show _ = some (SL.own (strL ((txs (its.take i)).1 ++ [(txs (its.take i)).2]) ++ [PV.str (mkS [])]))
              rw [strL_snoc]; rfl
            · rw [← e]
              show some (SL.own _) = some (SL.own _)
              rw [List.map_append]; rfl
            · cases e
          · simp only [List.mem_cons, List.not_mem_nil, or_false, not_or] at hy
            simp only [upd, if_neg hy.1, if_neg hy.2.1, if_neg hy.2.2]
      | inr x =>
        refine Ex.weak (Ex.cons (Ex1.ite (c := false) (Tt.bool (Ev.bi (by decide) rfl KeepOk.builtin (Evs.cons (Ev.name rfl) (Evs.cons (Ev.biv (by decide) rfl) Evs.nil)) Cl.isiS)) nofun (fun _ => Ex.cons (Ex1.setLast (x := "texts") rfl (Ev.bin (Ev.ownLast rfl (Ev.neg Ev.int) ?_) (Ev.name rfl) (Op2.addS ?_)) (Ev.neg Ev.int)) Ex.nil)) Ex.nil) ?_
        · rw [strL, List.length_map]
          have := (txs_len (its.take i) hx4).1
          rw [List.length_take] at this; omega
        · rw [mkS_len, mkS_len]
          have h1 := (txs_len (its.take i) hx4).2
          have h2 := pc_len (wf.txt d hm x hpm)
          rw [List.length_take] at h1; omega
        · refine wk ["texts", "kids", "piece"] (fun y hy sl e => ?_) (fun y hy => ?_)
          · simp only [List.mem_cons, List.not_mem_nil, or_false] at hy
            rcases hy with rfl | rfl | rfl
            · rw [← e]
              show some _ = some (SL.own (strL (txs (its.take i)).1 ++ [PV.str (mkS ((txs (its.take i)).2 ++ x))]))
              rw [← mkS_app]
            · rw [← e]
              show some (SL.own _) = some (SL.own _)
              rw [List.map_append]
              simp [kidsOf]
            · cases e
          · simp only [List.mem_cons, List.not_mem_nil, or_false, not_or] at hy
            simp only [upd, if_neg hy.1, if_neg hy.2.1, if_neg hy.2.2]
    · rw [show ((d.ps.map pcPV).length) = its.length by rw [← hits, List.length_map, List.length_map], List.take_length]
      refine Ex.thaw (x := "texts") rfl (Ex.thaw (x := "kids") rfl ?_)
      rw [strL_snoc]
      exact Ex.stop_ret (Ex1.ret (Ev.list (Evs.cons (Ev.name rfl) (Evs.cons (Ev.name rfl) Evs.nil)) (by show 2 ≤ _; omega)))
theorem fn_tree {ns : List Nd} (wf : Wf ns) : ∀ (h k : Nat) (d : Nd), ns[k]? = some d → d.dep + h = 3 → Fn g (h + 1) "_law_tree" [ndsPV ns, .int k] (treeP (h + 1) (treeOf ns (h + 1) k)) := by
  intro h
  induction h with
  | zero =>
    intro k d hk hd
    refine tree_step wf hk fun k' hp => ?_
    obtain ⟨d', h1, h2⟩ := wf.kid d (List.mem_of_getElem? hk) k' hp
    have := wf.dep d' (List.mem_of_getElem? h1)
    omega
  | succ h ih =>
    intro k d hk hd
    refine tree_step wf hk fun k' hp => ?_
    obtain ⟨d', h1, h2⟩ := wf.kid d (List.mem_of_getElem? hk) k' hp
    exact ih k' d' h1 (by omega)
end
end Mine
namespace Mine
open PySem PySem.W PyProof.Rows PySem.Calls
set_option Elab.async false
set_option maxRecDepth 100000
set_option linter.unusedVariables false
def rdTab : List (Tx × Tx) := [([97, 109, 112], [38]), ([108, 116], [60]), ([103, 116], [62]), ([113, 117, 111, 116], [34]), ([35, 49, 51], [13]), ([35, 120, 68], [13]), ([35, 48, 57], [9]), ([35, 120, 57], [9])]
def rdPV : List (Str × Str) := rdTab.map fun p => (mkS p.1, mkS p.2)
/-- one reading: a reads as b -/
def Rd (a b : Tx) : Prop := ∃ (p0 : Tx) (ps : List (Tx × Tx × Tx)), splitL 38 a = p0 :: ps.map (fun q => q.1 ++ 59 :: q.2.2) ∧ (∀ q ∈ ps, 59 ∉ q.1 ∧ rdTab.lookup q.1 = some q.2.1) ∧ b = p0 ++ ps.flatMap (fun q => q.2.1 ++ q.2.2)
theorem rd_ne : rdPV ≠ [] := by intro h; have := congrArg List.length h; cases this
theorem rd_15 : rdPV.length ≤ 15 := by show 8 ≤ 15; omega
theorem rd_nd : (rdPV.map (·.1)).Nodup := by decide +kernel
theorem rd_look {x y : Tx} : ∀ {l : List (Tx × Tx)}, l.lookup x = some y → (l.map fun p => (mkS p.1, mkS p.2)).lookup (mkS x) = some (mkS y)
  | [], h => by cases h
  | (a, b) :: r, h => by
    rw [List.map_cons, List.lookup_cons]
    rw [List.lookup_cons] at h
    by_cases q : x = a
    · subst q
      simp at h ⊢
      rw [h]
    · have h1 : (x == a) = false := by simpa using q
      have h2 : (mkS x == mkS a) = false := by rw [beq_eq_false_iff_ne]; exact fun e => q (mkS_inj e)
      rw [h1] at h
      simp only [h2]
      exact rd_look h
theorem splitL_len (c : Nat) : ∀ l : Tx, (splitL c l).length ≤ l.length + 1
  | [] => by simp [splitL]
  | d :: r => by
    have ih := splitL_len c r
    unfold splitL
    split
    · rw [List.length_cons, List.length_cons]; omega
    · split
      · simp
      · rename_i p ps e
        rw [e, List.length_cons] at ih
        rw [List.length_cons, List.length_cons]; omega
theorem splitL_mem (c : Nat) : ∀ (l t : Tx), t ∈ splitL c l → t.length ≤ l.length
  | [], t, h => by simp [splitL] at h; subst h; simp
  | d :: r, t, h => by
    unfold splitL at h
    split at h
    · cases h with
      | head => simp
      | tail _ h => have := splitL_mem c r t h; rw [List.length_cons]; omega
    · split at h
      · rename_i e; exact absurd e (splitL_ne c r)
      · rename_i p ps e
        cases h with
        | head => have := splitL_mem c r p (by rw [e]; exact .head _); rw [List.length_cons, List.length_cons]; omega
        | tail _ h => have := splitL_mem c r t (by rw [e]; exact .tail _ h); rw [List.length_cons]; omega
theorem part_eq {a b : Tx} (h : 59 ∉ a) : (Txt.partition (mkS (a ++ 59 :: b)) (mkS [59])).1 = mkS a ∧ (Txt.partition (mkS (a ++ 59 :: b)) (mkS [59])).2.2 = mkS b := by
  have := partition_sign (mkS (a ++ 59 :: b)) 59
  rw [mkS_cps] at this
  have key : ∀ a : Tx, 59 ∉ a → (a ++ 59 :: b).takeWhile (· != 59) = a ∧ (a ++ 59 :: b).dropWhile (· != 59) = 59 :: b := by
    intro a
    induction a with
    | nil => intro _; simp
    | cons c r ih =>
      intro h
      rw [List.mem_cons, not_or] at h
      have h1 : (c != 59) = true := by simpa using Ne.symm h.1
      rw [List.cons_append, List.takeWhile_cons, List.dropWhile_cons, h1]
      obtain ⟨i1, i2⟩ := ih h.2
      exact ⟨by simp [i1], by simp [i2]⟩
  obtain ⟨k1, k2⟩ := key a h
  rw [k1, k2] at this
  exact ⟨str_ext (by rw [this.1, mkS_cps]), str_ext (by rw [this.2, mkS_cps]; rfl)⟩
def rdOut : PV → PV
  | .str y => .tup [.str (Txt.partition y (mkS [59])).1, .str (Txt.partition y (mkS [59])).2.1, .str (Txt.partition y (mkS [59])).2.2]
  | q => q
def rdCat : PV → PV
  | .tup [.str a, _, .str c] => .str ((rdPV.lookup a).getD (mkS []) ++ c)
  | q => q
theorem read_body0 : ∃ xp ks vs q pos l, stBody (stm 20) = .Assign [.Name "names" xp] (.Dict ks vs q) pos :: (stBody (stm 20)).tail ∧ DictEs ks vs l ∧ l = rdPV := by
  refine ⟨_, _, _, _, _, ?l, rfl, ?_, ?_⟩
  rotate_left
  · exact (.cons (.cons (.cons (.cons (.cons (.cons (.cons (.cons .nil))))))))
  · kernel_rfl
theorem read_body : ∃ xp ks vs q pos, stBody (stm 20) = .Assign [.Name "names" xp] (.Dict ks vs q) pos :: (stBody (stm 20)).tail ∧ DictEs ks vs rdPV := by
  obtain ⟨xp, ks, vs, q, pos, l, h1, h2, rfl⟩ := read_body0
  exact ⟨xp, ks, vs, q, pos, h1, h2⟩
section
variable {g : Gx} {n : Nat}
theorem swap_dict {ks : List (Option Expr)} {vs : List Expr} {p : Pos} {t : Option Expr} {l : Nat} {env : Env} : swapsWith (.Dict ks vs p) t l env = pure false := rfl
theorem assign_dict {sc : Scope} {Γ : VEnv} {x : Str} {xp pos : Pos} {ks : List (Option Expr)} {vs : List Expr} {q : Pos} {p : PV} (h : Ev g n sc Γ (.Dict ks vs q) p) (hx : Γ x = some .empty) (huniq : ∀ y, Γ y = some .empty → y = x) : Ex1 g n sc Γ (.Assign [.Name x xp] (.Dict ks vs q) pos) (.next (upd Γ x (.val p))) := Ex1.assignC h hx huniq
theorem dict_as {sc : Scope} {Γ : VEnv} {ks : List (Option Expr)} {vs : List Expr} {pos : Pos} {l l' : List (Str × Str)} (h : DictEs ks vs l) (q : l = l') (hne : l' ≠ []) (h15 : l'.length ≤ 15) (hnd : (l'.map (·.1)).Nodup) : Ev g n sc Γ (.Dict ks vs pos) (.dict l') := by
  subst q; exact Ev.dict h hne h15 hnd
theorem split_pv (a : Tx) (c : Nat) : (Txt.split (mkS a) (mkS [c])).map PV.str = (splitL c a).map fun t => PV.str (mkS t) := by
  have h := split_one (mkS a) c
  rw [mkS_cps] at h
  rw [← h, List.map_map]
  refine List.map_congr_left fun x _ => ?_
  show PV.str x = PV.str (mkS x.cps.toList)
  rw [mkS_of]
theorem Ev.split {sc : Scope} {Γ : VEnv} {o : Expr} {apos pos sp : Pos} {j : Nat} {a : Tx} {c : Nat} {cs : Str} (h : Ev g n sc Γ o (.str (mkS a))) (hc : cs = mkS [c]) (hl : a.length ≤ 2200000)
    (hab : ∀ env, attributeBase o "split" env (eval o env) = eval o env := by intro _; rfl) (hln : (apos.endLine == pos.line) = true := by rfl) :
    Ev g n sc Γ (.Call (.Attribute o "split" apos) [.Constant (.str cs) j sp] [] pos) (.list ((splitL c a).map fun t => PV.str (mkS t))) := by
  have hsz : 2300000 ≤ sizeLine := by show 2300000 ≤ 2 ^ 24; decide
  rw [← split_pv, ← hc]
  refine Ev.meth h KindOf.str F.plainAttrs_str F.slot_str_split (by kernel_rfl) (Evs.cons Ev.str Evs.nil) (Cl.split (by rw [hc, mkS_len]; rfl) (by rw [mkS_len]; omega) ?_) hab hln
  rw [length_partsBetween]
  have := StrLaws.occ_length_le (mkS a) cs 0 (mkS a).length ((mkS a).length + 1)
  rw [mkS_len] at this ⊢
  omega
theorem Ev.cutTail {sc : Scope} {Γ : VEnv} {value e : Expr} {p pos : Pos} {x : PV} {l : List PV} (h1 : Ev g n sc Γ value (.list (x :: l))) (he : Ev g n sc Γ e (.int 1)) (hsz : l.length + 1 ≤ sizeLine) : Ev g n sc Γ (.Subscript value (.Slice (some e) .none .none p) pos) (.list l) := by
  have := Ev.cutL (p := p) (pos := pos) h1 (EvO.yes he) EvO.no (by rw [List.length_cons]; exact hsz)
  have e : pySl (x :: l) (some 1) Option.none = l := by
    unfold pySl clp
    show ((x :: l).take (x :: l).length).drop (max 0 (min (if (1 : Int) < 0 then 1 + ((x :: l).length : Int) else 1) ((x :: l).length : Int))).toNat = l
    rw [List.take_length, if_neg (by decide), List.length_cons]
    have : (max 0 (min (1 : Int) ((l.length + 1 : Nat) : Int))).toNat = 1 := by omega
    rw [this]; rfl
  rw [e] at this
  exact this
theorem items_range (k : Nat) (h : k ≤ 1000000000) : itemsOf (.range 0 k) = some ((List.range k).map fun i : Nat => PV.int (0 + (i : Int))) := by
  simp only [itemsOf]
  rw [if_pos ⟨by omega, by omega, by omega⟩, Int.sub_zero, Int.toNat_natCast]
theorem fn_read {T : Nat → Tx} {k : Nat} (hk : k ≤ 100) (hT : ∀ i, i ≤ k → (T i).length ≤ 2200000) (hR : ∀ i, i < k → Rd (T i) (T (i + 1))) : Fn g 1 "_law_read" [.str (mkS (T 0)), .int k] (.str (mkS (T k))) := by
  have hsz : 2300000 ≤ sizeLine := by show 2300000 ≤ 2 ^ 24; decide
  refine Fn.of (j := 20) ["text", "times"] (by decide) rfl (fun pm cd doc vs hl => ?_) (by decide) rfl rfl rfl ?_
  · match vs, hl with
    | [a, b], _ => rfl
  · have hu : ∀ y, args0 (stScope (stm 20)) ["text", "times"] [.str (mkS (T 0)), .int k] y = some .empty → y = "names" := cell_uniq rfl (by decide)
    have h00 : args0 (stScope (stm 20)) ["text", "times"] [.str (mkS (T 0)), .int k] "names" = some .empty := rfl
    obtain ⟨xp, ks, vs, q, pos, hb, hD⟩ := read_body
    rw [hb]
    refine Ex.cons (assign_dict (dict_as hD rfl rd_ne rd_15 rd_nd) h00 hu) ?_
    conv => arg 5; whnf
    refine Ex.cons (Ex1.forAll (ps := (List.range k).map fun i : Nat => PV.int (0 + (i : Int))) (fun i => upd (upd (args0 (stScope (stm 20)) ["text", "times"] [.str (mkS (T 0)), .int k]) "names" (.val (.dict rdPV))) "text" (.val (.str (mkS (T i))))) (Ev.bi (by decide) rfl KeepOk.type (Evs.cons (Ev.name rfl) Evs.nil) Cl.range1) ?_ (upd_same rfl) (fun i q hq => ?_)) (Ex.stop_ret (Ex1.ret ?_))
    · exact items_range k (by omega)
    · have hik : i < k := by
        have := (List.getElem?_eq_some_iff.mp hq).1
        rwa [List.length_map, List.length_range] at this
      obtain ⟨p0, ps, e1, e2, e3⟩ := hR i hik
      have hl0 := hT i (by omega)
      have hl1 := hT (i + 1) (by omega)
      have hpl : ps.length ≤ 2200001 := by
        have := splitL_len 38 (T i)
        rw [e1, List.length_cons, List.length_map] at this; omega
      refine Ex.weak (Ex.cons (Ex1.comp (p := .list ((ps.map fun q => q.1 ++ 59 :: q.2.2).map fun t => PV.str (mkS t))) (fun _ => true) rdOut (CompSide.of [] (by decide) rfl (fun y hy => by cases hy) rfl) ?_ rfl ?_ (fun q hq => .inl ⟨rfl, rfl⟩) ?_ rfl ?_) (Ex.cons (Ex1.assign (p := .str (mkS (T (i + 1)))) ?_) Ex.nil)) ?_
      · refine Ev.cutTail (x := PV.str (mkS p0)) ?_ Ev.int ?_
        · rw [show (PV.str (mkS p0) :: ((ps.map fun q => q.1 ++ 59 :: q.2.2).map fun t => PV.str (mkS t))) = (splitL 38 (T i)).map (fun t => PV.str (mkS t)) by rw [e1]; rfl]
          exact Ev.split (Ev.name rfl) rfl hl0
        · rw [List.length_map, List.length_map]; omega
      · rw [List.length_map, List.length_map]; omega
      · intro q hq _
        obtain ⟨t, ht, rfl⟩ := List.mem_map.mp hq
        have htl : t.length ≤ 2200000 := by
          have := splitL_mem 38 (T i) t (by rw [e1]; exact .tail _ ht)
          omega
        exact Ev.meth (po := .str (mkS t)) (Ev.name rfl) KindOf.str F.plainAttrs_str F.slot_str_partition (by kernel_rfl) (Evs.cons Ev.str Evs.nil) (Cl.partition rfl (by rw [mkS_len]; omega))
      · intro env hs
        unfold swapsWith Env.blockKind Env.kindOf
        rw [hs]
        rfl
      · have hpt : ∀ q ∈ ps, (Txt.partition (mkS (q.1 ++ 59 :: q.2.2)) (mkS [59])).1 = mkS q.1 ∧ (Txt.partition (mkS (q.1 ++ 59 :: q.2.2)) (mkS [59])).2.2 = mkS q.2.2 := fun q hq => part_eq (e2 q hq).1
        have ef : T (i + 1) = p0 ++ (ps.map fun q => q.2.1 ++ q.2.2).flatten := by rw [e3, List.flatMap_def]
        rw [ef] at hl1
        rw [List.length_append] at hl1
        rw [ef, ← mkS_app]
        refine Ev.bin (Ev.atL (l := (splitL 38 (T i)).map fun t => PV.str (mkS t)) (i := 0) (Ev.split (Ev.name rfl) rfl hl0) Ev.int (by rw [e1]; rfl) ?_) (Ev.join Ev.str ?_ (by omega)) (Op2.addS (by rw [mkS_len, mkS_len]; omega))
        · have := splitL_len 38 (T i)
          rw [List.length_map]; omega
        · have hpm : ∀ z ∈ (((ps.map fun q => q.1 ++ 59 :: q.2.2).map fun t => PV.str (mkS t)).filter fun _ => true).map rdOut, ∃ q ∈ ps, ∃ m, z = .tup [.str (mkS q.1), m, .str (mkS q.2.2)] := by
            intro z hz
            rw [List.filter_eq_self.mpr (fun _ _ => rfl), List.map_map, List.map_map] at hz
            obtain ⟨q, hq, rfl⟩ := List.mem_map.mp hz
            refine ⟨q, hq, .str (Txt.partition (mkS (q.1 ++ 59 :: q.2.2)) (mkS [59])).2.1, ?_⟩
            show PV.tup [.str (Txt.partition (mkS (q.1 ++ 59 :: q.2.2)) (mkS [59])).1, _, .str (Txt.partition (mkS (q.1 ++ 59 :: q.2.2)) (mkS [59])).2.2] = _
            rw [(hpt q hq).1, (hpt q hq).2]
          have hpe : (ps.map fun q => q.2.1 ++ q.2.2).map (fun t => PV.str (mkS t)) = (((((ps.map fun q => q.1 ++ 59 :: q.2.2).map fun t => PV.str (mkS t)).filter fun _ => true).map rdOut).filter fun _ => true).map rdCat := by
            rw [List.filter_eq_self.mpr (fun _ _ => rfl), List.filter_eq_self.mpr (fun _ _ => rfl), List.map_map, List.map_map, List.map_map, List.map_map]
            refine List.map_congr_left fun q hq => ?_
            show PV.str (mkS (q.2.1 ++ q.2.2)) = PV.str ((rdPV.lookup (Txt.partition (mkS (q.1 ++ 59 :: q.2.2)) (mkS [59])).1).getD (mkS []) ++ (Txt.partition (mkS (q.1 ++ 59 :: q.2.2)) (mkS [59])).2.2)
            rw [(hpt q hq).1, (hpt q hq).2, show rdPV.lookup (mkS q.1) = some (mkS q.2.1) from rd_look (e2 q hq).2]
            show _ = PV.str (mkS q.2.1 ++ mkS q.2.2)
            rw [mkS_app]
          rw [hpe]
          refine Ev.comp (fun _ => true) rdCat (CompSide.of ["names"] (by decide) rfl (fun y hy => ?_) rfl) (Ev.name rfl) rfl ?_ (fun q hq => .inl ⟨rfl, rfl⟩) ?_
          · rw [List.mem_singleton] at hy; subst hy; exact ⟨_, rfl⟩
          · rw [List.length_map, List.filter_eq_self.mpr (fun _ _ => rfl), List.length_map, List.length_map]; omega
          · intro z hz _
            obtain ⟨q, hq, m, rfl⟩ := hpm z hz
            have hlk : rdPV.lookup (mkS q.1) = some (mkS q.2.1) := rd_look (e2 q hq).2
            have hz2 : rdCat (.tup [.str (mkS q.1), m, .str (mkS q.2.2)]) = .str (mkS q.2.1 ++ mkS q.2.2) := by
              show PV.str ((rdPV.lookup (mkS q.1)).getD (mkS []) ++ mkS q.2.2) = _
              rw [hlk]; rfl
            rw [hz2]
            refine Ev.bin (Ev.sub (T := "dict") (a := .dict rdPV) (b := .str (mkS q.1)) (Ev.name rfl) (Ev.atT (i := 0) (Ev.name rfl) Ev.int rfl ?_) (.inl KindOf.dict) gi_dict (Op2.itemD hlk)) (Ev.atT (i := 2) (c := .str (mkS q.2.2)) (Ev.name rfl) Ev.int rfl ?_) (Op2.addS ?_)
            · show 3 ≤ 2 ^ 40; decide
            · show 3 ≤ 2 ^ 40; decide
            · rw [mkS_len, mkS_len]
              have := flat_le (f := fun q : Tx × Tx × Tx => q.2.1 ++ q.2.2) hq
              rw [List.flatMap_def, List.length_append] at this
              omega
      · refine wk ["text", "turn", "parts"] (fun y hy sl e => ?_) (fun y hy => ?_)
        · simp only [List.mem_cons, List.not_mem_nil, or_false] at hy
          rcases hy with rfl | rfl | rfl
          · exact e
          · cases e
          · cases e
        · simp only [List.mem_cons, List.not_mem_nil, or_false, not_or] at hy
          simp only [upd, if_neg hy.1, if_neg hy.2.1, if_neg hy.2.2]
    · rw [List.length_map, List.length_range]; exact Ev.name rfl
end
end Mine
namespace Mine
open PySem PySem.W PyProof.Rows PySem.Calls
set_option Elab.async false
set_option maxRecDepth 100000
set_option linter.unusedVariables false
section
variable {g : Gx} {n : Nat}
theorem Step.take {σ σ' : PH} {h h' : Heap} {a : Addr} {o : Obj} (S : Step g σ h σ' h') (e : σ' a = none) (ht : a ∉ tabA) (ho : h'.get? a = some o) (hn : h.get? a = none) : Step g σ h (add σ' a o) h' := by
  obtain ⟨le, st⟩ := S.st.take e ht ho
  refine ⟨S.le.trans le, S.grow, st, fun b q ne => ?_⟩
  unfold add
  rw [if_neg (fun z => ne (by rw [z]; exact hn))]
  exact S.fresh b q ne

/-- what a closure bears -/
def Bears (g : Gx) (σ : PH) (sc : Scope) (clos : List (Str × Addr)) (fr : List (Str × PV)) : Prop :=
  ∀ y p, fr.lookup y = some p → sc.names.lookup y = some .free ∧ (y, NameKind.cell) ∉ sc.names ∧ ∃ c v, clos.lookup y = some c ∧ CellIs σ c v ∧ Rep g σ p v
theorem Bears.mono {σ τ : PH} {sc : Scope} {clos : List (Str × Addr)} {fr : List (Str × PV)} (k : Le σ τ) (b : Bears g σ sc clos fr) : Bears g τ sc clos fr := fun y p e => by
  obtain ⟨h1, h2, c, v, h3, h4, h5⟩ := b y p e
  exact ⟨h1, h2, c, v, h3, h4.mono k, h5.up k⟩
theorem callS {A : Around} {s : Shared} {τ : PH} {f : Addr} {d : Option Addr} {sl : Array (Option Value)} {nm qual : Str} {params : Arguments} {body : List Stmt} {sc : Scope} {clos : List (Str × Addr)} {dV doc pm cv ctv : Value} {names : List Str} {ps : List PV} {vs args : List Value} {fr : List (Str × PV)} {p : PV} {Q E : Value → Shared → Prop}
    (hf : τ f = some ⟨.type "function", d, .func (kdv_fn nm qual params (.stmts body) sc clos dV doc pm cv ctv), sl⟩) (hc : CodeP τ cv qual) (R : Room A (n + 1)) (S : St g τ s.heap) (ht : 1 ≤ s.toks)
    (hb : BindsTo s (kdv_fn nm qual params (.stmts body) sc clos dV doc pm cv ctv) ⟨args, []⟩ (names.zip vs)) (r : RepL g τ ps vs) (hlen : ps.length = names.length)
    (hkind : ∀ x ∈ names, sc.names.lookup x = some .local ∨ sc.names.lookup x = some .cell) (hco : sc.isCoroutine = false) (hgen : sc.isGenerator = false) (hk : sc.kind = .function) (hfr : Bears g τ sc clos fr)
    (h : Ex g n sc (argsC sc names ps fr) body (.ret p))
    (k : ∀ v h' tk τ', Step g τ s.heap τ' h' → Rep g τ' p v → Q v { s with heap := h', toks := tk }) : W g A (call (.ref f) args) Q E s := by
  refine wpAny_call (codeAny_call_function R.depth (S.sub _ _ hf) rfl hco hgen rfl (hc.rec' S.sub) (hb _ _ _ _ ?_))
  refine enterF (fr := fr) S (.inl ht) r hlen hkind hk hfr fun env h1 tk1 σ1 m hs hcode hq ok F htk hno => ⟨hno, codeAny_func ?_⟩
  exact h (A.deeper env) env _ s.heap.get? τ _ _ _ _ R.deeper hs ok F htk fun fl h2 t2 σ2 o2 k2 => by
    obtain ⟨v, rfl, rv, St2, le2, gr2, fr2⟩ := o2
    exact k v h2 t2 σ2 ⟨le2, gr2, St2, fr2⟩ rv
theorem callE {A : Around} {s : Shared} {τ : PH} {f : Addr} {d : Option Addr} {sl : Array (Option Value)} {nm qual : Str} {params : Arguments} {body : Expr} {sc : Scope} {clos : List (Str × Addr)} {dV doc pm cv ctv : Value} {names : List Str} {ps : List PV} {vs args : List Value} {fr : List (Str × PV)} {p : PV} {Q E : Value → Shared → Prop}
    (hf : τ f = some ⟨.type "function", d, .func (kdv_fn nm qual params (.expr body) sc clos dV doc pm cv ctv), sl⟩) (hc : CodeP τ cv qual) (R : Room A (n + 1)) (S : St g τ s.heap) (ht : 1 ≤ s.toks)
    (hb : BindsTo s (kdv_fn nm qual params (.expr body) sc clos dV doc pm cv ctv) ⟨args, []⟩ (names.zip vs)) (r : RepL g τ ps vs) (hlen : ps.length = names.length)
    (hkind : ∀ x ∈ names, sc.names.lookup x = some .local ∨ sc.names.lookup x = some .cell) (hco : sc.isCoroutine = false) (hgen : sc.isGenerator = false) (hk : sc.kind = .function) (hfr : Bears g τ sc clos fr)
    (h : Ev g n sc (argsC sc names ps fr) body p)
    (k : ∀ v h' tk τ', Step g τ s.heap τ' h' → Rep g τ' p v → Q v { s with heap := h', toks := tk }) : W g A (call (.ref f) args) Q E s := by
  refine wpAny_call (kla_callFunE R.depth (S.sub _ _ hf) rfl hco hgen rfl (hc.rec' S.sub) (hb _ _ _ _ ?_))
  refine enterF (fr := fr) S (.inl ht) r hlen hkind hk hfr fun env h1 tk1 σ1 m hs hcode hq ok F htk hno => ⟨hno, kla_codeExpr ?_⟩
  exact h (A.deeper env) env _ σ1 _ _ _ R.deeper hs ok F.st F.toVars htk fun v h2 t2 σ2 S2 r2 k2 => by
    have F2 := F.step S2
    exact k v h2 t2 σ2 ⟨F2.le, F2.grow, F2.st, F2.fresh⟩ r2

/-- x = lambda: None; x.attr = e; return x -/
theorem obj_ret {A : Around} {env : Env} {s : Shared} {κ σ₀ σ : PH} {Γ : VEnv} {m : Str → Option Value} {x attr : Str} {e : Expr} {params : Arguments} {scope : Scope} {c P : Addr} {qual : Str} {j : Nat} {p1 p2 p3 p4 p5 p6 p7 p8 p9 : Pos} {X : PH → Addr → Prop} {Q : Flow → Shared → Prop} {E : Value → Shared → Prop}
    (R : Room A n) (ok : EnvOk env) (F : Fram g κ σ₀ env Γ σ s.heap m) (ht : 1 ≤ s.toks) (hcode : env.code = .ref c) (hC : CodeHd g.h0 c P) (hq : (P, qual) ∈ tabQ) (hqual : env.qual ++ "<lambda>" = qual) (hx : env.kindOf x = some .local) (hΓ : Γ x = none)
    (hcl : closureFor scope env = pure []) (hp : defaultsOf params env = ([], [])) (hl : typeLookup (.type "function") attr = pure Option.none)
    (he : ∀ (s' : Shared) (σ' : PH) (m' : Str → Option Value) (Q' E' : Value → Shared → Prop), St g σ' s'.heap → Vars g env Γ σ' s'.heap m' → 1 ≤ s'.toks →
      (∀ f h'' tk σ'', Step g σ' s'.heap σ'' h'' → X σ'' f → Q' (.ref f) { s' with heap := h'', toks := tk }) → W g A (eval e env) Q' E' s')
    (hX : ∀ σ τ f, Le σ τ → X σ f → X τ f)
    (k : ∀ a h' tk σ', IsObj σ' a attr (X σ') → St g σ' h' → Le σ₀ σ' → (∀ b o, b ∉ tabA → κ b = some o → h'.get? b = some o) → (∀ a, σ₀ a = none → κ a ≠ none → σ' a = none) → 1 ≤ tk → Q (.ret (.ref a)) { s with heap := h', toks := tk })
    (hsw : swapsWith e (some (.Attribute (.Name x p5) attr p6)) p7.line env = pure false) (hd : (x == ("__debug__" : Str)) = false) :
    W g A (execs [.Assign [.Name x p1] (.Lambda params (.Constant .none j p2) scope p3) p4, .Assign [.Attribute (.Name x p5) attr p6] e p7, .Return (some (.Name x p8)) p9] env) Q E s := by
  refine wpAny_with_toks ht (wpAny_execs_cons (wpAny_Assign_Name (lamW hcode hC hq hqual ok.glob F.st hcl hp fun f cv ctv doc h1 t1 σ1 S1 ho1 hs1 htb1 hn1 _ => ?_) rfl))
  have F1 := F.step S1
  have hLs : s.heap.get? env.locals ≠ none := by obtain ⟨o, es, ep, e, _⟩ := F.ns; rw [e]; exact nofun
  have hfL : f ≠ env.locals := fun q => hLs (q ▸ hn1)
  refine wpAny_storeName_local hx F1.ns (fun h2 hn2 hs2 => ?_) (by rw [ok.kind]; rfl)
  have F2 := F1.store (p := .val (.ref f)) hx rep_val hn2 hs2
  have g2 := (hs2.2 f hfL).trans ho1
  refine wpAny_execs_cons (plainObj_wpAny_Assign_Attribute ?_ hsw)
  refine wpAny_with_toks (s := { s with heap := h2, toks := t1 + 1 }) (Nat.le_add_left 1 t1) (he _ σ1 _ _ _ F2.st (F2.weak fun y sl hy => ?_).toVars (Nat.le_add_left 1 t1) fun q h3 t3 σ3 S3 hXq htk3 => ?_)
  · rw [show upd Γ x (.val (.val (.ref f))) y = Γ y from if_neg (fun z => by rw [z, hΓ] at hy; cases hy)]; exact hy
  have F3 := F2.step S3
  have g3 := S3.grow f _ htb1 g2
  have s3 : σ3 f = none := S3.fresh f hs1 (by rw [g2]; exact nofun)
  refine wpAny_Name (wpAny_loadName_local ok.kind hx F3.ns (if_pos rfl) ?_) hd
  refine fset g3 rfl rfl ⟨_, rfl⟩ hl fun d h4 t4 hd4 g4 ns4 keep4 hsz4 => ?_
  have hfd : f ≠ d := fun q => by rw [← q] at hd4; rw [show h3.get? f = _ from g3] at hd4; cases hd4
  have hns4 : h4.Ns env.locals (fun y => if y = x then some (.ref f) else m y) := by
    obtain ⟨o, es, ep, e1, e2⟩ := F3.ns
    exact ⟨o, es, ep, keep4 _ _ (Ne.symm hfL) e1, e2⟩
  refine wpAny_execs_cons (wpAny_Return_some (wpAny_Name (wpAny_loadName_local ok.kind hx hns4 (if_pos rfl) ?_) hd))
  obtain ⟨od, esd, epd, hod, hdd⟩ := ns4
  have key : ∀ b o, σ3 b = some o → h4.get? b = some o := fun b o e => keep4 b o (fun z => by rw [z, s3] at e; cases e) (F3.st.sub b o e)
  have S4 : St g σ3 h4 := ⟨F3.st.base, key, fun q hq => by
    obtain ⟨ps, a1, a2, a3⟩ := F3.st.ti q hq
    exact ⟨ps, keep4 _ _ (fun z => htb1 (z ▸ tabQ_mem hq)) a1, a2, a3⟩, F3.st.off⟩
  have hdσ : σ3 d = none := sig_lt F3.st hsz4
  obtain ⟨l5, S5⟩ := S4.take s3 htb1 g4
  obtain ⟨l6, S6⟩ := S5.take (a := d) (o := od) (by unfold add; rw [if_neg (Ne.symm hfd)]; exact hdσ) (tab_lt F3.st hsz4) hod
  have hf' : FnP (add (add σ3 f _) d od) f (some d) := ⟨_, _, _, rfl, l6 _ _ (add_self _ _ _)⟩
  refine fun htk => k f h4 _ _ ⟨d, _, q, hf', ⟨od, esd, epd, add_self _ _ _, hdd⟩, if_pos rfl, hX _ _ _ (l5.trans l6) hXq⟩ S6 (F3.le.trans (l5.trans l6)) (fun b o nb e => keep4 b o (fun z => ?_) (F3.grow b o nb e)) (fun a e ne => ?_) htk
  · have := F.grow b o nb e
    rw [z, hn1] at this; cases this
  · have hh := kept_some F.grow F.st ne
    have h3' := kept_some F3.grow F3.st ne
    unfold add
    rw [if_neg (fun z => h3' (by rw [z]; exact hd4)), if_neg (fun z => hh (by rw [z]; exact hn1))]
    exact F3.fresh a e ne
theorem slot_cell {env : Env} {Γ : VEnv} {σ : PH} {h : Heap} {m : Str → Option Value} (V : Vars g env Γ σ h m) {x : Str} {p : PV} (hx : Γ x = some (.val p)) (hk : env.kindOf x = some .cell) : ∃ c v, env.cells.lookup x = some c ∧ CellIs σ c v ∧ Rep g σ p v := by
  rcases V.slot x _ hx with ⟨a, _⟩ | ⟨a, c, v, b, d, r⟩
  · rw [hk] at a; cases a
  · exact ⟨c, v, b, d, r⟩
end
end Mine
namespace Mine
open PySem PySem.W PyProof.Rows PySem.Calls
set_option Elab.async false
set_option maxRecDepth 100000
set_option linter.unusedVariables false
section
variable {g : Gx} {n : Nat}
theorem clos_nil {scope : Scope} {env : Env} (h : scope.names = []) : closureFor scope env = pure [] := by
  rw [closureFor_eq (fun x hx => by rw [h] at hx; cases hx), h]; rfl
theorem fn_hit {i j : Int} : Fn g 4 "_law_hit" [.int i, .int j] (.ohit (some (i, j))) := by
  refine Fn.ofE (j := 16) ["first", "behind"] (by decide) rfl (fun pm cd doc vs hl => ?_) (by decide) rfl rfl rfl (fun cd hcd => ?_)
  · obtain ⟨a, r, rfl⟩ := List.exists_cons_of_length_eq_add_one hl
    obtain ⟨b, r, rfl⟩ := List.exists_cons_of_length_eq_add_one (Nat.succ.inj hl)
    obtain rfl := List.length_eq_zero_iff.mp (Nat.succ.inj (Nat.succ.inj hl))
    rfl
  obtain ⟨rfl, hC⟩ := hcd 107 103 (by decide)
  conv => arg 7; whnf
  intro A env s κ σ₀ σ m Q E R hs hcode hqual ok F ht k
  have hk : ∀ x, env.kindOf x = (stScope (stm 16)).names.lookup x := fun x => by unfold Env.kindOf; rw [hs]
  have hq : env.qual ++ "<lambda>" = "_law_hit.<locals>.<lambda>" := by rw [hqual]; decide
  refine obj_ret (X := fun σ f => IsSpan g σ f i j) R ok F ht hcode hC (by decide) hq (hk "hit") rfl (clos_nil rfl) rfl fun_span (fun s' σ' m' Q' E' S' V' ht' k' => ?_) (fun σ τ f l x => x.mono l) (fun a h' tk σ' ho S' l' gr fr htk => k _ _ _ _ ⟨_, rfl, rep_hit ho, S', l', gr, fr⟩ htk) rfl rfl
  obtain ⟨c1, v1, a1, b1, r1⟩ := slot_cell V' (x := "first") (p := .int i) rfl (hk "first")
  obtain ⟨c2, v2, a2, b2, r2⟩ := slot_cell V' (x := "behind") (p := .int j) rfl (hk "behind")
  refine lamW hcode hC (by decide) hq ok.glob S' (closureFor_eq fun x hx => ?_) rfl fun f cv ctv doc h1 t1 σ1 S1 ho1 hs1 htb1 hn1 CP => ?_
  · simp only [List.mem_cons, Prod.mk.injEq, List.not_mem_nil, or_false] at hx
    rcases hx with ⟨rfl, _⟩ | ⟨rfl, _⟩
    · rw [a2]; rfl
    · rw [a1]; rfl
  have S2 := S1.take hs1 htb1 ho1 hn1
  refine k' f h1 t1 _ S2 ⟨⟨_, _, _, rfl, add_self _ _ _⟩, fun τ A' s2 Q2 E2 l2 R2 St2 ht2 k2 => ?_⟩
  have le1 := S1.st.take hs1 htb1 ho1
  refine callE (n := 2) (names := []) (ps := []) (vs := []) (fr := [("first", .int i), ("behind", .int j)]) (p := .tup [.int i, .int j]) (l2 _ _ (add_self _ _ _)) (CP.mono (le1.1.trans l2)) R2 St2 ht2 (.of_eq rfl) .nil rfl (fun x hx => nomatch hx) rfl rfl rfl (fun y p hy => ?_) ?_ (fun v h' tk τ' S3 r3 => ?_)
  · have lk := fun (z : Str) (c : Addr) (hc : env.cells.lookup z = some c) (hm : (z, NameKind.free) ∈ [((Str.ofString "behind"), NameKind.free), (Str.ofString "first", NameKind.free)]) => closOf_lookup hc _ [] (.inl hm) (.inl rfl)
    have l3 := S2.le.trans l2
    have hy' := mem_of_lookup hy
    simp only [List.mem_cons, Prod.mk.injEq, List.not_mem_nil, or_false] at hy'
    rcases hy' with ⟨rfl, rfl⟩ | ⟨rfl, rfl⟩
    · exact ⟨rfl, by decide, c1, v1, lk _ _ a1 (by decide), b1.mono l3, r1.up l3⟩
    · exact ⟨rfl, by decide, c2, v2, lk _ _ a2 (by decide), b2.mono l3, r2.up l3⟩
  · exact Ev.tup (Evs.cons (Ev.name rfl) (Evs.cons (Ev.name rfl) Evs.nil)) (Nat.le_of_ble_eq_true rfl)
  · obtain ⟨t, vs, rfl, L, rl⟩ := r3.tup_inv
    obtain ⟨u, vs, rfl, ru, rl⟩ := rl.cons_inv
    obtain ⟨w', vs, rfl, rw', rl⟩ := rl.cons_inv
    rw [rl.nil_inv] at L
    obtain ⟨t1, rfl⟩ := ru.int_inv
    obtain ⟨t2, rfl⟩ := rw'.int_inv
    exact k2 _ _ _ _ _ _ S3 L
theorem fn_prog {f : Str → Int → Option (Int × Int)} : Fn g 4 "_law_prog" [.srch f] (.prog f) := by
  refine Fn.ofE (j := 17) ["search"] (by decide) rfl (fun pm cd doc vs hl => ?_) (by decide) rfl rfl rfl (fun cd hcd => ?_)
  · obtain ⟨a, r, rfl⟩ := List.exists_cons_of_length_eq_add_one hl
    obtain rfl := List.length_eq_zero_iff.mp (Nat.succ.inj hl)
    rfl
  obtain ⟨rfl, hC⟩ := hcd 114 110 (by decide)
  conv => arg 7; whnf
  intro A env s κ σ₀ σ m Q E R hs hcode hqual ok F ht k
  have hk : ∀ x, env.kindOf x = (stScope (stm 17)).names.lookup x := fun x => by unfold Env.kindOf; rw [hs]
  have hq : env.qual ++ "<lambda>" = "_law_prog.<locals>.<lambda>" := by rw [hqual]; decide
  refine obj_ret (X := fun σ q => IsSearch g σ q f) R ok F ht hcode hC (by decide) hq (hk "prog") rfl (clos_nil rfl) rfl fun_search (fun s' σ' m' Q' E' S' V' ht' k' => ?_) (fun σ τ f l x => x.mono l) (fun a h' tk σ' ho S' l' gr fr htk => k _ _ _ _ ⟨_, rfl, rep_prog ho, S', l', gr, fr⟩ htk) rfl rfl
  refine (Ev.name (p := .srch f) rfl) A env s' σ' m' _ _ R hs ok S' V' ht' fun v h1 t1 σ1 S1 r1 k1 => ?_
  obtain ⟨q, rfl, hq'⟩ := r1.srch_inv
  exact k' q h1 t1 σ1 S1 hq'
end
end Mine
namespace Mine
open PySem PySem.W PyProof.Rows PySem.Calls
set_option Elab.async false
set_option maxRecDepth 100000
set_option linter.unusedVariables false
section
variable {g : Gx} {n : Nat} {sc : Scope} {Γ : VEnv} {code : Value} {qual : Str}
theorem ExC.ex {b : List Stmt} {o : Out} (h : Ex g n sc Γ b o) : ExC g n sc code qual Γ b o := fun A env s κ σ₀ σ m Q E R hs _ _ ok F ht k => h A env s κ σ₀ σ m Q E R hs ok F ht k
theorem ExC.cons {b : Stmt} {r : List Stmt} {Γ' : VEnv} {o : Out} (h : Ex1 g n sc Γ b (.next Γ')) (t : ExC g n sc code qual Γ' r o) : ExC g n sc code qual Γ (b :: r) o :=
  fun A env s κ σ₀ σ m Q E R hs hc hq ok F ht k => wpAny_execs_cons (h A env s κ σ₀ σ m _ _ R hs ok F ht fun f h1 t1 σ1 o1 k1 => by
    obtain ⟨rfl, m1, F1⟩ := o1
    exact t A env _ κ σ₀ σ1 m1 _ _ R hs hc hq ok F1 k1 k)
def sArgs (q1 q2 q3 : Pos) (j : Nat) : Arguments := { posonlyargs := [], args := [{ arg := "chars", annotation := none, pos := q1 }, { arg := "at", annotation := none, pos := q2 }], vararg := none, kwonlyargs := [], kw_defaults := [], kwarg := none, defaults := [.Constant (.int 0) j q3] }
theorem binds_two {s : Shared} {nm q : Str} {q1 q2 q3 : Pos} {j : Nat} {body : FuncBody} {scope : Scope} {clos : List (Str × Addr)} {T : Addr} {t : Tok} {doc pm cv ctv v w' : Value} {o : Obj} {nn : Nat} (ho : s.heap.get? T = some o) (hd : o.data = .seq #[.int 0 t] nn) :
    BindsTo s (kdv_fn nm q (sArgs q1 q2 q3 j) body scope clos (.ref T) doc pm cv ctv) ⟨[v, w'], []⟩ ((["chars", "at"] : List Str).zip [v, w']) := by
  first
    | exact .of_eq rfl
    | exact BindsTo.of_defaults rfl ho hd rfl rfl
theorem binds_one {s : Shared} {nm q : Str} {q1 q2 q3 : Pos} {j : Nat} {body : FuncBody} {scope : Scope} {clos : List (Str × Addr)} {T : Addr} {t : Tok} {doc pm cv ctv v : Value} {o : Obj} {nn : Nat} (ho : s.heap.get? T = some o) (hd : o.data = .seq #[.int 0 t] nn) :
    BindsTo s (kdv_fn nm q (sArgs q1 q2 q3 j) body scope clos (.ref T) doc pm cv ctv) ⟨[v], []⟩ ((["chars", "at"] : List Str).zip [v, .int 0 t]) :=
  BindsTo.of_defaults rfl ho hd rfl rfl
/-- def search(chars, at=0) -/
theorem ExC.defS {r : List Stmt} {o : Out} {body : List Stmt} {scope : Scope} {pos q1 q2 q3 : Pos} {j : Nat} {c P : Addr} {f : Str → Int → Option (Int × Int)} (fr : List (Str × PV)) (hcode : code = .ref c) (hC : CodeHd g.h0 c P) (hq : (P, qual ++ "search") ∈ tabQ)
    (hx : sc.names.lookup ("search" : Str) = some .local) (hfr : ∀ y p, fr.lookup y = some p → scope.names.lookup y = some .free ∧ (y, NameKind.cell) ∉ scope.names ∧ (y, NameKind.free) ∈ scope.names ∧ sc.names.lookup y = some .cell ∧ Γ y = some (.val p))
    (hcl : ∀ y, (y, NameKind.free) ∈ scope.names → (fr.lookup y).isSome = true) (hkind : ∀ x ∈ (["chars", "at"] : List Str), scope.names.lookup x = some .local ∨ scope.names.lookup x = some .cell) (hco : scope.isCoroutine = false) (hgen : scope.isGenerator = false) (hk : scope.kind = .function)
    (hbody : ∀ (x : Str) (i : Int), Ex g 11 scope (argsC scope ["chars", "at"] [.str x, .int i] fr) body (.ret (.ohit (f x i))))
    (t : Ex g n sc (upd Γ "search" (.val (.srch f))) r o) :
    ExC g n sc code qual Γ (.FunctionDef "search" (sArgs q1 q2 q3 j) body [] none [] scope none "search" pos :: r) o :=
  fun A env s κ σ₀ σ m Q E R hs hc hqn ok F ht k => by
  have hks : env.kindOf "search" = some .local := by unfold Env.kindOf; rw [hs]; exact hx
  have hbears : ∀ y p, fr.lookup y = some p → ∃ c v, env.cells.lookup y = some c ∧ CellIs σ c v ∧ Rep g σ p v := fun y p e => slot_cell F.toVars (hfr y p e).2.2.2.2 (by unfold Env.kindOf; rw [hs]; exact (hfr y p e).2.2.2.1)
  have hqq : qualnameIn env "search" "search" = qual ++ "search" := by unfold qualnameIn; rw [hks, hqn]; rfl
  refine wpAny_execs_cons (wpAny_with_toks ht (kdv_def rfl rfl rfl (kdv_all1 (wpAny_Constant_int (kdv_all0 ?_)))))
  rw [hqq, makeFunction_eq]
  simp only [List.zip_nil_right, List.filterMap_nil, List.isEmpty_nil, if_true, pure_bind, List.isEmpty_cons, Bool.false_eq_true, if_false]
  refine wpAny_bind (wpAny_newTextTuple ?_)
  have S1 := F.st.push { cls := .type "tuple", data := .seq [Value.int 0 s.toks].toArray }
  refine mkW (hc.trans hcode) hC hq ok.glob S1.st (closureFor_eq fun y hy => ?_) fun q cv ctv doc h2 t2 σ2 S2 ho2 hs2 htb2 hn2 CP => ?_
  · obtain ⟨p, hp⟩ := Option.isSome_iff_exists.mp (hcl y hy)
    obtain ⟨c, v, a, _⟩ := hbears y p hp
    rw [a]; rfl
  have S3 := S1.trans (S2.take hs2 htb2 ho2 hn2)
  have l23 := S2.st.take hs2 htb2 ho2
  refine storeL ok (F.step S3) hks (p := .srch f) (rep_srch ⟨⟨_, _, _, rfl, add_self _ _ _⟩, fun τ A' s' Q' E' x tx rest at' l R' S' ht' hrest k' => ?_⟩) fun h4 m4 F4 htk4 => t A env _ κ σ₀ _ m4 _ _ R hs ok F4 htk4 k
  have hfo := l _ _ (add_self _ _ _)
  have hT := l _ _ (l23.1 _ _ (S2.le _ _ (add_self σ s.heap.objs.size { cls := .type "tuple", data := .seq [Value.int 0 s.toks].toArray })))
  have hB : Bears g τ scope (closOf env.cells scope.names []) fr := fun y p e => by
    obtain ⟨c, v, a1, a2, a3⟩ := hbears y p e
    have l' := S3.le.trans l
    exact ⟨(hfr y p e).1, (hfr y p e).2.1, c, v, closOf_lookup a1 _ [] (.inl (hfr y p e).2.2.1) (.inl rfl), a2.mono l', a3.up l'⟩
  have go : ∀ v u args, args = .str x tx :: rest → Rep g τ (.int at') u → BindsTo s' (kdv_fn "search" (qual ++ "search") (sArgs q1 q2 q3 j) (.stmts body) scope (closOf env.cells scope.names []) (.ref s.heap.objs.size) doc ((g.mg "__name__").getD .none) cv ctv) ⟨args, []⟩ ((["chars", "at"] : List Str).zip [.str x tx, u]) → v = () → W g A' (call (.ref q) args) Q' E' s' := fun v u args ha hu hb _ =>
    callS (n := 11) hfo (CP.mono (l23.1.trans l)) R' S' ht' hb (.cons rep_str (.cons hu .nil)) rfl hkind hco hgen hk hB (hbody x at') fun v h5 t5 τ5 S5 r5 => k' v h5 t5 τ5 S5 r5.ohit_inv
  rcases hrest with ⟨rfl, rfl⟩ | ⟨u, rfl⟩
  · exact go () _ _ rfl rep_int (binds_one (S'.sub _ _ hT) rfl) rfl
  · exact go () _ _ rfl rep_int (binds_two (S'.sub _ _ hT) rfl) rfl
end
end Mine
namespace Mine
open PySem PySem.W PyProof.Rows PySem.Calls
set_option Elab.async false
set_option maxRecDepth 100000
set_option linter.unusedVariables false
def lexLt (x y : Int × Int) : Bool := if x.1 = y.1 then decide (x.2 < y.2) else decide (x.1 < y.1)
open AutoSeq1 (wpAny_loadPart') in
theorem tuple_lt2 (l b : Addr) (x1 x2 y1 y2 : Int) (t1 t2 u1 u2 : Tok) (n n2 : Nat) (dd dd2 : Option Addr) (sl sl2 : Array (Option Value)) :
    Meets (Builtin.«tuple.__lt__» ⟨[.ref l, .ref b], []⟩)
      (fun A R s => s.heap.get? l = some { cls := .type "tuple", dict := dd, data := .seq #[.int x1 t1, .int x2 t2] n, slots := sl } ∧ s.heap.get? b = some { cls := .type "tuple", dict := dd2, data := .seq #[.int y1 u1, .int y2 u2] n2, slots := sl2 } ∧
        R (.ok (.ret (.bool (lexLt (x1, x2) (y1, y2))))) s) :=
  .of_wp fun prog w A R s h => by
    obtain ⟨hp, g, d, tk, os⟩ := s; obtain ⟨hl, hb, h⟩ := h
    have f2 := AutoSeq1.sub_tuple_tuple
    wp_walk using wpAny_loadPart' hl, wpAny_loadPart' hb, wpAny_forIn_list _ (fun rest b s' => b.1 = none ∧ s' = ⟨hp, g, d, tk, os⟩ ∧ ((rest = [(Value.int x1 t1, Value.int y1 u1), (Value.int x2 t2, Value.int y2 u2)]) ∨ (rest = [(Value.int x2 t2, Value.int y2 u2)] ∧ x1 = y1) ∨ (rest = [] ∧ x1 = y1 ∧ x2 = y2))) _
    case turn =>
      rintro ⟨y, x⟩ rest b s' ⟨hb', rfl, hr⟩
      rcases hr with hr | ⟨hr, e1⟩ | ⟨hr, _⟩
      · injection hr with h1 h2
        injection h1 with h3 h4
        subst h3 h4
        refine wpAny_bind (SeqAt.EqAt.int_int (A := A.in1) x1 t1 y1 u1 prog w _ _ ?_)
        cases hq : x1 == y1 with
        | true =>
          wp_walk
          exact ⟨rfl, rfl, .inr (.inl ⟨h2, by simpa using hq⟩)⟩
        | false =>
          have hne : ¬ x1 = y1 := by simpa using hq
          refine wpAny_bind (wpAny_rule (wpAny_bind (lt_int ?_)))
          wp_walk
          simp only [lexLt, if_neg hne] at h
          exact ⟨_, rfl, h⟩
      · injection hr with h1 h2
        injection h1 with h3 h4
        subst h3 h4
        refine wpAny_bind (SeqAt.EqAt.int_int (A := A.in1) x2 t2 y2 u2 prog w _ _ ?_)
        cases hq : x2 == y2 with
        | true =>
          wp_walk
          exact ⟨rfl, rfl, .inr (.inr ⟨h2, e1, by simpa using hq⟩)⟩
        | false =>
          have hne : ¬ x2 = y2 := by simpa using hq
          refine wpAny_bind (wpAny_rule (wpAny_bind (lt_int ?_)))
          wp_walk
          simp only [lexLt, if_pos e1] at h
          exact ⟨_, rfl, h⟩
      · cases hr
    case fin =>
      rintro ⟨b1, b2⟩ s' ⟨hb', rfl, hr⟩
      simp only at hb'
      subst hb'
      rcases hr with hr | ⟨hr, e1⟩ | ⟨hr, e1, e2⟩
      · cases hr
      · cases hr
      · wp_walk
        refine ⟨_, rfl, ?_⟩
        have : lexLt (x1, x2) (y1, y2) = false := by subst e1 e2; simp [lexLt]
        rw [this] at h
        simpa [Builtin.Tuple.tupleCompareSizes] using h
    case h =>
      exact ⟨rfl, rfl, .inl rfl⟩
section
variable {g : Gx} {n : Nat}
theorem ltT {A : Around} {s : Shared} {σ : PH} {x y : Int × Int} {u v : Value} {Q E : Value → Shared → Prop} (k : Sub σ s.heap) (hu : A.units < cLine) (rx : Rep g σ (.tup [.int x.1, .int x.2]) u) (ry : Rep g σ (.tup [.int y.1, .int y.2]) v) (h : Q (.bool (lexLt x y)) s) : W g A (richCompare .Lt u v) Q E s := by
  obtain ⟨a, us, rfl, ⟨⟨cls, dd, data, sl⟩, n1, e1, hc, hd⟩, ru⟩ := rx.tup_inv
  obtain ⟨b, vs, rfl, ⟨⟨cls2, dd2, data2, sl2⟩, n2, e2, hc2, hd2⟩, rv⟩ := ry.tup_inv
  obtain ⟨a1, us, rfl, r1, ru⟩ := ru.cons_inv
  obtain ⟨a2, us, rfl, r2, ru⟩ := ru.cons_inv
  obtain rfl := ru.nil_inv
  obtain ⟨b1, vs, rfl, q1, rv⟩ := rv.cons_inv
  obtain ⟨b2, vs, rfl, q2, rv⟩ := rv.cons_inv
  obtain rfl := rv.nil_inv
  obtain ⟨_, rfl⟩ := r1.int_inv
  obtain ⟨_, rfl⟩ := r2.int_inv
  obtain ⟨_, rfl⟩ := q1.int_inv
  obtain ⟨_, rfl⟩ := q2.int_inv
  simp only at hc hd hc2 hd2
  subst hc hd hc2 hd2
  have ho := k _ _ e1
  have ho2 := k _ _ e2
  exact richCompare_meets_room (op := .Lt) ⟨_, ho, rfl⟩ ⟨_, ho2, rfl⟩ F.slot_tuple_lt F.entry_tuple_lt (F.args_tuple_lt_2 _ _) (tuple_lt2 a b _ _ _ _ _ _ _ _ n1 n2 dd dd2 sl sl2) ⟨ho, ho2, (fun q => nomatch q), h⟩ hu
def pairP (x : Int × Int) : PV := .tup [.int x.1, .int x.2]
def least (b : Int × Int) (l : List (Int × Int)) : Int × Int := l.foldl (fun b x => if lexLt x b = true then x else b) b
/-- the heap facts that the loop keeps -/
structure MinAt (σ : PH) (I l S : Addr) (vs : List Value) (j : Nat) (vb : Array Value) (h : Heap) : Prop where
  it : h.IsListIter I l j
  ls : h.IsList l vs.toArray
  sub : Sub σ h
  sc : ∃ c, h.get? S = some { cls := .type "list", dict := none, data := .seq vb c, slots := #[] }
theorem min_loop {A : Around} {σ : PH} {I l S : Addr} {vs : List Value} {R : Result → Shared → Prop} (hA : A.handled = none) (hu : A.in1.units < cLine) (hI : σ I = none) (hS : σ S = none) (hSI : S ≠ I) (hlI : l ≠ I) (hSl : l ≠ S) :
    ∀ (ps : List (Int × Int)) (j : Nat) (s : Shared) (vb : Value) (b : Int × Int), RepL g σ (ps.map pairP) (vs.drop j) → j ≤ vs.length → MinAt σ I l S vs j #[vb, vb] s.heap → Rep g σ (pairP b) vb →
    (∀ v h' tk, Rep g σ (pairP (least b ps)) v → (∀ b o, b ≠ I → b ≠ S → s.heap.get? b = some o → h'.get? b = some o) → R (.ok (.ret v)) { s with heap := h', toks := tk }) →
    codeAny (model prog66 g.w) A (.builtin "min.loop" ⟨[.ref I, .none, .ref S], []⟩) R s := by
  have Wk := Walks.list (prog := prog66) (w := g.w) (A := A.in1) hA I l hlI vs.toArray
  have hname : (toString "min" ++ toString ".loop" : String) = "min.loop" := by decide
  have one : ∀ b ∈ [I], b = I := fun b hb => List.mem_singleton.mp hb
  intro ps
  induction ps with
  | nil =>
    intro j s vb b r hj M rb hR
    have hjn : j = vs.toArray.size := by
      have := r.length
      rw [List.length_drop, List.map_nil, List.length_nil] at this
      rw [List.size_toArray]; omega
    obtain ⟨c, hc⟩ := M.sc
    refine codeAny_builtin F.entry_min_loop ?_
    rw [Around.under_plainId F.plain_min_loop _]
    show wpAny _ A.in1 (seqItems? (.ref S) >>= _) _ _ s
    refine wpAny_bind (wpAny_seqItems hc rfl ?_)
    show wpAny _ A.in1 (tryCatch (pyNext (.ref I)) _ >>= _) _ _ s
    refine wpAny_bind (wpAny_tryCatch (Wk.done s _ _ (hjn ▸ ⟨M.it, M.ls⟩) fun h' tk hk' => ?_))
    have hS' := hk' S _ (fun q => hSI (one _ q)) hc
    show wpAny _ A.in1 (updateSeq S (fun _ => #[]) >>= _) _ _ _
    refine wpAny_bind (wpAny_updateSeq hS' rfl (wpAny_bind (wpAny_letGo (wpAny_pure ?_))))
    exact hR vb _ tk rb fun b o hbI hbS e => (Heap.get?_update_other _ _ (Ne.symm hbS)).trans (hk' b o (fun q => hbI (one _ q)) e)
  | cons p ps ih =>
    intro j s vb b r hj M rb hR
    obtain ⟨v0, r0, e0, rv0, rr⟩ := r.cons_inv
    have hlt : j < vs.toArray.size := by
      rw [List.size_toArray]
      rcases Nat.lt_or_ge j vs.length with h | h
      · exact h
      · rw [List.drop_eq_nil_of_le h] at e0; cases e0
    obtain ⟨c, hc⟩ := M.sc
    refine codeAny_builtin F.entry_min_loop ?_
    rw [Around.under_plainId F.plain_min_loop _]
    show wpAny _ A.in1 (seqItems? (.ref S) >>= _) _ _ s
    refine wpAny_bind (wpAny_seqItems hc rfl ?_)
    show wpAny _ A.in1 (tryCatch (pyNext (.ref I)) _ >>= _) _ _ s
    refine wpAny_bind (wpAny_tryCatch (Wk.item j s _ _ hlt ⟨M.it, M.ls⟩ fun v h' tk hP hst' hk' => ?_))
    have hv : v = v0 := by
      have h1 : vs[j]? = some v := by simpa using hP
      have h2 := congrArg (·[0]?) e0
      simp only [List.getElem?_drop, Nat.add_zero, h1] at h2
      simpa using h2
    subst hv
    have hr0 : r0 = vs.drop (j + 1) := by
      have := congrArg List.tail e0
      simpa [List.tail_drop] using this.symm
    rw [hr0] at rr
    have hS' := hk' S _ (fun q => hSI (one _ q)) hc
    have sub' : Sub σ h' := fun a o e => hk' a o (fun q => by rw [one _ q, hI] at e; cases e) (M.sub a o e)
    show wpAny _ A.in1 (tryCatch (holding [v, v] (richCompare .Lt v vb >>= _)) _ >>= _) _ _ _
    refine wpAny_bind (wpAny_tryCatch (wpAny_holding (wpAny_bind (ltT (g := g) (s := { s with heap := h', toks := tk }) sub' hu rv0 rb ?_))))
    refine wpAny_bind (wpAny_holding (wpAny_truthy_bool ?_))
    refine wpAny_bind (wpAny_letGo (wpAny_pure ?_))
    have hl1 : j + 1 ≤ vs.length := by rw [List.size_toArray] at hlt; exact hlt
    cases hb : lexLt p b with
    | true =>
      simp only [if_true]
      refine wpAny_bind ?_
      refine wpAny_updateSeq hS' rfl (wpAny_bind (wpAny_letGo ?_))
      rw [hname]
      have oth : ∀ a, a ≠ S → ∀ o, h'.get? a = some o → (h'.update S fun o => o.mapSeq fun _ => #[v, v]).get? a = some o := fun a ha o e => (Heap.get?_update_other _ _ (Ne.symm ha)).trans e
      refine wpAny_pure ⟨plainId_quiet F.plain_min_loop _, ih (j + 1) _ v p rr hl1 ⟨?_, ?_, fun a o e => oth a (fun q => by rw [q, hS] at e; cases e) o (sub' a o e), _, Heap.get?_update_self _ hS' rfl⟩ rv0 fun v' h'' tk'' r' hk'' => ?_⟩
      · obtain ⟨o, e1, e2⟩ := hst'.1; exact ⟨o, oth I (Ne.symm hSI) o e1, e2⟩
      · obtain ⟨o, e1, e2⟩ := hst'.2; exact ⟨o, oth l hSl o e1, e2⟩
      · refine hR v' h'' tk'' ?_ fun a o ha1 ha2 e => hk'' a o ha1 ha2 (oth a ha2 o (hk' a o (fun q => ha1 (one _ q)) e))
        unfold least; rw [List.foldl_cons, if_pos hb]; exact r'
    | false =>
      simp only [Bool.false_eq_true, if_false]
      refine wpAny_bind (wpAny_letGo ?_)
      rw [hname]
      refine wpAny_pure ⟨plainId_quiet F.plain_min_loop _, ih (j + 1) _ vb b rr hl1 ⟨hst'.1, hst'.2, sub', c, hS'⟩ rb fun v' h'' tk'' r' hk'' => ?_⟩
      refine hR v' h'' tk'' ?_ fun a o ha1 ha2 e => hk'' a o ha1 ha2 (hk' a o (fun q => ha1 (one _ q)) e)
      unfold least; rw [List.foldl_cons, if_neg (by rw [hb]; exact nofun)]; exact r'
theorem Cl.min {p : Int × Int} {ps : List (Int × Int)} (hn : 1 ≤ n) : Cl g n (.builtin "min") [.list ((p :: ps).map pairP)] (pairP (least p ps)) := .mk fun A s σ ws Q E R S r ht k => by
  obtain ⟨v1, us, rfl, r1, r⟩ := r.cons_inv; rw [r.nil_inv]
  obtain ⟨l, vs, rfl, L, rl⟩ := r1.list_inv
  have L' := L.isList S.sub
  have hlt : l < s.heap.objs.size := by obtain ⟨o, _, e, _⟩ := L; exact Heap.lt_size (S.sub _ _ e)
  have hname : (toString "min" ++ toString ".loop" : String) = "min.loop" := by decide
  refine call_function_tree F.kind_min F.plain_min F.entry_min (F.args_min1 _) ?_
  show wpAny _ A.in1 (Builtin.Builtins.bindParams "min" ["key", "default"] 0 ⟨[], []⟩ >>= _) _ _ s
  refine wpAny_bind (wpAny_of_eq (show Builtin.Builtins.bindParams "min" ["key", "default"] 0 ⟨[], []⟩ = pure [none, none] from rfl) ?_)
  refine wpAny_bind (wpAny_pure (wpAny_bind (wpAny_pyIter_list L' ?_)))
  refine wpAny_bind (wpAny_newObj_type ?_)
  rw [hname]
  obtain ⟨v0, r0, e0, rv0, rr⟩ := rl.cons_inv
  subst e0
  have hsz : (s.heap.push { cls := .type "list_iterator", data := .fields #[.ref l, .int 0 0] }).objs.size = s.heap.objs.size + 1 := Heap.size_push ..
  generalize hh1 : s.heap.push { cls := .type "list_iterator", data := .fields #[.ref l, .int 0 0] } = h1 at hsz
  have k1 : ∀ b o, s.heap.get? b = some o → h1.get? b = some o := fun b o e => by rw [← hh1]; exact Heap.get?_push_of_some _ e
  have hit : (h1.push { cls := .type "list", data := .seq #[] }).IsListIter s.heap.objs.size l 0 := by rw [← hh1]; exact ⟨_, Heap.get?_push_of_some _ (Heap.get?_push_size _ rfl), rfl, rfl⟩
  have k2 : ∀ b o, s.heap.get? b = some o → (h1.push { cls := .type "list", data := .seq #[] }).get? b = some o := fun b o e => Heap.get?_push_of_some _ (k1 b o e)
  have hS2 : (h1.push { cls := .type "list", data := .seq #[] }).get? h1.objs.size = some { cls := .type "list", data := .seq #[] } := Heap.get?_push_size _ rfl
  generalize hh2 : h1.push { cls := .type "list", data := .seq #[] } = h2 at hit k2 hS2
  have hne : h1.objs.size ≠ s.heap.objs.size := by rw [hsz]; exact Nat.succ_ne_self _
  have hl1 : l ≠ h1.objs.size := by rw [hsz]; exact Nat.ne_of_lt (Nat.lt_succ_of_lt hlt)
  have L2 : h2.IsList l (v0 :: r0).toArray := by obtain ⟨o, e1, e2⟩ := L'; exact ⟨o, k2 _ _ e1, e2⟩
  have hA : A.handled = none := R.hd
  have Wk := Walks.list (prog := prog66) (w := g.w) (A := A.in1) hA s.heap.objs.size l (Nat.ne_of_lt hlt) (v0 :: r0).toArray
  have one : ∀ b ∈ [s.heap.objs.size], b = s.heap.objs.size := fun b hb => List.mem_singleton.mp hb
  have sσ : σ h1.objs.size = none := sig_lt S (by rw [hsz]; exact Nat.le_succ _)
  refine wpAny_pure ⟨plainId_quiet F.plain_min_loop _, codeAny_builtin F.entry_min_loop ?_⟩
  rw [Around.under_plainId F.plain_min_loop _]
  show wpAny _ A.in1 (seqItems? (.ref h1.objs.size) >>= _) _ _ _
  refine wpAny_bind (wpAny_seqItems hS2 rfl ?_)
  show wpAny _ A.in1 (tryCatch (pyNext (.ref s.heap.objs.size)) _ >>= _) _ _ _
  refine wpAny_bind (wpAny_tryCatch (Wk.item 0 { s with heap := h2 } _ _ (by simp) ⟨hit, L2⟩ fun v h' tk hP hst' hk' => ?_))
  have hv : v = v0 := by simpa using hP.symm
  subst hv
  have hS' := hk' h1.objs.size _ (fun q => hne (one _ q)) hS2
  have sub' : Sub σ h' := fun a o e => hk' a o (fun q => by rw [one _ q, S.none_size] at e; cases e) (k2 a o (S.sub a o e))
  show wpAny _ A.in1 (updateSeq h1.objs.size (fun _ => #[v, v]) >>= _) _ _ _
  refine wpAny_bind (wpAny_updateSeq hS' rfl ?_)
  rw [hname]
  have oth : ∀ a, a ≠ h1.objs.size → ∀ o, h'.get? a = some o → (h'.update h1.objs.size fun o => o.mapSeq fun _ => #[v, v]).get? a = some o := fun a ha o e => (Heap.get?_update_other _ _ (Ne.symm ha)).trans e
  have hu : A.in1.units < cLine := by have := R.un; show A.units + 1 < 9900; omega
  refine wpAny_pure ⟨plainId_quiet F.plain_min_loop _, min_loop (vs := v :: r0) hA hu S.none_size sσ hne (Nat.ne_of_lt hlt) hl1 ps 1 _ v p rr (Nat.le_add_left 1 r0.length) ⟨?_, ?_, fun a o e => oth a (fun q => by rw [q, sσ] at e; cases e) o (sub' a o e), _, Heap.get?_update_self _ hS' rfl⟩ rv0 fun v' h'' tk'' r' hk'' => ?_⟩
  · obtain ⟨o, e1, e2⟩ := hst'.1; exact ⟨o, oth _ (Ne.symm hne) o e1, e2⟩
  · obtain ⟨o, e1, e2⟩ := hst'.2; exact ⟨o, oth l hl1 o e1, e2⟩
  · refine k v' h'' tk'' σ (S.grow fun b o e => ?_) r'
    have hb := Heap.lt_size e
    have hb1 : b ≠ h1.objs.size := by rw [hsz]; exact Nat.ne_of_lt (Nat.lt_succ_of_lt hb)
    exact hk'' b o (Nat.ne_of_lt hb) hb1 (oth b hb1 o (hk' b o (fun q => Nat.ne_of_lt hb (one _ q)) (k2 b o e)))
end
end Mine
namespace Mine
open PySem PySem.W PyProof.Rows PySem.Calls
set_option Elab.async false
set_option maxRecDepth 100000
set_option linter.unusedVariables false
section
variable {g : Gx} {n : Nat} {sc : Scope} {Γ : VEnv}
theorem Ev.noHit {k : Nat} {pos : Pos} : Ev g n sc Γ (.Constant .none k pos) (.ohit Option.none) :=
  .mk fun A env s σ m Q E R hs ok S V ht k => wpAny_pure (k _ s.heap s.toks σ (.refl S) (by unfold Rep; rfl))
def nx (p : Int × Int) : Int := if p.1 = p.2 then p.2 + 1 else p.2
def okH (col : Int) (p : Int × Int) : Bool := decide (p.1 < col) && decide (p.2 ≤ col)
def lastH (hs : List (Int × Int)) (col : Int) : Option (Int × Int) := (hs.takeWhile (okH col)).getLast?
/-- the hits, one behind the other -/
def Hits (f : Str → Int → Option (Int × Int)) (x : Str) (hs : List (Int × Int)) : Prop := f x 0 = hs[0]? ∧ ∀ (k : Nat) p, hs[k]? = some p → f x (nx p) = hs[k + 1]?
def prevH (hs : List (Int × Int)) : Nat → Option (Int × Int)
  | 0 => none
  | i + 1 => hs[i]?
def srG (Γ0 : VEnv) (hs : List (Int × Int)) (i : Nat) (p : Int × Int) : VEnv := upd (upd (upd (upd Γ0 "m" (.val (.ohit (some p)))) "found" (.val (.ohit (prevH hs i)))) "i" (.val (.int p.1))) "j" (.val (.int p.2))
theorem taken {hs : List (Int × Int)} {col : Int} : ∀ {i : Nat}, i < (hs.takeWhile (okH col)).length → ∃ p, hs[i]? = some p ∧ okH col p = true := fun {i} h => by
  have e := List.getElem?_eq_getElem h
  have hm : okH col (hs.takeWhile (okH col))[i] = true := by
    have := List.all_takeWhile (p := okH col) (l := hs)
    rw [List.all_eq_true] at this
    exact this _ (List.mem_of_getElem? e)
  have hp := (List.takeWhile_prefix (l := hs) (okH col))
  obtain ⟨r, hr⟩ := hp
  refine ⟨_, ?_, hm⟩
  have : hs[i]? = ((hs.takeWhile (okH col)) ++ r)[i]? := by rw [hr]
  rw [this, List.getElem?_append_left h, e]
theorem taken_end {hs : List (Int × Int)} {col : Int} {p : Int × Int} (h : hs[(hs.takeWhile (okH col)).length]? = some p) : okH col p = false := by
  induction hs with
  | nil => simp at h
  | cons a r ih =>
    by_cases q : okH col a = true
    · rw [List.takeWhile_cons_of_pos q] at h
      exact ih (by simpa using h)
    · rw [List.takeWhile_cons_of_neg q] at h
      simp at h; subst h; simpa using q
theorem last_prev {hs : List (Int × Int)} {col : Int} : lastH hs col = prevH hs (hs.takeWhile (okH col)).length := by
  unfold lastH
  generalize hT : hs.takeWhile (okH col) = T
  rw [List.getLast?_eq_getElem?]
  obtain ⟨r, hr⟩ := (List.takeWhile_prefix (l := hs) (okH col))
  rw [hT] at hr
  cases hk : T.length with
  | zero => show T[0 - 1]? = none; rw [List.getElem?_eq_none_iff]; omega
  | succ k => show T[k + 1 - 1]? = hs[k]?; rw [← hr, List.getElem?_append_left (by omega)]; rfl
theorem Tt.okH {a b c d : Expr} {p q r : Pos} {x : Int × Int} {col : Int} (h1 : Ev g n sc Γ a (.int x.1)) (h2 : Ev g n sc Γ b (.int col)) (h3 : Ev g n sc Γ c (.int x.2)) (h4 : Ev g n sc Γ d (.int col)) (hm : behindInMarks .Lt b = false := by rfl) (hm2 : behindInMarks .LtE d = false := by rfl) :
    Tt g n sc Γ (.BoolOp .And [.Compare a [.Lt] [b] p, .Compare c [.LtE] [d] q] r) (okH col x) := Tt.and (Tt.cmp h1 h2 Op2.ltI hm) fun _ => Tt.cmp h3 h4 Op2.leI hm2
theorem fn_search {f : Str → Int → Option (Int × Int)} {x : Str} {col : Int} {hs : List (Int × Int)} (H : Hits f x hs) : Fn g 14 "search_reverse" [.prog f, .str x, .int col] (.ohit (lastH hs col)) := by
  refine Fn.of (j := 1) ["prog", "chars", "col"] (by decide) rfl (fun pm cd doc vs hl => ?_) (by decide) rfl rfl rfl ?_
  · obtain ⟨a, r, rfl⟩ := List.exists_cons_of_length_eq_add_one hl
    obtain ⟨b, r, rfl⟩ := List.exists_cons_of_length_eq_add_one (Nat.succ.inj hl)
    obtain ⟨c, r, rfl⟩ := List.exists_cons_of_length_eq_add_one (Nat.succ.inj (Nat.succ.inj hl))
    obtain rfl := List.length_eq_zero_iff.mp (Nat.succ.inj (Nat.succ.inj (Nat.succ.inj hl)))
    rfl
  · conv => arg 5; whnf
    refine Ex.cons (Ex1.assign (Ev.search1 (f := f) (x := x) (Ev.name rfl) (Ev.name rfl) (by decide))) ?_
    rw [H.1]
    cases hs with
    | nil => exact Ex.stop_ret (Ex1.ite (c := true) (Tt.not (Tt.hit (Ev.name (p := .ohit none) rfl))) (fun _ => Ex.stop_ret (Ex1.ret Ev.noHit)) nofun)
    | cons p0 hs' =>
      generalize hhs : p0 :: hs' = hs at H
      have h00 : hs[0]? = some p0 := by rw [← hhs]; rfl
      rw [h00]
      refine Ex.cons (Ex1.ite (c := false) (Tt.not (Tt.hit (Ev.name (p := .ohit (some p0)) rfl))) nofun (fun _ => Ex.nil)) ?_
      refine Ex.cons (Ex1.assign Ev.noHit) ?_
      refine Ex.cons (Ex1.assignAs (Ev.span (i := p0.1) (j := p0.2) (Ev.name rfl) (by decide)) As.pair) ?_
      generalize hΓ : args0 (stScope (stm 1)) ["prog", "chars", "col"] [.prog f, .str x, .int col] = Γ0
      have v1 : Γ0 "prog" = some (.val (.prog f)) := by rw [← hΓ]; rfl
      have v2 : Γ0 "chars" = some (.val (.str x)) := by rw [← hΓ]; rfl
      have v3 : Γ0 "col" = some (.val (.int col)) := by rw [← hΓ]; rfl
      have test : ∀ i p, hs[i]? = some p → ∀ {a b c d e f' h' : Pos}, Tt g 13 (stScope (stm 1)) (srG Γ0 hs i p) (.BoolOp .And [.Compare (.Name "i" a) [.Lt] [.Name "col" b] c, .Compare (.Name "j" d) [.LtE] [.Name "col" e] f'] h') (okH col p) := fun i p hp _ _ _ _ _ _ _ =>
        Tt.okH (Ev.name rfl) (Ev.name v3) (Ev.name rfl) (Ev.name v3)
      have hG : ∀ i p, hs[i]? = some p → srG Γ0 hs i (hs[i]?.getD (0, 0)) = srG Γ0 hs i p := fun i p hp => by rw [hp]; rfl
      have mid : ∀ i p, hs[i]? = some p → ∀ {R : List Stmt} {o : Out} {a1 a2 a3 a4 a5 a6 a7 a8 a9 b1 b2 b3 b4 b5 b6 b7 b8 b9 c1 : Pos} {k1 : Nat}, (b5.endLine == b8.line) = true → Ex g 13 (stScope (stm 1)) (upd (upd (upd (srG Γ0 hs i p) "found" (.val (.ohit (some p)))) "j" (.val (.int (nx p)))) "m" (.val (.ohit hs[i + 1]?))) R o →
          Ex g 13 (stScope (stm 1)) (srG Γ0 hs i (hs[i]?.getD (0, 0))) (.Assign [.Name "found" a1] (.Name "m" a2) a3 :: .If (.Compare (.Name "i" a4) [.Eq] [.Name "j" a5] a6) [.Assign [.Name "j" a7] (.BinOp (.Name "j" a8) .Add (.Constant (.int 1) k1 a9) b1) b2] [] b3 ::
            .Assign [.Name "m" b4] (.Call (.Attribute (.Name "prog" b9) "search" b5) [.Name "chars" b6, .Name "j" b7] [] b8) c1 :: R) o := fun i p hp _ _ _ _ _ _ _ _ _ _ _ _ _ _ _ _ _ _ _ _ _ _ hln hR => by
        rw [hG i p hp]
        refine Ex.cons (Ex1.assign (Ev.name (p := .ohit (some p)) rfl)) (Ex.cons (Ex1.ite (o := .next (upd (upd (srG Γ0 hs i p) "found" (.val (.ohit (some p)))) "j" (.val (.int (nx p))))) (c := (p.1 == p.2)) (Tt.cmp (Ev.name rfl) (Ev.name rfl) Op2.eqI) (fun h => ?_) (fun h => ?_)) (Ex.cons (Ex1.assign (p := .ohit hs[i + 1]?) ?_) hR))
        · rw [show nx p = p.2 + 1 from if_pos (by simpa using h)]
          exact Ex.cons (Ex1.assign (Ev.bin (Ev.name rfl) Ev.int Op2.addI)) Ex.nil
        · refine Ex.weak Ex.nil (upd_same ?_)
          rw [show nx p = p.2 from if_neg (by simpa using h)]; rfl
        · rw [← H.2 i p hp]
          exact Ev.search2 (Ev.name v1) (Ev.name v2) (Ev.name rfl) (by decide) (fun _ => rfl) hln
      have full : ∀ i, i + 1 < hs.length → i < (hs.takeWhile (okH col)).length → ∃ p p', hs[i]? = some p ∧ hs[i + 1]? = some p' ∧ okH col p = true := fun i h1 h2 => by
        obtain ⟨p, e1, e2⟩ := taken h2
        exact ⟨p, _, e1, List.getElem?_eq_getElem h1, e2⟩
      have hT : (hs.takeWhile (okH col)).length ≤ hs.length := (List.takeWhile_prefix (l := hs) (okH col)).length_le
      have hpos : 0 < hs.length := by rw [← hhs]; exact Nat.succ_pos _
      refine Ex.cons (Ex1.while (Γf := fun y => if y = "found" then some (.val (.ohit (lastH hs col))) else none) (min (hs.takeWhile (okH col)).length (hs.length - 1)) (fun i => srG Γ0 hs i (hs[i]?.getD (0, 0))) ?_ (fun i hi => ?_) ?_) (Ex.stop_ret (Ex1.ret (Ev.name rfl)))
      · rw [hG 0 p0 h00]; exact fun _ _ e => e
      · obtain ⟨p, p', e1, e2, e3⟩ := full i (by omega) (by omega)
        refine ⟨?_, mid i p e1 rfl ?_⟩
        · rw [hG i p e1, ← e3]; exact test i p e1
        · rw [e2]
          refine Ex.weak (Ex.cons (Ex1.ite (c := false) (Tt.not (Tt.hit (Ev.name (p := .ohit (some p')) rfl))) nofun (fun _ => Ex.nil)) (Ex.cons (Ex1.assignAs (Ev.span (i := p'.1) (j := p'.2) (Ev.name rfl) (by decide)) As.pair) Ex.nil)) ?_
          refine wk ["found", "j", "m", "i"] (fun y hy sl e => ?_) (fun y hy => ?_)
          · simp only [List.mem_cons, List.not_mem_nil, or_false] at hy
            rcases hy with rfl | rfl | rfl | rfl
            · rw [← e]; show some (SL.val (.ohit (some p))) = some (SL.val (.ohit (hs[i]?))); rw [e1]
            · exact e
            · exact e
            · exact e
          · simp only [List.mem_cons, List.not_mem_nil, or_false, not_or] at hy
            simp only [srG, upd, if_neg hy.1, if_neg hy.2.1, if_neg hy.2.2.1, if_neg hy.2.2.2]
      · by_cases hlt : (hs.takeWhile (okH col)).length < hs.length
        · rw [Nat.min_eq_left (by omega)]
          have e1 := List.getElem?_eq_getElem hlt
          refine .inl ⟨?_, fun y sl e => ?_⟩
          · rw [hG _ _ e1, ← taken_end e1]; exact test _ _ e1
          · split at e
            · rename_i hy; subst hy
              rw [← e, last_prev]; rfl
            · cases e
        · have hK : (hs.takeWhile (okH col)).length = hs.length := by omega
          rw [Nat.min_eq_right (by omega)]
          obtain ⟨p, e1, e2⟩ := taken (hs := hs) (col := col) (i := hs.length - 1) (by omega)
          have e3 : hs[hs.length - 1 + 1]? = none := List.getElem?_eq_none (by omega)
          refine .inr ⟨?_, mid _ p e1 rfl ?_⟩
          · rw [hG _ p e1, ← e2]; exact test _ p e1
          · rw [e3]
            refine Ex.stop_brk (Ex1.ite (c := true) (Tt.not (Tt.hit (Ev.name (p := .ohit none) rfl))) (fun _ => Ex.from (Ex.stop_brk Ex1.brk) fun y sl e => ?_) nofun)
            split at e
            · rename_i hy; subst hy
              rw [← e, last_prev, hK, show prevH hs hs.length = some p by rw [show hs.length = hs.length - 1 + 1 by omega]; exact e1]
              rfl
            · cases e
end
end Mine
namespace Mine
open PySem PySem.W PyProof.Rows PySem.Calls
set_option Elab.async false
set_option maxRecDepth 100000
set_option linter.unusedVariables false
def nodesL (line : Str) (level : Nat) (x : Str) (at' : Int) : List (Int × Int) :=
  ((List.range (4 - level)).map fun i => (Txt.find3 x (mkS (opM (level + i))) at', ((level + i : Nat) : Int))).filter fun p => decide (0 ≤ p.1) && (x == line)
def hitOf (x : Str) (p : Int × Int) : Int × Int := (p.1, Txt.find3 x (mkS (clM p.2.toNat)) p.1 + 2 + 4 * p.2)
def nodesF (line : Str) (level : Nat) (x : Str) (at' : Int) : Option (Int × Int) := match nodesL line level x at' with
  | [] => none
  | p :: ps => some (hitOf x (least p ps))
def nodesO (x : Str) (at' : Int) : PV → PV
  | .int d => pairP (Txt.find3 x (mkS (opM d.toNat)) at', d)
  | q => q
def nodesK (line x : Str) : PV → Bool
  | .tup [.int a, _] => decide (0 ≤ a) && (x == line)
  | _ => false
theorem least_mem {p : Int × Int} : ∀ {ps : List (Int × Int)}, least p ps ∈ p :: ps := fun {ps} => by
  unfold least
  induction ps generalizing p with
  | nil => exact .head _
  | cons a r ih =>
    rw [List.foldl_cons]
    have := ih (p := if lexLt a p = true then a else p)
    rcases List.mem_cons.mp this with e | e
    · rw [e]; split
      · exact .tail _ (.head _)
      · exact .head _
    · exact .tail _ (.tail _ e)
section
variable {g : Gx} {n : Nat} {sc : Scope} {Γ : VEnv}
theorem opM_app (d z : Nat) : mkS [38] ++ mkS (reps d) ++ mkS [z] = mkS (38 :: (reps d ++ [z])) := by rw [mkS_app, mkS_app]; rfl
theorem Ev.mark {a b c e : Expr} {p q r : Pos} {d z : Nat} (ha : Ev g n sc Γ a (.str (mkS [38]))) (hb : Ev g n sc Γ b (.str (Str.ofString "amp;"))) (hc : Ev g n sc Γ c (.int d)) (he : Ev g n sc Γ e (.str (mkS [z]))) (hd : d ≤ 100) :
    Ev g n sc Γ (.BinOp (.BinOp a .Add (.BinOp b .Mult c p) q) .Add e r) (.str (mkS (38 :: (reps d ++ [z])))) := by
  have h : 600 ≤ sizeLine := by show 600 ≤ 2 ^ 24; decide
  rw [← opM_app]
  have hl := reps_len d
  refine Ev.bin (Ev.bin ha (Ev.amps hb hc hd) (Op2.addS ?_)) he (Op2.addS ?_)
  · rw [mkS_len, mkS_len, List.length_singleton]; omega
  · rw [len_app, mkS_len, mkS_len, mkS_len, List.length_singleton, List.length_singleton]; omega
theorem Ev.find {o e e' : Expr} {apos pos : Pos} {x y : Str} {i : Int} (h : Ev g n sc Γ o (.str x)) (he : Ev g n sc Γ e (.str y)) (he' : Ev g n sc Γ e' (.int i)) (hab : ∀ env, attributeBase o "find" env (eval o env) = eval o env := by intro _; rfl) (hln : (apos.endLine == pos.line) = true := by rfl)
    (hst : ∀ env, starEach [e, e'] env = [(false, eval e env), (false, eval e' env)] := by intro _; rfl) (hst' : ∀ env, starEach [e'] env = [(false, eval e' env)] := by intro _; rfl) :
    Ev g n sc Γ (.Call (.Attribute o "find" apos) [e, e'] [] pos) (.int (Txt.find3 x y i)) :=
  Ev.meth h KindOf.str F.plainAttrs_str F.slot_str_find (by kernel_rfl) (Evs.cons he (Evs.cons he' Evs.nil (fun env => by rw [hst']; rfl)) (fun env => by rw [hst, hst'])) Cl.find3 hab hln (fun env => by unfold backTo; rw [hst]; rfl) (fun env => by rw [hst]; rfl) (fun env => by rw [hst]; exact ⟨_, _, rfl⟩)
theorem itemsR (a b : Nat) (h : a ≤ b) (hb : b < 2 ^ 40) : itemsOf (.range a b) = some ((List.range (b - a)).map fun i : Nat => PV.int ((a + i : Nat) : Int)) := by
  simp only [itemsOf]
  rw [if_pos ⟨by omega, by omega, by omega⟩, show ((b : Int) - (a : Int)).toNat = b - a by omega]
  rfl
theorem fn_nodes {line : Str} {level : Nat} (hlev : level ≤ 4) : Fn g 16 "_law_nodes" [.str line, .int level] (.prog (nodesF line level)) := by
  refine Fn.ofE (j := 18) ["line", "level"] (by decide) rfl (fun pm cd doc vs hl => ?_) (by decide) rfl rfl rfl (fun cd hcd => ?_)
  · obtain ⟨a, r, rfl⟩ := List.exists_cons_of_length_eq_add_one hl
    obtain ⟨b, r, rfl⟩ := List.exists_cons_of_length_eq_add_one (Nat.succ.inj hl)
    obtain rfl := List.length_eq_zero_iff.mp (Nat.succ.inj (Nat.succ.inj hl))
    rfl
  obtain ⟨rfl, hC⟩ := hcd 121 117 (by decide)
  conv => arg 7; whnf
  refine ExC.defS (f := nodesF line level) [("line", .str line), ("level", .int level)] rfl hC (by decide) rfl (fun y p hy => ?_) (fun y hy => ?_) (by decide) rfl rfl rfl (fun x i => ?_) (Ex.stop_ret (Ex1.ret (Ev.fn (j := 17) (by decide) (Evs.cons (Ev.name rfl) Evs.nil) (fn_prog.room (by decide)))))
  · have hy' := mem_of_lookup hy
    simp only [List.mem_cons, Prod.mk.injEq, List.not_mem_nil, or_false] at hy'
    rcases hy' with ⟨rfl, rfl⟩ | ⟨rfl, rfl⟩
    · exact ⟨rfl, by decide, by decide, rfl, rfl⟩
    · exact ⟨rfl, by decide, by decide, rfl, rfl⟩
  · simp only [List.mem_cons, Prod.mk.injEq, List.not_mem_nil, or_false, reduceCtorEq, and_false, false_or, and_true] at hy
    rcases hy with rfl | rfl <;> rfl
  · have hsz : 1000 ≤ sizeLine := line_ok rfl
    have hl4 : 4 - level ≤ 4 := Nat.sub_le _ _
    refine Ex.cons (Ex1.comp (fun _ => true) (nodesO x i) (CompSide.of ["at", "chars"] (by decide) rfl (fun y hy => ?_) rfl) (Ev.bi (by decide) rfl KeepOk.type (Evs.cons (Ev.name rfl) (Evs.cons Ev.int Evs.nil)) (Cl.range2 (a := (level : Int)) (b := ((4 : Nat) : Int)))) (itemsR level 4 hlev (by decide)) ?_ (fun q hq => .inl ⟨rfl, rfl⟩) (fun q hq _ => ?_) rfl (fun env hs => ?_)) ?_
    · simp only [List.mem_cons, List.not_mem_nil, or_false] at hy
      rcases hy with rfl | rfl <;> exact ⟨_, rfl⟩
    · rw [List.length_map, List.length_range]; omega
    · obtain ⟨d, hd, rfl⟩ := List.mem_map.mp hq
      rw [List.mem_range] at hd
      exact Ev.tup (Evs.cons (Ev.find (Ev.name rfl) (Ev.mark Ev.str Ev.str (Ev.name rfl) Ev.str (by omega)) (Ev.name rfl)) (Evs.cons (Ev.name rfl) Evs.nil)) (by exact line_ok rfl)
    · unfold swapsWith Env.blockKind Env.kindOf; rw [hs]; rfl
    rw [List.filter_eq_self.mpr (fun _ _ => rfl), List.map_map]
    refine Ex.cons (Ex1.comp (nodesK line x) id (CompSide.of ["chars", "line"] (by decide) rfl (fun y hy => ?_) rfl) (Ev.name rfl) rfl ?_ (fun q hq => .inr ⟨_, rfl, ?_⟩) (fun q hq _ => Ev.name rfl) rfl (fun env hs => ?_)) ?_
    · simp only [List.mem_cons, List.not_mem_nil, or_false] at hy
      rcases hy with rfl | rfl <;> exact ⟨_, rfl⟩
    · rw [List.length_map, List.length_range]; omega
    · obtain ⟨d, hd, rfl⟩ := List.mem_map.mp hq
      exact Tt.and (Tt.cmp (Ev.atT (i := 0) (Ev.name rfl) Ev.int rfl (by show 2 ≤ _; decide)) Ev.int Op2.geI) (fun _ => Tt.cmp (Ev.name rfl) (Ev.name rfl) Op2.eqS)
    · unfold swapsWith Env.blockKind Env.kindOf; rw [hs]; rfl
    have e : (((List.range (4 - level)).map ((nodesO x i) ∘ fun i : Nat => PV.int ((level + i : Nat) : Int))).filter (nodesK line x)).map id = (nodesL line level x i).map pairP := by
      rw [List.map_id]
      unfold nodesL
      rw [List.filter_map, List.filter_map, List.map_map]
      rfl
    rw [e]
    have hd : ∀ p ∈ nodesL line level x i, ∃ d : Nat, p.2 = (d : Int) ∧ d ≤ 4 := fun p hp => by
      obtain ⟨d, hd, rfl⟩ := List.mem_map.mp (List.mem_filter.mp hp).1
      rw [List.mem_range] at hd
      exact ⟨level + d, rfl, by omega⟩
    unfold nodesF
    generalize nodesL line level x i = L at hd
    cases L with
    | nil => exact Ex.stop_ret (Ex1.ite (c := true) (Tt.cmp (Ev.name rfl) (Ev.list Evs.nil) Op2.eqNil) (fun _ => Ex.stop_ret (Ex1.ret Ev.noHit)) nofun)
    | cons p ps =>
      obtain ⟨d, e2, hd4⟩ := hd _ (least_mem (p := p) (ps := ps))
      refine Ex.cons (Ex1.ite (c := false) (Tt.cmp (Ev.name rfl) (Ev.list Evs.nil) Op2.eqNil) nofun (fun _ => Ex.nil)) ?_
      refine Ex.cons (Ex1.assignAs (Ev.bi (by decide) rfl KeepOk.builtin (Evs.cons (Ev.name rfl) Evs.nil) (Cl.min (by decide))) As.pair) (Ex.stop_ret (Ex1.ret ?_))
      show Ev _ _ _ _ _ (.ohit (some (hitOf x (least p ps))))
      generalize least p ps = q at e2
      obtain ⟨a, b⟩ := q
      simp only at e2; subst e2
      exact Ev.fn (j := 16) (by decide) (Evs.cons (Ev.name rfl) (Evs.cons (Ev.bin (Ev.bin (Ev.find (Ev.name rfl) (Ev.mark Ev.str Ev.str (Ev.name rfl) Ev.str (by omega)) (Ev.name rfl)) Ev.int Op2.addI) (Ev.bin Ev.int (Ev.name rfl) (Op2.mulI (.of_left (by decide)))) Op2.addI) Evs.nil)) (fn_hit.room (by decide))
def doorsF (line : Str) (level : Nat) (x : Str) (at' : Int) : Option (Int × Int) :=
  let z : Int := ((mkS (opM level)).length : Nat)
  let p := Txt.find3 x (mkS (opM level)) (if 0 > at' - z then 0 else at' - z) + z
  if (decide (z ≤ p) && (x == line)) = true then some (p, p) else none
theorem fn_doors {line : Str} {level : Nat} (hlev : level ≤ 4) : Fn g 16 "_law_doors" [.str line, .int level] (.prog (doorsF line level)) := by
  refine Fn.ofE (j := 19) ["line", "level"] (by decide) rfl (fun pm cd doc vs hl => ?_) (by decide) rfl rfl rfl (fun cd hcd => ?_)
  · obtain ⟨a, r, rfl⟩ := List.exists_cons_of_length_eq_add_one hl
    obtain ⟨b, r, rfl⟩ := List.exists_cons_of_length_eq_add_one (Nat.succ.inj hl)
    obtain rfl := List.length_eq_zero_iff.mp (Nat.succ.inj (Nat.succ.inj hl))
    rfl
  obtain ⟨rfl, hC⟩ := hcd 128 124 (by decide)
  conv => arg 7; whnf
  refine ExC.cons (Ex1.assignC (p := .str (mkS (opM level))) (Ev.mark Ev.str Ev.str (Ev.name rfl) Ev.str (by omega)) rfl (cell_uniq rfl (by decide))) ?_
  refine ExC.defS (f := doorsF line level) [("line", .str line), ("mark", .str (mkS (opM level)))] rfl hC (by decide) rfl (fun y p hy => ?_) (fun y hy => ?_) (by decide) rfl rfl rfl (fun x i => ?_) (Ex.stop_ret (Ex1.ret (Ev.fn (j := 17) (by decide) (Evs.cons (Ev.name rfl) Evs.nil) (fn_prog.room (by decide)))))
  · have hy' := mem_of_lookup hy
    simp only [List.mem_cons, Prod.mk.injEq, List.not_mem_nil, or_false] at hy'
    rcases hy' with ⟨rfl, rfl⟩ | ⟨rfl, rfl⟩
    · exact ⟨rfl, by decide, by decide, rfl, rfl⟩
    · exact ⟨rfl, by decide, by decide, rfl, rfl⟩
  · simp only [List.mem_cons, Prod.mk.injEq, List.not_mem_nil, or_false, reduceCtorEq, and_false, false_or, and_true] at hy
    rcases hy with rfl | rfl <;> rfl
  · have hlen : (mkS (opM level)).length < 2 ^ 63 := by
      rw [mkS_len]; unfold opM
      have := reps_len level
      rw [List.length_cons, List.length_append, List.length_singleton]; omega
    have lenE : ∀ {Γ : VEnv} {sc : Scope} {np pos mp : Pos}, Γ "mark" = some (.val (.str (mkS (opM level)))) → sc.names.lookup ("len" : Str) = some .globalImplicit → Ev g 11 sc Γ (.Call (.Name "len" np) [.Name "mark" mp] [] pos) (.int ((mkS (opM level)).length : Nat)) := fun h hk =>
      Ev.bi (by decide) rfl KeepOk.builtin (Evs.cons (Ev.name h) Evs.nil) (Cl.lenS hlen) hk
    refine Ex.cons (Ex1.assign (Ev.bin (Ev.find (Ev.name rfl) (Ev.name rfl) (Ev.bi (by decide) rfl KeepOk.builtin (Evs.cons (Ev.bin (Ev.name rfl) (lenE rfl rfl) Op2.subI) (Evs.cons Ev.int Evs.nil)) Cl.max)) (lenE rfl rfl) Op2.addI)) (Ex.stop_ret (Ex1.ret ?_))
    unfold doorsF
    refine Ev.ifexp (Tt.and (Tt.cmp (Ev.name rfl) (lenE rfl rfl) Op2.geI) (fun _ => Tt.cmp (Ev.name rfl) (Ev.name rfl) Op2.eqS)) (fun h => ?_) (fun h => ?_)
    · simp only [h, if_true]
      exact Ev.fn (j := 16) (by decide) (Evs.cons (Ev.name rfl) (Evs.cons (Ev.name rfl) Evs.nil)) (fn_hit.room (by decide))
    · simp only [h]
      exact Ev.noHit
end
end Mine
namespace Mine
open PySem PySem.W PyProof.Rows PySem.Calls
set_option Elab.async false
set_option maxRecDepth 100000
set_option linter.unusedVariables false
structure RoundAt (x : Str) (col : Int) (due : List Nat) (hs : Nat → List (Int × Int)) : Prop where
  few : due.length ≤ 4
  hits : ∀ l : Nat, l < 4 → Hits (doorsF x l) x (hs l)
  here : ∀ (l d : Nat), due[l]? = some d → lastH (hs l) col = some ((d : Int) + 1, (d : Int) + 1) ∧ col < Txt.find3 x (mkS (clM l)) ((d : Int) + 1) + 2 + 4 * (l : Int)
  gone : due.length < 4 → lastH (hs due.length) col = none ∨ ∃ p : Int, lastH (hs due.length) col = some (p, p) ∧ Txt.find3 x (mkS (clM due.length)) p + 2 + 4 * (due.length : Int) ≤ col
def natP (d : Nat) : PV := .int d
section
variable {g : Gx} {n : Nat} {sc : Scope} {Γ : VEnv}
theorem two40 : 2 ≤ 2 ^ 40 := by decide
theorem Ev.span0 {o e : Expr} {apos cp pos : Pos} {i j : Int} (h : Ev g n sc Γ o (.ohit (some (i, j)))) (he : Ev g n sc Γ e (.int ((0 : Nat) : Int))) (hn : 3 ≤ n) (hab : ∀ env, attributeBase o "span" env (eval o env) = eval o env := by intro _; rfl) (hln : (apos.endLine == cp.line) = true := by rfl)
    (hs : ∀ o i, ∃ ops, subscripted e false o i = operate ops (getItem o i) := by intro _ _; exact ⟨_, rfl⟩) : Ev g n sc Γ (.Subscript (.Call (.Attribute o "span" apos) [] [] cp) e pos) (.int i) := Ev.atT (i := 0) (Ev.span h hn hab hln) he rfl two40 hs
theorem Ev.span1 {o e : Expr} {apos cp pos : Pos} {i j : Int} (h : Ev g n sc Γ o (.ohit (some (i, j)))) (he : Ev g n sc Γ e (.int ((1 : Nat) : Int))) (hn : 3 ≤ n) (hab : ∀ env, attributeBase o "span" env (eval o env) = eval o env := by intro _; rfl) (hln : (apos.endLine == cp.line) = true := by rfl)
    (hs : ∀ o i, ∃ ops, subscripted e false o i = operate ops (getItem o i) := by intro _ _; exact ⟨_, rfl⟩) : Ev g n sc Γ (.Subscript (.Call (.Attribute o "span" apos) [] [] cp) e pos) (.int j) := Ev.atT (i := 1) (Ev.span h hn hab hln) he rfl two40 hs
theorem fn_round {x : Str} {col : Int} {due : List Nat} {hs : Nat → List (Int × Int)} (H : RoundAt x col due hs) : Fn g 20 "_law_round" [.str x, .int col] (.list (due.map natP)) := by
  refine Fn.of (j := 22) ["line", "col"] (by decide) rfl (fun pm cd doc vs hl => ?_) (by decide) rfl rfl rfl ?_
  · obtain ⟨a, r, rfl⟩ := List.exists_cons_of_length_eq_add_one hl
    obtain ⟨b, r, rfl⟩ := List.exists_cons_of_length_eq_add_one (Nat.succ.inj hl)
    obtain rfl := List.length_eq_zero_iff.mp (Nat.succ.inj (Nat.succ.inj hl))
    rfl
  · conv => arg 5; whnf
    refine Ex.cons (Ex1.assignOwn Evs.nil) ?_
    generalize hΓ : args0 (stScope (stm 22)) ["line", "col"] [.str x, .int col] = Γ0
    have v1 : Γ0 "line" = some (.val (.str x)) := by rw [← hΓ]; rfl
    have v2 : Γ0 "col" = some (.val (.int col)) := by rw [← hΓ]; rfl
    refine Ex.cons (Ex1.forN (Γf := upd Γ0 "told" (.own (due.map natP))) due.length (fun i => upd Γ0 "told" (.own ((due.take i).map natP))) (Ev.bi (by decide) rfl KeepOk.type (Evs.cons Ev.int Evs.nil) (Cl.range1 (b := ((4 : Nat) : Int)))) (itemsR 0 4 (by decide) (by decide)) (fun _ _ e => e) H.few (fun i q hi hq => ?_) (fun q hq => ?_) (fun _ => ?_)) (Ex.thaw (x := "told") rfl (Ex.stop_ret (Ex1.ret (Ev.name rfl))))
    · have hf := H.few
      obtain ⟨hlt, rfl⟩ := List.getElem?_eq_some_iff.mp hq
      rw [List.getElem_map, List.getElem_range, Nat.zero_add]
      have hd := List.getElem?_eq_getElem hi
      obtain ⟨h1, h2⟩ := H.here i _ hd
      generalize due[i] = d at hd h1 h2
      refine Ex.weak (Γ' := upd (upd (upd (upd Γ0 "told" (.own ((due.take i).map natP))) "level" (.val (.int i))) "hit" (.val (.ohit (some ((d : Int) + 1, (d : Int) + 1))))) "told" (.own ((due.take i).map natP ++ [.int ((d : Int) + 1 - 1)]))) ?_ ?_
      · refine Ex.cons (Ex1.assign (Ev.fn (j := 1) (by decide) (Evs.cons (Ev.fn (j := 19) (by decide) (Evs.cons (Ev.name v1) (Evs.cons (Ev.name rfl) Evs.nil)) ((fn_doors (by omega)).room (by decide))) (Evs.cons (Ev.name v1) (Evs.cons (Ev.name v2) Evs.nil))) ((fn_search (H.hits i (by omega))).room (by decide)))) ?_
        rw [h1]
        refine Ex.cons (Ex1.ite (c := false || false) (Tt.or (Tt.cmp (Ev.name rfl) Ev.none Op2.isNone) (fun _ => ?_)) nofun (fun _ => Ex.nil)) (Ex.cons (Ex1.append (x := "told") rfl (Ev.bin (Ev.span1 (Ev.name rfl) Ev.int (by decide)) Ev.int Op2.subI) ?_) Ex.nil)
        · rw [← decide_eq_false (Int.not_le.mpr h2)]
          exact Tt.cmp (Ev.bin (Ev.bin (Ev.find (Ev.name v1) (Ev.mark Ev.str Ev.str (Ev.name rfl) Ev.str (by omega)) (Ev.span1 (Ev.name rfl) Ev.int (by decide))) Ev.int Op2.addI) (Ev.bin Ev.int (Ev.name rfl) (Op2.mulI (.of_left (by decide)))) Op2.addI) (Ev.name v2) Op2.leI
        · have := line_ok (k := 100) rfl
          rw [List.length_map, List.length_take]; omega
      · refine wk ["told", "level", "hit"] (fun y hy sl e => ?_) (fun y hy => ?_)
        · simp only [List.mem_cons, List.not_mem_nil, or_false] at hy
          rcases hy with rfl | rfl | rfl
          · rw [← e, List.take_add_one, hd, List.map_append, show (d : Int) + 1 - 1 = d by omega]; rfl
          · have : Γ0 "level" = none := by rw [← hΓ]; rfl
            rw [show upd Γ0 "told" _ "level" = Γ0 "level" from rfl, this] at e; cases e
          · have : Γ0 "hit" = none := by rw [← hΓ]; rfl
            rw [show upd Γ0 "told" _ "hit" = Γ0 "hit" from rfl, this] at e; cases e
        · simp only [List.mem_cons, List.not_mem_nil, or_false, not_or] at hy
          simp only [upd, if_neg hy.1, if_neg hy.2.1, if_neg hy.2.2]
    · have hf := H.few
      obtain ⟨hlt, rfl⟩ := List.getElem?_eq_some_iff.mp hq
      have hlt' : due.length < 4 := by rwa [List.length_map, List.length_range] at hlt
      rw [List.getElem_map, List.getElem_range, Nat.zero_add, List.take_length]
      refine Ex.cons (Ex1.assign (Ev.fn (j := 1) (by decide) (Evs.cons (Ev.fn (j := 19) (by decide) (Evs.cons (Ev.name v1) (Evs.cons (Ev.name rfl) Evs.nil)) ((fn_doors (by omega)).room (by decide))) (Evs.cons (Ev.name v1) (Evs.cons (Ev.name v2) Evs.nil))) ((fn_search (H.hits due.length hlt')).room (by decide)))) ?_
      have back : ∀ {r : Option (Int × Int)} y sl, upd Γ0 "told" (.own (due.map natP)) y = some sl → upd (upd (upd Γ0 "told" (.own (due.map natP))) "level" (.val (.int due.length))) "hit" (.val (.ohit r)) y = some sl := fun {r} => by
        refine wk ["level", "hit"] (fun y hy sl e => ?_) (fun y hy => ?_)
        · simp only [List.mem_cons, List.not_mem_nil, or_false] at hy
          rcases hy with rfl | rfl
          · have : Γ0 "level" = none := by rw [← hΓ]; rfl
            rw [show upd Γ0 "told" _ "level" = Γ0 "level" from rfl, this] at e; cases e
          · have : Γ0 "hit" = none := by rw [← hΓ]; rfl
            rw [show upd Γ0 "told" _ "hit" = Γ0 "hit" from rfl, this] at e; cases e
        · simp only [List.mem_cons, List.not_mem_nil, or_false, not_or] at hy
          simp only [upd, if_neg hy.1, if_neg hy.2]
      rcases H.gone hlt' with h1 | ⟨p, h1, h2⟩
      · rw [h1]
        exact Ex.stop_brk (Ex1.ite (c := true || true) (Tt.or (Tt.cmp (Ev.name (p := .ohit none) rfl) Ev.none Op2.isNone) nofun) (fun _ => Ex.from (Ex.stop_brk Ex1.brk) back) nofun)
      · rw [h1]
        refine Ex.stop_brk (Ex1.ite (c := false || true) (Tt.or (Tt.cmp (Ev.name (p := .ohit (some (p, p))) rfl) Ev.none Op2.isNone) (fun _ => ?_)) (fun _ => Ex.from (Ex.stop_brk Ex1.brk) back) nofun)
        rw [← decide_eq_true h2]
        exact Tt.cmp (Ev.bin (Ev.bin (Ev.find (Ev.name v1) (Ev.mark Ev.str Ev.str (Ev.name rfl) Ev.str (by omega)) (Ev.span1 (Ev.name rfl) Ev.int (by decide))) Ev.int Op2.addI) (Ev.bin Ev.int (Ev.name rfl) (Op2.mulI (.of_left (by decide)))) Op2.addI) (Ev.name v2) Op2.leI
    · rw [List.take_length]; exact fun _ _ e => e
end
end Mine
namespace Mine
open PySem PySem.W PyProof.Rows PySem.Calls
set_option Elab.async false
set_option maxRecDepth 100000
set_option linter.unusedVariables false
theorem clp_nat {l a : Nat} : clp l (a : Int) = min a l := by
  unfold clp; rw [if_neg (by omega)]; omega
theorem cutS_nat (x : Tx) (a b : Nat) : cutS (mkS x) (some (a : Int)) (some (b : Int)) = mkS ((x.take b).drop a) := by
  unfold cutS pySl
  rw [mkS_cps]
  show mkS _ = _
  simp only [clp_nat]
  congr 1
  rw [List.take_eq_take_min (i := b)]
  by_cases h : a ≤ x.length
  · rw [Nat.min_eq_left h]
  · rw [Nat.min_eq_right (by omega), List.drop_eq_nil_of_le (by rw [List.length_take]; omega), List.drop_eq_nil_of_le (by rw [List.length_take]; omega)]
def stopAt (kids : List (Nat × Nat)) (fin k : Nat) : Nat := match kids[k]? with
  | some p => p.1
  | none => fin
def startAt (kids : List (Nat × Nat)) (beg : Nat) : Nat → Nat
  | 0 => beg
  | k + 1 => (kids[k]?.getD (0, 0)).2
structure ToldAt (g : Gx) (N : Nat) (x : Tx) (level first fin : Nat) (kids : List (Nat × Nat)) (res : List PV) (rds : List Tx) (hs : List (Int × Int)) : Prop where
  lev : level ≤ 3
  hits : Hits (nodesF (mkS x) (level + 1)) (mkS x) hs
  few : kids.length < x.length
  len : x.length ≤ 2200000
  resl : res.length = kids.length
  rdl : rds.length = kids.length + 1
  here : ∀ (k : Nat) p, kids[k]? = some p → lastH hs (stopAt kids fin (k + 1)) = some ((p.1 : Int), (p.2 : Int)) ∧ first + (2 + 4 * level) ≤ p.1
  gone : lastH hs (stopAt kids fin 0) = none ∨ ∃ p : Int × Int, lastH hs (stopAt kids fin 0) = some p ∧ p.1 < ((first + (2 + 4 * level) : Nat) : Int)
  reads : ∀ (k : Nat) t, rds[k]? = some t → Fn g 1 "_law_read" [.str (mkS ((x.take (stopAt kids fin k)).drop (startAt kids (first + (2 + 4 * level)) k))), .int ((level + 1 : Nat) : Int)] (.str (mkS t))
  rec' : ∀ (k : Nat) p r, kids[k]? = some p → res[k]? = some r → Fn g N "_law_told" [.str (mkS x), .int ((level + 1 : Nat) : Int), .int (p.1 : Nat), .int (p.2 : Nat)] r
def tdG (Γ : VEnv) (res : List PV) (rds : List Tx) (stop k : Nat) : VEnv := upd (upd (upd Γ "end" (.val (.int (stop : Nat)))) "kids" (.val (.list (res.drop k)))) "texts" (.val (.list (strL (rds.drop (k + 1)))))
theorem drop_at {α : Type} {l : List α} {k : Nat} {a : α} (h : l[k]? = some a) : l.drop k = a :: l.drop (k + 1) := by
  obtain ⟨hlt, rfl⟩ := List.getElem?_eq_some_iff.mp h
  exact List.drop_eq_getElem_cons hlt
section
variable {g : Gx} {n : Nat} {sc : Scope} {Γ : VEnv}
theorem told_step {N : Nat} {x : Tx} {level first fin : Nat} {kids : List (Nat × Nat)} {res : List PV} {rds : List Tx} {hs : List (Int × Int)} (hN : 20 ≤ N) (H : ToldAt g N x level first fin kids res rds hs) :
    Fn g (N + 1) "_law_told" [.str (mkS x), .int (level : Nat), .int (first : Nat), .int ((fin + (2 + 4 * level) : Nat) : Int)] (.list [.list (strL rds), .list res]) := by
  have hsz : 2300000 ≤ sizeLine := by show 2300000 ≤ 2 ^ 24; decide
  have hlen := H.len
  refine Fn.of (j := 21) ["line", "level", "first", "behind"] (by decide) rfl (fun pm cd doc vs hl => ?_) (by decide) rfl rfl rfl ?_
  · obtain ⟨a, r, rfl⟩ := List.exists_cons_of_length_eq_add_one hl
    obtain ⟨b, r, rfl⟩ := List.exists_cons_of_length_eq_add_one (Nat.succ.inj hl)
    obtain ⟨c, r, rfl⟩ := List.exists_cons_of_length_eq_add_one (Nat.succ.inj (Nat.succ.inj hl))
    obtain ⟨d, r, rfl⟩ := List.exists_cons_of_length_eq_add_one (Nat.succ.inj (Nat.succ.inj (Nat.succ.inj hl)))
    obtain rfl := List.length_eq_zero_iff.mp (Nat.succ.inj (Nat.succ.inj (Nat.succ.inj (Nat.succ.inj hl))))
    rfl
  · conv => arg 5; whnf
    refine Ex.cons (Ex1.assign (p := .int ((2 + 4 * level : Nat) : Int)) (Ev.bin Ev.int (Ev.bin Ev.int (Ev.name rfl) (Op2.mulI (.of_left (by decide)))) ?_)) ?_
    · rw [show ((2 + 4 * level : Nat) : Int) = 2 + 4 * (level : Int) by omega]; exact Op2.addI
    refine Ex.cons (Ex1.swap (xs := ["texts", "kids", "end"]) (ps := [.list [], .list [], .int (fin : Nat)]) (Evs.cons (Ev.list Evs.nil (by exact line_ok rfl)) (Evs.cons (Ev.list Evs.nil (by exact line_ok rfl)) (Evs.cons (Ev.bin (Ev.name (p := .int ((fin + (2 + 4 * level) : Nat) : Int)) rfl) (Ev.name rfl) ?_) Evs.nil))) (by exact line_ok rfl) rfl (by decide) (fun env hs => ?_)) ?_
    · rw [show ((fin : Nat) : Int) = ((fin + (2 + 4 * level) : Nat) : Int) - ((2 + 4 * level : Nat) : Int) by omega]; exact Op2.subI
    · unfold swappedStores Env.blockKind Env.kindOf
      rw [hs]
      rfl
    show Ex _ _ _ (upd (upd (upd _ "end" (.val (.int (fin : Nat)))) "kids" (.val (.list []))) "texts" (.val (.list []))) _ _
    generalize hΓ : upd (args0 (stScope (stm 21)) ["line", "level", "first", "behind"] [.str (mkS x), .int (level : Nat), .int (first : Nat), .int ((fin + (2 + 4 * level) : Nat) : Int)]) "size" (.val (.int ((2 + 4 * level : Nat) : Int))) = Γ0
    have v1 : Γ0 "line" = some (.val (.str (mkS x))) := by rw [← hΓ]; rfl
    have v2 : Γ0 "level" = some (.val (.int (level : Nat))) := by rw [← hΓ]; rfl
    have v3 : Γ0 "first" = some (.val (.int (first : Nat))) := by rw [← hΓ]; rfl
    have v4 : Γ0 "size" = some (.val (.int ((2 + 4 * level : Nat) : Int))) := by rw [← hΓ]; rfl
    have v5 : Γ0 "turn" = none := by rw [← hΓ]; rfl
    have v6 : Γ0 "hit" = none := by rw [← hΓ]; rfl
    have hfin : stopAt kids fin kids.length = fin := by unfold stopAt; rw [List.getElem?_eq_none (Nat.le_refl _)]
    have start : tdG Γ0 res rds (stopAt kids fin (kids.length - 0)) (kids.length - 0) = upd (upd (upd Γ0 "end" (.val (.int (fin : Nat)))) "kids" (.val (.list []))) "texts" (.val (.list [])) := by
      rw [Nat.sub_zero, hfin]
      unfold tdG
      rw [List.drop_eq_nil_of_le (by rw [H.resl]; exact Nat.le_refl _), List.drop_eq_nil_of_le (by rw [H.rdl]; exact Nat.le_refl _)]
      rfl
    have lev1 : ∀ {Γ : VEnv} {e e2 : Expr} {p : Pos}, Ev g N (stScope (stm 21)) Γ e (.int (level : Nat)) → Ev g N (stScope (stm 21)) Γ e2 (.int 1) → Ev g N (stScope (stm 21)) Γ (.BinOp e .Add e2 p) (.int ((level + 1 : Nat) : Int)) := fun h1 h2 => by
      rw [show ((level + 1 : Nat) : Int) = (level : Int) + 1 by omega]; exact Ev.bin h1 h2 Op2.addI
    have fs : ∀ {Γ : VEnv} {e e2 : Expr} {p : Pos}, Ev g N (stScope (stm 21)) Γ e (.int (first : Nat)) → Ev g N (stScope (stm 21)) Γ e2 (.int ((2 + 4 * level : Nat) : Int)) → Ev g N (stScope (stm 21)) Γ (.BinOp e .Add e2 p) (.int ((first + (2 + 4 * level) : Nat) : Int)) := fun h1 h2 => by
      rw [show ((first + (2 + 4 * level) : Nat) : Int) = (first : Int) + ((2 + 4 * level : Nat) : Int) by omega]; exact Ev.bin h1 h2 Op2.addI
    have cut : ∀ {Γ : VEnv} {a b : Nat} {v l u : Expr} {p q : Pos}, Ev g N (stScope (stm 21)) Γ v (.str (mkS x)) → Ev g N (stScope (stm 21)) Γ l (.int (a : Nat)) → Ev g N (stScope (stm 21)) Γ u (.int (b : Nat)) → Ev g N (stScope (stm 21)) Γ (.Subscript v (.Slice (some l) (some u) .none p) q) (.str (mkS ((x.take b).drop a))) := fun h1 h2 h3 => by
      rw [← cutS_nat]; exact Ev.cutS h1 (EvO.yes h2) (EvO.yes h3) (by rw [mkS_len]; omega)
    have hfew := H.few
    refine Ex.cons (Ex1.forN (Γf := tdG Γ0 res rds (stopAt kids fin 0) 0) kids.length (fun i => tdG Γ0 res rds (stopAt kids fin (kids.length - i)) (kids.length - i)) (Ev.bi (by decide) rfl KeepOk.type (Evs.cons (Ev.bi (by decide) rfl KeepOk.builtin (Evs.cons (Ev.name v1) Evs.nil) (Cl.lenS (by rw [mkS_len]; omega))) Evs.nil) Cl.range1) (items_range _ (by rw [mkS_len]; omega)) ?_ ?_ (fun i q hi hq => ?_) (fun q hq => ?_) (fun h => ?_)) (Ex.stop_ret (Ex1.ret ?_))
    · rw [start]; exact fun _ _ e => e
    · rw [List.length_map, List.length_range, mkS_len]; omega
    · obtain ⟨k, hk⟩ : ∃ k, kids.length - i = k + 1 := ⟨kids.length - i - 1, by omega⟩
      have hk2 : kids.length - (i + 1) = k := by omega
      have hkn : k < kids.length := by omega
      rw [hk, hk2]
      have hp := List.getElem?_eq_getElem hkn
      generalize kids[k] = p at hp
      have hr := List.getElem?_eq_getElem (l := res) (i := k) (by rw [H.resl]; exact hkn)
      generalize res[k]'(by rw [H.resl]; exact hkn) = r at hr
      have ht := List.getElem?_eq_getElem (l := rds) (i := k + 1) (by rw [H.rdl]; omega)
      generalize rds[k + 1]'(by rw [H.rdl]; omega) = t at ht
      obtain ⟨h1, h2⟩ := H.here k p hp
      have rd := H.reads (k + 1) t ht
      rw [show startAt kids (first + (2 + 4 * level)) (k + 1) = p.2 by show (kids[k]?.getD (0, 0)).2 = p.2; rw [hp]; rfl] at rd
      have hst : stopAt kids fin k = p.1 := by unfold stopAt; rw [hp]
      have hrk := H.resl
      have hrd := H.rdl
      refine Ex.weak (Γ' := upd (upd (upd (upd (upd (tdG Γ0 res rds (stopAt kids fin (k + 1)) (k + 1)) "turn" (.val q)) "hit" (.val (.ohit (some ((p.1 : Int), (p.2 : Int)))))) "texts" (.val (.list ([.str (mkS t)] ++ strL (rds.drop (k + 1 + 1)))))) "kids" (.val (.list ([r] ++ res.drop (k + 1))))) "end" (.val (.int (p.1 : Nat)))) ?_ ?_
      · refine Ex.cons (Ex1.assign (Ev.fn (j := 1) (by decide) (Evs.cons (Ev.fn (j := 18) (by decide) (Evs.cons (Ev.name v1) (Evs.cons (lev1 (Ev.name v2) Ev.int) Evs.nil)) ((fn_nodes (by have := H.lev; omega)).room (by omega))) (Evs.cons (Ev.name v1) (Evs.cons (Ev.name rfl) Evs.nil))) ((fn_search H.hits).room (by omega)))) ?_
        rw [h1]
        refine Ex.cons (Ex1.ite (c := false || false) (Tt.or (Tt.cmp (Ev.name rfl) Ev.none Op2.isNone) (fun _ => ?_)) nofun (fun _ => Ex.nil)) ?_
        · rw [← decide_eq_false (p := ((p.1 : Nat) : Int) < ((first + (2 + 4 * level) : Nat) : Int)) (by omega)]
          exact Tt.cmp (Ev.span0 (Ev.name rfl) Ev.int (by omega)) (fs (Ev.name v3) (Ev.name v4)) Op2.ltI
        refine Ex.cons (Ex1.assign (Ev.bin (Ev.list (Evs.cons (Ev.fn (j := 20) (by decide) (Evs.cons (cut (Ev.name v1) (Ev.span1 (Ev.name rfl) Ev.int (by omega)) (Ev.name rfl)) (Evs.cons (lev1 (Ev.name v2) Ev.int) Evs.nil)) (rd.room (by omega))) Evs.nil) (by exact line_ok rfl)) (Ev.name rfl) (Op2.addL ?_))) ?_
        · show 1 + (strL _).length ≤ _; unfold strL; rw [List.length_map, List.length_drop]; omega
        refine Ex.cons (Ex1.assign (Ev.bin (Ev.list (Evs.cons (Ev.fn (j := 21) (by decide) (Evs.cons (Ev.name v1) (Evs.cons (lev1 (Ev.name v2) Ev.int) (Evs.cons (Ev.span0 (Ev.name rfl) Ev.int (by omega)) (Evs.cons (Ev.span1 (Ev.name rfl) Ev.int (by omega)) Evs.nil)))) (H.rec' k p r hp hr)) Evs.nil) (by exact line_ok rfl)) (Ev.name rfl) (Op2.addL ?_))) ?_
        · show 1 + (res.drop _).length ≤ _; rw [List.length_drop]; omega
        exact Ex.cons (Ex1.assign (Ev.span0 (Ev.name rfl) Ev.int (by omega))) Ex.nil
      · refine wk ["texts", "kids", "end", "turn", "hit"] (fun y hy sl e => ?_) (fun y hy => ?_)
        · simp only [List.mem_cons, List.not_mem_nil, or_false] at hy
          rcases hy with rfl | rfl | rfl | rfl | rfl
          · rw [← e]
            show some (SL.val (.list _)) = some (SL.val (.list (strL (rds.drop (k + 1)))))
            rw [drop_at ht]; rfl
          · rw [← e]
            show some (SL.val (.list _)) = some (SL.val (.list (res.drop k)))
            rw [drop_at hr]; rfl
          · rw [← e]
            show some (SL.val (.int _)) = some (SL.val (.int (stopAt kids fin k : Nat)))
            rw [hst]
          · rw [show tdG Γ0 res rds (stopAt kids fin k) k "turn" = Γ0 "turn" from rfl, v5] at e; cases e
          · rw [show tdG Γ0 res rds (stopAt kids fin k) k "hit" = Γ0 "hit" from rfl, v6] at e; cases e
        · simp only [List.mem_cons, List.not_mem_nil, or_false, not_or] at hy
          simp only [tdG, upd, if_neg hy.1, if_neg hy.2.1, if_neg hy.2.2.1, if_neg hy.2.2.2.1, if_neg hy.2.2.2.2]
    · rw [Nat.sub_self]
      refine Ex.cons (Ex1.assign (Ev.fn (j := 1) (by decide) (Evs.cons (Ev.fn (j := 18) (by decide) (Evs.cons (Ev.name v1) (Evs.cons (lev1 (Ev.name v2) Ev.int) Evs.nil)) ((fn_nodes (by have := H.lev; omega)).room (by omega))) (Evs.cons (Ev.name v1) (Evs.cons (Ev.name rfl) Evs.nil))) ((fn_search H.hits).room (by omega)))) ?_
      have back : ∀ {r : Option (Int × Int)} y sl, tdG Γ0 res rds (stopAt kids fin 0) 0 y = some sl → upd (upd (tdG Γ0 res rds (stopAt kids fin 0) 0) "turn" (.val q)) "hit" (.val (.ohit r)) y = some sl := fun {r} => by
        refine wk ["turn", "hit"] (fun y hy sl e => ?_) (fun y hy => ?_)
        · simp only [List.mem_cons, List.not_mem_nil, or_false] at hy
          rcases hy with rfl | rfl
          · rw [show tdG Γ0 res rds (stopAt kids fin 0) 0 "turn" = Γ0 "turn" from rfl, v5] at e; cases e
          · rw [show tdG Γ0 res rds (stopAt kids fin 0) 0 "hit" = Γ0 "hit" from rfl, v6] at e; cases e
        · simp only [List.mem_cons, List.not_mem_nil, or_false, not_or] at hy
          rw [upd_ne hy.2, upd_ne hy.1]
      rcases H.gone with h1 | ⟨p, h1, h2⟩
      · rw [h1]
        exact Ex.stop_brk (Ex1.ite (c := true || true) (Tt.or (Tt.cmp (Ev.name (p := .ohit none) rfl) Ev.none Op2.isNone) nofun) (fun _ => Ex.from (Ex.stop_brk Ex1.brk) back) nofun)
      · rw [h1]
        obtain ⟨p1, p2⟩ := p
        refine Ex.stop_brk (Ex1.ite (c := false || true) (Tt.or (Tt.cmp (Ev.name (p := .ohit (some (p1, p2))) rfl) Ev.none Op2.isNone) (fun _ => ?_)) (fun _ => Ex.from (Ex.stop_brk Ex1.brk) back) nofun)
        rw [← decide_eq_true h2]
        exact Tt.cmp (Ev.span0 (Ev.name rfl) Ev.int (by omega)) (fs (Ev.name v3) (Ev.name v4)) Op2.ltI
    · rw [List.length_map, List.length_range, mkS_len] at h; omega
    · have ht := List.getElem?_eq_getElem (l := rds) (i := 0) (by rw [H.rdl]; omega)
      generalize rds[0]'(by rw [H.rdl]; omega) = t at ht
      have e : strL rds = [.str (mkS t)] ++ strL (rds.drop 1) := by
        have := drop_at ht
        rw [List.drop_zero] at this
        rw [this]; rfl
      have hrd := H.rdl
      rw [e]
      refine Ev.list (Evs.cons (Ev.bin (Ev.list (Evs.cons (Ev.fn (j := 20) (by decide) (Evs.cons (cut (Ev.name v1) (fs (Ev.name v3) (Ev.name v4)) (Ev.name rfl)) (Evs.cons (lev1 (Ev.name v2) Ev.int) Evs.nil)) ((H.reads 0 t ht).room (by omega))) Evs.nil) (by exact line_ok rfl)) (Ev.name rfl) (Op2.addL ?_)) (Evs.cons (Ev.name rfl) Evs.nil)) (by exact line_ok rfl)
      show 1 + (strL _).length ≤ _; unfold strL; rw [List.length_map, List.length_drop]; omega
end
end Mine
namespace Mine
open PySem PySem.W PyProof.Rows PySem.Calls
set_option Elab.async false
set_option maxRecDepth 100000
set_option linter.unusedVariables false
/-! lists that are still being built: C says which, and what each holds -/
abbrev RC := Addr → Option (List PV)
def updC (C : RC) (b : Addr) (l : List PV) : RC := fun x => if x = b then some l else C x
def RawL (g : Gx) (σ : PH) (h : Heap) (b : Addr) (l : List PV) : Prop := ∃ vs n, h.get? b = some { cls := .type "list", data := .seq (List.toArray vs) n } ∧ RepL g σ l vs
structure GS (g : Gx) (κ σ₀ : PH) (env : Env) (Γ : VEnv) (σ : PH) (h : Heap) (m : Str → Option Value) (C : RC) : Prop extends Fram g κ σ₀ env Γ σ h m where
  vals : ∀ x sl, Γ x = some sl → ∃ p, sl = .val p
  raw : ∀ b l, C b = some l → RawL g σ h b l
  offC : ∀ b, C b ≠ none → σ b = none ∧ b ∉ tabA ∧ b ≠ env.locals
  kapC : ∀ b, C b ≠ none → κ b = none
def del (τ : PH) (a : Addr) : PH := fun b => if b = a then none else τ b
def Scal (p : PV) : Prop := ∀ g σ τ v, Rep g σ p v → Rep g τ p v
theorem Scal.int {i : Int} : Scal (.int i) := fun g σ τ v h => by obtain ⟨t, rfl⟩ := h.int_inv; exact rep_int
theorem Scal.str {x : Str} : Scal (.str x) := fun g σ τ v h => by obtain ⟨t, rfl⟩ := h.str_inv; exact rep_str
theorem Scal.val {u : Value} : Scal (.val u) := fun g σ τ v h => by rw [h.val_inv]; exact rep_val
section
variable {g : Gx} {n : Nat} {sc : Scope} {Γ : VEnv} {C : RC} {κ σ₀ σ : PH} {env : Env} {h : Heap} {m : Str → Option Value}
theorem RawL.step {σ' : PH} {h' : Heap} {b : Addr} {l : List PV} (S : Step g σ h σ' h') (ht : b ∉ tabA) (r : RawL g σ h b l) : RawL g σ' h' b l := by
  obtain ⟨vs, n, e, r⟩ := r
  exact ⟨vs, n, S.grow _ _ ht e, r.up S.le⟩
theorem RawL.ne {b : Addr} {l : List PV} (r : RawL g σ h b l) : h.get? b ≠ none := by obtain ⟨vs, n, e, r⟩ := r; rw [e]; exact nofun
theorem GS.step {σ' : PH} {h' : Heap} (G : GS g κ σ₀ env Γ σ h m C) (S : Step g σ h σ' h') : GS g κ σ₀ env Γ σ' h' m C :=
  { G.toFram.step S with
    vals := G.vals
    raw := fun b l e => (G.raw b l e).step S (G.offC b (by rw [e]; exact nofun)).2.1
    offC := fun b e => by
      obtain ⟨a1, a2, a3⟩ := G.offC b e
      cases q : C b with
      | none => exact absurd q e
      | some l => exact ⟨S.fresh b a1 (G.raw b l q).ne, a2, a3⟩
    kapC := G.kapC }
theorem melt {τ : PH} {h' : Heap} {a : Addr} {o : Obj} (S : St g σ h) (e : σ a = none) (ho : ∃ vs n, o.data = .seq vs n) (R : Step g (add σ a o) h τ h') : Step g σ h (del τ a) h' := by
  have hne : ∀ b o', σ b = some o' → b ≠ a := fun b o' q z => by rw [z, e] at q; cases q
  have up : ∀ b o', σ b = some o' → τ b = some o' := fun b o' q => R.le b o' (by unfold add; rw [if_neg (hne b o' q)]; exact q)
  refine ⟨fun b o' q => ?_, R.grow, ⟨fun b o' q => ?_, fun b o' q => ?_, fun q hq => ?_, fun P hP => ?_⟩, fun b e1 ne => ?_⟩
  · unfold del; rw [if_neg (hne b o' q)]; exact up b o' q
  · have := S.base b o' q
    unfold del; rw [if_neg (hne b o' this)]; exact up b o' this
  · unfold del at q
    split at q
    · cases q
    · exact R.st.sub b o' q
  · obtain ⟨ps, h1, h2, h3⟩ := R.st.ti q hq
    refine ⟨ps, h1, h2, fun pos cv hc => ?_⟩
    obtain ⟨c, oc, vs, t, q1, q2, q3, q4⟩ := h3 pos cv hc
    refine ⟨c, oc, vs, t, q1, ?_, q3, q4⟩
    unfold del
    rw [if_neg fun z => ?_]
    · exact q2
    · have := R.le a o (add_self _ _ _)
      rw [z, this] at q2; cases q2
      obtain ⟨vs', n', hd⟩ := ho
      rw [hd] at q3; cases q3
  · unfold del; split
    · rfl
    · exact R.st.off P hP
  · unfold del
    split
    · rfl
    · rename_i hb
      exact R.fresh b (by unfold add; rw [if_neg hb]; exact e1) ne
theorem Vars.freeze {a : Addr} {l : List PV} {o : Obj} {x : Str} (V : Vars g env Γ σ h m) (vals : ∀ x sl, Γ x = some sl → ∃ p, sl = .val p) (hx : Γ x = some (.val (.val (.ref a)))) (hL : a ≠ env.locals) (e : σ a = none)
    (r : Rep g (add σ a o) (.list l) (.ref a)) : Vars g env (upd Γ x (.val (.list l))) (add σ a o) h m := by
  have le : Le σ (add σ a o) := fun b ob q => by
    unfold add
    by_cases hb : b = a
    · subst hb; rw [e] at q; cases q
    · rw [if_neg hb]; exact q
  refine ⟨V.ns, by unfold add; rw [if_neg (Ne.symm hL)]; exact V.off, V.tab, fun y sl hy => ?_⟩
  unfold upd at hy
  by_cases hyx : y = x
  · subst hyx
    rw [if_pos rfl] at hy; cases hy
    rcases V.slot y _ hx with ⟨b1, v1, b2, b3⟩ | ⟨b1, c1, v1, b2, b3, b4⟩
    · rw [b3.val_inv] at b2; exact .inl ⟨b1, _, b2, r⟩
    · rw [b4.val_inv] at b3; exact .inr ⟨b1, c1, _, b2, b3.mono le, r⟩
  · rw [if_neg hyx] at hy
    obtain ⟨p, rfl⟩ := vals y sl hy
    rcases V.slot y _ hy with ⟨b1, v1, b2, b3⟩ | ⟨b1, c1, v1, b2, b3, b4⟩
    · exact .inl ⟨b1, v1, b2, b3.up le⟩
    · exact .inr ⟨b1, c1, v1, b2, b3.mono le, b4.up le⟩

/-- an expression in a frame with raw lists -/
def EvX (g : Gx) (n : Nat) (sc : Scope) (Γ : VEnv) (C : RC) (e : Expr) (P : PV → RC → Prop) : Prop :=
  ∀ (A : Around) (env : Env) (s : Shared) (κ σ₀ σ : PH) (m : Str → Option Value) (Q E : Value → Shared → Prop), Room A n → env.scope = sc → EnvOk env → GS g κ σ₀ env Γ σ s.heap m C → 1 ≤ s.toks →
    (∀ v h' tk σ' p C', P p C' → GS g κ σ₀ env Γ σ' h' m C' → Rep g σ' p v → 1 ≤ tk → Q v { s with heap := h', toks := tk }) → W g A (eval e env) Q E s
def Only (p : PV) (C : RC) : PV → RC → Prop := fun p' C' => p' = p ∧ C' = C
def TtX (g : Gx) (n : Nat) (sc : Scope) (Γ : VEnv) (C : RC) (e : Expr) (b : Bool) : Prop :=
  ∀ (A : Around) (env : Env) (s : Shared) (κ σ₀ σ : PH) (m : Str → Option Value) (Q : Bool → Shared → Prop) (E : Value → Shared → Prop), Room A n → env.scope = sc → EnvOk env → GS g κ σ₀ env Γ σ s.heap m C → 1 ≤ s.toks →
    (∀ h' tk σ', GS g κ σ₀ env Γ σ' h' m C → 1 ≤ tk → Q b { s with heap := h', toks := tk }) → W g A (isTrue e env (eval e env)) Q E s
theorem frozen {a : Addr} {l : List PV} {x : Str} (G : GS g κ σ₀ env Γ σ h m C) (hx : Γ x = some (.val (.val (.ref a)))) (hC : C a = some l) : ∃ o, σ a = none ∧ (∃ vs n, o.data = .seq vs n) ∧ St g (add σ a o) h ∧ Vars g env (upd Γ x (.val (.list l))) (add σ a o) h m ∧ h.get? a = some o := by
  obtain ⟨a1, a2, a3⟩ := G.offC a (by rw [hC]; exact nofun)
  obtain ⟨vs, k, e, r⟩ := G.raw a l hC
  obtain ⟨le, S⟩ := G.st.take a1 a2 e
  exact ⟨_, a1, ⟨_, _, rfl⟩, S, G.toVars.freeze G.vals hx a3 a1 (rep_list ⟨_, _, add_self _ _ _, rfl, rfl, rfl⟩ (r.up le)), e⟩
theorem EvX.of {e : Expr} {p : PV} {a : Addr} {l : List PV} {x : Str} (h : Ev g n sc (upd Γ x (.val (.list l))) e p) (hp : Scal p) (hx : Γ x = some (.val (.val (.ref a)))) (hC : C a = some l) : EvX g n sc Γ C e (Only p C) :=
  fun A env s κ σ₀ σ m Q E R hs ok G ht k => by
    obtain ⟨o, h1, h2, h3, h4, h5⟩ := frozen G hx hC
    exact h A env s _ m _ _ R hs ok h3 h4 ht fun v h' tk σ' S r htk => k v h' tk _ p C ⟨rfl, rfl⟩ (G.step (melt G.st h1 h2 S)) (hp _ _ _ _ r) htk
theorem TtX.of {e : Expr} {b : Bool} {a : Addr} {l : List PV} {x : Str} (h : Tt g n sc (upd Γ x (.val (.list l))) e b) (hx : Γ x = some (.val (.val (.ref a)))) (hC : C a = some l) : TtX g n sc Γ C e b :=
  fun A env s κ σ₀ σ m Q E R hs ok G ht k => by
    obtain ⟨o, h1, h2, h3, h4, h5⟩ := frozen G hx hC
    exact h A env s _ m _ _ R hs ok h3 h4 ht fun h' tk σ' S htk => k h' tk _ (G.step (melt G.st h1 h2 S)) htk
theorem EvX.plain {e : Expr} {p : PV} (h : Ev g n sc Γ e p) : EvX g n sc Γ C e (Only p C) :=
  fun A env s κ σ₀ σ m Q E R hs ok G ht k => h A env s σ m _ _ R hs ok G.st G.toVars ht fun v h' tk σ' S r htk => k v h' tk σ' p C ⟨rfl, rfl⟩ (G.step S) r htk

/-- a new raw list -/
theorem GS.alloc (G : GS g κ σ₀ env Γ σ h m C) : C h.objs.size = none ∧ GS g κ σ₀ env Γ σ (h.push { cls := .type "list", data := .seq (List.toArray []) }) m (updC C h.objs.size []) := by
  have S := G.st.grow (h' := h.push { cls := .type "list", data := .seq (List.toArray []) }) fun b o e => Heap.get?_push_of_some _ e
  have hn := size_none h
  have hC : C h.objs.size = none := by
    cases q : C h.objs.size with
    | none => rfl
    | some l => exact absurd hn (G.raw _ _ q).ne
  have hκ : κ h.objs.size = none := by
    cases q : κ h.objs.size with
    | none => rfl
    | some o => exact absurd (G.grow _ _ (size_notTab G.st) q) (by rw [hn]; exact nofun)
  have G' := G.step S
  refine ⟨hC, { G'.toFram with vals := G.vals, raw := fun b l e => ?_, offC := fun b e => ?_, kapC := fun b e => ?_ }⟩
  · unfold updC at e
    split at e
    · rename_i hb; subst hb; cases e
      exact ⟨[], 0, Heap.get?_push_size _ rfl, .nil⟩
    · exact G'.raw b l e
  · unfold updC at e
    split at e
    · rename_i hb; subst hb
      refine ⟨G.st.none_size, size_notTab G.st, fun z => ?_⟩
      obtain ⟨o, es, ep, e1, _⟩ := G.ns
      rw [← z] at e1; rw [e1] at hn; cases hn
    · exact G'.offC b e
  · unfold updC at e
    split at e
    · rename_i hb; subst hb; exact hκ
    · exact G.kapC b e

/-! statements -/
def ExG (g : Gx) (n : Nat) (sc : Scope) (Γ : VEnv) (C : RC) (b : List Stmt) (P : VEnv → RC → Prop) : Prop :=
  ∀ (A : Around) (env : Env) (s : Shared) (κ σ₀ σ : PH) (m : Str → Option Value) (Q : Flow → Shared → Prop) (E : Value → Shared → Prop), Room A n → env.scope = sc → EnvOk env → GS g κ σ₀ env Γ σ s.heap m C → 1 ≤ s.toks →
    (∀ h' tk σ' m' Γ' C', P Γ' C' → GS g κ σ₀ env Γ' σ' h' m' C' → 1 ≤ tk → Q .next { s with heap := h', toks := tk }) → W g A (execs b env) Q E s
def ExG1 (g : Gx) (n : Nat) (sc : Scope) (Γ : VEnv) (C : RC) (b : Stmt) (P : VEnv → RC → Prop) : Prop :=
  ∀ (A : Around) (env : Env) (s : Shared) (κ σ₀ σ : PH) (m : Str → Option Value) (Q : Flow → Shared → Prop) (E : Value → Shared → Prop), Room A n → env.scope = sc → EnvOk env → GS g κ σ₀ env Γ σ s.heap m C → 1 ≤ s.toks →
    (∀ h' tk σ' m' Γ' C', P Γ' C' → GS g κ σ₀ env Γ' σ' h' m' C' → 1 ≤ tk → Q .next { s with heap := h', toks := tk }) → W g A (exec b env) Q E s
theorem ExG.nil {P : VEnv → RC → Prop} (h : P Γ C) : ExG g n sc Γ C [] P := fun A env s κ σ₀ σ m Q E R hs ok G ht k => wpAny_execs_nil (k s.heap s.toks σ m Γ C h G ht)
theorem ExG.cons {b : Stmt} {r : List Stmt} {P P1 : VEnv → RC → Prop} (h : ExG1 g n sc Γ C b P1) (t : ∀ Γ' C', P1 Γ' C' → ExG g n sc Γ' C' r P) : ExG g n sc Γ C (b :: r) P :=
  fun A env s κ σ₀ σ m Q E R hs ok G ht k => wpAny_execs_cons (h A env s κ σ₀ σ m _ _ R hs ok G ht fun h1 t1 σ1 m1 Γ1 C1 p1 G1 k1 => t Γ1 C1 p1 A env _ κ σ₀ σ1 m1 _ _ R hs ok G1 k1 k)
theorem ExG1.ite {t : Expr} {a b : List Stmt} {pos : Pos} {c : Bool} {P : VEnv → RC → Prop} (h : TtX g n sc Γ C t c) (ha : c = true → ExG g n sc Γ C a P) (hb : c = false → ExG g n sc Γ C b P) : ExG1 g n sc Γ C (.If t a b pos) P :=
  fun A env s κ σ₀ σ m Q E R hs ok G ht k => wpAny_If (h A env s κ σ₀ σ m _ _ R hs ok G ht fun h1 t1 σ1 G1 k1 => by
    cases c with
    | true => exact ha rfl A env _ κ σ₀ σ1 m _ _ R hs ok G1 k1 k
    | false => exact hb rfl A env _ κ σ₀ σ1 m _ _ R hs ok G1 k1 k)
theorem GS.store {x : Str} {p : PV} {v : Value} {h' : Heap} (G : GS g κ σ₀ env Γ σ h m C) (hk : env.kindOf x = some .local) (r : Rep g σ p v) (hn : h'.Ns env.locals (fun y => if y = x then some v else m y)) (hs : Heap.SameBut env.locals h h') :
    GS g κ σ₀ env (upd Γ x (.val p)) σ h' (fun y => if y = x then some v else m y) C :=
  { G.toFram.store hk r hn hs with
    vals := fun y sl hy => by
      unfold upd at hy
      split at hy
      · cases hy; exact ⟨p, rfl⟩
      · exact G.vals y sl hy
    raw := fun b l e => by
      obtain ⟨vs, k, e1, r⟩ := G.raw b l e
      exact ⟨vs, k, (hs.2 b (G.offC b (by rw [e]; exact nofun)).2.2).trans e1, r⟩
    offC := G.offC
    kapC := G.kapC }
theorem ExG1.assign {x : Str} {xp pos : Pos} {e : Expr} {p : PV} (h : EvX g n sc Γ C e (Only p C)) (hk : sc.names.lookup x = some .local := by rfl) (hsw : ∀ env, swapsWith e (some (.Name x xp)) pos.line env = pure false := by intro _; rfl) : ExG1 g n sc Γ C (.Assign [.Name x xp] e pos) (fun Γ' C' => Γ' = upd Γ x (.val p) ∧ C' = C) :=
  fun A env s κ σ₀ σ m Q E R hs ok G ht k => wpAny_Assign_Name (h A env s κ σ₀ σ m _ _ R hs ok G ht fun v h1 t1 σ1 p1 C1 hp G1 r1 k1 => by
    obtain ⟨rfl, rfl⟩ := hp
    have hk' : env.kindOf x = some .local := by unfold Env.kindOf; rw [hs]; exact hk
    exact wpAny_storeName_local hk' G1.ns (fun h' hn hs' => k h' _ σ1 _ _ _ ⟨rfl, rfl⟩ (G1.store hk' r1 hn hs') (Nat.le_succ_of_le k1)) (by rw [ok.kind]; rfl)) (hsw env)
theorem GS.set {b : Addr} {l : List PV} {vs : List Value} {nn : Nat} {h' : Heap} (G : GS g κ σ₀ env Γ σ h m C) (hC : C b ≠ none) (e : h'.get? b = some { cls := .type "list", data := .seq (List.toArray vs) nn }) (r : RepL g σ l vs) (hs : Heap.SameBut b h h') : GS g κ σ₀ env Γ σ h' m (updC C b l) := by
  obtain ⟨b1, b2, b3⟩ := G.offC b hC
  have hκ := G.kapC b hC
  refine { ns := G.ns.sameBut hs (Ne.symm b3), off := G.off, tab := G.tab, slot := fun y sl hy => ?_, st := G.st.change b1 b2 hs, le := G.le, grow := fun c o nc e => ?_, fresh := G.fresh, new := G.new, newOwn := G.newOwn, apart := G.apart, newCell := G.newCell, vals := G.vals, raw := fun c l' ec => ?_, offC := fun c ec => ?_, kapC := fun c ec => ?_ }
  · obtain ⟨p, rfl⟩ := G.vals y sl hy
    exact G.slot y _ hy
  · rw [hs.2 c fun z => by rw [z, hκ] at e; cases e]; exact G.grow c o nc e
  · unfold updC at ec
    split at ec
    · rename_i hb; subst hb; cases ec; exact ⟨vs, nn, e, r⟩
    · rename_i hb
      obtain ⟨us, k, e1, r1⟩ := G.raw c l' ec
      exact ⟨us, k, (hs.2 c hb).trans e1, r1⟩
  · unfold updC at ec
    split at ec
    · rename_i hb; subst hb; exact ⟨b1, b2, b3⟩
    · exact G.offC c ec
  · unfold updC at ec
    split at ec
    · rename_i hb; subst hb; exact hκ
    · exact G.kapC c ec
end
end Mine
namespace Mine
open PySem PySem.W PyProof.Rows PySem.Calls
set_option Elab.async false
set_option maxRecDepth 100000
set_option linter.unusedVariables false
section
variable {g : Gx} {n : Nat} {sc : Scope} {Γ : VEnv} {C : RC} {κ σ₀ σ : PH} {env : Env} {h : Heap} {m : Str → Option Value}
theorem GS.allocL {l : List PV} {vs : List Value} (G : GS g κ σ₀ env Γ σ h m C) (r : RepL g σ l vs) : C h.objs.size = none ∧ GS g κ σ₀ env Γ σ (h.push { cls := .type "list", data := .seq vs.toArray }) m (updC C h.objs.size l) := by
  have S := G.st.grow (h' := h.push { cls := .type "list", data := .seq vs.toArray }) fun b o e => Heap.get?_push_of_some _ e
  have hn := size_none h
  have hC : C h.objs.size = none := by
    cases q : C h.objs.size with
    | none => rfl
    | some l => exact absurd hn (G.raw _ _ q).ne
  have hκ : κ h.objs.size = none := by
    cases q : κ h.objs.size with
    | none => rfl
    | some o => exact absurd (G.grow _ _ (size_notTab G.st) q) (by rw [hn]; exact nofun)
  have G' := G.step S
  refine ⟨hC, { G'.toFram with vals := G.vals, raw := fun b l e => ?_, offC := fun b e => ?_, kapC := fun b e => ?_ }⟩
  · unfold updC at e
    split at e
    · rename_i hb; subst hb; cases e
      exact ⟨vs, _, Heap.get?_push_size _ rfl, r⟩
    · exact G'.raw b l e
  · unfold updC at e
    split at e
    · rename_i hb; subst hb
      refine ⟨G.st.none_size, size_notTab G.st, fun z => ?_⟩
      obtain ⟨o, es, ep, e1, _⟩ := G.ns
      rw [← z] at e1; rw [e1] at hn; cases hn
    · exact G'.offC b e
  · unfold updC at e
    split at e
    · rename_i hb; subst hb; exact hκ
    · exact G.kapC b e
theorem EvX.list1 {e : Expr} {lp : Pos} {P : PV → RC → Prop} (h : EvX g n sc Γ C e P) (hst : ∀ env, starEach [e] env = (false, eval e env) :: starEach [] env := by intro _; rfl) :
    EvX g n sc Γ C (.List [e] lp) (fun p C'' => ∃ b q C', P q C' ∧ C' b = none ∧ C'' = updC C' b [q] ∧ p = .val (.ref b)) :=
  fun A env s κ σ₀ σ m Q E R hs ok G ht k => wpAny_List_spliced (wpAny_items_cons (h A env s κ σ₀ σ m _ _ R hs ok G ht fun v h1 t1 σ1 p1 C1 hp G1 r1 k1 => wpAny_pure ⟨line_ok rfl, by
    obtain ⟨hC, G2⟩ := G1.allocL (l := [p1]) (vs := [v]) (.cons r1 .nil)
    exact k _ _ t1 σ1 _ _ ⟨_, p1, C1, hp, hC, rfl, rfl⟩ G2 rep_val k1⟩) (hst env))
theorem EvX.tup3 {e1 e2 e3 : Expr} {j : Nat} {pos : Pos} {P1 : PV → RC → Prop} {P2 : PV → RC → PV → RC → Prop} {P3 : PV → RC → PV → RC → PV → RC → Prop} (h1 : EvX g n sc Γ C e1 P1) (h2 : ∀ p C', P1 p C' → EvX g n sc Γ C' e2 (P2 p C')) (h3 : ∀ p C' q C'', P1 p C' → P2 p C' q C'' → EvX g n sc Γ C'' e3 (P3 p C' q C''))
    (s1 : ∀ p C', P1 p C' → Scal p) (s2 : ∀ p C' q C'', P2 p C' q C'' → Scal q)
    (hst1 : ∀ env, starEach [e1, e2, e3] env = (false, eval e1 env) :: starEach [e2, e3] env := by intro _; rfl) (hst2 : ∀ env, starEach [e2, e3] env = (false, eval e2 env) :: starEach [e3] env := by intro _; rfl) (hst3 : ∀ env, starEach [e3] env = (false, eval e3 env) :: starEach [] env := by intro _; rfl) :
    EvX g n sc Γ C (.Tuple [e1, e2, e3] j pos) (fun p C' => ∃ p1 C1 p2 C2 p3, P1 p1 C1 ∧ P2 p1 C1 p2 C2 ∧ P3 p1 C1 p2 C2 p3 C' ∧ p = .tup [p1, p2, p3]) :=
  fun A env s κ σ₀ σ m Q E R hs ok G ht k => wpAny_Tuple_spliced (wpAny_items_cons (h1 A env s κ σ₀ σ m _ _ R hs ok G ht fun v1 hh1 t1 σ1 p1 C1 hp1 G1 r1 k1 =>
    wpAny_items_cons (h2 p1 C1 hp1 A env _ κ σ₀ σ1 m _ _ R hs ok G1 k1 fun v2 hh2 t2 σ2 p2 C2 hp2 G2 r2 k2 =>
      wpAny_items_cons (h3 p1 C1 p2 C2 hp1 hp2 A env _ κ σ₀ σ2 m _ _ R hs ok G2 k2 fun v3 hh3 t3 σ3 p3 C3 hp3 G3 r3 k3 => wpAny_pure ⟨line_ok rfl, by
        have S := G3.st.push { cls := .type "tuple", data := .seq (List.toArray [v1, v2, v3]) }
        exact k _ _ t3 _ _ C3 ⟨p1, C1, p2, C2, p3, hp1, hp2, hp3, rfl⟩ (G3.step S) (rep_tup tupP_push (.cons (s1 _ _ hp1 _ _ _ _ r1) (.cons (s2 _ _ _ _ hp2 _ _ _ _ r2) (.cons (r3.up S.le) .nil)))) k3⟩) (hst3 env)) (hst2 env)) (hst1 env))
theorem EvX.node {e1 e3 e4 : Expr} {i1 i3 i4 : Int} {j : Nat} {lp pos : Pos} (h1 : EvX g n sc Γ C e1 (Only (.int i1) C)) (h3 : ∀ b, C b = none → EvX g n sc Γ (updC C b []) e3 (Only (.int i3) (updC C b []))) (h4 : ∀ b, C b = none → EvX g n sc Γ (updC C b []) e4 (Only (.int i4) (updC C b [])))
    (hst1 : ∀ env, starEach [e1, .List [] lp, e3, e4] env = (false, eval e1 env) :: starEach [.List [] lp, e3, e4] env := by intro _; rfl) (hst2 : ∀ env, starEach [.List [] lp, e3, e4] env = (false, eval (.List [] lp) env) :: starEach [e3, e4] env := by intro _; rfl)
    (hst3 : ∀ env, starEach [e3, e4] env = (false, eval e3 env) :: starEach [e4] env := by intro _; rfl) (hst4 : ∀ env, starEach [e4] env = (false, eval e4 env) :: starEach [] env := by intro _; rfl) :
    EvX g n sc Γ C (.Tuple [e1, .List [] lp, e3, e4] j pos) (fun p C' => ∃ b, C b = none ∧ C' = updC C b [] ∧ p = .tup [.int i1, .val (.ref b), .int i3, .int i4]) :=
  fun A env s κ σ₀ σ m Q E R hs ok G ht k => wpAny_Tuple_spliced (wpAny_items_cons (h1 A env s κ σ₀ σ m _ _ R hs ok G ht fun v1 hh1 t1 σ1 p1 C1 hp1 G1 r1 k1 => by
    obtain ⟨rfl, rfl⟩ := hp1
    refine wpAny_items_cons (wpAny_List_spliced (wpAny_pure ⟨Nat.zero_le _, ?_⟩)) (hst2 env)
    obtain ⟨hC, G2⟩ := G1.allocL (l := []) (vs := []) .nil
    refine wpAny_items_cons (h3 _ hC A env _ κ σ₀ σ1 m _ _ R hs ok G2 k1 fun v3 hh3 t3 σ3 p3 C3 hp3 G3 r3 k3 => ?_) (hst3 env)
    obtain ⟨rfl, rfl⟩ := hp3
    refine wpAny_items_cons (h4 _ hC A env _ κ σ₀ σ3 m _ _ R hs ok G3 k3 fun v4 hh4 t4 σ4 p4 C4 hp4 G4 r4 k4 => wpAny_pure ⟨line_ok rfl, ?_⟩) (hst4 env)
    obtain ⟨rfl, rfl⟩ := hp4
    have S := G4.st.push { cls := .type "tuple", data := .seq (List.toArray [v1, .ref hh1.objs.size, v3, v4]) }
    exact k _ _ t4 _ _ _ ⟨_, hC, rfl, rfl⟩ (G4.step S) (rep_tup tupP_push (.cons (Scal.int _ _ _ _ r1) (.cons rep_val (.cons (Scal.int _ _ _ _ r3) (.cons (r4.up S.le) .nil))))) k4) (hst1 env))
theorem ExG1.append {o e : Expr} {ap cp pos : Pos} {b : Addr} {P : PV → RC → Prop} (ho : EvX g n sc Γ C o (Only (.val (.ref b)) C)) (he : EvX g n sc Γ C e P) (hb : C b ≠ none) (hl : ∀ p C', P p C' → ∃ l, C' b = some l ∧ l.length ≤ sizeLine)
    (hab : ∀ env, attributeBase o "append" env (eval o env) = eval o env := by intro _; rfl) (hln : (ap.endLine == cp.line) = true := by rfl) (hst : ∀ env, (starEach [e] env) = [(false, eval e env)] := by intro _; rfl)
    (hsw : ∀ env, swapsWith (.Call (.Attribute o "append" ap) [e] [] cp) none pos.line env = pure false := by intro _; rfl) :
    ExG1 g n sc Γ C (.Expr (.Call (.Attribute o "append" ap) [e] [] cp) pos) (fun Γ' C'' => Γ' = Γ ∧ ∃ p C' l, P p C' ∧ C' b = some l ∧ C'' = updC C' b (l ++ [p])) :=
  fun A env s κ σ₀ σ m Q E R hs ok G ht k => by
    refine wpAny_Expr_any ?_ ?_ (hsw env)
    · refine wpAny_Call_method (T := "list") (id := "list.append") (hab env) ?_ hln PySem.F.plainAttrs_list PySem.slot_list_append (by kernel_rfl) ?_
      · unfold backTo; rw [hst]; rfl
      refine ho A env s κ σ₀ σ m _ _ R hs ok G ht fun v h1 t1 σ1 p1 C1 hp1 G1 r1 k1 => ?_
      obtain ⟨rfl, rfl⟩ := hp1
      obtain rfl := r1.val_inv
      obtain ⟨l0, hl0⟩ := Option.ne_none_iff_exists'.mp hb
      obtain ⟨us, nn, e0, _⟩ := G1.raw b l0 hl0
      refine ⟨⟨_, e0, rfl⟩, fun b' q => by cases q; exact ⟨_, e0, rfl⟩, ?_⟩
      refine callWith_of (P := fun _ => True) (by unfold backTo; rw [hst]; rfl) (fun h _ => ⟨.machine, .inr (.inl rfl), .of_pure rfl⟩) ?_
      unfold backTo
      rw [hst]
      refine evalArgs_plain ?_
      show W g A (spliced [(false, eval e env)]) _ _ _
      show W g A (do let v ← eval e env; let here ← pure [v]; return here ++ (← holding here (spliced []))) _ _ _
      refine wpAny_bind (he A env _ κ σ₀ σ1 m _ _ R hs ok G1 k1 fun v h2 t2 σ2 p2 C2 hp2 G2 r2 k2 => ?_)
      refine wpAny_bind (wpAny_pure (wpAny_bind (wpAny_holding (wpAny_pure (wpAny_pure ⟨trivial, ?_⟩)))))
      show W g A (call (.builtin "list.append") [.ref b, v]) _ _ _
      obtain ⟨l, hl1, hl2⟩ := hl p2 C2 hp2
      obtain ⟨vs, nv, e2, rl⟩ := G2.raw b l hl1
      refine wpAny_list_append_plain ⟨nv, e2⟩ (fun h3 pl3 hs3 => ?_) (by rw [List.size_toArray, rl.length]; exact hl2)
      obtain ⟨n3, e3⟩ := pl3
      refine k _ _ _ _ _ _ ⟨rfl, p2, C2, l, hp2, hl1, rfl⟩ (G2.set (l := l ++ [p2]) (vs := vs ++ [v]) (by rw [hl1]; exact nofun) (nn := n3) ?_ (rl.snoc r2) hs3) k2
      rw [e3]; simp
    · unfold interactive; rw [ok.kind]; rfl

/-! the loop -/
noncomputable def kapG (env : Env) (C : RC) (h : Heap) : PH := open Classical in fun b => if C b ≠ none ∨ b = env.locals then none else h.get? b
theorem GS.rebase (G : GS g κ σ₀ env Γ σ h m C) : GS g (kapG env C h) σ env Γ σ h m C :=
  { ns := G.ns, off := G.off, tab := G.tab, slot := G.slot, st := G.st, le := .refl _, grow := fun b o _ e => by unfold kapG at e; split at e <;> first | cases e | exact e
    fresh := fun a e _ => e
    new := if_pos (.inr rfl)
    newOwn := fun x l a hx _ => by obtain ⟨p, q⟩ := G.vals x _ hx; cases q
    apart := fun x y l l' a hx _ _ _ => by obtain ⟨p, q⟩ := G.vals x _ hx; cases q
    newCell := fun x c hx _ => by obtain ⟨p, q⟩ := G.vals x _ hx; cases q
    vals := G.vals, raw := G.raw, offC := G.offC, kapC := fun b e => if_pos (.inl e) }
theorem GS.unbase {Γ' : VEnv} {σ' : PH} {h' : Heap} {m' : Str → Option Value} {C' : RC} (G : GS g κ σ₀ env Γ σ h m C) (G' : GS g (kapG env C h) σ env Γ' σ' h' m' C') : GS g κ σ₀ env Γ' σ' h' m' C' := by
  have up : ∀ {b o}, κ b = some o → kapG env C h b = h.get? b := fun {b o} e => if_neg fun z => by
    rcases z with z | z
    · rw [G.kapC b z] at e; cases e
    · rw [z, G.new] at e; cases e
  have up' : ∀ {b}, κ b ≠ none → kapG env C h b ≠ none := fun {b} e => by
    obtain ⟨o, q⟩ := Option.ne_none_iff_exists'.mp e
    rw [up q]; exact kept_some G.grow G.st e
  refine { ns := G'.ns, off := G'.off, tab := G'.tab, slot := G'.slot, st := G'.st, le := G.le.trans G'.le, grow := fun b o nb e => G'.grow b o nb (by rw [up e]; exact G.grow b o nb e), fresh := fun a e ne => G'.fresh a (G.fresh a e ne) (up' ne), new := G.new, newOwn := fun x l a hx _ => ?_, apart := G'.apart, newCell := fun x c hx _ => ?_, vals := G'.vals, raw := G'.raw, offC := G'.offC, kapC := fun b e => ?_ }
  · obtain ⟨p, q⟩ := G'.vals x _ hx; cases q
  · obtain ⟨p, q⟩ := G'.vals x _ hx; cases q
  · cases q : κ b with
    | none => rfl
    | some o => exact absurd (G'.kapC b e) (up' (by rw [q]; exact nofun))
def Rv (env : Env) (κ σ : PH) (h : Heap) (C : RC) (wr : List Addr) : Prop := ∀ b ∈ wr, h.get? b ≠ none ∧ σ b = none ∧ b ∉ tabA ∧ b ≠ env.locals ∧ C b = none ∧ κ b = none
theorem GS.next {h' : Heap} {wr : List Addr} (G : GS g κ σ₀ env Γ σ h m C) (rv : Rv env κ σ h C wr) (hk : ∀ b o, b ∉ wr → h.get? b = some o → h'.get? b = some o) : GS g κ σ₀ env Γ σ h' m C :=
  { G.toFram.next (wr := wr) (fun b hb => ⟨(rv b hb).1, (rv b hb).2.1, (rv b hb).2.2.1, (rv b hb).2.2.2.1, fun x l hx => (by obtain ⟨p, q⟩ := G.vals x _ hx; cases q), fun x hx => (by obtain ⟨p, q⟩ := G.vals x _ hx; cases q)⟩) (fun b hb => (rv b hb).2.2.2.2.2) hk with
    vals := G.vals
    raw := fun b l e => by
      obtain ⟨vs, k, e1, r⟩ := G.raw b l e
      exact ⟨vs, k, hk _ _ (fun z => by rw [(rv b z).2.2.2.2.1] at e; cases e) e1, r⟩
    offC := G.offC
    kapC := G.kapC }
theorem ExG1.for {x : Str} {xp : Pos} {e : Expr} {body : List Stmt} {pos : Pos} {p : PV} {ps : List PV} (J : Nat → VEnv → RC → Prop) (h : Ev g n sc Γ e p) (hi : itemsOf p = some ps) (h0 : J 0 Γ C)
    (turn : ∀ i q Γ' C', J i Γ' C' → ps[i]? = some q → ExG g n sc (upd Γ' x (.val q)) C' body (J (i + 1)))
    (hx : sc.names.lookup x = some .local := by rfl) (hf : ∀ env x, foldedSetIterable e env x = pure x := by intro _ _; rfl) : ExG1 g n sc Γ C (.For (.Name x xp) e body [] pos) (J ps.length) :=
  fun A env s κ σ₀ σ m Q E R hs ok G ht k => wpAny_with_toks ht (wpAny_For (h A env s σ m _ _ R hs ok G.st G.toVars ht fun v h1 t1 σ1 S1 r1 k1 => by
    have G1 := G.step S1
    refine iter_start R S1.st r1 hi fun I fp wr P Sx h2 hk2 src hlist => ?_
    have S2 : Step g σ1 h1 σ1 h2 := S1.st.grow hk2
    have G2 := G1.step S2
    have rv2 : Rv env κ σ1 h2 C wr := fun b hb => by
      have hn : h1.get? b = none := src.fresh b hb
      refine ⟨src.there 0 h2 src.start b hb, ?_, ?_, fun q => ?_, ?_, ?_⟩
      · cases q : σ1 b with
        | none => rfl
        | some o => have := S1.st.sub b o q; rw [hn] at this; cases this
      · intro q; obtain ⟨ps', e⟩ := ti_tab S1.st.ti q; rw [hn] at e; cases e
      · obtain ⟨o, es, ep, e, _⟩ := G1.ns; rw [q] at hn; rw [hn] at e; cases e
      · cases q : C b with
        | none => rfl
        | some l => exact absurd hn (G1.raw b l q).ne
      · cases q : κ b with
        | none => rfl
        | some o =>
          have := G1.grow b o (fun z => by obtain ⟨ps', e⟩ := ti_tab S1.st.ti z; rw [hn] at e; cases e) q
          rw [hn] at this; cases this
    have Wk := src.walks A R.hd
    refine codeAny_forLoop_any (fun d s' => ∃ i σ' h' tk m' Γ' C', s' = { s with heap := h', toks := tk } ∧ 1 ≤ tk ∧ GS g κ σ₀ env Γ' σ' h' m' C' ∧ Rv env κ σ' h' C' wr ∧ Sx i h' ∧ Le σ1 σ' ∧ i ≤ ps.length ∧ J i Γ' C' ∧ d = ps.length + 1 - i) ?_ (ps.length + 1) ⟨0, σ1, h2, t1, m, Γ, C, rfl, k1, G2, rv2, src.start, .refl _, Nat.zero_le _, h0, rfl⟩
    rintro d s' ⟨i, σ', h', tk, m', Γ', C', rfl, htk, G', rv', hx', le', hiK, hJ, rfl⟩
    by_cases hend : i = ps.length
    · subst hend
      refine Wk.done _ _ _ hx' fun h3 t3 hk3 => ?_
      exact wpAny_execs_nil (k _ _ _ _ _ _ hJ (G'.next rv' hk3))
    · have hlt : i < ps.length := by omega
      refine wpAny_with_toks htk (Wk.item i _ _ _ hlt hx' fun u h3 t3 hP hx3 hk3 htk3 => ?_)
      obtain ⟨q, hq, rq⟩ := src.item i u hlt hP
      have G3 := G'.next rv' hk3
      have rv3 : Rv env κ σ' h3 C' wr := fun b hb => ⟨src.there _ _ hx3 b hb, (rv' b hb).2⟩
      have hk' : env.kindOf x = some .local := by unfold Env.kindOf; rw [hs]; exact hx
      refine wpAny_pure ?_
      refine wpAny_assign_Name (wpAny_storeName_local hk' G3.ns (fun h4 hn4 hs4 => ?_) (by rw [ok.kind]; rfl))
      have G4 := G3.rebase.store hk' (rq.up le') hn4 hs4
      refine turn i q Γ' C' hJ hq A env _ _ _ _ _ _ _ R hs ok G4 (Nat.le_succ_of_le htk3) fun h5 t5 σ5 m5 Γ5 C5 hJ5 G5 k5 => ?_
      have kp : ∀ b ∈ wr, kapG env C' h3 b = h3.get? b := fun b hb => if_neg fun z => by
        rcases z with z | z
        · exact z (rv3 b hb).2.2.2.2.1
        · exact (rv3 b hb).2.2.2.1 z
      refine ⟨ps.length + 1 - (i + 1), by omega, i + 1, σ5, h5, t5, m5, Γ5, C5, rfl, k5, G3.unbase G5, fun b hb => ?_, Wk.frame _ _ _ hx3 fun b hb o e => ?_, le'.trans G5.le, by omega, hJ5, rfl⟩
      · have hne : kapG env C' h3 b ≠ none := by rw [kp b hb]; exact (rv3 b hb).1
        refine ⟨kept_some G5.grow G5.st hne, G5.fresh b (rv3 b hb).2.1 hne, (rv3 b hb).2.2.1, (rv3 b hb).2.2.2.1, ?_, (rv3 b hb).2.2.2.2.2⟩
        cases q : C5 b with
        | none => rfl
        | some l => exact absurd (G5.kapC b (by rw [q]; exact nofun)) hne
      · rcases src.fpIn b hb with hw | hw
        · exact G5.grow b o (rv3 b hw).2.2.1 (by rw [kp b hw]; exact e)
        · cases q' : σ1 b with
          | none => exact absurd q' hw
          | some ob =>
            have e1 : h3.get? b = some ob := G3.st.sub b ob (le' b ob q')
            have e2 : ob = o := Option.some.inj (e1.symm.trans e)
            subst e2
            exact G5.st.sub b ob (G5.le b ob (le' b ob q'))) (hf env))

/-! the end: all of them last from here on -/
def frz (σ : PH) (h : Heap) (C : RC) : PH := fun b => if (C b).isSome = true then h.get? b else σ b
theorem GS.freeze (G : GS g κ σ₀ env Γ σ h m C) : Fram g κ σ₀ env Γ (frz σ h C) h m ∧ ∀ b l, C b = some l → Rep g (frz σ h C) (.list l) (.ref b) := by
  have off : ∀ b, (C b).isSome = true → C b ≠ none := fun b e z => by rw [z] at e; cases e
  have le : Le σ (frz σ h C) := fun b o q => by
    unfold frz
    split
    · rename_i e; rw [(G.offC b (off b e)).1] at q; cases q
    · exact q
  refine ⟨{ ns := G.ns, off := ?_, tab := G.tab, slot := fun y sl hy => ?_, st := ⟨G.st.base.trans le, fun b o q => ?_, G.st.ti.keeps (fun _ _ e => e) le, fun P hP => ?_⟩, le := G.le.trans le, grow := G.grow, fresh := fun a e ne => ?_, new := G.new, newOwn := G.newOwn, apart := G.apart, newCell := G.newCell }, fun b l e => ?_⟩
  · unfold frz
    split
    · rename_i e; exact absurd rfl (G.offC _ (off _ e)).2.2
    · exact G.off
  · obtain ⟨p, rfl⟩ := G.vals y sl hy
    rcases G.slot y _ hy with ⟨b1, v1, b2, b3⟩ | ⟨b1, c1, v1, b2, b3, b4⟩
    · exact .inl ⟨b1, v1, b2, b3.up le⟩
    · exact .inr ⟨b1, c1, v1, b2, b3.mono le, b4.up le⟩
  · unfold frz at q
    split at q
    · exact q
    · exact G.st.sub b o q
  · unfold frz
    split
    · rename_i e; exact absurd hP (G.offC _ (off _ e)).2.1
    · exact G.st.off P hP
  · unfold frz
    split
    · rename_i z; exact absurd (G.kapC a (off a z)) ne
    · exact G.fresh a e ne
  · obtain ⟨vs, k, e1, r⟩ := G.raw b l e
    have e2 : frz σ h C b = h.get? b := by unfold frz; rw [e]; rfl
    exact rep_list ⟨_, k, e2.trans e1, rfl, rfl, rfl⟩ (r.up le)
theorem Fram.reslot {x : Str} {p q : PV} (F : Fram g κ σ₀ env Γ σ h m) (vals : ∀ x sl, Γ x = some sl → ∃ p, sl = .val p) (hx : Γ x = some (.val p)) (hpq : ∀ v, Rep g σ p v → Rep g σ q v) : Fram g κ σ₀ env (upd Γ x (.val q)) σ h m :=
  have vals' : ∀ y sl, upd Γ x (.val q) y = some sl → ∃ p, sl = .val p := fun y sl hy => by
    unfold upd at hy
    split at hy
    · cases hy; exact ⟨q, rfl⟩
    · exact vals y sl hy
  { ns := F.ns, off := F.off, tab := F.tab, st := F.st, le := F.le, grow := F.grow, fresh := F.fresh, new := F.new
    slot := fun y sl hy => by
      unfold upd at hy
      by_cases hyx : y = x
      · subst hyx
        rw [if_pos rfl] at hy; cases hy
        rcases F.slot y _ hx with ⟨b1, v1, b2, b3⟩ | ⟨b1, c1, v1, b2, b3, b4⟩
        · exact .inl ⟨b1, v1, b2, hpq _ b3⟩
        · exact .inr ⟨b1, c1, v1, b2, b3, hpq _ b4⟩
      · rw [if_neg hyx] at hy; exact F.slot y sl hy
    newOwn := fun y l a hy _ => by obtain ⟨p, z⟩ := vals' y _ hy; cases z
    apart := fun y _ _ _ _ hy _ _ _ => by obtain ⟨p, z⟩ := vals' y _ hy; cases z
    newCell := fun y c hy _ => by obtain ⟨p, z⟩ := vals' y _ hy; cases z }
end
end Mine
namespace Mine
open PySem PySem.W PyProof.Rows PySem.Calls
set_option Elab.async false
set_option maxRecDepth 100000
set_option linter.unusedVariables false
/-! the building of the nodes, in plain Lean -/
structure Bs where
  ns : List Nd
  rs : List Nat
  now : Nat
def putAt (ns : List Nd) (k : Nat) (p : Nat ⊕ Tx) : List Nd := ns.modify k fun d => { d with ps := d.ps ++ [p] }
def bstep (s : Bs) (x : Nat) : Bs := match s.ns[s.now]? with
  | none => s
  | some d =>
    if x % 4 = 0 ∧ d.dep < 3 then ⟨putAt s.ns s.now (.inl s.ns.length) ++ [⟨x / 4 % 5, [], s.now, d.dep + 1, 0⟩], s.rs, s.ns.length⟩
    else if x % 4 = 1 ∧ 0 < d.dep then { s with now := d.par.toNat }
    else if x % 4 = 1 then ⟨s.ns ++ [⟨x / 4 % 5, [], -1, 0, 0⟩], s.rs ++ [s.ns.length], s.ns.length⟩
    else { s with ns := putAt s.ns s.now (.inr (pieces[x / 4 % 12]?.getD [])) }
def bstart (e : Nat) : Bs := ⟨[⟨e, [], -1, 0, 0⟩], [0], 0⟩
structure Good1 (n i : Nat) (ns : List Nd) (d : Nd) : Prop where
  esc : d.e < 5
  dep : d.dep ≤ 3
  kid : ∀ k, .inl k ∈ d.ps → ∃ d', ns[k]? = some d' ∧ d'.dep = d.dep + 1
  few : d.ps.length ≤ i
  txt : ∀ x, .inr x ∈ d.ps → x ∈ pieces
  par : 0 < d.dep → ∃ p : Nat, d.par = p ∧ p < n
structure GoodB (i : Nat) (s : Bs) : Prop where
  all : ∀ d ∈ s.ns, Good1 s.ns.length i s.ns d
  len : s.ns.length ≤ i + 1
  root : ∀ k ∈ s.rs, ∃ d, s.ns[k]? = some d ∧ d.dep = 0
  rlen : s.rs.length ≤ i + 1
  now : s.now < s.ns.length
theorem good0 {e : Nat} (he : e < 5) : GoodB 0 (bstart e) := by
  refine ⟨fun d hd => ?_, Nat.le_refl _, fun k hk => ?_, Nat.le_refl _, Nat.one_pos⟩
  · obtain rfl := List.mem_singleton.mp hd
    exact ⟨he, Nat.zero_le _, (fun k h => nomatch h), Nat.le_refl _, (fun x h => nomatch h), (fun h => nomatch h)⟩
  · obtain rfl := List.mem_singleton.mp hk
    exact ⟨_, rfl, rfl⟩
theorem put_len {ns : List Nd} {k : Nat} {p : Nat ⊕ Tx} : (putAt ns k p).length = ns.length := List.length_modify ..
def addP (p : Nat ⊕ Tx) (d : Nd) : Nd := { d with ps := d.ps ++ [p] }
theorem put_at {ns : List Nd} {k : Nat} {p : Nat ⊕ Tx} (j : Nat) : (putAt ns k p)[j]? = if k = j then ns[j]?.map (addP p) else ns[j]? := by
  unfold putAt
  rw [List.getElem?_modify]
  split
  · rename_i h; subst h; simp; rfl
  · simp
theorem put_get {ns : List Nd} {k : Nat} {p : Nat ⊕ Tx} {j : Nat} {d : Nd} (h : ns[j]? = some d) : ∃ d', (putAt ns k p)[j]? = some d' ∧ d'.dep = d.dep := by
  rw [put_at]
  split
  · exact ⟨addP p d, by rw [h]; rfl, rfl⟩
  · exact ⟨_, h, rfl⟩
theorem put_mem {ns : List Nd} {k : Nat} {p : Nat ⊕ Tx} {d : Nd} (h : d ∈ putAt ns k p) : d ∈ ns ∨ ∃ d0, ns[k]? = some d0 ∧ d = { d0 with ps := d0.ps ++ [p] } := by
  obtain ⟨j, hj, e⟩ := List.getElem_of_mem h
  have e' : (putAt ns k p)[j]? = some d := by rw [← e]; exact List.getElem?_eq_getElem hj
  rw [put_at] at e'
  split at e'
  · rename_i q
    subst q
    obtain ⟨d0, h0, rfl⟩ := Option.map_eq_some_iff.mp e'
    exact .inr ⟨d0, h0, rfl⟩
  · exact .inl (List.mem_of_getElem? e')
theorem Good1.mono {n n' i i' : Nat} {ns ns' : List Nd} {d : Nd} (h : Good1 n i ns d) (hn : n ≤ n') (hi : i ≤ i') (hk : ∀ (j : Nat) d, ns[j]? = some d → ∃ d', ns'[j]? = some d' ∧ d'.dep = d.dep) : Good1 n' i' ns' d :=
  ⟨h.esc, h.dep, fun k hm => by obtain ⟨d1, e1, e2⟩ := h.kid k hm; obtain ⟨d2, e3, e4⟩ := hk k d1 e1; exact ⟨d2, e3, e4.trans e2⟩, Nat.le_trans h.few hi, h.txt, fun hp => by obtain ⟨p, e1, e2⟩ := h.par hp; exact ⟨p, e1, Nat.lt_of_lt_of_le e2 hn⟩⟩
theorem app_get {ns : List Nd} {a : List Nd} (j : Nat) (d : Nd) (h : ns[j]? = some d) : ∃ d', (ns ++ a)[j]? = some d' ∧ d'.dep = d.dep :=
  ⟨d, by rw [List.getElem?_append_left (List.getElem?_eq_some_iff.mp h).1]; exact h, rfl⟩
theorem good_step {i x : Nat} {s : Bs} (G : GoodB i s) : GoodB (i + 1) (bstep s x) := by
  obtain ⟨ns, rs, now⟩ := s
  have hn : now < ns.length := G.now
  have hd := List.getElem?_eq_getElem hn
  generalize ns[now] = d at hd
  have hdm : d ∈ ns := List.mem_of_getElem? hd
  have Gd := G.all d hdm
  have e5 : x / 4 % 5 < 5 := Nat.mod_lt _ (by decide)
  have hlen : ns.length ≤ i + 1 := G.len
  have hrl : rs.length ≤ i + 1 := G.rlen
  unfold bstep
  simp only [hd]
  split
  · rename_i hc
    have up : ∀ (j : Nat) d0, ns[j]? = some d0 → ∃ d', (putAt ns now (.inl ns.length) ++ [(⟨x / 4 % 5, [], now, d.dep + 1, 0⟩ : Nd)])[j]? = some d' ∧ d'.dep = d0.dep := fun j d0 h => by
      obtain ⟨d1, e1, e2⟩ := put_get (k := now) (p := .inl ns.length) h
      obtain ⟨d2, e3, e4⟩ := app_get (a := [⟨x / 4 % 5, [], now, d.dep + 1, 0⟩]) j d1 e1
      exact ⟨d2, e3, e4.trans e2⟩
    have hL : (putAt ns now (.inl ns.length) ++ [(⟨x / 4 % 5, [], now, d.dep + 1, 0⟩ : Nd)]).length = ns.length + 1 := by rw [List.length_append, put_len]; rfl
    refine ⟨fun d1 h1 => ?_, by show List.length _ ≤ _; rw [hL]; omega, fun k hk => ?_, by show rs.length ≤ _; omega, by show ns.length < List.length _; rw [hL]; omega⟩
    · show Good1 (List.length _) _ _ _
      rw [hL]
      rcases List.mem_append.mp h1 with h1 | h1
      · rcases put_mem h1 with h1 | ⟨d0, e0, rfl⟩
        · exact (G.all d1 h1).mono (Nat.le_succ _) (Nat.le_succ _) up
        · rw [hd] at e0; cases e0
          have M := Gd.mono (n' := ns.length + 1) (i' := i + 1) (Nat.le_succ _) (Nat.le_succ _) up
          refine ⟨M.esc, M.dep, fun k hm => ?_, ?_, fun y hm => ?_, M.par⟩
          · rcases List.mem_append.mp hm with hm | hm
            · exact M.kid k hm
            · have := List.mem_singleton.mp hm
              injection this with this; subst this
              exact ⟨_, by rw [List.getElem?_append_right (by rw [put_len]; exact Nat.le_refl _), put_len, Nat.sub_self]; rfl, rfl⟩
          · have := Gd.few
            show (d.ps ++ [_]).length ≤ _
            rw [List.length_append]; show _ + 1 ≤ _; omega
          · rcases List.mem_append.mp hm with hm | hm
            · exact M.txt y hm
            · cases List.mem_singleton.mp hm
      · obtain rfl := List.mem_singleton.mp h1
        exact ⟨e5, by show d.dep + 1 ≤ 3; omega, (fun k h => nomatch h), Nat.zero_le _, (fun y h => nomatch h), fun _ => ⟨now, rfl, by omega⟩⟩
    · obtain ⟨d0, e0, e1⟩ := G.root k hk
      obtain ⟨d2, e3, e4⟩ := up k d0 e0
      exact ⟨d2, e3, e4.trans e1⟩
  · split
    · rename_i hc
      obtain ⟨p, e1, e2⟩ := Gd.par hc.2
      refine ⟨fun d1 h1 => (G.all d1 h1).mono (Nat.le_refl _) (Nat.le_succ _) fun j d h => ⟨d, h, rfl⟩, by show ns.length ≤ _; omega, G.root, by show rs.length ≤ _; omega, ?_⟩
      show d.par.toNat < ns.length
      rw [e1]; exact e2
    · split
      · have hL : (ns ++ [(⟨x / 4 % 5, [], -1, 0, 0⟩ : Nd)]).length = ns.length + 1 := by rw [List.length_append]; rfl
        refine ⟨fun d1 h1 => ?_, by show List.length _ ≤ _; rw [hL]; omega, fun k hk => ?_, ?_, by show ns.length < List.length _; rw [hL]; omega⟩
        · show Good1 (List.length _) _ _ _
          rw [hL]
          rcases List.mem_append.mp h1 with h1 | h1
          · exact (G.all d1 h1).mono (Nat.le_succ _) (Nat.le_succ _) app_get
          · obtain rfl := List.mem_singleton.mp h1
            exact ⟨e5, Nat.zero_le _, (fun k h => nomatch h), Nat.zero_le _, (fun y h => nomatch h), (fun h => nomatch h)⟩
        · rcases List.mem_append.mp hk with hk | hk
          · obtain ⟨d0, e0, e1⟩ := G.root k hk
            obtain ⟨d2, e3, e4⟩ := app_get (a := [⟨x / 4 % 5, [], -1, 0, 0⟩]) k d0 e0
            exact ⟨d2, e3, e4.trans e1⟩
          · obtain rfl := List.mem_singleton.mp hk
            exact ⟨_, by rw [List.getElem?_append_right (Nat.le_refl _), Nat.sub_self]; rfl, rfl⟩
        · show (rs ++ [_]).length ≤ _
          rw [List.length_append]; show rs.length + 1 ≤ _; omega
      · have up : ∀ (j : Nat) d0, ns[j]? = some d0 → ∃ d', (putAt ns now (.inr (pieces[x / 4 % 12]?.getD [])))[j]? = some d' ∧ d'.dep = d0.dep := fun j d0 h => put_get h
        refine ⟨fun d1 h1 => ?_, by show List.length _ ≤ _; rw [put_len]; omega, fun k hk => ?_, by show rs.length ≤ _; omega, by show now < List.length _; rw [put_len]; exact hn⟩
        · show Good1 (List.length _) _ _ _
          rw [put_len]
          rcases put_mem h1 with h1 | ⟨d0, e0, rfl⟩
          · exact (G.all d1 h1).mono (Nat.le_refl _) (Nat.le_succ _) up
          · rw [hd] at e0; cases e0
            have M := Gd.mono (n' := ns.length) (i' := i + 1) (Nat.le_refl _) (Nat.le_succ _) up
            refine ⟨M.esc, M.dep, fun k hm => ?_, ?_, fun y hm => ?_, M.par⟩
            · rcases List.mem_append.mp hm with hm | hm
              · exact M.kid k hm
              · cases List.mem_singleton.mp hm
            · have := Gd.few
              show (d.ps ++ [_]).length ≤ _
              rw [List.length_append]; show _ + 1 ≤ _; omega
            · rcases List.mem_append.mp hm with hm | hm
              · exact M.txt y hm
              · have := List.mem_singleton.mp hm
                injection this with this; subst this
                have h12 : x / 4 % 12 < pieces.length := Nat.mod_lt _ (by decide)
                rw [List.getElem?_eq_getElem h12]
                exact List.getElem_mem h12
        · obtain ⟨d0, e0, e1⟩ := G.root k hk
          obtain ⟨d2, e3, e4⟩ := up k d0 e0
          exact ⟨d2, e3, e4.trans e1⟩
theorem good_fold : ∀ (xs : List Nat) {i : Nat} {s : Bs}, GoodB i s → GoodB (i + xs.length) (xs.foldl bstep s)
  | [], _, _, G => G
  | x :: r, i, s, G => by
    have := good_fold r (good_step (x := x) G)
    rw [List.foldl_cons, List.length_cons, show i + (r.length + 1) = i + 1 + r.length by omega]
    exact this
theorem GoodB.wf {i : Nat} {s : Bs} (G : GoodB i s) (hi : i ≤ 10) : Wf s.ns :=
  ⟨fun d h => (G.all d h).esc, fun d h => (G.all d h).dep, fun d h => (G.all d h).kid, fun d h => Nat.le_trans (G.all d h).few (by omega), Nat.le_trans G.len (by omega), fun d h => (G.all d h).txt⟩
end Mine
namespace Mine
open PySem PySem.W PyProof.Rows PySem.Calls
set_option Elab.async false
set_option maxRecDepth 100000
set_option linter.unusedVariables false
section
variable {g : Gx} {n : Nat} {sc : Scope} {Γ : VEnv} {C : RC} {κ σ₀ σ : PH} {env : Env} {h : Heap} {m : Str → Option Value}
def without (Γ : VEnv) (x : Str) : VEnv := fun y => if y = x then none else Γ y
theorem Fram.addEmpty {x : Str} {c : Addr} (F : Fram g κ σ₀ env Γ σ h m) (vals : ∀ x sl, Γ x = some sl → ∃ p, sl = .val p) (hk : env.kindOf x = some .cell) (e1 : env.cells.lookup x = some c) (e2 : σ c = none) (e3 : c ∉ tabA) (e4 : h.IsCell c none) (e5 : κ c = none) : Fram g κ σ₀ env (upd Γ x .empty) σ h m := by
  refine { ns := F.ns, off := F.off, tab := F.tab, st := F.st, le := F.le, grow := F.grow, fresh := F.fresh, new := F.new, slot := fun y sl hy => ?_, newOwn := fun y l a hy _ => ?_, apart := fun y _ _ _ _ hy _ _ _ => ?_, newCell := fun y c' hy hc => ?_ }
  · unfold upd at hy
    split at hy
    · rename_i q; subst q; cases hy
      exact ⟨hk, c, e1, e2, e3, e4⟩
    · exact F.slot y sl hy
  · unfold upd at hy
    split at hy
    · cases hy
    · obtain ⟨p, q⟩ := vals y _ hy; cases q
  · unfold upd at hy
    split at hy
    · cases hy
    · obtain ⟨p, q⟩ := vals y _ hy; cases q
  · unfold upd at hy
    split at hy
    · rename_i q; subst q
      rw [e1] at hc; cases hc; exact e5
    · obtain ⟨p, q⟩ := vals y _ hy; cases q
/-- x, y, z = e, where x is a cell -/
theorem init3 {A : Around} {s : Shared} {Q : Flow → Shared → Prop} {E : Value → Shared → Prop} {x y z : Str} {xp yp zp tp pos : Pos} {j : Nat} {e : Expr} {P : PV → RC → Prop}
    (R : Room A n) (hs : env.scope = sc) (ok : EnvOk env) (F : Fram g κ σ₀ env Γ σ s.heap m) (ht : 1 ≤ s.toks) (hx : Γ x = some .empty) (honly : ∀ w sl, Γ w = some sl → w ≠ x → ∃ p, sl = .val p)
    (he : EvX g n sc (without Γ x) (fun _ => none) e P) (hy : sc.names.lookup y = some .local) (hz : sc.names.lookup z = some .local)
    (hP : ∀ p C', P p C' → ∃ p1 p2 p3, p = .tup [p1, p2, p3])
    (k : ∀ h' tk σ' m' C' p1 p2 p3, P (.tup [p1, p2, p3]) C' → GS g κ σ₀ env (upd (upd (upd (without Γ x) x (.val p1)) y (.val p2)) z (.val p3)) σ' h' m' C' → 1 ≤ tk → Q .next { s with heap := h', toks := tk })
    (h1 : ∀ env, swapsWithSole [.Tuple [.Name x xp, .Name y yp, .Name z zp] j tp] e pos.line env = pure false) (h2 : swappedStores [.Tuple [.Name x xp, .Name y yp, .Name z zp] j tp] e env = pure none) :
    W g A (exec (.Assign [.Tuple [.Name x xp, .Name y yp, .Name z zp] j tp] e pos) env) Q E s := by
  have vals : ∀ w sl, without Γ x w = some sl → ∃ p, sl = .val p := fun w sl hw => by
    unfold without at hw
    split at hw
    · cases hw
    · rename_i q; exact honly w sl hw q
  have F0 : Fram g κ σ₀ env (without Γ x) σ s.heap m := F.weak fun w sl hw => by
    unfold without at hw
    split at hw
    · cases hw
    · exact hw
  have G0 : GS g κ σ₀ env (without Γ x) σ s.heap m (fun _ => none) := { F0 with vals := vals, raw := fun b l e => (nomatch e), offC := fun b e => absurd rfl e, kapC := fun b e => absurd rfl e }
  obtain ⟨hk, c, c1, c2, c3, c4⟩ := F.slot x _ hx
  have cL : c ≠ env.locals := cell_ne_locals F.toVars hx c1
  have cκ : κ c = none := F.newCell x c hx c1
  obtain ⟨oc, c5, c6⟩ := c4
  have ckap : kapG env (fun _ => none) s.heap c = some oc := by
    unfold kapG
    rw [if_neg (fun q => by rcases q with q | q; exact q rfl; exact cL q)]; exact c5
  refine wpAny_with_toks ht (wpAny_Assign_stores (he A env s _ _ σ m _ _ R hs ok G0.rebase ht fun v h1 t1 σ1 p C1 hp G1 r1 k1 => ?_) (h1 env) h2)
  obtain ⟨p1, p2, p3, rfl⟩ := hP p C1 hp
  have d1 : h1.get? c = some oc := G1.grow c oc c3 ckap
  have d2 : σ1 c = none := G1.fresh c c2 (by rw [ckap]; exact nofun)
  have d3 : C1 c = none := by
    cases q : C1 c with
    | none => rfl
    | some l => have := G1.kapC c (by rw [q]; exact nofun); rw [ckap] at this; cases this
  have G1' := G0.unbase G1
  obtain ⟨T, vs, rfl, L, rl⟩ := r1.tup_inv
  obtain ⟨v1, vs, rfl, q1, rl⟩ := rl.cons_inv
  obtain ⟨v2, vs, rfl, q2, rl⟩ := rl.cons_inv
  obtain ⟨v3, vs, rfl, q3, rl⟩ := rl.cons_inv
  obtain rfl := rl.nil_inv
  show W g A (PySem.assign (.Tuple [.Name x xp, .Name y yp, .Name z zp] j tp) env (.ref T)) _ _ _
  refine wpAny_assign_Tuple R.hd (L.isTuple G1'.st.sub) rfl rfl fun h2 hx2 => ?_
  have keep : ∀ b o, h1.get? b = some o → h2.get? b = some o := fun b o e => hx2 b o (Nat.ne_of_lt (Heap.lt_size e)) e
  have G2 := G1'.step (G1'.st.grow keep)
  have d1' := keep c oc d1
  show W g A (assignInOrder [PySem.assign (.Name x xp) env, PySem.assign (.Name y yp) env, PySem.assign (.Name z zp) env] [v1, v2, v3]) _ _ _
  unfold assignInOrder
  refine wpAny_bind (wpAny_holding (wpAny_assign_Name (wpAny_storeName_cell ok.kind hk c1 ⟨oc, d1', c6⟩ fun h3 hc3 hs3 => ?_)))
  have F2 := G2.toFram.addEmpty vals hk c1 d2 c3 ⟨oc, d1', c6⟩ cκ
  obtain ⟨σ3, le3, F3, same3⟩ := F2.storeC (if_pos rfl) c1 q1 hc3 hs3 fun y' hy' => by
    unfold upd at hy'
    split at hy'
    · rename_i q; exact q
    · obtain ⟨p, q⟩ := vals y' _ hy'; cases q
  have F3' : Fram g κ σ₀ env (upd (without Γ x) x (.val p1)) σ3 h3 m := F3.weak fun w sl hw => by
    unfold upd at hw ⊢
    split at hw
    · rename_i q; rw [if_pos q]; exact hw
    · rename_i q; rw [if_neg q, if_neg q]; exact hw
  have ne3 : ∀ b, C1 b ≠ none → b ≠ c := fun b e q => e (q ▸ d3)
  have G3 : GS g κ σ₀ env (upd (without Γ x) x (.val p1)) σ3 h3 m C1 := { F3' with
    vals := fun w sl hw => by
      unfold upd at hw
      split at hw
      · cases hw; exact ⟨_, rfl⟩
      · exact vals w sl hw
    raw := fun b l e => by
      obtain ⟨us, k, e1, r⟩ := G2.raw b l e
      exact ⟨us, k, (hs3.2 b (ne3 b (by rw [e]; exact nofun))).trans e1, r.up le3⟩
    offC := fun b e => by
      obtain ⟨a1, a2, a3⟩ := G2.offC b e
      exact ⟨(same3 b (ne3 b e)).trans a1, a2, a3⟩
    kapC := G2.kapC }
  have hky : env.kindOf y = some .local := by unfold Env.kindOf; rw [hs]; exact hy
  have hkz : env.kindOf z = some .local := by unfold Env.kindOf; rw [hs]; exact hz
  unfold assignInOrder
  refine wpAny_bind (wpAny_holding (wpAny_assign_Name (wpAny_storeName_local hky G3.ns (fun h4 hn4 hs4 => ?_) (by rw [ok.kind]; rfl))))
  have G4 := G3.store hky (q2.up le3) hn4 hs4
  unfold assignInOrder
  refine wpAny_bind (wpAny_holding (wpAny_assign_Name (wpAny_storeName_local hkz G4.ns (fun h5 hn5 hs5 => ?_) (by rw [ok.kind]; rfl))))
  exact wpAny_pure fun htk => k h5 _ σ3 _ C1 p1 p2 p3 hp (G4.store hkz (q3.up le3) hn5 hs5) htk
end
end Mine
namespace Mine
open PySem PySem.W PyProof.Rows PySem.Calls
set_option Elab.async false
set_option maxRecDepth 100000
set_option linter.unusedVariables false
def lawS (k : Nat) : Stmt := (stBody (stm 23))[k]?.getD (.Pass ⟨0, 0, 0, 0⟩)
def forBody : Stmt → List Stmt | .For _ _ b _ _ => b | _ => []
def tupP (b : Addr) (d : Nd) : PV := .tup [.int d.e, .val (.ref b), .int d.par, .int d.dep]
def tupls (L : List Addr) (ns : List Nd) : List PV := List.zipWith tupP L ns
def piecesP : PV := .list (strL pieces)
structure BInv (a r : Addr) (L : List Addr) (s : Bs) (Γ : VEnv) (C : RC) : Prop where
  vn : Γ "nodes" = some (.val (.val (.ref a)))
  vr : Γ "roots" = some (.val (.val (.ref r)))
  vw : Γ "now" = some (.val (.int (s.now : Nat)))
  vp : Γ "pieces" = some (.val piecesP)
  ca : C a = some (tupls L s.ns)
  cr : C r = some (s.rs.map natP)
  cl : ∀ (k : Nat) b d, L[k]? = some b → s.ns[k]? = some d → C b = some (d.ps.map pcPV)
  len : L.length = s.ns.length
  ar : a ≠ r
  la : a ∉ L
  lr : r ∉ L
  nd : L.Nodup
theorem tupls_put {L : List Addr} {ns : List Nd} {k : Nat} {p : Nat ⊕ Tx} : tupls L (putAt ns k p) = tupls L ns := by
  unfold tupls
  refine List.ext_getElem? fun j => ?_
  rw [List.getElem?_zipWith, List.getElem?_zipWith, put_at]
  by_cases q : k = j
  · rw [if_pos q]; cases L[j]? <;> cases ns[j]? <;> rfl
  · rw [if_neg q]
theorem updC_ne {C : RC} {b c : Addr} {l : List PV} (h : c ≠ b) : updC C b l c = C c := if_neg h
theorem updC_eq {C : RC} {b : Addr} {l : List PV} : updC C b l b = some l := if_pos rfl
theorem BInv.put {a r : Addr} {L : List Addr} {s : Bs} {Γ : VEnv} {C : RC} (B : BInv a r L s Γ C) {b : Addr} {d : Nd} {k : Nat} (hb : L[k]? = some b) (hd : s.ns[k]? = some d) (p : Nat ⊕ Tx) :
    BInv a r L { s with ns := putAt s.ns k p } Γ (updC C b (d.ps.map pcPV ++ [pcPV p])) := by
  have hbm : b ∈ L := List.mem_of_getElem? hb
  refine { B with ca := ?_, cr := ?_, cl := fun j c d' hc hd' => ?_, len := B.len.trans put_len.symm }
  · rw [updC_ne (fun q : a = b => B.la (q ▸ hbm)), B.ca]
    show _ = some (tupls L (putAt s.ns k p)); rw [tupls_put]
  · rw [updC_ne (fun q : r = b => B.lr (q ▸ hbm))]; exact B.cr
  · have hd2 : (putAt s.ns k p)[j]? = some d' := hd'
    rw [put_at] at hd2
    by_cases q : k = j
    · subst q
      rw [if_pos rfl, hd] at hd2
      rw [hb] at hc; cases hc; cases hd2
      rw [updC_eq]; show _ = some ((d.ps ++ [p]).map pcPV); rw [List.map_append]; rfl
    · rw [if_neg q] at hd2
      rw [updC_ne fun z => ?_]
      · exact B.cl j c d' hc hd2
      · subst z
        have h1 := (List.getElem?_eq_some_iff.mp hb).1
        have h2 := (List.getElem?_eq_some_iff.mp hc).1
        exact q ((List.getElem_inj B.nd).mp ((List.getElem?_eq_some_iff.mp hb).2.trans (List.getElem?_eq_some_iff.mp hc).2.symm))
theorem BInv.new {a r : Addr} {L : List Addr} {s : Bs} {Γ : VEnv} {C : RC} (B : BInv a r L s Γ C) {b : Addr} {d : Nd} (hb : C b = none) (hd : d.ps = []) :
    BInv a r (L ++ [b]) { s with ns := s.ns ++ [d] } Γ (updC (updC C b []) a (tupls L s.ns ++ [tupP b d])) := by
  have hba : b ≠ a := fun q => by rw [q, B.ca] at hb; cases hb
  have hbr : b ≠ r := fun q => by rw [q, B.cr] at hb; cases hb
  have hbL : b ∉ L := fun q => by
    obtain ⟨k, hk, e⟩ := List.getElem_of_mem q
    have hk' : k < s.ns.length := by rw [← B.len]; exact hk
    have := B.cl k b s.ns[k] (by rw [← e]; exact List.getElem?_eq_getElem hk) (List.getElem?_eq_getElem hk')
    rw [hb] at this; cases this
  refine { vn := B.vn, vr := B.vr, vw := B.vw, vp := B.vp, ca := ?_, cr := ?_, cl := fun j c d' hc hd' => ?_, len := ?_, ar := B.ar, la := ?_, lr := ?_, nd := ?_ }
  · rw [updC_eq]; show _ = some (tupls (L ++ [b]) (s.ns ++ [d]))
    unfold tupls; rw [List.zipWith_append B.len]; rfl
  · rw [updC_ne (Ne.symm B.ar), updC_ne (Ne.symm hbr)]; exact B.cr
  · have hd2 : (s.ns ++ [d])[j]? = some d' := hd'
    by_cases q : j < L.length
    · rw [List.getElem?_append_left q] at hc
      rw [List.getElem?_append_left (by rw [← B.len]; exact q)] at hd2
      have hcL := List.mem_of_getElem? hc
      rw [updC_ne (fun z : c = a => B.la (z ▸ hcL)), updC_ne (fun z : c = b => hbL (z ▸ hcL))]
      exact B.cl j c d' hc hd2
    · have hj := (List.getElem?_eq_some_iff.mp hc).1
      rw [List.length_append, List.length_singleton] at hj
      obtain rfl : j = L.length := by omega
      rw [List.getElem?_append_right (Nat.le_refl _), Nat.sub_self] at hc
      rw [B.len, List.getElem?_append_right (Nat.le_refl _), Nat.sub_self] at hd2
      cases hc; cases hd2
      rw [updC_ne hba, updC_eq, hd]; rfl
  · show (L ++ [b]).length = (s.ns ++ [d]).length
    rw [List.length_append, List.length_append, B.len]; rfl
  · rw [List.mem_append, List.mem_singleton, not_or]; exact ⟨B.la, Ne.symm hba⟩
  · rw [List.mem_append, List.mem_singleton, not_or]; exact ⟨B.lr, Ne.symm hbr⟩
  · rw [List.nodup_append]; refine ⟨B.nd, List.pairwise_singleton _ _, fun c hc d hd => ?_⟩
    obtain rfl := List.mem_singleton.mp hd
    exact fun z => hbL (z ▸ hc)
theorem BInv.root {a r : Addr} {L : List Addr} {s : Bs} {Γ : VEnv} {C : RC} (B : BInv a r L s Γ C) (k : Nat) : BInv a r L { s with rs := s.rs ++ [k] } Γ (updC C r (s.rs.map natP ++ [natP k])) :=
  { B with
    ca := by rw [updC_ne B.ar]; exact B.ca
    cr := by rw [updC_eq]; show _ = some ((s.rs ++ [k]).map natP); rw [List.map_append]; rfl
    cl := fun j c d hc hd => by rw [updC_ne (fun z : c = r => B.lr (z ▸ List.mem_of_getElem? hc))]; exact B.cl j c d hc hd }
theorem BInv.to {a r : Addr} {L : List Addr} {s : Bs} {Γ : VEnv} {C : RC} (B : BInv a r L s Γ C) (k : Nat) : BInv a r L { s with now := k } (upd Γ "now" (.val (.int (k : Nat)))) C :=
  { B with vn := B.vn, vr := B.vr, vw := rfl, vp := B.vp }
theorem BInv.keepA {a r : Addr} {L : List Addr} {s : Bs} {Γ : VEnv} {C : RC} (B : BInv a r L s Γ C) {b : Addr} (hb : C b = none) : updC C b [] a = some (tupls L s.ns) := by
  rw [updC_ne (fun q : a = b => by rw [← q, B.ca] at hb; cases hb)]; exact B.ca
theorem BInv.neA {a r : Addr} {L : List Addr} {s : Bs} {Γ : VEnv} {C : RC} (B : BInv a r L s Γ C) : C a ≠ none := by rw [B.ca]; exact nofun
theorem BInv.turn {a r : Addr} {L : List Addr} {s : Bs} {Γ : VEnv} {C : RC} (B : BInv a r L s Γ C) (p : PV) : BInv a r L s (upd Γ "x" (.val p)) C :=
  { B with vn := B.vn, vr := B.vr, vw := B.vw, vp := B.vp }
section
variable {g : Gx} {n : Nat} {sc : Scope} {Γ : VEnv} {C : RC}
theorem ev_at {L : List Addr} {ns : List Nd} {k : Nat} {b : Addr} {d : Nd} {j : Nat} {p : PV} {p1 p2 p3 p4 p5 : Pos} {jj : Nat} {z : Int} (hn : Γ "nodes" = some (.val (.list (tupls L ns)))) (hw : Γ "now" = some (.val (.int (k : Nat)))) (hb : L[k]? = some b) (hd : ns[k]? = some d) (hlen : ns.length ≤ 100)
    (hj : ([.int d.e, .val (.ref b), .int d.par, .int d.dep] : List PV)[j]? = some p) (hz : z = (j : Nat)) : Ev g n sc Γ (.Subscript (.Subscript (.Name "nodes" p1) (.Name "now" p2) p3) (.Constant (.int z) jj p4) p5) p := by
  subst hz
  have h100 : 100 ≤ 2 ^ 40 := by decide
  have hl : (tupls L ns).length ≤ 2 ^ 40 := by unfold tupls; rw [List.length_zipWith]; exact Nat.le_trans (Nat.min_le_right _ _) (Nat.le_trans hlen h100)
  refine Ev.atT (i := j) (Ev.atL (l := tupls L ns) (i := k) (c := tupP b d) (Ev.name hn) (Ev.name hw) ?_ hl) Ev.int hj (by show 4 ≤ 2 ^ 40; decide)
  unfold tupls; rw [List.getElem?_zipWith, hb, hd]
theorem ev_len {L : List Addr} {ns : List Nd} {p1 p2 p3 : Pos} (hn : Γ "nodes" = some (.val (.list (tupls L ns)))) (hL : L.length = ns.length) (hlen : ns.length ≤ 100) (hk : sc.names.lookup ("len" : Str) = some .globalImplicit) : Ev g n sc Γ (.Call (.Name "len" p1) [.Name "nodes" p2] [] p3) (.int (ns.length : Nat)) := by
  have e : (tupls L ns).length = ns.length := by unfold tupls; rw [List.length_zipWith, hL, Nat.min_self]
  have h2 : 100 < 2 ^ 63 := by decide
  have := Ev.bi (g := g) (n := n) (sc := sc) (Γ := Γ) (np := p1) (pos := p3) (by decide) rfl KeepOk.builtin (Evs.cons (Ev.name (pos := p2) hn) Evs.nil) (Cl.lenL (by rw [e]; omega)) hk
  rw [e] at this; exact this
theorem scopeLen : (stScope (stm 23)).names.lookup ("len" : Str) = some .globalImplicit := rfl
theorem bbody {a r : Addr} {L : List Addr} {s : Bs} {i x : Nat} (B : BInv a r L s Γ C) (G : GoodB i s) (hi : i ≤ 10) (hx : Γ "x" = some (.val (.int (x : Nat)))) :
    ExG g 20 (stScope (stm 23)) Γ C (forBody (lawS 4)) (fun Γ' C' => ∃ L', BInv a r L' (bstep s x) Γ' C') := by
  obtain ⟨ns, rs, now⟩ := s
  have hn : now < ns.length := G.now
  have hd := List.getElem?_eq_getElem hn
  have hb := List.getElem?_eq_getElem (l := L) (i := now) (by rw [B.len]; exact hn)
  generalize ns[now] = d at hd
  generalize L[now]'(by rw [B.len]; exact hn) = b at hb
  have hlen : ns.length ≤ i + 1 := G.len
  have h100 : ns.length ≤ 100 := by omega
  have hLl : L.length = ns.length := B.len
  have Gd := G.all d (List.mem_of_getElem? hd)
  have hCb : C b = some (d.ps.map pcPV) := B.cl now b d hb hd
  have hsz : 1000 ≤ sizeLine := line_ok rfl
  have hfew := Gd.few
  conv => arg 6; whnf
  have m4 : ∀ {Γ : VEnv} {p1 p2 p3 : Pos} {j : Nat}, Γ "x" = some (.val (.int (x : Nat))) → Ev g 20 (stScope (stm 23)) Γ (.BinOp (.Name "x" p1) .Mod (.Constant (.int 4) j p2) p3) (.int ((x % 4 : Nat) : Int)) := fun h => Ev.bin (Ev.name h) Ev.int (Op2.modI (by decide))
  have q4 : ∀ {Γ : VEnv} {p1 p2 p3 p4 p5 : Pos} {j j2 k : Nat} {z : Int}, z = (k : Nat) → 0 < k → Γ "x" = some (.val (.int (x : Nat))) → Ev g 20 (stScope (stm 23)) Γ (.BinOp (.BinOp (.Name "x" p1) .FloorDiv (.Constant (.int 4) j p2) p3) .Mod (.Constant (.int z) j2 p4) p5) (.int ((x / 4 % k : Nat) : Int)) := fun hz hk h => by
    subst hz
    exact Ev.bin (Ev.bin (Ev.name h) Ev.int (Op2.divI (by decide) rfl)) Ev.int (Op2.modI (by omega))
  have hst : bstep ⟨ns, rs, now⟩ x = if x % 4 = 0 ∧ d.dep < 3 then ⟨putAt ns now (.inl ns.length) ++ [⟨x / 4 % 5, [], now, d.dep + 1, 0⟩], rs, ns.length⟩
      else if x % 4 = 1 ∧ 0 < d.dep then ⟨ns, rs, d.par.toNat⟩ else if x % 4 = 1 then ⟨ns ++ [⟨x / 4 % 5, [], -1, 0, 0⟩], rs ++ [ns.length], ns.length⟩ else ⟨putAt ns now (.inr (pieces[x / 4 % 12]?.getD [])), rs, now⟩ := by
    unfold bstep; simp only [hd]
  rw [hst]
  have e0 : (((x % 4 : Nat) : Int) == 0) = decide (x % 4 = 0) := by rw [show (((x % 4 : Nat) : Int) == 0) = decide (((x % 4 : Nat) : Int) = 0) from rfl]; exact decide_eq_decide.mpr (by omega)
  have e1 : (((x % 4 : Nat) : Int) == 1) = decide (x % 4 = 1) := by rw [show (((x % 4 : Nat) : Int) == 1) = decide (((x % 4 : Nat) : Int) = 1) from rfl]; exact decide_eq_decide.mpr (by omega)
  refine ExG.cons (ExG1.ite (c := (((x % 4 : Nat) : Int) == 0) && decide ((d.dep : Int) < 3)) (TtX.of (x := "nodes") (Tt.and (Tt.cmp (m4 hx) Ev.int Op2.eqI) (fun _ => Tt.cmp (ev_at rfl B.vw hb hd h100 (j := 3) rfl rfl) Ev.int Op2.ltI)) B.vn B.ca) (fun h => ?_) (fun h => ?_)) (fun Γ' C' h => ExG.nil h)
  · rw [e0, Bool.and_eq_true, decide_eq_true_iff, decide_eq_true_iff] at h
    have hc : x % 4 = 0 ∧ d.dep < 3 := ⟨h.1, by omega⟩
    rw [if_pos hc]
    refine ExG.cons (ExG1.append (b := b) (EvX.of (x := "nodes") (ev_at rfl B.vw hb hd h100 (j := 1) rfl rfl) Scal.val B.vn B.ca) (EvX.of (x := "nodes") (ev_len rfl hLl h100 scopeLen) Scal.int B.vn B.ca) (by rw [hCb]; exact nofun) (fun p C' hp => ⟨d.ps.map pcPV, by rw [hp.2]; exact hCb, by rw [List.length_map]; omega⟩)) (fun Γ1 C1 h1 => ?_)
    obtain ⟨rfl, p, C', l, ⟨rfl, rfl⟩, hl, rfl⟩ := h1
    rw [hCb] at hl; cases hl
    have B1 : BInv a r L _ Γ1 _ := B.put hb hd (.inl ns.length)
    obtain ⟨d1, hd1, hdep⟩ := put_get (k := now) (p := .inl ns.length) hd
    have l1 : (putAt ns now (.inl ns.length)).length ≤ 100 := by rw [put_len]; exact h100
    have la' : (tupls L (putAt ns now (.inl ns.length))).length ≤ sizeLine := by unfold tupls; rw [List.length_zipWith, put_len]; omega
    refine ExG.cons (ExG1.append (b := a) (EvX.plain (Ev.name B1.vn)) (EvX.node (i1 := ((x / 4 % 5 : Nat) : Int)) (i3 := (now : Nat)) (i4 := (d.dep : Int) + 1) (EvX.of (x := "nodes") (q4 rfl (by decide) hx) Scal.int B1.vn B1.ca) (fun b2 hb2 => EvX.of (x := "nodes") (Ev.name B1.vw) Scal.int B1.vn (B1.keepA hb2)) (fun b2 hb2 => EvX.of (x := "nodes") (Ev.bin (ev_at (p := .int (d1.dep : Nat)) rfl B1.vw hb hd1 l1 (j := 3) rfl rfl) Ev.int (by rw [hdep]; exact Op2.addI)) Scal.int B1.vn (B1.keepA hb2))) B1.neA (fun p C' hp => ?_)) (fun Γ2 C2 h2 => ?_)
    · obtain ⟨b2, hb2, rfl, rfl⟩ := hp
      exact ⟨_, B1.keepA hb2, la'⟩
    obtain ⟨rfl, p, C3, l, ⟨b2, hb2, rfl, rfl⟩, hl, rfl⟩ := h2
    cases (B1.keepA hb2).symm.trans hl
    have B2 : BInv a r (L ++ [b2]) _ Γ2 _ := B1.new (b := b2) (d := ⟨x / 4 % 5, [], now, d.dep + 1, 0⟩) hb2 rfl
    have hlen2 : (putAt ns now (.inl ns.length) ++ [(⟨x / 4 % 5, [], now, d.dep + 1, 0⟩ : Nd)]).length = ns.length + 1 := by rw [List.length_append, put_len]; rfl
    refine ExG.cons (ExG1.assign (p := .int (ns.length : Nat)) (EvX.of (x := "nodes") (Ev.bin (ev_len (L := L ++ [b2]) (ns := putAt ns now (.inl ns.length) ++ [(⟨x / 4 % 5, [], now, d.dep + 1, 0⟩ : Nd)]) rfl B2.len (by rw [hlen2]; omega) scopeLen) Ev.int ?_) Scal.int B2.vn B2.ca)) (fun Γ3 C3 h3 => ?_)
    · rw [hlen2, show (ns.length : Int) = ((ns.length + 1 : Nat) : Int) - 1 by omega]; exact Op2.subI
    obtain ⟨rfl, rfl⟩ := h3
    exact ExG.nil ⟨_, B2.to ns.length⟩
  · rw [e0, Bool.and_eq_false_iff, decide_eq_false_iff_not, decide_eq_false_iff_not] at h
    rw [if_neg (by omega)]
    refine ExG.cons (ExG1.ite (c := (((x % 4 : Nat) : Int) == 1) && decide ((0 : Int) < (d.dep : Int))) (TtX.of (x := "nodes") (Tt.and (Tt.cmp (m4 hx) Ev.int Op2.eqI) (fun _ => Tt.cmp (ev_at rfl B.vw hb hd h100 (j := 3) rfl rfl) Ev.int Op2.gtI)) B.vn B.ca) (fun h => ?_) (fun h => ?_)) (fun Γ' C' h => ExG.nil h)
    · rw [e1, Bool.and_eq_true, decide_eq_true_iff, decide_eq_true_iff] at h
      have hc : x % 4 = 1 ∧ 0 < d.dep := ⟨h.1, by omega⟩
      rw [if_pos hc]
      obtain ⟨q, hq, _⟩ := Gd.par hc.2
      refine ExG.cons (ExG1.assign (p := .int d.par) (EvX.of (x := "nodes") (ev_at rfl B.vw hb hd h100 (j := 2) rfl rfl) Scal.int B.vn B.ca)) (fun Γ3 C3 h3 => ?_)
      obtain ⟨rfl, rfl⟩ := h3
      have := B.to d.par.toNat
      rw [show ((d.par.toNat : Nat) : Int) = d.par by rw [hq]; rfl] at this
      exact ExG.nil ⟨_, this⟩
    · rw [e1, Bool.and_eq_false_iff, decide_eq_false_iff_not, decide_eq_false_iff_not] at h
      rw [if_neg (by omega)]
      refine ExG.cons (ExG1.ite (c := (((x % 4 : Nat) : Int) == 1)) (TtX.of (x := "nodes") (Tt.cmp (m4 hx) Ev.int Op2.eqI) B.vn B.ca) (fun h => ?_) (fun h => ?_)) (fun Γ' C' h => ExG.nil h)
      · rw [e1, decide_eq_true_iff] at h
        rw [if_pos h]
        refine ExG.cons (ExG1.assign (EvX.of (x := "nodes") (ev_len rfl hLl h100 scopeLen) Scal.int B.vn B.ca)) (fun Γ1 C1 h1 => ?_)
        obtain ⟨rfl, rfl⟩ := h1
        have B1 := B.to ns.length
        have hrl := G.rlen
        refine ExG.cons (ExG1.append (b := r) (EvX.plain (Ev.name B1.vr)) (EvX.plain (Ev.name B1.vw)) (by rw [B1.cr]; exact nofun) (fun p C' hp => ⟨rs.map natP, by rw [hp.2]; exact B1.cr, ?_⟩)) (fun Γ2 C2 h2 => ?_)
        · rw [List.length_map]; show rs.length ≤ _; have : rs.length ≤ i + 1 := hrl; omega
        obtain ⟨rfl, p, C', l, ⟨rfl, rfl⟩, hl, rfl⟩ := h2
        rw [B1.cr] at hl; cases hl
        have B2 := B1.root ns.length
        have la' : (tupls L ns).length ≤ sizeLine := by unfold tupls; rw [List.length_zipWith]; omega
        refine ExG.cons (ExG1.append (b := a) (EvX.plain (Ev.name B2.vn)) (EvX.node (i1 := ((x / 4 % 5 : Nat) : Int)) (i3 := -1) (i4 := 0) (EvX.of (x := "nodes") (q4 rfl (by decide) hx) Scal.int B2.vn B2.ca) (fun b2 hb2 => EvX.of (x := "nodes") (Ev.neg Ev.int) Scal.int B2.vn (B2.keepA hb2)) (fun b2 hb2 => EvX.of (x := "nodes") Ev.int Scal.int B2.vn (B2.keepA hb2))) B2.neA (fun p C' hp => ?_)) (fun Γ2 C2 h2 => ?_)
        · obtain ⟨b2, hb2, rfl, rfl⟩ := hp
          exact ⟨_, B2.keepA hb2, la'⟩
        obtain ⟨rfl, p, C3, l, ⟨b2, hb2, rfl, rfl⟩, hl, rfl⟩ := h2
        cases (B2.keepA hb2).symm.trans hl
        exact ExG.nil ⟨_, B2.new (b := b2) (d := ⟨x / 4 % 5, [], -1, 0, 0⟩) hb2 rfl⟩
      · rw [e1, decide_eq_false_iff_not] at h
        rw [if_neg h]
        have h12 : x / 4 % 12 < pieces.length := Nat.mod_lt _ (by decide)
        have hpc := List.getElem?_eq_getElem h12
        generalize pieces[x / 4 % 12] = t at hpc
        refine ExG.cons (ExG1.append (b := b) (EvX.of (x := "nodes") (ev_at rfl B.vw hb hd h100 (j := 1) rfl rfl) Scal.val B.vn B.ca) (EvX.of (x := "nodes") (p := .str (mkS t)) (Ev.atL (l := strL pieces) (i := x / 4 % 12) (Ev.name B.vp) (q4 rfl (by decide) hx) ?_ ?_) Scal.str B.vn B.ca) (by rw [hCb]; exact nofun) (fun p C' hp => ⟨d.ps.map pcPV, by rw [hp.2]; exact hCb, by rw [List.length_map]; omega⟩)) (fun Γ1 C1 h1 => ?_)
        · unfold strL; rw [List.getElem?_map, hpc]; rfl
        · show 12 ≤ 2 ^ 40; decide
        obtain ⟨rfl, p, C', l, ⟨rfl, rfl⟩, hl, rfl⟩ := h1
        rw [hCb] at hl; cases hl
        rw [hpc]
        exact ExG.nil ⟨_, B.put hb hd (.inr t)⟩
end
end Mine
namespace Mine
open PySem PySem.W PyProof.Rows PySem.Calls
set_option Elab.async false
set_option maxRecDepth 100000
set_option linter.unusedVariables false
section
variable {g : Gx} {n : Nat} {sc : Scope} {Γ : VEnv} {C : RC}
theorem ints_of {σ : PH} : ∀ {is : List Int} {vs : List Value}, RepL g σ (is.map .int) vs → ∃ ys : List (Int × Tok), vs = ys.map (fun p => Value.int p.1 p.2) ∧ ys.map (·.1) = is
  | [], vs, r => ⟨[], r.nil_inv, rfl⟩
  | i :: is, vs, r => by
    obtain ⟨v, vs, rfl, r1, r2⟩ := r.cons_inv
    obtain ⟨t, rfl⟩ := r1.int_inv
    obtain ⟨ys, e1, e2⟩ := ints_of r2
    exact ⟨(i, t) :: ys, by rw [e1]; rfl, by rw [← e2]; rfl⟩
theorem Cl.sum {is : List Int} : Cl g n (.builtin "sum") [.list (is.map .int)] (.int is.sum) := .mk fun A s σ ws Q E R S r ht k => by
  obtain ⟨v1, us, rfl, r1, r⟩ := r.cons_inv; rw [r.nil_inv]
  obtain ⟨l, vs, rfl, L, rl⟩ := r1.list_inv
  obtain ⟨ys, rfl, e2⟩ := ints_of rl
  have hl : s.heap.IsList l (intItems ys.toArray) := by
    have := L.isList S.sub
    have e : intItems ys.toArray = (ys.map fun p => Value.int p.1 p.2).toArray := by simp [intItems]
    rw [e]; exact this
  refine sum_intListG R.hd hl fun h' tk t' hk => ?_
  have e : preSum (numAt ys.toArray) ys.toArray.size = is.sum := by
    rw [preSum_eq, List.take_of_length_le (by simp), ← e2]
  rw [e]
  exact k _ h' tk σ (S.grow hk) rep_int
/-- a comprehension over ints -/
theorem Ev.compN {elt iter : Expr} {x : Str} {px : Pos} {scope : Scope} {pos : Pos} {rs : List Nat} (f : Nat → PV) (Cs : CompSide scope sc Γ x) (h : Ev g n sc Γ iter (.list (rs.map natP))) (hsz : rs.length ≤ sizeLine)
    (helt : ∀ k ∈ rs, Ev g n (relab scope sc) (upd (seen scope Γ) x (.val (natP k))) elt (f k)) (hf : ∀ env x, foldedSetIterable iter env x = pure x := by intro _ _; rfl) : Ev g n sc Γ (.ListComp elt [⟨.Name x px, iter, [], 0⟩] scope pos) (.list (rs.map f)) := by
  have := Ev.compR (elt := elt) (px := px) (pos := pos) (ps := rs.map natP) (fun _ => true) (fun i => (rs.take i).map f) Cs h rfl (by rw [List.length_map]; exact hsz) (fun _ _ => .inl ⟨rfl, rfl⟩) rfl (fun _ _ _ q => nomatch q) (fun i hi => by rw [List.length_map, List.length_map, List.length_take]; exact Nat.min_le_right _ _) (fun i q hq _ => ?_) hf
  · rw [List.length_map, List.take_length] at this; exact this
  · rw [List.getElem?_map] at hq
    obtain ⟨k, hk, rfl⟩ := Option.map_eq_some_iff.mp hq
    exact ⟨f k, by rw [List.take_add_one, hk, List.map_append]; rfl, helt k (List.mem_of_getElem? hk)⟩
theorem RepL.conv {σ : PH} : ∀ {ps qs : List PV} {vs : List Value}, ps.length = qs.length → (∀ (i : Nat) p q, ps[i]? = some p → qs[i]? = some q → ∀ v, Rep g σ p v → Rep g σ q v) → RepL g σ ps vs → RepL g σ qs vs
  | [], [], vs, _, _, r => r
  | p :: ps, q :: qs, vs, hl, h, r => by
    obtain ⟨v, vs, rfl, r1, r2⟩ := r.cons_inv
    exact .cons (h 0 p q rfl rfl v r1) (RepL.conv (Nat.succ.inj hl) (fun i p q hp hq => h (i + 1) p q hp hq) r2)
/-- the names that the law still wants when the nodes stand -/
def endΓ (s : Bs) : VEnv := fun y => if y = "nodes" then some (.val (ndsPV s.ns)) else if y = "roots" then some (.val (.list (s.rs.map natP))) else none
theorem settle {κ σ₀ σ : PH} {env : Env} {h : Heap} {m : Str → Option Value} {a r : Addr} {L : List Addr} {s : Bs} (B : BInv a r L s Γ C) (G : GS g κ σ₀ env Γ σ h m C) : Fram g κ σ₀ env (endΓ s) (frz σ h C) h m := by
  obtain ⟨F, hr⟩ := G.freeze
  have F1 := F.reslot (q := .list (s.rs.map natP)) G.vals B.vr fun v hv => by rw [hv.val_inv]; exact hr r _ B.cr
  have vals1 : ∀ x sl, upd Γ "roots" (.val (.list (s.rs.map natP))) x = some sl → ∃ p, sl = .val p := fun y sl hy => by
    unfold upd at hy
    split at hy
    · cases hy; exact ⟨_, rfl⟩
    · exact G.vals y sl hy
  have F2 := F1.reslot (x := "nodes") (q := ndsPV s.ns) vals1 B.vn fun v hv => by
    rw [hv.val_inv]
    obtain ⟨a', vs, e, l1, l2⟩ := (hr a _ B.ca).list_inv
    cases e
    refine rep_list l1 (RepL.conv (ps := tupls L s.ns) (qs := s.ns.map ndPV) (by unfold tupls; rw [List.length_zipWith, List.length_map, B.len, Nat.min_self]) (fun i p q hp hq v hv => ?_) l2)
    unfold tupls at hp
    rw [List.getElem?_zipWith] at hp
    rw [List.getElem?_map] at hq
    cases hb : L[i]? with
    | none => rw [hb] at hp; cases hp
    | some b =>
      cases hd : s.ns[i]? with
      | none => rw [hb, hd] at hp; cases hp
      | some d =>
        rw [hb, hd] at hp
        rw [hd] at hq
        cases hp; cases hq
        obtain ⟨T, ws, rfl, t1, t2⟩ := hv.tup_inv
        obtain ⟨w1, ws, rfl, q1, t2⟩ := t2.cons_inv
        obtain ⟨w2, ws, rfl, q2, t2⟩ := t2.cons_inv
        obtain ⟨w3, ws, rfl, q3, t2⟩ := t2.cons_inv
        obtain ⟨w4, ws, rfl, q4, t2⟩ := t2.cons_inv
        obtain rfl := t2.nil_inv
        refine rep_tup t1 (.cons q1 (.cons ?_ (.cons q3 (.cons q4 .nil))))
        rw [q2.val_inv]
        exact hr b _ (B.cl i b d hb hd)
  refine F2.weak fun y sl hy => ?_
  unfold endΓ at hy
  unfold upd
  split at hy
  · rename_i q; rw [if_pos q]; exact hy
  · rename_i q
    rw [if_neg q]
    split at hy
    · rename_i q; rw [if_pos q]; exact hy
    · cases hy
def defs10 : List Nat := [4, 14, 16, 6, 1, 5, 8, 10, 9, 13]
def numsOf10 (is : List Int) : List Nat := (is.take 10).map (fun x => (x % 1000000).toNat) ++ defs10.drop (is.take 10).length
theorem nums_len (is : List Int) : (numsOf10 is).length = 10 := by
  unfold numsOf10
  rw [List.length_append, List.length_map, List.length_drop]
  have : (is.take 10).length ≤ 10 := by rw [List.length_take]; exact Nat.min_le_left _ _
  show _ + (10 - _) = 10; omega
def endBs (is : List Int) : Bs := (numsOf10 is).foldl bstep (bstart ((((numsOf10 is).map fun x : Nat => (x : Int)).sum % 5).toNat))
theorem law_list : stBody (stm 23) = [lawS 0, lawS 1, lawS 2, lawS 3, lawS 4] ++ (stBody (stm 23)).drop 5 := rfl
end
end Mine
namespace Mine
open PySem PySem.W PyProof.Rows PySem.Calls
set_option Elab.async false
set_option maxRecDepth 100000
set_option linter.unusedVariables false
section
variable {g : Gx} {n : Nat} {sc : Scope} {Γ : VEnv} {C : RC}
theorem pySl_take {α : Type} (l : List α) (k : Nat) : pySl l none (some (k : Int)) = l.take k := by
  unfold pySl
  show (l.take (clp l.length (k : Int))).drop 0 = _
  rw [clp_nat, List.drop_zero, ← List.take_eq_take_min]
theorem pySl_drop {α : Type} (l : List α) (k : Nat) : pySl l (some (k : Int)) none = l.drop k := by
  unfold pySl
  show (l.take l.length).drop (clp l.length (k : Int)) = _
  rw [clp_nat, List.take_length]
  by_cases h : k ≤ l.length
  · rw [Nat.min_eq_left h]
  · rw [Nat.min_eq_right (by omega), List.drop_eq_nil_of_le (Nat.le_refl _), List.drop_eq_nil_of_le (by omega)]
theorem pySl_last {α : Type} (l : List α) : pySl l none (some (-1)) = l.dropLast := by
  unfold pySl
  show (l.take (clp l.length (-1))).drop 0 = _
  have : clp l.length (-1) = l.length - 1 := by unfold clp; rw [if_pos (by decide)]; omega
  rw [this, List.drop_zero, List.dropLast_eq_take]
/-- written items -/
inductive ConEs : List Expr → List PV → Prop
  | nil : ConEs [] []
  | int {i : Int} {k : Nat} {p : Pos} {es : List Expr} {ps : List PV} (t : ConEs es ps) : ConEs (.Constant (.int i) k p :: es) (.int i :: ps)
  | str {x : Str} {k : Nat} {p : Pos} {es : List Expr} {ps : List PV} (t : ConEs es ps) : ConEs (.Constant (.str x) k p :: es) (.str x :: ps)
theorem ConEs.evs {es : List Expr} {ps : List PV} (h : ConEs es ps) : Evs g n sc Γ es ps := by
  induction h with
  | nil => exact Evs.nil
  | int t ih => exact Evs.cons Ev.int ih (fun _ => rfl)
  | str t ih => exact Evs.cons Ev.str ih (fun _ => rfl)
theorem s1_form : ∃ xp p1 es lp cn cm cp p2 p3 p4 pos ps, lawS 1 = .Assign [.Name "numbers" xp] (.BinOp (.Name "numbers" p1) .Add (.Subscript (.List es lp) (.Slice (some (.Call (.Name "len" cn) [.Name "numbers" cm] [] cp)) none none p2) p3) p4) pos ∧ ConEs es ps ∧ ps = defs10.map natP := by
  refine ⟨_, _, _, _, _, _, _, _, _, _, _, ?ps, rfl, ?_, ?_⟩
  rotate_left
  · exact .int (.int (.int (.int (.int (.int (.int (.int (.int (.int .nil)))))))))
  · rfl
theorem s2_form : ∃ xp es lp pos ps, lawS 2 = .Assign [.Name "pieces" xp] (.List es lp) pos ∧ ConEs es ps ∧ ps = strL pieces := by
  refine ⟨_, _, _, _, ?ps, rfl, ?_, ?_⟩
  rotate_left
  · exact .str (.str (.str (.str (.str (.str (.str (.str (.str (.str (.str (.str .nil)))))))))))
  · kernel_rfl
def modP : PV → PV
  | .int i => .int (i % 1000000)
  | q => q
abbrev lsc : Scope := stScope (stm 23)
theorem law_s0 {is : List Int} (hl : is.length ≤ 1000) (h : Γ "script" = some (.val (.list (is.map .int)))) : Ex1 g n lsc Γ (lawS 0) (.next (upd Γ "numbers" (.val (.list ((is.take 10).map fun i => .int (i % 1000000)))))) := by
  have hsz : 1000 ≤ sizeLine := line_ok rfl
  conv => arg 5; whnf
  have e : ((((is.take 10).map PV.int).filter fun _ => true).map modP) = (is.take 10).map fun i => .int (i % 1000000) := by
    rw [List.filter_eq_self.mpr (fun _ _ => rfl), List.map_map]; rfl
  rw [← e]
  refine Ex1.comp (ps := (is.take 10).map PV.int) (p := .list ((is.take 10).map PV.int)) (fun _ => true) modP (CompSide.of [] (by decide) rfl (fun y hy => by cases hy) rfl) ?_ rfl ?_ (fun q hq => .inl ⟨rfl, rfl⟩) (fun q hq _ => ?_) rfl (fun env hs => ?_)
  · rw [List.map_take, ← pySl_take (is.map PV.int) 10]
    exact Ev.cutL (Ev.name h) EvO.no (EvO.yes Ev.int) (by rw [List.length_map]; omega)
  · rw [List.length_map, List.length_take]; omega
  · obtain ⟨i, _, rfl⟩ := List.mem_map.mp hq
    exact Ev.bin (Ev.name rfl) Ev.int (Op2.modI (by decide))
  · unfold swapsWith Env.blockKind Env.kindOf; rw [hs]; rfl
theorem law_s1 {b : Stmt} (hb : b = lawS 1) {is : List Int} (h : Γ "numbers" = some (.val (.list ((is.take 10).map fun i => .int (i % 1000000))))) : Ex1 g n lsc Γ b (.next (upd Γ "numbers" (.val (.list ((numsOf10 is).map natP))))) := by
  have hsz : 1000 ≤ sizeLine := line_ok rfl
  have hk : (is.take 10).length ≤ 10 := by rw [List.length_take]; exact Nat.min_le_left _ _
  have h63 : 10 < 2 ^ 63 := by decide
  have e : (numsOf10 is).map natP = ((is.take 10).map fun i => PV.int (i % 1000000)) ++ (defs10.map natP).drop ((is.take 10).map fun i => PV.int (i % 1000000)).length := by
    unfold numsOf10
    rw [List.map_append, List.map_map, List.length_map, List.map_drop]
    congr 1
    refine List.map_congr_left fun i _ => ?_
    show PV.int (((i % 1000000).toNat : Nat) : Int) = _
    rw [Int.toNat_of_nonneg (Int.emod_nonneg _ (by decide))]
  obtain ⟨xp, p1, es, lp, cn, cm, cp, p2, p3, p4, pos, ps, e1, hc, rfl⟩ := s1_form
  rw [hb, e1, e, ← pySl_drop]
  refine Ex1.assign (Ev.bin (Ev.name h) (Ev.cutL (l := defs10.map natP) (Ev.list hc.evs (by exact line_ok rfl)) (EvO.yes (Ev.bi (by decide) rfl KeepOk.builtin (Evs.cons (Ev.name h) Evs.nil) (Cl.lenL (by rw [List.length_map]; omega)) rfl)) EvO.no (by exact line_ok rfl)) (Op2.addL ?_))
  rw [List.length_map, pySl_drop, List.length_drop]
  show _ + (10 - _) ≤ _; omega
theorem law_s2 {b : Stmt} (hb : b = lawS 2) : Ex1 g n lsc Γ b (.next (upd Γ "pieces" (.val piecesP))) := by
  obtain ⟨xp, es, lp, pos, ps, e1, hc, rfl⟩ := s2_form
  rw [hb, e1]
  exact Ex1.assign (p := piecesP) (Ev.list hc.evs (by exact line_ok rfl))
theorem s4_form : ∃ xp np pos, lawS 4 = .For (.Name "x" xp) (.Name "numbers" np) (forBody (lawS 4)) [] pos := ⟨_, _, _, rfl⟩
theorem law_s34 {b3 b4 : Stmt} (hb3 : b3 = lawS 3) (hb4 : b4 = lawS 4) {is : List Int} {rest : List Stmt} {p : PV} (hn : Γ "numbers" = some (.val (.list ((numsOf10 is).map natP)))) (hp : Γ "pieces" = some (.val piecesP)) (he : Γ "nodes" = some .empty) (honly : ∀ w sl, Γ w = some sl → w ≠ "nodes" → ∃ p, sl = .val p)
    (tail : Ex g 40 lsc (endΓ (endBs is)) rest (.ret p)) : Ex g 40 lsc Γ (b3 :: b4 :: rest) (.ret p) := by
  subst hb3 hb4
  intro A env s κ σ₀ σ m Q E R hs ok F ht k
  have R20 : Room A 20 := R.mono (by decide)
  have hsz : 1000 ≤ sizeLine := line_ok rfl
  have h63 : 10 < 2 ^ 63 := by decide
  generalize hS : ((numsOf10 is).map fun x : Nat => (x : Int)).sum % 5 = S5
  have hS0 : 0 ≤ S5 := by rw [← hS]; exact Int.emod_nonneg _ (by decide)
  have hS1 : S5 < 5 := by rw [← hS]; exact Int.emod_lt_of_pos _ (by decide)
  have hsum : ∀ {Γ : VEnv} {p1 p2 p3 p4 p5 : Pos} {j : Nat}, Γ "numbers" = some (.val (.list ((numsOf10 is).map natP))) → Ev g 20 lsc Γ (.BinOp (.Call (.Name "sum" p1) [.Name "numbers" p2] [] p3) .Mod (.Constant (.int 5) j p4) p5) (.int S5) := fun h => by
    rw [← hS]
    refine Ev.bin (Ev.bi (by decide) rfl KeepOk.builtin (Evs.cons (Ev.name h) Evs.nil) ?_) Ev.int (Op2.modI (by decide))
    have := Cl.sum (g := g) (n := 20) (is := (numsOf10 is).map fun x : Nat => (x : Int))
    rw [List.map_map] at this
    exact this
  have hT : (S5.toNat : Int) = S5 := Int.toNat_of_nonneg hS0
  refine wpAny_execs_cons ?_
  have eS : lawS 3 = lawS 3 := rfl
  conv at eS => lhs; whnf
  rw [← eS]
  refine init3 (x := "nodes") (y := "roots") (z := "now") R20 hs ok F ht he honly (EvX.tup3 (EvX.list1 (EvX.node (i1 := S5) (i3 := -1) (i4 := 0) (EvX.plain (hsum hn)) (fun b hb => EvX.plain (Ev.neg Ev.int)) (fun b hb => EvX.plain Ev.int))) (fun p C' h => EvX.list1 (EvX.plain Ev.int)) (fun p C' q C'' h h' => EvX.plain Ev.int) ?_ ?_) rfl rfl ?_ ?_ (fun env => rfl) ?_
  · rintro p C' ⟨b, q, C1, _, _, _, rfl⟩; exact Scal.val
  · rintro p C' q C'' ⟨b, q', C1, _, _, _, rfl⟩; exact Scal.val
  · rintro p C' ⟨p1, C1, p2, C2, p3, _, _, _, rfl⟩; exact ⟨p1, p2, p3, rfl⟩
  · intro h' tk σ' m' C' p1 p2 p3 hP G htk
    obtain ⟨q1, C1, q2, C2, q3, ⟨a, t0, C0, ⟨b0, hb0, rfl, rfl⟩, ha, rfl, rfl⟩, ⟨r, t1, C1', ⟨rfl, rfl⟩, hr, rfl, rfl⟩, ⟨rfl, rfl⟩, hE⟩ := hP
    injection hE with hE
    injection hE with e1 hE
    injection hE with e2 hE
    injection hE with e3 _
    subst e1; subst e2; subst e3
    have hab : a ≠ b0 := fun q => by rw [q, updC_eq] at ha; cases ha
    have hra : r ≠ a := fun q => by rw [q, updC_eq] at hr; cases hr
    have hrb : r ≠ b0 := fun q => by rw [q, updC_ne (Ne.symm hab), updC_eq] at hr; cases hr
    have B0 : BInv a r [b0] (bstart S5.toNat) (upd (upd (upd (without Γ "nodes") "nodes" (.val (.val (.ref a)))) "roots" (.val (.val (.ref r)))) "now" (.val (.int 0))) (updC (updC (updC (fun _ => none) b0 []) a [.tup [.int S5, .val (.ref b0), .int (-1), .int 0]]) r [.int 0]) := {
      vn := rfl
      vr := rfl, vw := rfl, vp := hp
      ca := by
        rw [updC_ne (Ne.symm hra), updC_eq]
        show some [PV.tup [.int S5, .val (.ref b0), .int (-1), .int 0]] = some [PV.tup [.int (S5.toNat : Nat), .val (.ref b0), .int (-1), .int ((0 : Nat) : Int)]]
        rw [hT]; rfl
      cr := by rw [updC_eq]; rfl
      cl := fun k b d hb hd => by
        cases k with
        | zero =>
          cases hb; cases hd
          rw [updC_ne (Ne.symm hrb), updC_ne (Ne.symm hab), updC_eq]; rfl
        | succ k => cases hb
      len := rfl, ar := Ne.symm hra
      la := fun q => hab (List.mem_singleton.mp q)
      lr := fun q => hrb (List.mem_singleton.mp q)
      nd := List.pairwise_singleton _ _ }
    have good : ∀ i, GoodB (((numsOf10 is).take i).length) (((numsOf10 is).take i).foldl bstep (bstart S5.toNat)) := fun i => by
      have := good_fold ((numsOf10 is).take i) (good0 (e := S5.toNat) (by omega))
      rw [Nat.zero_add] at this; exact this
    obtain ⟨xp, np, pos, e4⟩ := s4_form
    rw [e4]
    refine wpAny_execs_cons (ExG1.for (Γ := upd (upd (upd (without Γ "nodes") "nodes" (.val (.val (.ref a)))) "roots" (.val (.val (.ref r)))) "now" (.val (.int 0))) (C := updC (updC (updC (fun _ => none) b0 []) a [.tup [.int S5, .val (.ref b0), .int (-1), .int 0]]) r [.int 0]) (ps := (numsOf10 is).map natP) (fun i Γ C => ∃ a r L, BInv a r L (((numsOf10 is).take i).foldl bstep (bstart S5.toNat)) Γ C) (Ev.name (x := "numbers") (p := .list ((numsOf10 is).map natP)) hn) rfl ⟨a, r, [b0], B0⟩ (fun i q Γ' C' hJ hq => ?_) rfl (fun _ _ => rfl) A env _ κ σ₀ σ' _ _ _ R20 hs ok G htk fun h5 t5 σ5 m5 Γ5 C5 hJ G5 htk5 => ?_)
    · obtain ⟨a, r, L, B⟩ := hJ
      rw [List.getElem?_map] at hq
      obtain ⟨x, hx, rfl⟩ := Option.map_eq_some_iff.mp hq
      have hlt := (List.getElem?_eq_some_iff.mp hx).1
      have h10 := nums_len is
      have := bbody (g := g) (B.turn (natP x)) (good i) (by rw [List.length_take]; omega) (x := x) rfl
      intro A env s κ σ₀ σ m Q E R hs ok G ht k
      refine this A env s κ σ₀ σ m Q E R hs ok G ht fun h' tk σ' m' Γ'' C'' hB G' htk' => k h' tk σ' m' Γ'' C'' ?_ G' htk'
      obtain ⟨L', B'⟩ := hB
      refine ⟨a, r, L', ?_⟩
      rw [List.take_add_one, hx, List.foldl_append]
      exact B'
    · obtain ⟨a, r, L, B⟩ := hJ
      rw [List.length_map, List.take_length] at B
      have eB : (numsOf10 is).foldl bstep (bstart S5.toNat) = endBs is := by unfold endBs; rw [hS]
      rw [eB] at B
      exact tail A env _ κ σ₀ _ m5 _ _ R hs ok (settle B G5) htk5 k
  · unfold swappedStores Env.blockKind Env.kindOf
    rw [hs]
    rfl
end
end Mine
namespace Mine
open PySem PySem.W PyProof.Rows PySem.Calls
set_option Elab.async false
set_option maxRecDepth 100000
set_option linter.unusedVariables false
section
variable {g : Gx} {n : Nat} {sc : Scope} {Γ : VEnv} {C : RC}
theorem law_head {Γ0 : VEnv} {is : List Int} {p : PV} {rest : List Stmt} {b0 b1 b2 b3 b4 : Stmt} (hb0 : b0 = lawS 0) (hb1 : b1 = lawS 1) (hb2 : b2 = lawS 2) (hb3 : b3 = lawS 3) (hb4 : b4 = lawS 4) (hl : is.length ≤ 1000) (h0 : Γ0 "script" = some (.val (.list (is.map .int)))) (h1 : Γ0 "nodes" = some .empty) (hown : ∀ w l, Γ0 w ≠ some (.own l)) (honly : ∀ y, Γ0 y = some .empty → y = "nodes")
    (tail : Ex g 40 lsc (endΓ (endBs is)) rest (.ret p)) : Ex g 40 lsc Γ0 (b0 :: b1 :: b2 :: b3 :: b4 :: rest) (.ret p) := by
  have key : ∀ w sl, upd (upd (upd Γ0 "numbers" (.val (.list ((is.take 10).map fun i => .int (i % 1000000))))) "numbers" (.val (.list ((numsOf10 is).map natP)))) "pieces" (.val piecesP) w = some sl → w ≠ "nodes" → ∃ p, sl = .val p := fun w sl hw hne => by
    unfold upd at hw
    split at hw
    · cases hw; exact ⟨_, rfl⟩
    split at hw
    · cases hw; exact ⟨_, rfl⟩
    cases sl with
    | val p => exact ⟨p, rfl⟩
    | own l => exact absurd hw (hown w l)
    | empty => exact absurd (honly w hw) hne
  have a0 : Ex1 g 40 lsc Γ0 b0 (.next (upd Γ0 "numbers" (.val (.list ((is.take 10).map fun i => .int (i % 1000000)))))) := by rw [hb0]; exact law_s0 hl h0
  refine Ex.cons a0 (Ex.cons (law_s1 hb1 upd_eq) (Ex.cons (law_s2 hb2) (law_s34 hb3 hb4 ?_ upd_eq ?_ key tail)))
  · rw [upd_ne (by decide), upd_eq]
  · rw [upd_ne (by decide), upd_ne (by decide), upd_ne (by decide), h1]
end
end Mine
namespace Mine
open PySem PySem.W PyProof.Rows PySem.Calls
set_option Elab.async false
set_option maxRecDepth 100000
set_option linter.unusedVariables false
theorem slot_map_init : Slot "map" "__init__" "object.__init__" := .of (owner := "object") (n := "__init__") (by rw [typeLookup_type, builtinLookup_eq_fast]; kernel_rfl) (by decide +kernel) (by decide +kernel) (by decide +kernel)
  (by first | exact .inl (by decide +kernel) | exact .inr (by decide +kernel)) (by rw [isSubtype_type]; kernel_rfl)
theorem slot_map_iter : Slot "map" "__iter__" "map.__iter__" := .of (owner := "map") (n := "__iter__") (by rw [typeLookup_type, builtinLookup_eq_fast]; kernel_rfl) (by decide +kernel) (by decide +kernel) (by decide +kernel)
  (by first | exact .inl (by decide +kernel) | exact .inr (by decide +kernel)) (by rw [isSubtype_type]; kernel_rfl)
theorem slot_map_next : Slot "map" "__next__" "map.__next__" := .of (owner := "map") (n := "__next__") (by rw [typeLookup_type, builtinLookup_eq_fast]; kernel_rfl) (by decide +kernel) (by decide +kernel) (by decide +kernel)
  (by first | exact .inl (by decide +kernel) | exact .inr (by decide +kernel)) (by rw [isSubtype_type]; kernel_rfl)
theorem args_map_iter (a : Value) : argsOk "map.__iter__" ⟨[a], []⟩ := by unfold argsOk; kernel_rfl
theorem args_map_next (a : Value) : argsOk "map.__next__" ⟨[a], []⟩ := by unfold argsOk; kernel_rfl
theorem entry_map_next : entryFor table "map.__next__" = some Builtin.«map.__next__» := entryFor_of_tree (by kernel_rfl)
theorem entry_map_new : entryFor table "map.__new__" = some Builtin.«map.__new__» := entryFor_of_tree (by kernel_rfl)
theorem entry_map_iter : entryFor table "map.__iter__" = some Builtin.«dict_keyiterator.__iter__» :=
  entryFor_alias (id' := "dict_keyiterator.__iter__") (by kernel_rfl) (by first | rfl | decide +kernel | (unfold String.splitOn; simp +decide [String.splitOnAux])) (by decide +kernel) (by kernel_rfl)
theorem mro_map : mroOf (.type "map") = pure [.type "map", .type "object"] := by rw [mroOf_type]; kernel_rfl
theorem lookup_map_new : typeLookup (.type "map") "__new__" = pure (some (.builtin "map.__new__")) := by rw [typeLookup_type, builtinLookup_eq_fast]; kernel_rfl
theorem called_map : TypeCalled "map" "map.__new__" "object.__init__" :=
  ⟨by decide +kernel, by decide +kernel, ⟨_, _, mro_map⟩, madeBy_type mro_map lookup_map_new (by decide +kernel), by decide +kernel, by rw [isSubtype_type]; kernel_rfl, slot_map_init⟩
theorem typeCall_map_2 (a b : Value) : checkTypeCall "map" ⟨[a, b], []⟩ = pure () := by kernel_rfl
theorem newCall_map_2 (a b : Value) : checkBuiltinCall "map.__new__" ⟨[.type "map", a, b], []⟩ = pure () := by kernel_rfl
theorem sub_map : isSubtype (.type "map") (.type "map") = pure true := by rw [isSubtype_type]; kernel_rfl

abbrev mapH1 (h : Heap) (l : Addr) : Heap := h.push { cls := .type "list_iterator", data := .fields #[.ref l, .int 0 0] }
abbrev mapH2 (h : Heap) (l : Addr) : Heap := (mapH1 h l).push { cls := .type "tuple", data := .seq #[.ref h.objs.size] }
abbrev mapH3 (h : Heap) (l : Addr) (f : Value) : Heap := (mapH2 h l).push { cls := .type "map", data := .fields #[.ref (mapH1 h l).objs.size, f] }
theorem meets_map_new (l : Addr) (xs : Array Value) (f : Value) :
    Meets (Builtin.«map.__new__» ⟨[.type "map", f, .ref l], []⟩) (fun _ R s => s.heap.IsList l xs ∧
      R (.ok (.ret (.ref (mapH2 s.heap l).objs.size))) { s with heap := mapH3 s.heap l f }) :=
  .of_wp fun prog w A R s h => by
    obtain ⟨hp, g, d, tk, os⟩ := s; obtain ⟨hl, h⟩ := h
    have hsub := sub_map
    have hL : Heap.IsList (Shared.heap ⟨hp, g, d, tk, os⟩) l xs := hl
    wp_walk using wpAny_pyIter_list hL
    exact ⟨_, rfl, h⟩
end Mine
namespace Mine
open PySem PySem.W PyProof.Rows PySem.Calls
set_option Elab.async false
set_option maxRecDepth 100000
set_option linter.unusedVariables false
abbrev IsMap (h : Heap) (z T : Addr) (f : Value) : Prop := h.get? z = some { cls := .type "map", dict := none, data := .fields #[.ref T, f], slots := #[] }
abbrev IsOne (h : Heap) (T : Addr) (a : Value) : Prop := h.get? T = some { cls := .type "tuple", data := .seq #[a] }
section
variable {prog : Program} {w : World} {A : Around} {E : Value → Shared → Prop} {s : Shared}
theorem call_map_2 {l : Addr} {xs : Array Value} {f : Value} {Q : Value → Shared → Prop} (hl : s.heap.IsList l xs)
    (h : ∀ h', IsMap h' (s.heap.objs.size + 2) (s.heap.objs.size + 1) f → IsOne h' (s.heap.objs.size + 1) (.ref s.heap.objs.size) → h'.IsListIter s.heap.objs.size l 0 →
      (∀ c o, s.heap.get? c = some o → h'.get? c = some o) → Q (.ref (s.heap.objs.size + 2)) { s with heap := h' }) :
    wpAny (model prog w) A (call (.type "map") [f, .ref l]) Q E s := by
  refine callType_new called_map (by decide) (typeCall_map_2 _ _) (newCall_map_2 _ _) (fun obj => F.args_object_init_3 obj _ _) entry_map_new
    (meets_map_new l xs f) ⟨hl, ?_⟩
  have z1 : (mapH1 s.heap l).objs.size = s.heap.objs.size + 1 := Heap.size_push ..
  have z2 : (mapH2 s.heap l).objs.size = s.heap.objs.size + 2 := by rw [Heap.size_push, z1]
  have g5 : (mapH3 s.heap l f).get? (mapH2 s.heap l).objs.size = some _ := Heap.get?_push_size _ rfl
  have g4 : (mapH3 s.heap l f).get? (mapH1 s.heap l).objs.size = some _ := Heap.get?_push_of_some _ (Heap.get?_push_size _ rfl)
  have g1 : (mapH3 s.heap l f).get? s.heap.objs.size = some _ := Heap.get?_push_of_some _ (Heap.get?_push_of_some _ (Heap.get?_push_size _ rfl))
  show _ ∧ _
  rw [z2, z1] at g5
  rw [z1] at g4
  rw [z2]
  exact ⟨⟨_, g5, rfl⟩, h _ g5 g4 ⟨_, g1, rfl, rfl⟩ fun c o x => Heap.get?_push_of_some _ (Heap.get?_push_of_some _ (Heap.get?_push_of_some _ x))⟩
theorem pyIter_map {z T : Addr} {f : Value} {Q : Value → Shared → Prop} (hz : IsMap s.heap z T f) (h : Q (.ref z) s) : wpAny (model prog w) A (pyIter (.ref z)) Q E s := by
  have hT : s.TypeIs (.ref z) "map" := ⟨_, hz, rfl⟩
  refine wpAny_pyIter_slot hT slot_map_iter (wpAny_call_entry slot_map_iter hT entry_map_iter ?_ (args_map_iter _))
  show wpAny _ _ (ret (.ref z)) _ _ s
  exact wpAny_pure ⟨_, rfl, "map", _, hT, slot_map_next.lookup, h⟩
theorem pyNext_map {z T I l : Addr} {k : Nat} {items : Array Value} {n : Int} {t : Tok} {Q : Option Value → Shared → Prop} (hz : IsMap s.heap z T (.type "int")) (hT : IsOne s.heap T (.ref I)) (hI : s.heap.IsListIter I l k) (hl : s.heap.IsList l items)
    (hx : items[k]? = some (.str (Str.ofString (toString n)) t)) (h0 : 0 ≤ n) (h1 : n < 10 ^ 10)
    (hQ : ∀ h' u tk, h'.IsListIter I l (k + 1) → Heap.SameBut I s.heap h' → Q (some (.int n u)) { s with heap := h', toks := tk }) : wpAny (model prog w) A (pyNext (.ref z)) Q E s := by
  have hTy : s.TypeIs (.ref z) "map" := ⟨_, hz, rfl⟩
  unfold pyNext
  refine wpAny_bind (wpAny_attempt (wpAny_callSpecial?_slot (name := Str.ofString "__next__") hTy slot_map_next
    (wpAny_call_entry slot_map_next hTy entry_map_next ?_ (args_map_next _))))
  show wpAny _ _ (field (.ref z) 0 >>= _) _ _ _
  refine wpAny_bind (wpAny_field hz rfl (x := .ref T) rfl ?_)
  refine wpAny_bind (wpAny_seqItems hT rfl ?_)
  refine wpAny_bind ?_
  rw [← Array.forIn_toList]
  show wpAny _ _ (forIn [Value.ref I] _ _) _ _ _
  rw [List.forIn_cons]
  refine wpAny_bind (wpAny_bind (wpAny_holding (wpAny_nextOf_list_item hI hl hx fun h1' hI' hs' => wpAny_pure ?_)))
  simp only [List.forIn_nil]
  refine wpAny_pure ?_
  have hne : z ≠ I := fun q => by
    obtain ⟨o, ho, hc, _⟩ := hI
    rw [← q, show s.heap.get? z = _ from hz] at ho
    cases ho; simp at hc
  have hz' : IsMap h1' z T (.type "int") := (hs'.2 z hne).trans hz
  show wpAny _ _ (field (.ref z) 1 >>= _) _ _ _
  refine wpAny_bind (wpAny_field hz' rfl (x := .type "int") rfl ?_)
  refine wpAny_bind (wpAny_holding (KIN.call_num h0 h1 ?_))
  refine wpAny_bind (wpAny_letGo (wpAny_pure ⟨_, rfl, wpAny_pure (hQ _ _ _ hI' hs')⟩))
theorem pyNext_map_end {z T I l : Addr} {k : Nat} {items : Array Value} {f : Value} {Q : Option Value → Shared → Prop} (hh : A.handled = none) (hz : IsMap s.heap z T f) (hT : IsOne s.heap T (.ref I)) (hI : s.heap.IsListIter I l k) (hl : s.heap.IsList l items)
    (hx : items[k]? = none) (hQ : ∀ h', Heap.ExtBut I s.heap h' → Q none { s with heap := h' }) : wpAny (model prog w) A (pyNext (.ref z)) Q E s := by
  have hTy : s.TypeIs (.ref z) "map" := ⟨_, hz, rfl⟩
  unfold pyNext
  refine wpAny_bind (wpAny_attempt (wpAny_callSpecial?_slot (name := Str.ofString "__next__") hTy slot_map_next
    (wpAny_call_entry slot_map_next hTy entry_map_next ?_ (args_map_next _))))
  show wpAny _ _ (field (.ref z) 0 >>= _) _ _ _
  refine wpAny_bind (wpAny_field hz rfl (x := .ref T) rfl ?_)
  refine wpAny_bind (wpAny_seqItems hT rfl ?_)
  refine wpAny_bind ?_
  rw [← Array.forIn_toList]
  show wpAny _ _ (forIn [Value.ref I] _ _) _ _ _
  rw [List.forIn_cons]
  refine wpAny_bind (wpAny_bind (wpAny_holding (wpAny_nextOf_list_end hh hI hl hx fun h' e he ⟨o, ho, hc⟩ => ?_)))
  refine wpAny_bind (wpAny_isInstance (T := "StopIteration") (b := true) ⟨o, ho, hc⟩ isSubtype_stop ?_)
  exact wpAny_pure (hQ _ he)
/-- two numbers of a text's two parts -/
theorem unpack_map {z T I l : Addr} {a b : Int} {ta tb : Tok} {targets : List (Bool × (Value → Sem Unit))} {Q : Unit → Shared → Prop} (hh : A.handled = none) (hz : IsMap s.heap z T (.type "int")) (hT : IsOne s.heap T (.ref I)) (hI : s.heap.IsListIter I l 0)
    (hl : s.heap.IsList l #[.str (Str.ofString (toString a)) ta, .str (Str.ofString (toString b)) tb]) (ha0 : 0 ≤ a) (ha1 : a < 10 ^ 10) (hb0 : 0 ≤ b) (hb1 : b < 10 ^ 10) (hn : targets.length = 2) (hstar : targets.findIdx? (·.1) = none)
    (h : ∀ h' u v tk, Heap.ExtBut I s.heap h' → wpAny (model prog w) A (assignInOrder (targets.map (·.2)) [.int a u, .int b v]) Q E { s with heap := h', toks := tk }) :
    wpAny (model prog w) A (unpack (.ref z) targets) Q E s := by
  have hne : z ≠ I := fun q => by
    obtain ⟨o, ho, hc, _⟩ := hI
    rw [← q, show s.heap.get? z = _ from hz] at ho
    cases ho; simp at hc
  have hnT : T ≠ I := fun q => by
    obtain ⟨o, ho, hc, _⟩ := hI
    rw [← q, show s.heap.get? T = _ from hT] at ho
    cases ho; simp at hc
  have hnl : l ≠ I := fun q => by
    obtain ⟨o, ho, hc, _⟩ := hI
    obtain ⟨o2, ho2, hc2, _⟩ := hl
    rw [← q, ho2] at ho
    cases ho; rw [hc2] at hc; simp at hc
  unfold unpack
  rw [hn, hstar]
  refine wpAny_bind (wpAny_holding ?_)
  unfold unpackItems
  refine wpAny_bind ?_
  unfold notIterableAtAll
  refine wpAny_bind (wpAny_specialOf (T := "map") ⟨_, hz, rfl⟩ slot_map_iter.lookup ?_)
  refine wpAny_pure ?_
  simp only [Bool.false_eq_true, if_false]
  refine wpAny_bind (wpAny_holding (pyIter_map hz ?_))
  refine wpAny_bind (wpAny_holding ?_)
  show wpAny _ _ (pyNext (.ref z) >>= _) _ _ _
  refine wpAny_bind (pyNext_map hz hT hI hl (by rfl) ha0 ha1 fun h1 u1 t1 hI1 hs1 => ?_)
  have hl1 := hl.extBut hs1.extBut hnl
  have hz1 : IsMap h1 z T (.type "int") := (hs1.2 z hne).trans hz
  have hT1 : IsOne h1 T (.ref I) := (hs1.2 T hnT).trans hT
  refine wpAny_bind (wpAny_holding ?_)
  show wpAny _ _ (pyNext (.ref z) >>= _) _ _ _
  refine wpAny_bind (pyNext_map hz1 hT1 hI1 hl1 (by rfl) hb0 hb1 fun h2 u2 t2 hI2 hs2 => ?_)
  have hl2 := hl1.extBut hs2.extBut hnl
  have hz2 : IsMap h2 z T (.type "int") := (hs2.2 z hne).trans hz1
  have hT2 : IsOne h2 T (.ref I) := (hs2.2 T hnT).trans hT1
  refine wpAny_bind (wpAny_holding (wpAny_pure (wpAny_pure (wpAny_pure ?_))))
  rw [if_neg (by simp)]
  refine wpAny_bind (wpAny_holding (pyNext_map_end hh hz2 hT2 hI2 hl2 (by rfl) fun h3 hs3 => ?_))
  simp only [Option.isSome_none, Bool.false_eq_true, if_false]
  exact wpAny_pure (h h3 u1 u2 t2 fun c o hc e => hs3 c o hc (hs2.extBut c o hc (hs1.extBut c o hc e)))
end
end Mine
namespace Mine
open PySem PySem.W PyProof.Rows PySem.Calls
set_option Elab.async false
set_option maxRecDepth 100000
set_option linter.unusedVariables false
theorem pct_meets (a b : Int) (ha : 0 ≤ a) (ha' : a < 10 ^ 10) (hb : 0 ≤ b) (hb' : b < 10 ^ 10) (t u v : Tok) (D : Addr) :
    Meets (Builtin.«str.__mod__» ⟨[.str ⟨#[37, 100, 46, 37, 100]⟩ t, .ref D], []⟩) (fun _ R s => IsTup s.heap D #[.int a u, .int b v] ∧ ∀ t' k, R (.ok (.ret (.str (Str.ofString (toString a) ++ Str.ofString "." ++ Str.ofString (toString b)) t'))) { s with toks := k }) := by
  kpt_run
end Mine
namespace Mine
open PySem PySem.W PyProof.Rows PySem.Calls
set_option Elab.async false
set_option maxRecDepth 100000
set_option linter.unusedVariables false
def numS (a : Int) : Str := Str.ofString (toString a)
def lcS (a b : Int) : Str := numS a ++ Str.ofString "." ++ numS b
theorem num_free {a : Int} (h0 : 0 ≤ a) : 46 ∉ (numS a).cps.toList := fun h => by
  obtain ⟨m, rfl⟩ := Int.eq_ofNat_of_zero_le h0
  unfold numS at h
  rw [KIN.signs_num] at h
  obtain ⟨ch, hch, e⟩ := List.mem_map.mp h
  have r := digit_range (Nat.isDigit_of_mem_toDigits (by decide) (by decide) hch)
  omega
theorem lc_split {a b : Int} (ha : 0 ≤ a) (hb : 0 ≤ b) : splitL 46 (lcS a b).cps.toList = [(numS a).cps.toList, (numS b).cps.toList] := by
  unfold lcS
  rw [cpsA, cpsA, show (Str.ofString ".").cps.toList = [46] from rfl, List.append_assoc]
  show splitL 46 (_ ++ 46 :: _) = _
  rw [splitL_cat _ _ _ (num_free ha)]
  show _ :: splitL 46 (numS b).cps.toList = _
  rw [splitL_free _ _ (num_free hb)]
section
variable {g : Gx} {n : Nat} {sc : Scope} {Γ : VEnv}
theorem Op2.pct {x : Str} {a b : Int} (hx : x = ⟨#[37, 100, 46, 37, 100]⟩) (ha : 0 ≤ a) (ha' : a < 10 ^ 10) (hb : 0 ≤ b) (hb' : b < 10 ^ 10) : Op2 g n (binaryOp .Mod) (.str x) (.tup [.int a, .int b]) (.str (lcS a b)) := fun A s σ u v Q E R S r1 r2 ht k => by
  obtain ⟨t, rfl⟩ := r1.str_inv
  obtain ⟨T, vs, rfl, L, rl⟩ := r2.tup_inv
  obtain ⟨v1, vs, rfl, q1, rl⟩ := rl.cons_inv
  obtain ⟨v2, vs, rfl, q2, rl⟩ := rl.cons_inv
  obtain rfl := rl.nil_inv
  obtain ⟨u1, rfl⟩ := q1.int_inv
  obtain ⟨u2, rfl⟩ := q2.int_inv
  subst hx
  have hT := L.isTuple S.sub
  exact KPt.bin_left (T := "str") (U := "tuple") (op := .Mod) (by decide) (typeIs_str s _ t) hT.typeIs F.fills_str_mod KPt.fills_tuple F.slot_str_mod
    (call_meets F.slot_str_mod (typeIs_str s _ t) F.entry_str_mod (F.args_str_mod_2 _ _) (pct_meets a b ha ha' hb hb' t u1 u2 T) ⟨hT, fun t' k' => ⟨(fun e => nomatch e), k _ s.heap _ σ (.refl S) rep_str⟩⟩)
theorem mapEv {a b : Int} {e : Expr} {mp ip cp : Pos} {A : Around} {env : Env} {s : Shared} {σ : PH} {m : Str → Option Value} {Q E : Value → Shared → Prop} (R : Room A n) (hs : env.scope = sc) (ok : EnvOk env) (S : St g σ s.heap) (V : Vars g env Γ σ s.heap m) (ht : 1 ≤ s.toks)
    (he : Ev g n sc Γ e (.list [.str (numS a), .str (numS b)])) (hm : sc.names.lookup ("map" : Str) = some .globalImplicit) (hi : sc.names.lookup ("int" : Str) = some .globalImplicit)
    (hst : starEach [.Name "int" ip, e] env = [(false, eval (.Name "int" ip) env), (false, eval e env)]) (hst2 : ∀ env, starEach [.Name "int" ip, e] env = (false, eval (.Name "int" ip) env) :: starEach [e] env) (hst3 : ∀ env, starEach [e] env = (false, eval e env) :: starEach [] env)
    (hq : eval (.Call (.Name "map" mp) [.Name "int" ip, e] [] cp) env = (do callWith cp (← eval (.Name "map" mp) env) [] (backTo cp (starEach [.Name "int" ip, e] env)) (backToKw cp (keywordEach [] env))))
    (k : ∀ l ta tb h2 h3 tk σ', Step g σ s.heap σ' h2 → h3.IsList l #[.str (Str.ofString (toString a)) ta, .str (Str.ofString (toString b)) tb] → IsMap h3 (h2.objs.size + 2) (h2.objs.size + 1) (.type "int") → IsOne h3 (h2.objs.size + 1) (.ref h2.objs.size) → h3.IsListIter h2.objs.size l 0 → (∀ c o, h2.get? c = some o → h3.get? c = some o) → 1 ≤ tk → Q (.ref (h2.objs.size + 2)) { s with heap := h3, toks := tk }) :
    W g A (eval (.Call (.Name "map" mp) [.Name "int" ip, e] [] cp) env) Q E s := by
  rw [hq]
  refine wpAny_bind (Ev.biv (n := n) (v := .type "map") (by decide) (by decide +kernel) hm rfl A env s σ m _ _ R hs ok S V ht fun v h1 t1 σ1 S1 r1 k1 => ?_)
  rw [r1.val_inv]
  have hany : (backTo cp (starEach [.Name "int" ip, e] env)).any (·.1) = false := by unfold backTo; rw [hst]; rfl
  refine callWith_of (P := fun h => ∃ τ, St g τ h) (by rw [hany]; rfl) (fun h ⟨τ, S'⟩ => KeepOk.type τ h S') ?_
  have hE : Evs g n sc Γ [.Name "int" ip, e] [.val (.type "int"), .list [.str (numS a), .str (numS b)]] := Evs.cons (Ev.biv (by decide) rfl hi) (Evs.cons he Evs.nil hst3) hst2
  have he' := hE A env { s with heap := h1, toks := t1 } σ1 m cp (fun vs s' => (∃ τ, St g τ s'.heap) ∧ W g A (call (.type "map") ([] ++ vs)) Q E s') E R hs ok S1.st (V.step S1) k1 fun vs h2 t2 σ2 S2 r2 k2 => ⟨⟨σ2, S2.st⟩, ?_⟩
  · rw [hst] at he' ⊢
    exact evalArgs_plain he'
  · obtain ⟨v1, vs, rfl, q1, r2⟩ := r2.cons_inv
    obtain ⟨v2, vs, rfl, q2, r2⟩ := r2.cons_inv
    obtain rfl := r2.nil_inv
    obtain rfl := q1.val_inv
    obtain ⟨l, us, rfl, L, rl⟩ := q2.list_inv
    obtain ⟨w1, us, rfl, p1, rl⟩ := rl.cons_inv
    obtain ⟨w2, us, rfl, p2, rl⟩ := rl.cons_inv
    obtain rfl := rl.nil_inv
    obtain ⟨ta, rfl⟩ := p1.str_inv
    obtain ⟨tb, rfl⟩ := p2.str_inv
    have L' := L.isList S2.st.sub
    refine call_map_2 (s := { s with heap := h2, toks := t2 }) L' fun h3 a1 a2 a3 a4 => k l ta tb h2 h3 t2 σ2 (S1.trans S2) ?_ a1 a2 a3 a4 k2
    obtain ⟨o, e1, e2⟩ := L'
    exact ⟨o, a4 _ _ e1, e2⟩
theorem Ex1.mapInts {x y : Str} {a b : Int} {e : Expr} {xp yp tp mp ip cp pos : Pos} {j : Nat} (ha : 0 ≤ a) (ha' : a < 10 ^ 10) (hb : 0 ≤ b) (hb' : b < 10 ^ 10) (he : Ev g n sc Γ e (.list [.str (numS a), .str (numS b)])) (hx : sc.names.lookup x = some .local) (hy : sc.names.lookup y = some .local)
    (hm : sc.names.lookup ("map" : Str) = some .globalImplicit) (hi : sc.names.lookup ("int" : Str) = some .globalImplicit)
    (hst : ∀ env, starEach [.Name "int" ip, e] env = [(false, eval (.Name "int" ip) env), (false, eval e env)] := by intro _; rfl) (hst2 : ∀ env, starEach [.Name "int" ip, e] env = (false, eval (.Name "int" ip) env) :: starEach [e] env := by intro _; rfl) (hst3 : ∀ env, starEach [e] env = (false, eval e env) :: starEach [] env := by intro _; rfl)
    (hq : ∀ env, eval (.Call (.Name "map" mp) [.Name "int" ip, e] [] cp) env = (do callWith cp (← eval (.Name "map" mp) env) [] (backTo cp (starEach [.Name "int" ip, e] env)) (backToKw cp (keywordEach [] env))) := by intro _; rfl)
    (h1 : ∀ env, swapsWithSole [.Tuple [.Name x xp, .Name y yp] j tp] (.Call (.Name "map" mp) [.Name "int" ip, e] [] cp) pos.line env = pure false := by intro _; rfl) :
    Ex1 g n sc Γ (.Assign [.Tuple [.Name x xp, .Name y yp] j tp] (.Call (.Name "map" mp) [.Name "int" ip, e] [] cp) pos) (.next (upd (upd Γ x (.val (.int a))) y (.val (.int b)))) :=
  .mk fun A env s κ σ₀ σ m Q E R hs ok F ht k => by
  refine wpAny_Assign_stores (mapEv R hs ok F.st F.toVars ht he hm hi (hst env) hst2 hst3 (hq env) fun l ta tb h2 h3 tk σ' S2 L M T I keep htk => ?_) (h1 env) rfl
  show W g A (PySem.assign (.Tuple [.Name x xp, .Name y yp] j tp) env _) _ _ _
  rw [arm_assign_Tuple]
  refine wpAny_bind (wpAny_standAt (unpack_map (s := { s with heap := h3, toks := tk }) R.hd M T I L ha ha' hb hb' rfl rfl fun h4 u v tk4 X => ?_))
  have F2 := F.step S2
  have F4 := F2.step (F2.st.grow fun c o e => X c o (Nat.ne_of_lt (Heap.lt_size e)) (keep c o e))
  show W g A (assignInOrder [PySem.assign (.Name x xp) env, PySem.assign (.Name y yp) env] [.int a u, .int b v]) _ _ _
  unfold assignInOrder
  refine wpAny_bind (wpAny_holding (wpAny_assign_Name (storeL ok F4 (by unfold Env.kindOf; rw [hs]; exact hx) rep_int fun h5 m5 F5 => ?_)))
  unfold assignInOrder
  refine wpAny_bind (wpAny_holding (wpAny_assign_Name (storeL ok F5 (by unfold Env.kindOf; rw [hs]; exact hy) rep_int fun h6 m6 F6 => ?_)))
  exact wpAny_pure (k _ h6 _ σ' ⟨rfl, m6, F6⟩)
theorem fn_glc {a b : Int} (ha : 0 ≤ a) (ha' : a < 10 ^ 10) (hb : 0 ≤ b) (hb' : b < 10 ^ 10) : Fn g 1 "get_line_col" [.str (lcS a b)] (.tup [.int a, .int b]) := by
  refine Fn.of (j := 2) ["index"] (by decide) rfl (fun pm cd doc vs hl => ?_) (by decide) rfl rfl rfl ?_
  · obtain ⟨x, r, rfl⟩ := List.exists_cons_of_length_eq_add_one hl
    obtain rfl := List.length_eq_zero_iff.mp (Nat.succ.inj hl)
    rfl
  · conv => arg 5; whnf
    have hl : (lcS a b).cps.toList.length ≤ 2200000 := by
      have h1 := KT.len_num ha ha'
      have h2 := KT.len_num hb hb'
      unfold lcS numS
      rw [cpsA, cpsA, List.length_append, List.length_append]
      simp only [Array.length_toList]
      show (Str.ofString (toString a)).length + _ + (Str.ofString (toString b)).length ≤ _
      show _ + 1 + _ ≤ _
      omega
    refine Ex.cons (Ex1.mapInts ha ha' hb hb' ?_ rfl rfl rfl rfl) (Ex.stop_ret (Ex1.ret (Ev.tup (Evs.cons (Ev.name rfl) (Evs.cons (Ev.name rfl) Evs.nil)) (by exact line_ok rfl))))
    have e : [PV.str (numS a), PV.str (numS b)] = (splitL 46 (lcS a b).cps.toList).map fun t => PV.str (mkS t) := by
      rw [lc_split ha hb, List.map_cons, List.map_cons, List.map_nil, mkS_of, mkS_of]
    rw [e]
    exact Ev.split (a := (lcS a b).cps.toList) (c := 46) (by rw [mkS_of]; exact Ev.name rfl) rfl hl
end
end Mine
namespace Mine
open PySem PySem.W PyProof.Rows PySem.Calls
set_option Elab.async false
set_option maxRecDepth 100000
set_option linter.unusedVariables false
/-! a row as a list of marks and signs -/
inductive Tk where
  | mk (b d : Nat)
  | ch (c : Nat)
  deriving DecidableEq
def mark (b d : Nat) : Tx := 38 :: (reps d ++ [b])
def tkT : Tk → Tx
  | .mk b d => mark b d
  | .ch c => [c]
def flat (ts : List Tk) : Tx := ts.flatMap tkT
def tl (ts : List Tk) : Nat := (flat ts).length
def Br (b : Nat) : Prop := b = 91 ∨ b = 93
def TkOk : Tk → Prop
  | .mk b _ => Br b
  | .ch c => c ≠ 91 ∧ c ≠ 93
def AllOk (ts : List Tk) : Prop := ∀ t ∈ ts, TkOk t
theorem flat_app (a b : List Tk) : flat (a ++ b) = flat a ++ flat b := List.flatMap_append
theorem flat_cons (t : Tk) (r : List Tk) : flat (t :: r) = tkT t ++ flat r := List.flatMap_cons
theorem tl_app (a b : List Tk) : tl (a ++ b) = tl a + tl b := by unfold tl; rw [flat_app, List.length_append]
theorem tl_cons (t : Tk) (r : List Tk) : tl (t :: r) = (tkT t).length + tl r := by unfold tl; rw [flat_cons, List.length_append]
theorem reps_succ (d : Nat) : reps (d + 1) = 97 :: 109 :: 112 :: 59 :: reps d := rfl
theorem reps_length (d : Nat) : (reps d).length = 4 * d := by
  induction d with
  | zero => rfl
  | succ k ih => rw [reps_succ]; simp only [List.length_cons, ih]; omega
theorem mark_len (b d : Nat) : (mark b d).length = 4 * d + 2 := by
  unfold mark; rw [List.length_cons, List.length_append, reps_length]; rfl
theorem tk_pos (t : Tk) : 0 < (tkT t).length := by
  cases t with
  | mk b d => show 0 < (mark b d).length; rw [mark_len]; omega
  | ch c => exact Nat.one_pos
theorem reps_mem {c d : Nat} (h : c ∈ reps d) : c = 97 ∨ c = 109 ∨ c = 112 ∨ c = 59 := by
  induction d with
  | zero => cases h
  | succ k ih =>
    rw [reps_succ] at h
    simp only [List.mem_cons] at h
    rcases h with h | h | h | h | h
    · exact .inl h
    · exact .inr (.inl h)
    · exact .inr (.inr (.inl h))
    · exact .inr (.inr (.inr h))
    · exact ih h
theorem not38 {b d : Nat} (hb : Br b) : 38 ∉ reps d ++ [b] := fun h => by
  rw [List.mem_append, List.mem_singleton] at h
  rcases h with h | h
  · rcases reps_mem h with h | h | h | h <;> cases h
  · rcases hb with hb | hb <;> (rw [hb] at h; cases h)
theorem no_pre {b : Nat} (hb : Br b) : ∀ (ts : List Tk) (w : Tx), 38 ∉ w → AllOk ts → ¬ (w ++ [b]) <+: flat ts
  | [], w, _, _, h => by
    have := h.length_le
    rw [List.length_append] at this
    simp [flat] at this
  | t :: r, w, hw, ok, h => by
    rw [flat_cons] at h
    cases t with
    | mk b' d' =>
      change (w ++ [b]) <+: 38 :: ((reps d' ++ [b']) ++ flat r) at h
      cases w with
      | nil => have := (List.cons_prefix_cons.mp h).1; rcases hb with hb | hb <;> (rw [hb] at this; cases this)
      | cons c w => have := (List.cons_prefix_cons.mp h).1; exact hw (by rw [this]; exact .head _)
    | ch c =>
      change (w ++ [b]) <+: c :: flat r at h
      have hc : c ≠ 91 ∧ c ≠ 93 := ok (.ch c) (.head _)
      cases w with
      | nil =>
        have := (List.cons_prefix_cons.mp h).1
        rcases hb with hb | hb
        · exact hc.1 (this.symm.trans hb)
        · exact hc.2 (this.symm.trans hb)
      | cons c' w => exact no_pre hb r w (fun q => hw (.tail _ q)) (fun t ht => ok t (.tail _ ht)) (List.cons_prefix_cons.mp h).2
theorem mark_eq {b b' : Nat} (hb : Br b) (hb' : Br b') {l : Tx} : ∀ {d d' : Nat}, (reps d ++ [b]) <+: (reps d' ++ [b']) ++ l → d = d' ∧ b = b'
  | 0, 0, h => ⟨rfl, (List.cons_prefix_cons.mp (show [b] <+: b' :: l from h)).1⟩
  | 0, d' + 1, h => by
    have := (List.cons_prefix_cons.mp (show [b] <+: 97 :: (109 :: 112 :: 59 :: ((reps d' ++ [b']) ++ l)) from h)).1
    rcases hb with hb | hb <;> (rw [hb] at this; cases this)
  | d + 1, 0, h => by
    have := (List.cons_prefix_cons.mp (show 97 :: (109 :: 112 :: 59 :: (reps d ++ [b])) <+: b' :: l from h)).1
    rcases hb' with hb' | hb' <;> (rw [hb'] at this; cases this)
  | d + 1, d' + 1, h => by
    have h1 := (List.cons_prefix_cons.mp (show 97 :: (109 :: 112 :: 59 :: (reps d ++ [b])) <+: 97 :: (109 :: 112 :: 59 :: ((reps d' ++ [b']) ++ l)) from h)).2
    have h2 := (List.cons_prefix_cons.mp (List.cons_prefix_cons.mp (List.cons_prefix_cons.mp h1).2).2).2
    obtain ⟨e, f⟩ := mark_eq hb hb' h2
    exact ⟨by rw [e], f⟩

/-! find, token by token -/
def ff (b d : Nat) : List Tk → Nat → Option Nat
  | [], _ => none
  | t :: r, o => if t = .mk b d then some o else ff b d r (o + (tkT t).length)
theorem find_cons {y : Tx} {c : Nat} {r : Tx} {i : Nat} (h : ¬ y <+: c :: r) : findL y (c :: r) i = findL y r (i + 1) := by
  show (if (c :: r).take y.length = y then some i else findL y r (i + 1)) = _
  rw [if_neg fun q => h (List.prefix_iff_eq_take.mpr q.symm)]
theorem find_here {y : Tx} {c : Nat} {r : Tx} {i : Nat} (h : y <+: c :: r) : findL y (c :: r) i = some i := by
  unfold findL
  rw [if_pos (List.prefix_iff_eq_take.mp h).symm]
theorem find_skip {z : Tx} {l : Tx} : ∀ (x : Tx) (o : Nat), 38 ∉ x → findL (38 :: z) (x ++ l) o = findL (38 :: z) l (o + x.length)
  | [], o, _ => rfl
  | c :: r, o, h => by
    rw [List.cons_append, find_cons (fun q => h (by rw [(List.cons_prefix_cons.mp q).1]; exact .head _)), find_skip r (o + 1) fun q => h (.tail _ q), List.length_cons, Nat.add_assoc, Nat.add_comm 1]
theorem find_flat {b d : Nat} (hb : Br b) : ∀ (ts : List Tk) (o : Nat), AllOk ts → findL (mark b d) (flat ts) o = ff b d ts o
  | [], o, _ => by
    show findL (38 :: _) [] o = none
    unfold findL; rw [if_neg nofun]
  | t :: r, o, ok => by
    have okr : AllOk r := fun t ht => ok t (.tail _ ht)
    rw [flat_cons]
    cases t with
    | ch c =>
      show findL (mark b d) (c :: flat r) o = ff b d r (o + 1)
      rw [find_cons fun q => ?_]
      · exact find_flat hb r (o + 1) okr
      · exact no_pre hb r (reps d) (fun z => not38 (d := d) hb (List.mem_append.mpr (.inl z))) okr (List.cons_prefix_cons.mp q).2
    | mk b' d' =>
      have hb' : Br b' := ok _ (.head _)
      have e : tkT (.mk b' d') ++ flat r = 38 :: ((reps d' ++ [b']) ++ flat r) := rfl
      rw [e]
      show _ = if (Tk.mk b' d') = .mk b d then some o else ff b d r (o + (mark b' d').length)
      by_cases q : (Tk.mk b' d') = .mk b d
      · rw [if_pos q]
        injection q with q1 q2
        subst q1; subst q2
        exact find_here (List.cons_prefix_cons.mpr ⟨rfl, List.prefix_append _ _⟩)
      · rw [if_neg q, find_cons fun z => ?_]
        · unfold mark
          rw [find_skip _ _ (not38 hb'), ← mark, find_flat hb r _ okr, List.length_cons, Nat.add_assoc, Nat.add_comm 1]
        · obtain ⟨e1, e2⟩ := mark_eq hb hb' (List.cons_prefix_cons.mp z).2
          exact q (by rw [e1, e2])
theorem ff_ge {b d : Nat} : ∀ {ts : List Tk} {o k : Nat}, ff b d ts o = some k → o ≤ k
  | [], o, k, h => nomatch h
  | t :: r, o, k, h => by
    unfold ff at h
    split at h
    · cases h; exact Nat.le_refl _
    · exact Nat.le_trans (Nat.le_add_right _ _) (ff_ge h)
theorem ff_app {b d : Nat} {s : List Tk} : ∀ {g : List Tk} {o : Nat}, Tk.mk b d ∉ g → ff b d (g ++ s) o = ff b d s (o + tl g)
  | [], o, _ => rfl
  | t :: r, o, h => by
    rw [List.cons_append]
    show (if t = .mk b d then some o else ff b d (r ++ s) (o + (tkT t).length)) = _
    rw [if_neg fun q => h (by rw [q]; exact .head _), ff_app fun q => h (.tail _ q), tl_cons, Nat.add_assoc]
theorem ff_none {b d : Nat} {s : List Tk} {o : Nat} (h : Tk.mk b d ∉ s) : ff b d s o = none := by
  have := ff_app (s := []) (o := o) h
  rw [List.append_nil] at this; exact this
theorem ff_mem {b d : Nat} : ∀ {s : List Tk} {o : Nat}, Tk.mk b d ∈ s → ∃ k, ff b d s o = some k
  | t :: r, o, h => by
    unfold ff
    split
    · exact ⟨o, rfl⟩
    · rename_i q
      rcases List.mem_cons.mp h with h | h
      · exact absurd h.symm q
      · exact ff_mem h
def fI : Option Nat → Int
  | some k => k
  | none => -1
/-- find from a token's place -/
theorem find_at {b d : Nat} (hb : Br b) {pre ts : List Tk} (ok : AllOk ts) : Txt.find3 (mkS (flat (pre ++ ts))) (mkS (mark b d)) ((tl pre : Nat) : Int) = fI (ff b d ts (tl pre)) := by
  rw [find3_list _ _ _ (by rw [mkS_len, mark_len]; omega) (by rw [mkS_len, flat_app, List.length_append]; exact Nat.le_add_right _ _), mkS_cps, mkS_cps, flat_app]
  have : (flat pre ++ flat ts).drop (tl pre) = flat ts := List.drop_left' rfl
  rw [this, find_flat hb ts _ ok]
  cases ff b d ts (tl pre) <;> rfl
/-- find from within a mark -/
theorem find_in {b d : Nat} (hb : Br b) {b' d' : Nat} (hb' : Br b') {pre ts : List Tk} (ok : AllOk ts) : Txt.find3 (mkS (flat (pre ++ .mk b' d' :: ts))) (mkS (mark b d)) ((tl pre + 1 : Nat) : Int) = fI (ff b d ts (tl pre + (4 * d' + 2))) := by
  have e : flat (pre ++ .mk b' d' :: ts) = (flat pre ++ [38]) ++ ((reps d' ++ [b']) ++ flat ts) := by
    rw [flat_app, flat_cons]
    show flat pre ++ (38 :: (reps d' ++ [b']) ++ flat ts) = _
    simp
  rw [find3_list _ _ _ (by rw [mkS_len, mark_len]; omega) (by rw [mkS_len, e, List.length_append, List.length_append]; show tl pre + 1 ≤ tl pre + 1 + _; exact Nat.le_add_right _ _), mkS_cps, mkS_cps, e]
  have : ((flat pre ++ [38]) ++ ((reps d' ++ [b']) ++ flat ts)).drop (tl pre + 1) = (reps d' ++ [b']) ++ flat ts := List.drop_left' (by rw [List.length_append]; rfl)
  rw [this]
  have h2 : findL (mark b d) ((reps d' ++ [b']) ++ flat ts) (tl pre + 1) = ff b d ts (tl pre + (4 * d' + 2)) := by
    unfold mark
    rw [find_skip _ _ (not38 hb'), ← mark, find_flat hb ts _ ok, List.length_append, reps_length]
    congr 1
    show tl pre + 1 + (4 * d' + 1) = _; omega
  rw [h2]
  cases ff b d ts (tl pre + (4 * d' + 2)) <;> rfl
end Mine
namespace Mine
open PySem PySem.W PyProof.Rows PySem.Calls
set_option Elab.async false
set_option maxRecDepth 100000
set_option linter.unusedVariables false
def nodeT (L : Nat) (inner : List Tk) : List Tk := .mk 91 L :: (inner ++ [.mk 93 L])
/-- the nodes of depth L, from the front; outside them nothing as deep begins -/
inductive Dec (L : Nat) : Nat → List Tk → List (Nat × Nat) → Prop
  | nil {o : Nat} : Dec L o [] []
  | gap {o : Nat} {t : Tk} {r : List Tk} {hs : List (Nat × Nat)} (h : ∀ d, t = .mk 91 d → d < L) (D : Dec L (o + (tkT t).length) r hs) : Dec L o (t :: r) hs
  | node {o : Nat} {inner r : List Tk} {hs : List (Nat × Nat)} (h : Tk.mk 93 L ∉ inner) (D : Dec L (o + tl (nodeT L inner)) r hs) : Dec L o (nodeT L inner ++ r) ((o, o + tl (nodeT L inner)) :: hs)
theorem node_pos {L : Nat} {i : List Tk} : 0 < tl (nodeT L i) := by unfold nodeT; rw [tl_cons]; have := tk_pos (.mk 91 L); omega
theorem Dec.at' {L o o' : Nat} {ts : List Tk} {hs : List (Nat × Nat)} (e : o = o') (D : Dec L o ts hs) : Dec L o' ts hs := e ▸ D
theorem Dec.append {L o : Nat} {a : List Tk} {hs : List (Nat × Nat)} (D : Dec L o a hs) : ∀ {b : List Tk} {hs' : List (Nat × Nat)}, Dec L (o + tl a) b hs' → Dec L o (a ++ b) (hs ++ hs') := by
  induction D with
  | nil => exact fun D' => D'
  | gap h D ih => exact fun D' => .gap h (ih (D'.at' (by rw [tl_cons]; omega)))
  | node h D ih =>
    exact fun {b hs'} D' => by
      rw [List.append_assoc]
      exact .node h (ih (D'.at' (by rw [tl_app]; omega)))
theorem Dec.bound {L o : Nat} {a : List Tk} {hs : List (Nat × Nat)} (D : Dec L o a hs) : ∀ p ∈ hs, o ≤ p.1 ∧ p.1 < p.2 ∧ p.2 ≤ o + tl a := by
  induction D with
  | nil => exact fun p h => nomatch h
  | gap h D ih => exact fun p hp => by obtain ⟨a1, a2, a3⟩ := ih p hp; rw [tl_cons]; omega
  | @node o i r hs h D ih =>
    exact fun p hp => by
      have := node_pos (L := L) (i := i)
      rw [tl_app]
      rcases List.mem_cons.mp hp with rfl | hp
      · exact ⟨Nat.le_refl _, by omega, by omega⟩
      · obtain ⟨a1, a2, a3⟩ := ih p hp; omega
theorem Dec.none {L o : Nat} {ts : List Tk} {hs : List (Nat × Nat)} (D : Dec L o ts hs) : hs = [] → ∀ d, L ≤ d → Tk.mk 91 d ∉ ts := by
  induction D with
  | nil => exact fun _ d _ q => nomatch q
  | gap h D ih =>
    exact fun e d hd q => by
      rcases List.mem_cons.mp q with q | q
      · have := h d q.symm; omega
      · exact ih e d hd q
  | node h D ih => exact fun e => nomatch e
theorem Dec.some {L o : Nat} {ts : List Tk} {hs : List (Nat × Nat)} (D : Dec L o ts hs) : ∀ {a e : Nat} {hs' : List (Nat × Nat)}, hs = (a, e) :: hs' → ∃ g i r, ts = g ++ (nodeT L i ++ r) ∧ (∀ d, L ≤ d → Tk.mk 91 d ∉ g) ∧ Tk.mk 93 L ∉ i ∧ a = o + tl g ∧ e = a + tl (nodeT L i) ∧ Dec L e r hs' := by
  induction D with
  | nil => exact fun e => nomatch e
  | @gap o t r hs h D ih =>
    exact fun {a e hs'} q => by
      obtain ⟨g, i, r', e1, e2, e3, e4, e5, e6⟩ := ih q
      refine ⟨t :: g, i, r', by rw [e1]; rfl, fun d hd z => ?_, e3, by rw [tl_cons]; omega, e5, e6⟩
      rcases List.mem_cons.mp z with z | z
      · have := h d z.symm; omega
      · exact e2 d hd z
  | @node o i r hs h D ih =>
    exact fun {a e hs'} q => by
      injection q with q1 q2
      injection q1 with q3 q4
      subst q3; subst q4; subst q2
      exact ⟨[], i, r, rfl, (fun d _ z => nomatch z), h, rfl, rfl, D⟩
theorem Dec.nth {L : Nat} {a e : Nat} : ∀ {k o : Nat} {ts : List Tk} {hs : List (Nat × Nat)}, Dec L o ts hs → hs[k]? = Option.some (a, e) → ∃ p r, ts = p ++ r ∧ e = o + tl p ∧ Dec L e r (hs.drop (k + 1))
  | 0, o, ts, [], D, h => nomatch h
  | k + 1, o, ts, [], D, h => nomatch h
  | 0, o, ts, (a', e') :: hs, D, h => by
    cases h
    obtain ⟨g, i, r, e1, _, _, e4, e5, e6⟩ := D.some rfl
    exact ⟨g ++ nodeT L i, r, by rw [e1, List.append_assoc], by rw [tl_app]; omega, e6⟩
  | k + 1, o, ts, (a', e') :: hs, D, h => by
    obtain ⟨g, i, r, e1, _, _, e4, e5, e6⟩ := D.some rfl
    obtain ⟨p, r', q1, q2, q3⟩ := Dec.nth (k := k) e6 h
    exact ⟨g ++ nodeT L i ++ p, r', by rw [e1, q1]; simp only [List.append_assoc], by rw [tl_app, tl_app]; omega, q3⟩
end Mine
namespace Mine
open PySem PySem.W PyProof.Rows PySem.Calls
set_option Elab.async false
set_option maxRecDepth 100000
set_option linter.unusedVariables false
def castH (p : Nat × Nat) : Int × Int := ((p.1 : Nat), (p.2 : Nat))
theorem least_first {p : Int × Int} : ∀ {ps : List (Int × Int)}, (∀ q ∈ ps, p.1 < q.1) → least p ps = p
  | [], _ => rfl
  | a :: r, h => by
    have ha := h a (.head _)
    have e : lexLt a p = false := by
      unfold lexLt
      rw [if_neg (by omega)]
      exact decide_eq_false (by omega)
    show least (if lexLt a p = true then a else p) r = p
    rw [e]
    exact least_first fun q hq => h q (.tail _ hq)
theorem nodes_first {pre ts : List Tk} {L : Nat} {hs : List (Nat × Nat)} (hL : L ≤ 4) (ok : AllOk (pre ++ ts)) (D : Dec L (tl pre) ts hs) (h4 : L = 4 → hs = []) :
    nodesF (mkS (flat (pre ++ ts))) L (mkS (flat (pre ++ ts))) ((tl pre : Nat) : Int) = (hs[0]?).map castH := by
  have okt : AllOk ts := fun t ht => ok t (List.mem_append.mpr (.inr ht))
  have hf : ∀ d, Txt.find3 (mkS (flat (pre ++ ts))) (mkS (opM d)) ((tl pre : Nat) : Int) = fI (ff 91 d ts (tl pre)) := fun d => find_at (.inl rfl) okt
  unfold nodesF nodesL
  simp only [hf, beq_self_eq_true, Bool.and_true]
  cases hs with
  | nil =>
    have : ((List.range (4 - L)).map fun i => (fI (ff 91 (L + i) ts (tl pre)), ((L + i : Nat) : Int))).filter (fun p => decide (0 ≤ p.1)) = [] := by
      rw [List.filter_eq_nil_iff]
      intro p hp
      obtain ⟨i, _, rfl⟩ := List.mem_map.mp hp
      simp only [ff_none (D.none rfl (L + i) (Nat.le_add_right _ _)), fI]
      decide
    rw [this]; rfl
  | cons q hs =>
    obtain ⟨a, e⟩ := q
    obtain ⟨g, i, r, e1, e2, e3, e4, e5, e6⟩ := D.some rfl
    obtain ⟨n, hn⟩ : ∃ n, 4 - L = n + 1 := ⟨3 - L, by
      rcases Nat.lt_or_ge L 4 with h | h
      · omega
      · have := h4 (by omega); cases this⟩
    have f0 : ff 91 L ts (tl pre) = some a := by
      rw [e1, ff_app (e2 L (Nat.le_refl _)), ← e4]
      show (if Tk.mk 91 L = Tk.mk 91 L then some a else _) = some a
      rw [if_pos rfl]
    have f1 : ∀ d k, L < d → ff 91 d ts (tl pre) = some k → a < k := fun d k hd h => by
      rw [e1, ff_app (e2 d (Nat.le_of_lt hd)), ← e4] at h
      change (if Tk.mk 91 L = Tk.mk 91 d then some a else ff 91 d ((i ++ [.mk 93 L]) ++ r) (a + (tkT (.mk 91 L)).length)) = some k at h
      rw [if_neg (fun q => by injection q with _ q; omega)] at h
      have := ff_ge h
      have := tk_pos (.mk 91 L)
      omega
    rw [hn, List.range_succ_eq_map, List.map_cons, List.filter_cons, Nat.add_zero, f0, if_pos (by show decide (0 ≤ ((a : Nat) : Int)) = true; exact decide_eq_true (by omega))]
    have hle : least (((a : Nat) : Int), ((L : Nat) : Int)) ((((List.range n).map Nat.succ).map fun i => (fI (ff 91 (L + i) ts (tl pre)), ((L + i : Nat) : Int))).filter (fun p => decide (0 ≤ p.1))) = (((a : Nat) : Int), ((L : Nat) : Int)) := least_first fun p hp => by
      obtain ⟨hm, h0⟩ := List.mem_filter.mp hp
      obtain ⟨j, hj, rfl⟩ := List.mem_map.mp hm
      obtain ⟨j', _, rfl⟩ := List.mem_map.mp hj
      have h0 := of_decide_eq_true h0
      simp only at h0 ⊢
      cases hk : ff 91 (L + j'.succ) ts (tl pre) with
      | none => rw [hk] at h0; exact absurd h0 (by decide)
      | some k =>
        have := f1 _ k (by omega) hk
        show ((a : Nat) : Int) < ((k : Nat) : Int); omega
    show some (hitOf _ (least _ _)) = some (castH (a, e))
    rw [show fI (some a) = ((a : Nat) : Int) from rfl, hle]
    unfold hitOf castH
    simp only [Int.toNat_natCast]
    have ew : pre ++ ts = (pre ++ g) ++ ((.mk 91 L :: i) ++ (.mk 93 L :: r)) := by rw [e1]; simp [nodeT]
    have ea : a = tl (pre ++ g) := by rw [tl_app]; omega
    have okr : AllOk ((.mk 91 L :: i) ++ (.mk 93 L :: r)) := fun t ht => ok t (by rw [ew]; exact List.mem_append.mpr (.inr ht))
    have hc : Txt.find3 (mkS (flat (pre ++ ts))) (mkS (clM L)) ((a : Nat) : Int) = fI (ff 93 L ((.mk 91 L :: i) ++ (.mk 93 L :: r)) a) := by
      rw [ew, ea]; exact find_at (.inr rfl) okr
    have hn : Tk.mk 93 L ∉ (Tk.mk 91 L :: i) := fun z => by
      rcases List.mem_cons.mp z with z | z
      · injection z with z _; cases z
      · exact e3 z
    rw [hc, ff_app hn]
    have hh : ff 93 L (.mk 93 L :: r) (a + tl (.mk 91 L :: i)) = some (a + tl (.mk 91 L :: i)) := by
      unfold ff; rw [if_pos rfl]
    rw [hh]
    have : tl (nodeT L i) = tl (.mk 91 L :: i) + (4 * L + 2) := by
      show tl ((.mk 91 L :: i) ++ [.mk 93 L]) = _
      rw [tl_app]; show _ + (mark 93 L ++ []).length = _; rw [List.append_nil, mark_len]
    have he : e = a + tl (.mk 91 L :: i) + (4 * L + 2) := by omega
    show some (((a : Nat) : Int), ((a + tl (.mk 91 L :: i) : Nat) : Int) + 2 + 4 * ((L : Nat) : Int)) = some (((a : Nat) : Int), ((e : Nat) : Int))
    rw [show ((a + tl (.mk 91 L :: i) : Nat) : Int) + 2 + 4 * ((L : Nat) : Int) = ((e : Nat) : Int) by omega]
theorem nodes_hits {ts : List Tk} {L : Nat} {hs : List (Nat × Nat)} (hL : L ≤ 4) (ok : AllOk ts) (D : Dec L 0 ts hs) (h4 : L = 4 → hs = []) : Hits (nodesF (mkS (flat ts)) L) (mkS (flat ts)) (hs.map castH) := by
  refine ⟨?_, fun k p hp => ?_⟩
  · rw [List.getElem?_map]; exact nodes_first (pre := []) hL ok D h4
  · rw [List.getElem?_map] at hp ⊢
    obtain ⟨⟨a, e⟩, hk, rfl⟩ := Option.map_eq_some_iff.mp hp
    have hb := D.bound _ (List.mem_of_getElem? hk)
    have hx : nx (castH (a, e)) = ((e : Nat) : Int) := by
      unfold nx castH
      rw [if_neg (by simp only; have := hb.2.1; simp only at this; omega)]
    obtain ⟨q, r, e1, e2, e3⟩ := D.nth hk
    rw [Nat.zero_add] at e2
    subst e1; subst e2
    rw [hx, nodes_first hL ok e3 (fun h => by rw [h4 h]; exact List.drop_nil), List.getElem?_drop]
theorem lastH_app {X Y : List (Nat × Nat)} {c : Nat} (hX : ∀ p ∈ X, p.1 < c ∧ p.2 ≤ c) (hY : ∀ p, Y.head? = some p → c ≤ p.1) : lastH ((X ++ Y).map castH) ((c : Nat) : Int) = (X.getLast?).map castH := by
  have key : ((X ++ Y).map castH).takeWhile (okH ((c : Nat) : Int)) = X.map castH := by
    induction X with
    | nil =>
      cases Y with
      | nil => rfl
      | cons y Y =>
        have := hY y rfl
        show ((castH y :: Y.map castH).takeWhile _) = []
        rw [List.takeWhile_cons_of_neg]
        unfold okH castH
        rw [Bool.and_eq_true, decide_eq_true_iff]
        rintro ⟨h1, _⟩
        simp only at h1; omega
    | cons x X ih =>
      have := hX x (.head _)
      show ((castH x :: (X ++ Y).map castH).takeWhile _) = castH x :: X.map castH
      rw [List.takeWhile_cons_of_pos, ih fun p hp => hX p (.tail _ hp)]
      unfold okH castH
      rw [Bool.and_eq_true, decide_eq_true_iff, decide_eq_true_iff]
      exact ⟨by simp only; omega, by simp only; omega⟩
  unfold lastH
  rw [key, List.getLast?_map]
end Mine
namespace Mine
open PySem PySem.W PyProof.Rows PySem.Calls
set_option Elab.async false
set_option maxRecDepth 100000
set_option linter.unusedVariables false
/-! spelling and reading, sign by sign -/
def bad : List Nat := [38, 60, 62, 34, 13, 10, 9, 91, 93]
def Form (c : Nat) (u : Tx) : Prop := u = [c] ∨ ∃ w, u = 38 :: w ∧ w ≠ [] ∧ ∀ x ∈ w, x ∉ bad
def Ru (u v : Tx) : Prop := (u = v ∧ ∃ c, u = [c] ∧ c ≠ 38) ∨ ∃ nm sg rest, u = 38 :: (nm ++ 59 :: rest) ∧ v = sg :: rest ∧ rdTab.lookup nm = some [sg] ∧ 59 ∉ nm ∧ 38 ∉ nm ∧ 38 ∉ rest
theorem dst_ent (e : Nat) : ∀ p ∈ dst e, p.2 = 38 :: ((p.2.drop 1).dropLast ++ [59]) ∧ rdTab.lookup ((p.2.drop 1).dropLast) = some [p.1] ∧ (∀ x ∈ p.2.drop 1, x ∉ bad) ∧ 59 ∉ (p.2.drop 1).dropLast ∧ 38 ∉ (p.2.drop 1).dropLast := by
  unfold dst; split <;> decide
theorem dst_38 (e : Nat) : (dst e).lookup 38 ≠ none := by unfold dst; split <;> decide
theorem bad38 {w : Tx} (h : ∀ x ∈ w, x ∉ bad) : 38 ∉ w := fun q => h 38 q (by decide)
theorem step_form {c : Nat} {u : Tx} (e : Nat) (h : Form c u) : Form c (spell1 u (dst e)) ∧ Ru (spell1 u (dst e)) u := by
  rcases h with rfl | ⟨w, rfl, hw, hb⟩
  · show Form c (tabOf (dst e) c) ∧ Ru (tabOf (dst e) c) [c]
    unfold tabOf
    cases hl : (dst e).lookup c with
    | none =>
      refine ⟨.inl rfl, .inl ⟨rfl, c, rfl, fun q => ?_⟩⟩
      rw [q] at hl; exact dst_38 e hl
    | some z =>
      obtain ⟨h1, h2, h3, h4, h5⟩ := dst_ent e (c, z) (mem_lookup hl)
      simp only at h1 h2 h3 h4 h5
      refine ⟨.inr ⟨z.drop 1, ?_, fun q => ?_, h3⟩, .inr ⟨_, c, [], h1, rfl, h2, h4, h5, nofun⟩⟩
      · show z = _; rw [h1]; rfl
      · rw [h1] at q; simp at q
  · have hl : 1 < (38 :: w).length := by
      cases w with
      | nil => exact absurd rfl hw
      | cons a b => simp
    unfold spell1
    rw [if_pos hl]
    refine ⟨.inr ⟨97 :: 109 :: 112 :: 59 :: w, rfl, nofun, fun x hx => ?_⟩, .inr ⟨[97, 109, 112], 38, w, rfl, rfl, by decide, by decide, by decide, bad38 hb⟩⟩
    simp only [List.mem_cons] at hx
    rcases hx with rfl | rfl | rfl | rfl | hx
    · decide
    · decide
    · decide
    · decide
    · exact hb x hx
theorem spell_snoc (es : List Nat) (e : Nat) (u : Tx) : spellT ((es ++ [e]).map dst) u = spell1 (spellT (es.map dst) u) (dst e) := by
  unfold spellT; rw [List.map_append, List.foldl_append]; rfl
theorem spell_aux (c : Nat) : ∀ (k : Nat) (es : List Nat), es.length = k → Form c (spellT (es.map dst) [c])
  | 0, es, h => by rw [List.length_eq_zero_iff.mp h]; exact .inl rfl
  | k + 1, es, h => by
    have hne : es ≠ [] := fun q => by rw [q] at h; cases h
    rw [← List.dropLast_concat_getLast hne, spell_snoc]
    exact (step_form _ (spell_aux c k _ (by rw [List.length_dropLast]; omega))).1
theorem spell_form (c : Nat) (es : List Nat) : Form c (spellT (es.map dst) [c]) := spell_aux c _ es rfl
theorem spell_ok {c : Nat} {es : List Nat} (h1 : c ≠ 91) (h2 : c ≠ 93) : ∀ x ∈ spellT (es.map dst) [c], x ≠ 91 ∧ x ≠ 93 := fun x hx => by
  rcases spell_form c es with h | ⟨w, h, _, hb⟩
  · rw [h] at hx; obtain rfl := List.mem_singleton.mp hx; exact ⟨h1, h2⟩
  · rw [h] at hx
    rcases List.mem_cons.mp hx with rfl | hx
    · exact ⟨by decide, by decide⟩
    · exact ⟨fun q => hb x hx (by rw [q]; decide), fun q => hb x hx (by rw [q]; decide)⟩
theorem Ru.len {u v : Tx} (h : Ru u v) : v.length ≤ u.length := by
  rcases h with ⟨rfl, _⟩ | ⟨nm, sg, rest, rfl, rfl, _⟩
  · exact Nat.le_refl _
  · simp only [List.length_cons, List.length_append]; omega
theorem Rd.nil : Rd [] [] := ⟨[], [], rfl, (fun q h => nomatch h), rfl⟩
theorem Rd.app {u v a b : Tx} (h : Ru u v) (r : Rd a b) : Rd (u ++ a) (v ++ b) := by
  obtain ⟨p0, ps, e1, e2, e3⟩ := r
  rcases h with ⟨rfl, c, rfl, hc⟩ | ⟨nm, sg, rest, rfl, rfl, h1, h2, h3, h4⟩
  · refine ⟨c :: p0, ps, ?_, e2, by rw [e3]; rfl⟩
    show splitL 38 (c :: a) = _
    unfold splitL
    rw [if_neg hc, e1]
  · refine ⟨[], (nm, [sg], rest ++ p0) :: ps, ?_, fun q hq => ?_, ?_⟩
    · have : splitL 38 (38 :: (nm ++ 59 :: rest) ++ a) = [] :: splitL 38 (nm ++ 59 :: rest ++ a) := by
        show splitL 38 (38 :: ((nm ++ 59 :: rest) ++ a)) = _
        rw [show (38 :: ((nm ++ 59 :: rest) ++ a) : Tx) = [] ++ 38 :: ((nm ++ 59 :: rest) ++ a) from rfl, splitL_cat _ _ _ (List.not_mem_nil)]
      rw [this]
      have free : ∀ x : Tx, 38 ∉ x → ∀ (p : Tx) (ps : List Tx) (a : Tx), splitL 38 a = p :: ps → splitL 38 (x ++ a) = (x ++ p) :: ps := by
        intro x
        induction x with
        | nil => exact fun _ _ _ _ h => h
        | cons c r ih =>
          intro hx p ps a ha
          show splitL 38 (c :: (r ++ a)) = _
          unfold splitL
          rw [if_neg (fun q => hx (by rw [q]; exact .head _)), ih (fun q => hx (.tail _ q)) p ps a ha]
          rfl
      rw [free _ (fun q => ?_) _ _ _ e1]
      · show [] :: ((nm ++ 59 :: rest) ++ p0) :: _ = [] :: (nm ++ 59 :: (rest ++ p0)) :: _
        simp
      · rw [List.mem_append, List.mem_cons] at q
        rcases q with q | q | q
        · exact h3 q
        · cases q
        · exact h4 q
    · rcases List.mem_cons.mp hq with rfl | hq
      · exact ⟨h2, h1⟩
      · exact e2 q hq
    · rw [e3]; simp
theorem Rd.flat {f h : Nat → Tx} : ∀ (l : Tx), (∀ c ∈ l, Ru (f c) (h c)) → Rd (l.flatMap f) (l.flatMap h)
  | [], _ => .nil
  | c :: r, H => by
    rw [List.flatMap_cons, List.flatMap_cons]
    exact Rd.app (H c (.head _)) (Rd.flat r fun c hc => H c (.tail _ hc))
theorem len_flat {f h : Nat → Tx} : ∀ (l : Tx), (∀ c ∈ l, (h c).length ≤ (f c).length) → (l.flatMap h).length ≤ (l.flatMap f).length
  | [], _ => Nat.le_refl _
  | c :: r, H => by
    rw [List.flatMap_cons, List.flatMap_cons, List.length_append, List.length_append]
    exact Nat.add_le_add (H c (.head _)) (len_flat r fun c hc => H c (.tail _ hc))
def spellL (es : List Nat) (t : Tx) : Tx := t.flatMap fun c => spellT (es.map dst) [c]
theorem read_text {g : Gx} {es : List Nat} {t : Tx} (h4 : es.length ≤ 100) (hl : (spellL es t).length ≤ 2200000) : Fn g 1 "_law_read" [.str (mkS (spellL es t)), .int (es.length : Nat)] (.str (mkS t)) := by
  have st : ∀ i, i < es.length → ∀ c : Nat, Ru (spellT ((es.take (es.length - i)).map dst) [c]) (spellT ((es.take (es.length - (i + 1))).map dst) [c]) := fun i hi c => by
    obtain ⟨k, hk⟩ : ∃ k, es.length - i = k + 1 := ⟨es.length - i - 1, by omega⟩
    have hk2 : es.length - (i + 1) = k := by omega
    have hlt : k < es.length := by omega
    rw [hk, hk2, List.take_add_one, List.getElem?_eq_getElem hlt]
    show Ru (spellT ((es.take k ++ [es[k]]).map dst) [c]) _
    rw [spell_snoc]
    exact (step_form _ (spell_form c _)).2
  have e0 : spellL (es.take (es.length - 0)) t = spellL es t := by rw [Nat.sub_zero, List.take_length]
  have eL : spellL (es.take (es.length - es.length)) t = t := by
    rw [Nat.sub_self]
    show t.flatMap (fun c => [c]) = t
    induction t with
    | nil => rfl
    | cons a b ih => rw [List.flatMap_cons, ih (Nat.le_trans (by unfold spellL; rw [List.flatMap_cons, List.length_append]; omega) hl) (by rw [Nat.sub_zero, List.take_length])]; rfl
  have hlen : ∀ i, i ≤ es.length → (spellL (es.take (es.length - i)) t).length ≤ 2200000 := by
    intro i
    induction i with
    | zero => intro _; rw [e0]; exact hl
    | succ i ih => exact fun hi => Nat.le_trans (len_flat t fun c _ => (st i hi c).len) (ih (Nat.le_of_lt hi))
  have := fn_read (g := g) (T := fun i => spellL (es.take (es.length - i)) t) (k := es.length) h4 hlen (fun i hi => Rd.flat t fun c _ => st i hi c)
  simp only [e0, eL] at this
  exact this
end Mine
namespace Mine
open PySem PySem.W PyProof.Rows PySem.Calls
set_option Elab.async false
set_option maxRecDepth 100000
set_option linter.unusedVariables false
/-! a row is what is due -/
def TrOk : (h : Nat) → Tr h → Prop
  | 0, _ => False
  | h + 1, t => (∀ k : Tr h, Sum.inl k ∈ t.2 → TrOk h k) ∧ (∀ x : Tx, Sum.inr x ∈ t.2 → x ∈ pieces) ∧ t.2.length ≤ 10
theorem piece_sign : ∀ x ∈ pieces, (∀ c ∈ x, c ≠ 10 ∧ c ≠ 91 ∧ c ≠ 93) ∧ (x.length = 1 ∨ ∀ c ∈ x, c ∉ bad) ∧ x.length ≤ 4 := by decide
def escs (es : List Nat) (l : Tx) : Tx := es.foldl (fun l e => escT e l) l
theorem escs_app : ∀ (es : List Nat) (a b : Tx), escs es (a ++ b) = escs es a ++ escs es b
  | [], _, _ => rfl
  | e :: es, a, b => by
    show escs es (escT e (a ++ b)) = escs es (escT e a) ++ escs es (escT e b)
    rw [← escs_app es]; unfold escT; rw [List.flatMap_append]
theorem escs_nil : ∀ (es : List Nat), escs es [] = []
  | [] => rfl
  | e :: es => escs_nil es
theorem escs_flat {α : Type} (es : List Nat) {f : α → Tx} : ∀ l : List α, escs es (l.flatMap f) = l.flatMap fun c => escs es (f c)
  | [] => escs_nil es
  | c :: r => by rw [List.flatMap_cons, escs_app, escs_flat es r, List.flatMap_cons]
def keyL : List Nat := [38, 60, 62, 34, 13, 10, 9]
theorem key_st (e : Nat) : ∀ p ∈ stE e, p.1 ∈ keyL := by unfold stE; split <;> decide
theorem key_dst (e : Nat) : ∀ p ∈ dst e, p.1 ∈ keyL := by unfold dst; split <;> decide
theorem look_no {st : List (Nat × Tx)} {c : Nat} (h : ∀ p ∈ st, p.1 ∈ keyL) (hc : c ∉ keyL) : st.lookup c = none := by
  cases q : st.lookup c with
  | none => rfl
  | some z => exact absurd (h _ (mem_lookup q)) hc
theorem st_dst (e : Nat) {c : Nat} (h : c ≠ 10) : (stE e).lookup c = (dst e).lookup c := by
  by_cases hc : c ∈ keyL
  · have : ∀ c ∈ keyL, c = 10 ∨ (stE e).lookup c = (dst e).lookup c := by
      rcases e with _ | _ | _ | _ | e
      · decide
      · decide
      · decide
      · decide
      · have : ∀ c ∈ keyL, c = 10 ∨ (stE 4).lookup c = (dst 4).lookup c := by decide
        exact this
    exact (this c hc).resolve_left h
  · rw [look_no (key_st e) hc, look_no (key_dst e) hc]
theorem esc_plain (e : Nat) : ∀ w : Tx, (∀ x ∈ w, x ∉ keyL) → escT e w = w
  | [], _ => rfl
  | c :: r, h => by
    have := esc_plain e r fun x hx => h x (.tail _ hx)
    unfold escT at this ⊢
    rw [List.flatMap_cons, this]
    unfold tabOf
    rw [look_no (key_st e) (h c (.head _))]; rfl
theorem esc_amp (e : Nat) (w : Tx) (h : ∀ x ∈ w, x ∉ keyL) : escT e (38 :: w) = amp ++ w := by
  have := esc_plain e w h
  unfold escT at this ⊢
  rw [List.flatMap_cons, this]
  have : tabOf (stE e) 38 = amp := by unfold tabOf stE; split <;> rfl
  rw [this]
theorem bad_key {x : Nat} (h : x ∉ bad) : x ∉ keyL := fun q => h (by
  simp only [keyL, List.mem_cons, List.not_mem_nil, or_false] at q
  rcases q with rfl | rfl | rfl | rfl | rfl | rfl | rfl <;> decide)
theorem mark_key {b d : Nat} (hb : Br b) : ∀ x ∈ reps d ++ [b], x ∉ keyL := fun x hx => by
  rw [List.mem_append, List.mem_singleton] at hx
  rcases hx with h | rfl
  · rcases reps_mem h with rfl | rfl | rfl | rfl <;> decide
  · rcases hb with rfl | rfl <;> decide
theorem escs_mark {b : Nat} (hb : Br b) : ∀ (es : List Nat) (d : Nat), escs es (mark b d) = mark b (d + es.length)
  | [], d => rfl
  | e :: es, d => by
    show escs es (escT e (38 :: (reps d ++ [b]))) = _
    rw [esc_amp e _ (mark_key hb)]
    show escs es (mark b (d + 1)) = _
    rw [escs_mark hb es, List.length_cons]; congr 1; omega
theorem escs_form {c : Nat} (hc : c ≠ 10) : ∀ (es : List Nat) (u : Tx), Form c u → escs es u = spellT (es.map dst) u
  | [], u, _ => rfl
  | e :: es, u, h => by
    have he : escT e u = spell1 u (dst e) := by
      rcases h with rfl | ⟨w, rfl, hw, hb⟩
      · show (tabOf (stE e) c ++ [] : Tx) = tabOf (dst e) c
        unfold tabOf; rw [st_dst e hc, List.append_nil]
      · rw [esc_amp e w fun x hx => bad_key (hb x hx)]
        have hl : 1 < (38 :: w).length := by
          cases w with
          | nil => exact absurd rfl hw
          | cons a b => simp
        unfold spell1
        rw [if_pos hl]; rfl
    show escs es (escT e u) = spellT (es.map dst) (spell1 u (dst e))
    rw [he]; exact escs_form hc es _ (step_form e h).1
theorem flatMap_one (x : Tx) : x.flatMap (fun c => [c]) = x := by
  induction x with
  | nil => rfl
  | cons a b ih => rw [List.flatMap_cons, ih]; rfl
theorem escs_text (es : List Nat) (x : Tx) (h : ∀ c ∈ x, c ≠ 10) : escs es x = spellL es x := by
  have := escs_flat es (f := fun c => [c]) x
  rw [flatMap_one] at this
  rw [this]
  unfold spellL
  rw [List.flatMap_def, List.flatMap_def]
  congr 1
  exact List.map_congr_left fun c hc => escs_form (h c hc) es [c] (.inl rfl)
theorem row_due : ∀ (h : Nat) (t : Tr h) (es : List Nat), TrOk h t → escs es (rowT h t) = dueT h (es.map dst) t
  | 0, _, _, ok => ok.elim
  | h + 1, t, es, ok => by
    show escs es ([38, 91] ++ escT t.1 (insT (rowT h) t.2) ++ [38, 93]) = opM (es.map dst).length ++ _ ++ clM (es.map dst).length
    rw [escs_app, escs_app, show ([38, 91] : Tx) = mark 91 0 from rfl, show ([38, 93] : Tx) = mark 93 0 from rfl, escs_mark (.inl rfl), escs_mark (.inr rfl), Nat.zero_add, List.length_map]
    congr 2
    show escs (t.1 :: es) (insT (rowT h) t.2) = _
    unfold insT
    rw [escs_flat, List.flatMap_def, List.flatMap_def]
    congr 1
    refine List.map_congr_left fun it hit => ?_
    cases it with
    | inl k => exact row_due h k (t.1 :: es) (ok.1 k hit)
    | inr x => exact escs_text (t.1 :: es) x fun c hc => ((piece_sign x (ok.2.1 x hit)).1 c hc).1
/-! lengths -/
theorem dst_six (e : Nat) : ∀ p ∈ dst e, p.2.length ≤ 6 := by unfold dst; split <;> decide
theorem spell_len2 (c : Nat) : ∀ (k : Nat) (es : List Nat), es.length = k → (spellT (es.map dst) [c]).length ≤ 2 + 4 * k
  | 0, es, h => by rw [List.length_eq_zero_iff.mp h]; exact Nat.le_succ _
  | k + 1, es, h => by
    have hne : es ≠ [] := fun q => by rw [q] at h; cases h
    rw [← List.dropLast_concat_getLast hne, spell_snoc]
    have ih := spell_len2 c k es.dropLast (by rw [List.length_dropLast]; omega)
    have hf := spell_form c es.dropLast
    generalize spellT (es.dropLast.map dst) [c] = u at ih hf
    rcases hf with rfl | ⟨w, rfl, hw, hb⟩
    · show (tabOf (dst _) c).length ≤ _
      unfold tabOf
      cases q : (dst (es.getLast hne)).lookup c with
      | none => show 1 ≤ _; omega
      | some z => have := dst_six _ _ (mem_lookup q); show z.length ≤ _; simp only at this; omega
    · have hl : 1 < (38 :: w).length := by
        cases w with
        | nil => exact absurd rfl hw
        | cons a b => simp
      unfold spell1
      rw [if_pos hl]
      show (amp ++ w).length ≤ _
      rw [List.length_append]; rw [List.length_cons] at ih; show 5 + _ ≤ _; omega
theorem spell_plain {c : Nat} (hc : c ∉ bad) : ∀ es : List Nat, spellT (es.map dst) [c] = [c]
  | [] => rfl
  | e :: es => by
    show spellT (es.map dst) (tabOf (dst e) c) = [c]
    unfold tabOf
    rw [look_no (key_dst e) (bad_key hc)]
    exact spell_plain hc es
theorem piece_len {x : Tx} (hx : x ∈ pieces) {es : List Nat} (h4 : es.length ≤ 4) : (spellL es x).length ≤ 18 := by
  obtain ⟨_, h | h, h4'⟩ := piece_sign x hx
  · obtain ⟨c, rfl⟩ := List.length_eq_one_iff.mp h
    have := spell_len2 c _ es rfl
    unfold spellL
    rw [List.flatMap_cons, List.flatMap_nil, List.append_nil]; omega
  · have : spellL es x = x := by
      have e : spellL es x = x.flatMap fun c => [c] := by
        unfold spellL
        rw [List.flatMap_def, List.flatMap_def]
        congr 1
        exact List.map_congr_left fun c hc => spell_plain (h c hc) es
      rw [e, flatMap_one]
    rw [this]; omega
def maxL : Nat → Nat
  | 0 => 0
  | h + 1 => 28 + 10 * (18 + maxL h)
theorem flat_max {α : Type} {f : α → Tx} {k : Nat} : ∀ (l : List α), (∀ a ∈ l, (f a).length ≤ k) → (l.flatMap f).length ≤ l.length * k
  | [], _ => by simp
  | a :: r, h => by
    rw [List.flatMap_cons, List.length_append, List.length_cons, Nat.add_mul, Nat.one_mul]
    have := h a (.head _)
    have := flat_max r fun a ha => h a (.tail _ ha)
    omega
theorem due_len : ∀ (h : Nat) (t : Tr h) (es : List Nat), TrOk h t → es.length + h ≤ 4 → (dueT h (es.map dst) t).length ≤ maxL h
  | 0, _, _, ok, _ => ok.elim
  | h + 1, t, es, ok, hl => by
    show (opM (es.map dst).length ++ t.2.flatMap (Sum.elim (dueT h (dst t.1 :: es.map dst)) (fun x => x.flatMap fun c => spellT (dst t.1 :: es.map dst) [c])) ++ clM (es.map dst).length).length ≤ _
    have hi : (t.2.flatMap (Sum.elim (dueT h (dst t.1 :: es.map dst)) (fun x => x.flatMap fun c => spellT (dst t.1 :: es.map dst) [c]))).length ≤ t.2.length * (18 + maxL h) := flat_max _ fun it hit => by
      cases it with
      | inl k => have := due_len h k (t.1 :: es) (ok.1 k hit) (by rw [List.length_cons]; omega); exact Nat.le_trans this (Nat.le_add_left _ _)
      | inr x => have := piece_len (ok.2.1 x hit) (es := t.1 :: es) (by rw [List.length_cons]; omega); exact Nat.le_trans this (Nat.le_add_right _ _)
    have h10 : t.2.length * (18 + maxL h) ≤ 10 * (18 + maxL h) := Nat.mul_le_mul_right _ ok.2.2
    have m1 : (opM (es.map dst).length).length = 4 * es.length + 2 := by rw [List.length_map]; exact mark_len 91 _
    have m2 : (clM (es.map dst).length).length = 4 * es.length + 2 := by rw [List.length_map]; exact mark_len 93 _
    rw [List.length_append, List.length_append, m1, m2]
    show _ ≤ 28 + 10 * (18 + maxL h)
    omega
theorem esc_ge (e : Nat) : ∀ l : Tx, l.length ≤ (escT e l).length
  | [] => Nat.le_refl _
  | c :: r => by
    have := esc_ge e r
    unfold escT at this ⊢
    rw [List.flatMap_cons, List.length_append, List.length_cons]
    have h1 : 1 ≤ (tabOf (stE e) c).length := by
      have : ∀ p ∈ stE e, 1 ≤ p.2.length := by unfold stE; split <;> decide
      unfold tabOf
      cases q : (stE e).lookup c with
      | none => exact Nat.le_refl _
      | some z => exact this _ (mem_lookup q)
    omega
theorem ins_len {h : Nat} {t : Tr (h + 1)} (ok : TrOk (h + 1) t) (h4 : h + 1 ≤ 4) : (insT (rowT h) t.2).length ≤ 350000 := by
  have h1 := row_due (h + 1) t [] ok
  have h2 := due_len (h + 1) t [] ok (by show 0 + _ ≤ _; omega)
  have h3 : maxL (h + 1) ≤ maxL 4 := by
    rcases h with _ | _ | _ | _ | h
    · decide
    · decide
    · decide
    · decide
    · omega
  have h4 : maxL 4 ≤ 350000 := by decide
  have h5 : (rowT (h + 1) t).length = 2 + (escT t.1 (insT (rowT h) t.2)).length + 2 := by
    show ([38, 91] ++ escT t.1 (insT (rowT h) t.2) ++ [38, 93] : Tx).length = _
    rw [List.length_append, List.length_append]; rfl
  have h6 : escs [] (rowT (h + 1) t) = rowT (h + 1) t := rfl
  rw [← h1, h6, h5] at h2
  have := esc_ge t.1 (insT (rowT h) t.2)
  omega
theorem tree_ok {ns : List Nd} (wf : Wf ns) (few : ∀ d ∈ ns, d.ps.length ≤ 10) : ∀ (h k : Nat) (d : Nd), ns[k]? = some d → d.dep + h = 3 → TrOk (h + 1) (treeOf ns (h + 1) k) := by
  have key : ∀ (h k : Nat) (d : Nd), ns[k]? = some d → (∀ k', .inl k' ∈ d.ps → TrOk h (treeOf ns h k')) → TrOk (h + 1) (treeOf ns (h + 1) k) := fun h k d hk ih => by
    have hm : d ∈ ns := List.mem_of_getElem? hk
    rw [show treeOf ns (h + 1) k = (d.e, d.ps.map (Sum.map (treeOf ns h) id)) by unfold treeOf; rw [hk]]
    refine ⟨fun t ht => ?_, fun x hx => ?_, ?_⟩
    · obtain ⟨q, hq, e⟩ := List.mem_map.mp ht
      cases q with
      | inl k' => cases e; exact ih k' hq
      | inr y => cases e
    · obtain ⟨q, hq, e⟩ := List.mem_map.mp hx
      cases q with
      | inl k' => cases e
      | inr y => cases e; exact wf.txt d hm _ hq
    · show (d.ps.map _).length ≤ 10
      rw [List.length_map]; exact few d hm
  intro h
  induction h with
  | zero =>
    intro k d hk hd
    refine key 0 k d hk fun k' hp => ?_
    obtain ⟨d', h1, h2⟩ := wf.kid d (List.mem_of_getElem? hk) k' hp
    have := wf.dep d' (List.mem_of_getElem? h1)
    omega
  | succ h ih =>
    intro k d hk hd
    refine key (h + 1) k d hk fun k' hp => ?_
    obtain ⟨d', h1, h2⟩ := wf.kid d (List.mem_of_getElem? hk) k' hp
    exact ih k' d' h1 (by omega)
end Mine
namespace Mine
open PySem PySem.W PyProof.Rows PySem.Calls
set_option Elab.async false
set_option maxRecDepth 100000
set_option linter.unusedVariables false
/-! a tree's tokens -/
def txK (es : List Nat) (x : Tx) : List Tk := (spellL es x).map .ch
def tks : (h : Nat) → List Nat → Tr h → List Tk
  | 0, _, _ => []
  | h + 1, es, t => nodeT es.length (t.2.flatMap (Sum.elim (tks h (t.1 :: es)) (txK (t.1 :: es))))
theorem flat_ch (l : Tx) : flat (l.map .ch) = l := by
  induction l with
  | nil => rfl
  | cons a b ih => rw [List.map_cons, flat_cons, ih]; rfl
theorem flat_txK (es : List Nat) (x : Tx) : flat (txK es x) = spellL es x := flat_ch _
theorem flat_flatMap {α : Type} (f : α → List Tk) : ∀ l : List α, flat (l.flatMap f) = l.flatMap fun a => flat (f a)
  | [] => rfl
  | a :: r => by rw [List.flatMap_cons, flat_app, flat_flatMap f r, List.flatMap_cons]
theorem flat_node (L : Nat) (i : List Tk) : flat (nodeT L i) = opM L ++ flat i ++ clM L := by
  unfold nodeT
  rw [flat_cons, flat_app, flat_cons]
  show mark 91 L ++ (flat i ++ (mark 93 L ++ [])) = mark 91 L ++ flat i ++ mark 93 L
  rw [List.append_nil, List.append_assoc]
theorem flat_tks : ∀ (h : Nat) (es : List Nat) (t : Tr h), flat (tks h es t) = dueT h (es.map dst) t
  | 0, _, _ => rfl
  | h + 1, es, t => by
    show flat (nodeT es.length _) = opM (es.map dst).length ++ _ ++ clM (es.map dst).length
    rw [flat_node, List.length_map, flat_flatMap, List.flatMap_def, List.flatMap_def]
    congr 3
    refine List.map_congr_left fun it _ => ?_
    cases it with
    | inl k => exact flat_tks h (t.1 :: es) k
    | inr x => exact flat_txK (t.1 :: es) x
theorem txK_ok {es : List Nat} {x : Tx} (hx : x ∈ pieces) : AllOk (txK es x) := fun t ht => by
  obtain ⟨c, hc, rfl⟩ := List.mem_map.mp ht
  obtain ⟨c0, h0, h1⟩ := List.mem_flatMap.mp hc
  have := (piece_sign x hx).1 c0 h0
  exact spell_ok this.2.1 this.2.2 c h1
theorem tks_mem : ∀ (h : Nat) (es : List Nat) (t : Tr h), TrOk h t → ∀ k ∈ tks h es t, TkOk k ∧ ∀ b d, k = .mk b d → es.length ≤ d
  | 0, _, _, ok => ok.elim
  | h + 1, es, t, ok => fun k hk => by
    have hk' : k ∈ nodeT es.length (t.2.flatMap (Sum.elim (tks h (t.1 :: es)) (txK (t.1 :: es)))) := hk
    unfold nodeT at hk'
    rcases List.mem_cons.mp hk' with rfl | hk'
    · exact ⟨.inl rfl, fun b d q => by injection q with _ q; omega⟩
    rcases List.mem_append.mp hk' with hk' | hk'
    · obtain ⟨it, hit, hk2⟩ := List.mem_flatMap.mp hk'
      cases it with
      | inl k' =>
        obtain ⟨h1, h2⟩ := tks_mem h (t.1 :: es) k' (ok.1 k' hit) k hk2
        exact ⟨h1, fun b d q => Nat.le_of_succ_le (h2 b d q)⟩
      | inr x =>
        refine ⟨txK_ok (ok.2.1 x hit) k hk2, fun b d q => ?_⟩
        obtain ⟨c, _, rfl⟩ := List.mem_map.mp hk2
        cases q
    · rw [List.mem_singleton.mp hk']
      exact ⟨.inr rfl, fun b d q => by injection q with _ q; omega⟩
theorem dec_ch (L : Nat) : ∀ (l : Tx) (o : Nat), Dec L o (l.map .ch) []
  | [], o => .nil
  | c :: r, o => .gap (fun d q => nomatch q) (dec_ch L r (o + 1))
theorem dec_tree : ∀ (h : Nat) (t : Tr h) (es : List Nat) (L o : Nat), TrOk h t → es.length ≤ L → ∃ hs, Dec L o (tks h es t) hs ∧ (es.length = L → hs = [(o, o + tl (tks h es t))]) ∧ (es.length + h ≤ L → hs = [])
  | 0, _, _, _, _, ok, _ => ok.elim
  | h + 1, t, es, L, o, ok, hle => by
    show ∃ hs, Dec L o (nodeT es.length (t.2.flatMap (Sum.elim (tks h (t.1 :: es)) (txK (t.1 :: es))))) hs ∧ (_ → hs = [(o, o + tl (nodeT es.length (t.2.flatMap (Sum.elim (tks h (t.1 :: es)) (txK (t.1 :: es)))))) ]) ∧ _
    by_cases q : es.length = L
    · subst q
      refine ⟨_, ?_, fun _ => rfl, fun z => by omega⟩
      have := Dec.node (L := es.length) (o := o) (inner := t.2.flatMap (Sum.elim (tks h (t.1 :: es)) (txK (t.1 :: es)))) (r := []) (hs := []) (fun z => ?_) .nil
      · rw [List.append_nil] at this; exact this
      · obtain ⟨it, hit, hk2⟩ := List.mem_flatMap.mp z
        cases it with
        | inl k' =>
          have := (tks_mem h (t.1 :: es) k' (ok.1 k' hit) _ hk2).2 _ _ rfl
          rw [List.length_cons] at this; omega
        | inr x => obtain ⟨c, _, q⟩ := List.mem_map.mp hk2; cases q
    · have its : ∀ (l : List (Tr h ⊕ Tx)) (o : Nat), (∀ k, .inl k ∈ l → TrOk h k) → ∃ hs, Dec L o (l.flatMap (Sum.elim (tks h (t.1 :: es)) (txK (t.1 :: es)))) hs ∧ (es.length + (h + 1) ≤ L → hs = []) := by
        intro l
        induction l with
        | nil => exact fun o _ => ⟨[], .nil, fun _ => rfl⟩
        | cons it r ih =>
          intro o hk
          have hit : ∃ hs, Dec L o (Sum.elim (tks h (t.1 :: es)) (txK (t.1 :: es)) it) hs ∧ (es.length + (h + 1) ≤ L → hs = []) := by
            cases it with
            | inl k =>
              obtain ⟨hs, h1, _, h3⟩ := dec_tree h k (t.1 :: es) L o (hk k (.head _)) (by rw [List.length_cons]; omega)
              exact ⟨hs, h1, fun z => h3 (by rw [List.length_cons]; omega)⟩
            | inr x => exact ⟨[], dec_ch L _ o, fun _ => rfl⟩
          obtain ⟨hs1, d1, e1⟩ := hit
          obtain ⟨hs2, d2, e2⟩ := ih (o + tl (Sum.elim (tks h (t.1 :: es)) (txK (t.1 :: es)) it)) fun k hm => hk k (.tail _ hm)
          refine ⟨hs1 ++ hs2, ?_, fun z => by rw [e1 z, e2 z]; rfl⟩
          rw [List.flatMap_cons]
          exact d1.append d2
      obtain ⟨hs, d, e⟩ := its t.2 (o + (tkT (.mk 91 es.length)).length) ok.1
      refine ⟨hs ++ [], ?_, fun z => absurd z q, fun z => by rw [e z]; rfl⟩
      exact .gap (fun d z => by injection z with _ z; omega) (d.append (.gap (fun d z => by injection z with z _; cases z) .nil))
/-! the texts between the kids -/
def seg {α : Type} : List (α ⊕ Tx) → Tx × List (α × Tx)
  | [] => ([], [])
  | .inr x :: r => (x ++ (seg r).1, (seg r).2)
  | .inl k :: r => ([], (k, (seg r).1) :: (seg r).2)
theorem seg_txs {α : Type} : ∀ (its : List (α ⊕ Tx)) (A : List Tx) (b : Tx), (its.foldl txStep (A, b)).1 ++ [(its.foldl txStep (A, b)).2] = A ++ ((b ++ (seg its).1) :: (seg its).2.map (·.2))
  | [], A, b => by simp [seg]
  | .inr x :: r, A, b => by
    rw [List.foldl_cons]
    rw [show txStep (A, b) (.inr x : α ⊕ Tx) = (A, b ++ x) from rfl, seg_txs r]
    simp only [seg, List.append_assoc]
  | .inl k :: r, A, b => by
    rw [List.foldl_cons]
    rw [show txStep (A, b) (.inl k : α ⊕ Tx) = (A ++ [b], []) from rfl, seg_txs r]
    simp [seg]
theorem seg_kids {α : Type} : ∀ (its : List (α ⊕ Tx)), kidsOf its = (seg its).2.map (·.1)
  | [] => rfl
  | .inr x :: r => by
    show kidsOf r = _
    rw [seg_kids r]; rfl
  | .inl k :: r => by
    show k :: kidsOf r = _
    rw [seg_kids r]; rfl
theorem seg_mem {α : Type} : ∀ {its : List (α ⊕ Tx)} {p : α × Tx}, p ∈ (seg its).2 → .inl p.1 ∈ its
  | [], _, h => nomatch h
  | .inr x :: r, p, h => .tail _ (seg_mem (its := r) h)
  | .inl k :: r, p, h => by
    rcases List.mem_cons.mp h with rfl | h
    · exact .head _
    · exact .tail _ (seg_mem h)
theorem txK_app (es : List Nat) (x y : Tx) : txK es (x ++ y) = txK es x ++ txK es y := by unfold txK spellL; rw [List.flatMap_append, List.map_append]
def segL (h : Nat) (es : List Nat) (l : List (Tr h × Tx)) : List Tk := l.flatMap fun p => tks h es p.1 ++ txK es p.2
theorem seg_toks (h : Nat) (es : List Nat) : ∀ its : List (Tr h ⊕ Tx), its.flatMap (Sum.elim (tks h es) (txK es)) = txK es (seg its).1 ++ segL h es (seg its).2
  | [] => rfl
  | .inr x :: r => by
    rw [List.flatMap_cons, seg_toks h es r]
    show txK es x ++ _ = txK es (x ++ (seg r).1) ++ _
    rw [txK_app, List.append_assoc]; rfl
  | .inl k :: r => by
    rw [List.flatMap_cons, seg_toks h es r]
    show tks h es k ++ _ = [] ++ ((tks h es k ++ txK es (seg r).1) ++ segL h es (seg r).2)
    rw [List.nil_append, List.append_assoc]
def spansOf (h : Nat) (es : List Nat) : Nat → List (Tr h × Tx) → List (Nat × Nat)
  | _, [] => []
  | o, p :: r => (o, o + tl (tks h es p.1)) :: spansOf h es (o + tl (tks h es p.1) + tl (txK es p.2)) r
section
variable {h : Nat} {es : List Nat}
theorem spans_len : ∀ {l : List (Tr h × Tx)} {o : Nat}, (spansOf h es o l).length = l.length
  | [], _ => rfl
  | p :: r, o => by show (spansOf h es _ r).length + 1 = _; rw [spans_len]; rfl
theorem segL_cons (p : Tr h × Tx) (r : List (Tr h × Tx)) : tl (segL h es (p :: r)) = tl (tks h es p.1) + tl (txK es p.2) + tl (segL h es r) := by
  show tl ((tks h es p.1 ++ txK es p.2) ++ segL h es r) = _
  rw [tl_app, tl_app]
theorem dec_spans : ∀ (l : List (Tr h × Tx)) (o : Nat), (∀ p ∈ l, TrOk h p.1) → Dec es.length o (segL h es l) (spansOf h es o l)
  | [], o, _ => .nil
  | p :: r, o, hk => by
    obtain ⟨hs, d, e, _⟩ := dec_tree h p.1 es es.length o (hk p (.head _)) (Nat.le_refl _)
    rw [e rfl] at d
    have := (d.append (dec_ch es.length (spellL es p.2) _)).append ((dec_spans r (o + tl (tks h es p.1) + tl (txK es p.2)) fun p hp => hk p (.tail _ hp)).at' (by rw [tl_app]; exact Nat.add_assoc _ _ _))
    exact this
theorem dec_segL {L : Nat} (hL : es.length ≤ L) : ∀ (l : List (Tr h × Tx)) (o : Nat), (∀ p ∈ l, TrOk h p.1) → ∃ hs, Dec L o (segL h es l) hs ∧ (es.length + h ≤ L → hs = [])
  | [], o, _ => ⟨[], .nil, fun _ => rfl⟩
  | p :: r, o, hk => by
    obtain ⟨hs, d, _, e⟩ := dec_tree h p.1 es L o (hk p (.head _)) hL
    obtain ⟨hs2, d2, e2⟩ := dec_segL hL r (o + tl (tks h es p.1) + tl (txK es p.2)) fun p hp => hk p (.tail _ hp)
    exact ⟨hs ++ [] ++ hs2, (d.append (dec_ch L (spellL es p.2) _)).append (d2.at' (by rw [tl_app]; exact Nat.add_assoc _ _ _)), fun z => by rw [e z, e2 z]; rfl⟩
theorem stop_ge : ∀ {l : List (Tr h × Tx)} {o fin : Nat}, o + tl (segL h es l) ≤ fin → ∀ k, o ≤ stopAt (spansOf h es o l) fin k
  | [], o, fin, hf, k => by show o ≤ fin; exact Nat.le_trans (Nat.le_add_right _ _) hf
  | p :: r, o, fin, hf, 0 => Nat.le_refl _
  | p :: r, o, fin, hf, k + 1 => by
    have := stop_ge (l := r) (o := o + tl (tks h es p.1) + tl (txK es p.2)) (fin := fin) (by rw [segL_cons] at hf; omega) k
    show o ≤ stopAt (spansOf h es (o + tl (tks h es p.1) + tl (txK es p.2)) r) fin k
    omega
theorem spans_sorted : ∀ {l : List (Tr h × Tx)} {o fin : Nat}, o + tl (segL h es l) ≤ fin → ∀ (k i : Nat) q, i ≤ k → (spansOf h es o l)[i]? = some q → o ≤ q.1 ∧ q.2 ≤ stopAt (spansOf h es o l) fin (k + 1)
  | [], o, fin, hf, k, i, q, _, hq => nomatch hq
  | p :: r, o, fin, hf, k, 0, q, _, hq => by
    cases hq
    have := stop_ge (es := es) (l := r) (o := o + tl (tks h es p.1) + tl (txK es p.2)) (fin := fin) (by rw [segL_cons] at hf; omega) k
    refine ⟨Nat.le_refl _, ?_⟩
    show o + tl (tks h es p.1) ≤ stopAt (spansOf h es (o + tl (tks h es p.1) + tl (txK es p.2)) r) fin k
    omega
  | p :: r, o, fin, hf, 0, i + 1, q, hik, hq => nomatch hik
  | p :: r, o, fin, hf, k + 1, i + 1, q, hik, hq => by
    obtain ⟨h1, h2⟩ := spans_sorted (l := r) (o := o + tl (tks h es p.1) + tl (txK es p.2)) (fin := fin) (by rw [segL_cons] at hf; omega) k i q (Nat.le_of_succ_le_succ hik) hq
    exact ⟨by omega, h2⟩
theorem spans_nth : ∀ {l : List (Tr h × Tx)} {o k : Nat} {q : Nat × Nat}, (spansOf h es o l)[k]? = some q → ∃ l1 p l2, l = l1 ++ p :: l2 ∧ l[k]? = some p ∧ q = (o + tl (segL h es l1), o + tl (segL h es l1) + tl (tks h es p.1))
  | [], _, _, _, h => nomatch h
  | p :: r, o, 0, q, h => by cases h; exact ⟨[], p, r, rfl, rfl, rfl⟩
  | p :: r, o, k + 1, q, h => by
    obtain ⟨l1, p', l2, e1, e2, e3⟩ := spans_nth (l := r) h
    refine ⟨p :: l1, p', l2, by rw [e1]; rfl, e2, ?_⟩
    rw [segL_cons, e3]
    congr 1 <;> omega
theorem slice_mid (a b c : Tx) : ((a ++ b ++ c).take (a.length + b.length)).drop a.length = b := by
  rw [List.take_left' (by rw [List.length_append]), List.drop_left' rfl]
theorem slices : ∀ (l : List (Tr h × Tx)) (P : List Tk) (t0 : Tx) (Z : Tx) (k : Nat) (t : Tx), (t0 :: l.map (·.2))[k]? = some t →
    ((flat P ++ flat (txK es t0 ++ segL h es l) ++ Z).take (stopAt (spansOf h es (tl P + tl (txK es t0)) l) (tl P + tl (txK es t0 ++ segL h es l)) k)).drop (startAt (spansOf h es (tl P + tl (txK es t0)) l) (tl P) k) = spellL es t
  | [], P, t0, Z, 0, t, ht => by
    cases ht
    show ((flat P ++ flat (txK es t0 ++ []) ++ Z).take (tl P + tl (txK es t0 ++ []))).drop (tl P) = _
    rw [List.append_nil]
    exact (slice_mid _ _ _).trans (flat_txK es t0)
  | [], P, t0, Z, k + 1, t, ht => nomatch ht
  | p :: r, P, t0, Z, 0, t, ht => by
    cases ht
    show ((flat P ++ flat (txK es t0 ++ segL h es (p :: r)) ++ Z).take (tl P + tl (txK es t0))).drop (tl P) = _
    rw [flat_app, show flat P ++ (flat (txK es t0) ++ flat (segL h es (p :: r))) ++ Z = flat P ++ flat (txK es t0) ++ (flat (segL h es (p :: r)) ++ Z) by simp only [List.append_assoc]]
    exact (slice_mid _ _ _).trans (flat_txK es t0)
  | p :: r, P, t0, Z, k + 1, t, ht => by
    have ih := slices r (P ++ txK es t0 ++ tks h es p.1) p.2 Z k t ht
    have e1 : flat (P ++ txK es t0 ++ tks h es p.1) ++ flat (txK es p.2 ++ segL h es r) ++ Z = flat P ++ flat (txK es t0 ++ segL h es (p :: r)) ++ Z := by
      show _ = flat P ++ flat (txK es t0 ++ ((tks h es p.1 ++ txK es p.2) ++ segL h es r)) ++ Z
      simp only [flat_app, List.append_assoc]
    have e2 : tl (P ++ txK es t0 ++ tks h es p.1) = tl P + tl (txK es t0) + tl (tks h es p.1) := by rw [tl_app, tl_app]
    have e3 : tl P + tl (txK es t0) + tl (tks h es p.1) + tl (txK es p.2 ++ segL h es r) = tl P + tl (txK es t0 ++ segL h es (p :: r)) := by
      rw [tl_app, tl_app, segL_cons]; omega
    rw [e1, e2, e3] at ih
    cases k with
    | zero => exact ih
    | succ k => exact ih
end
end Mine
namespace Mine
open PySem PySem.W PyProof.Rows PySem.Calls
set_option Elab.async false
set_option maxRecDepth 100000
set_option linter.unusedVariables false
/-- what stands round a node of depth d -/
structure Ctx (d : Nat) (pre post : List Tk) : Prop where
  pre : ∀ L, d < L → L ≤ 4 → ∃ A, Dec L 0 pre A ∧ (L = 4 → A = [])
  post : ∀ L o, d < L → L ≤ 4 → ∃ B, Dec L o post B ∧ (L = 4 → B = [])
theorem Dec.close {L o d : Nat} {r : List Tk} {hs : List (Nat × Nat)} (D : Dec L (o + (tkT (.mk 93 d)).length) r hs) : Dec L o (.mk 93 d :: r) hs := .gap (fun d q => by injection q with q _; cases q) D
theorem getLast_take {α : Type} {l : List α} {k : Nat} {q : α} (h : l[k]? = some q) (A : List α) : (A ++ l.take (k + 1)).getLast? = some q := by
  rw [List.take_add_one, h, ← List.append_assoc]; simp
theorem told_tree {g : Gx} : ∀ (h : Nat) (es : List Nat) (t : Tr (h + 1)) (pre post : List Tk), TrOk (h + 1) t → es.length + h = 3 → AllOk (pre ++ tks (h + 1) es t ++ post) → tl (pre ++ tks (h + 1) es t ++ post) ≤ 2200000 → Ctx es.length pre post →
    Fn g (21 + h) "_law_told" [.str (mkS (flat (pre ++ tks (h + 1) es t ++ post))), .int (es.length : Nat), .int (tl pre : Nat), .int ((tl pre + tl (tks (h + 1) es t) : Nat) : Int)] (treeP (h + 1) t) := by
  intro h
  induction h using Nat.strongRecOn with
  | _ h ih =>
  intro es t pre post ok hh hok hlen X
  generalize hts : pre ++ tks (h + 1) es t ++ post = ts at hok hlen ⊢
  have e1 : treeP (h + 1) t = .list [.list (strL ((seg t.2).1 :: (seg t.2).2.map (·.2))), .list ((seg t.2).2.map fun p => treeP h p.1)] := by
    show PV.list [.list (strL ((txs t.2).1 ++ [(txs t.2).2])), .list ((kidsOf t.2).map (treeP h))] = _
    rw [show (txs t.2).1 ++ [(txs t.2).2] = _ from seg_txs t.2 [] [], seg_kids, List.map_map]; rfl
  rw [e1]
  have hkid : ∀ p ∈ (seg t.2).2, TrOk h p.1 := fun p hp => ok.1 p.1 (seg_mem hp)
  have hnum : (seg t.2).2.length ≤ 10 := by
    have h1 : (kidsOf t.2).length ≤ t.2.length := kids_len t.2
    rw [seg_kids, List.length_map] at h1
    exact Nat.le_trans h1 ok.2.2
  have etk : tks (h + 1) es t = .mk 91 es.length :: ((txK (t.1 :: es) (seg t.2).1 ++ segL h (t.1 :: es) (seg t.2).2) ++ [.mk 93 es.length]) := by
    show nodeT es.length _ = _
    rw [seg_toks]; rfl
  generalize ht0 : (seg t.2).1 = t0 at etk ⊢
  generalize hl : (seg t.2).2 = l at etk hkid hnum ⊢
  generalize hes : t.1 :: es = es' at etk
  have hesl : es'.length = es.length + 1 := by rw [← hes]; rfl
  have m1 : (tkT (.mk 91 es.length)).length = 4 * es.length + 2 := mark_len 91 _
  have m2 : (tkT (.mk 93 es.length)).length = 4 * es.length + 2 := mark_len 93 _
  have hP : tl (pre ++ [.mk 91 es.length]) = tl pre + (2 + 4 * es.length) := by rw [tl_app, tl_cons, m1]; show _ + (_ + 0) = _; omega
  have ets : ts = (pre ++ [.mk 91 es.length]) ++ ((txK es' t0 ++ segL h es' l) ++ (.mk 93 es.length :: post)) := by
    rw [← hts, etk]; simp only [List.append_assoc, List.cons_append, List.nil_append]
  have hlk : tl pre + tl (tks (h + 1) es t) = (tl pre + (2 + 4 * es.length) + tl (txK es' t0 ++ segL h es' l)) + (2 + 4 * es.length) := by
    rw [etk, tl_cons, tl_app, tl_cons, m1, m2]; show _ + (_ + (_ + (_ + 0))) = _; omega
  rw [hlk]
  -- the spans of depth level + 1
  obtain ⟨A, dA, zA⟩ := X.pre es'.length (by omega) (by omega)
  obtain ⟨B, dB, zB⟩ := X.post es'.length (tl pre + (2 + 4 * es.length) + tl (txK es' t0 ++ segL h es' l) + (2 + 4 * es.length)) (by omega) (by omega)
  have dK := dec_spans (es := es') l (tl pre + (2 + 4 * es.length) + tl (txK es' t0)) hkid
  have D : Dec es'.length 0 ts (A ++ ([] ++ ([] ++ (spansOf h es' (tl pre + (2 + 4 * es.length) + tl (txK es' t0)) l ++ B)))) := by
    rw [ets]
    simp only [List.append_assoc]
    refine dA.append (Dec.append (a := [.mk 91 es.length]) (hs := []) (.gap (fun d q => by injection q with _ q; omega) .nil) ((dec_ch es'.length (spellL es' t0) _).append ((dK.at' ?_).append (Dec.close (dB.at' ?_)))))
    · show _ = 0 + tl pre + tl [.mk 91 es.length] + tl (txK es' t0)
      rw [tl_cons, m1]; show _ = _ + (_ + 0) + _; omega
    · rw [tl_cons, m1, m2, tl_app]; show _ = 0 + tl pre + (_ + 0) + tl (txK es' t0) + tl (segL h es' l) + _; omega
  have D' : Dec es'.length 0 ts (A ++ (spansOf h es' (tl pre + (2 + 4 * es.length) + tl (txK es' t0)) l ++ B)) := D
  generalize ho : tl pre + (2 + 4 * es.length) + tl (txK es' t0) = o at dK D'
  have hfin : o + tl (segL h es' l) = tl pre + (2 + 4 * es.length) + tl (txK es' t0 ++ segL h es' l) := by rw [tl_app]; omega
  generalize hf : tl pre + (2 + 4 * es.length) + tl (txK es' t0 ++ segL h es' l) = fin at hfin dB ⊢
  have bA : ∀ p ∈ A, p.1 < p.2 ∧ p.2 ≤ tl pre := fun p hp => by have := dA.bound p hp; omega
  have bB : ∀ p, B.head? = some p → fin ≤ p.1 := fun p hp => by
    have := dB.bound p (List.mem_of_mem_head? hp); omega
  have bK : ∀ (i : Nat) q, (spansOf h es' o l)[i]? = some q → q.1 < q.2 := fun i q hq => (dK.bound q (List.mem_of_getElem? hq)).2.1
  have sorted := fun (k i : Nat) q (hik : i ≤ k) hq => spans_sorted (es := es') (l := l) (o := o) (fin := fin) (Nat.le_of_eq hfin) k i q hik hq
  have zero : es'.length = 4 → l = [] := fun z => by
    have h0 : h = 0 := by omega
    subst h0
    cases l with
    | nil => rfl
    | cons p r => exact (hkid p (.head _)).elim
  have headY : ∀ (k : Nat) p, ((spansOf h es' o l).drop k ++ B).head? = some p → stopAt (spansOf h es' o l) fin k ≤ p.1 := fun k p hp => by
    unfold stopAt
    cases q : (spansOf h es' o l)[k]? with
    | none =>
      rw [List.drop_eq_nil_of_le (List.getElem?_eq_none_iff.mp q)] at hp
      exact bB p hp
    | some u =>
      rw [drop_at q] at hp
      cases hp; exact Nat.le_refl _
  have hge : ∀ k, tl pre + (2 + 4 * es.length) ≤ stopAt (spansOf h es' o l) fin k := fun k => by
    have := stop_ge (es := es') (l := l) (o := o) (fin := fin) (Nat.le_of_eq hfin) k; omega
  have xlen : (flat ts).length = tl ts := rfl
  refine (told_step (N := 20 + h) (hs := (A ++ (spansOf h es' o l ++ B)).map castH) (kids := spansOf h es' o l) (Nat.le_add_right _ _) ?_).room (by omega)
  refine { lev := by omega, hits := ?_, few := ?_, len := hlen, resl := by rw [List.length_map, spans_len], rdl := by rw [List.length_cons, List.length_map, spans_len], here := fun k p hp => ?_, gone := ?_, reads := fun k x hx => ?_, rec' := fun k p r hp hr => ?_ }
  · rw [← hesl]
    exact nodes_hits (by omega) hok D' fun z => by rw [zA z, zB z, zero z]; rfl
  · rw [spans_len, xlen, ets, tl_app, hP, tl_app, tl_app]
    have : ∀ l : List (Tr h × Tx), (∀ p ∈ l, TrOk h p.1) → l.length ≤ tl (segL h es' l) := by
      intro l
      induction l with
      | nil => exact fun _ => Nat.le_refl _
      | cons p r ihl =>
        intro hk
        have h1 := ihl fun p hp => hk p (.tail _ hp)
        have h2 : 0 < tl (tks h es' p.1) := by
          have := hk p (.head _)
          cases h with
          | zero => exact this.elim
          | succ h => exact node_pos
        rw [segL_cons, List.length_cons]; omega
    have := this l hkid
    omega
  · obtain ⟨h1, h2⟩ := sorted k k p (Nat.le_refl _) hp
    refine ⟨?_, by omega⟩
    have := lastH_app (X := A ++ (spansOf h es' o l).take (k + 1)) (Y := (spansOf h es' o l).drop (k + 1) ++ B) (c := stopAt (spansOf h es' o l) fin (k + 1)) (fun q hq => ?_) (headY (k + 1))
    · rw [List.append_assoc, ← List.append_assoc (List.take _ _), List.take_append_drop, getLast_take hp] at this
      exact this
    · rcases List.mem_append.mp hq with hq | hq
      · have := bA q hq; have := hge (k + 1); omega
      · obtain ⟨i, hi⟩ := List.mem_iff_getElem?.mp hq
        have hik : i < k + 1 := by
          have := (List.getElem?_eq_some_iff.mp hi).1
          rw [List.length_take] at this; omega
        rw [List.getElem?_take_of_lt hik] at hi
        have := bK i q hi
        have := sorted k i q (by omega) hi
        omega
  · have := lastH_app (X := A) (Y := spansOf h es' o l ++ B) (c := stopAt (spansOf h es' o l) fin 0) (fun q hq => by have := bA q hq; have := hge 0; omega) (headY 0)
    rw [this]
    cases q : A.getLast? with
    | none => exact .inl rfl
    | some p =>
      refine .inr ⟨castH p, rfl, ?_⟩
      have := bA p (List.mem_of_getLast? q)
      show ((p.1 : Nat) : Int) < _; omega
  · have hsl := slices (es := es') l (pre ++ [.mk 91 es.length]) t0 (flat (.mk 93 es.length :: post)) k x hx
    rw [← List.append_assoc] at ets
    rw [hP, ho, hf, ← flat_app, ← flat_app, ← ets] at hsl
    rw [hsl, ← hesl]
    have hle : (spellL es' x).length ≤ 2200000 := by
      rw [← hsl, List.length_drop, List.length_take]
      have : (flat ts).length ≤ 2200000 := hlen
      omega
    exact read_text (by omega) hle
  · obtain ⟨l1, u, l2, q1, q2, q3⟩ := spans_nth hp
    rw [List.getElem?_map, q2] at hr
    cases hr
    subst q3
    obtain ⟨h', rfl⟩ : ∃ h', h = h' + 1 := by
      cases h with
      | zero => exact (hkid u (List.mem_of_getElem? q2)).elim
      | succ h => exact ⟨h, rfl⟩
    have eseg : segL (h' + 1) es' l = segL (h' + 1) es' l1 ++ (tks (h' + 1) es' u.1 ++ (txK es' u.2 ++ segL (h' + 1) es' l2)) := by
      rw [q1]; unfold segL; rw [List.flatMap_append, List.flatMap_cons, List.append_assoc]
    have esp : ts = (pre ++ [.mk 91 es.length] ++ txK es' t0 ++ segL (h' + 1) es' l1) ++ tks (h' + 1) es' u.1 ++ (txK es' u.2 ++ segL (h' + 1) es' l2 ++ (.mk 93 es.length :: post)) := by
      rw [ets, eseg]; simp only [List.append_assoc]
    have hpl : tl (pre ++ [.mk 91 es.length] ++ txK es' t0 ++ segL (h' + 1) es' l1) = o + tl (segL (h' + 1) es' l1) := by
      rw [tl_app, tl_app, hP]; omega
    have hk1 : ∀ p ∈ l1, TrOk (h' + 1) p.1 := fun p hp => hkid p (by rw [q1]; exact List.mem_append.mpr (.inl hp))
    have hk2 : ∀ p ∈ l2, TrOk (h' + 1) p.1 := fun p hp => hkid p (by rw [q1]; exact List.mem_append.mpr (.inr (.tail _ hp)))
    have := ih h' (Nat.lt_succ_self _) es' u.1 (pre ++ [.mk 91 es.length] ++ txK es' t0 ++ segL (h' + 1) es' l1) (txK es' u.2 ++ segL (h' + 1) es' l2 ++ (.mk 93 es.length :: post)) (hkid u (List.mem_of_getElem? q2)) (by omega) (by rw [← esp]; exact hok) (by rw [← esp]; exact hlen) ⟨fun L h1 h2 => ?_, fun L o' h1 h2 => ?_⟩
    · rw [← esp, hpl, hesl] at this
      exact this.room (by omega)
    · obtain ⟨A', dA', zA'⟩ := X.pre L (by omega) h2
      obtain ⟨S, dS, zS⟩ := dec_segL (es := es') (L := L) (by omega) l1 (0 + tl (pre ++ [.mk 91 es.length] ++ txK es' t0)) hk1
      refine ⟨A' ++ [] ++ [] ++ S, ((dA'.append (b := [.mk 91 es.length]) (hs' := []) (.gap (fun d q => by injection q with _ q; omega) .nil)).append (dec_ch L (spellL es' t0) _)).append dS, fun z => by rw [zA' z, zS (by omega)]; rfl⟩
    · obtain ⟨S, dS, zS⟩ := dec_segL (es := es') (L := L) (by omega) l2 (o' + tl (txK es' u.2)) hk2
      obtain ⟨B', dB', zB'⟩ := X.post L (o' + tl (txK es' u.2 ++ segL (h' + 1) es' l2) + (tkT (.mk 93 es.length)).length) (by omega) h2
      refine ⟨[] ++ S ++ B', ((dec_ch L (spellL es' u.2) o').append dS).append (Dec.close dB'), fun z => by rw [zS (by omega), zB' z]; rfl⟩
end Mine
namespace Mine
open PySem PySem.W PyProof.Rows PySem.Calls
set_option Elab.async false
set_option maxRecDepth 100000
set_option linter.unusedVariables false
def dbl (p : Nat) : Int × Int := ((p : Nat), (p : Nat))
def opens (l : Nat) : List Tk → Nat → List Nat
  | [], _ => []
  | t :: r, o => if t = .mk 91 l then (o + (4 * l + 2)) :: opens l r (o + (tkT t).length) else opens l r (o + (tkT t).length)
theorem opens_cons {l : Nat} (t : Tk) (r : List Tk) (o : Nat) : opens l (t :: r) o = (if t = .mk 91 l then [o + (4 * l + 2)] else []) ++ opens l r (o + (tkT t).length) := by
  show (if t = .mk 91 l then (o + (4 * l + 2)) :: opens l r (o + (tkT t).length) else opens l r (o + (tkT t).length)) = _
  split <;> rfl
theorem opens_app {l : Nat} : ∀ (a b : List Tk) (o : Nat), opens l (a ++ b) o = opens l a o ++ opens l b (o + tl a)
  | [], b, o => rfl
  | t :: r, b, o => by
    rw [List.cons_append, opens_cons, opens_cons, opens_app r b, tl_cons, Nat.add_assoc, List.append_assoc]
theorem opens_none {l : Nat} : ∀ {ts : List Tk} {o : Nat}, Tk.mk 91 l ∉ ts → opens l ts o = []
  | [], _, _ => rfl
  | t :: r, o, h => by
    unfold opens
    rw [if_neg fun q => h (by rw [q]; exact .head _), opens_none fun q => h (.tail _ q)]
theorem opens_bound {l : Nat} : ∀ {ts : List Tk} {o p : Nat}, p ∈ opens l ts o → o < p ∧ p ≤ o + tl ts
  | [], _, _, h => nomatch h
  | t :: r, o, p, h => by
    unfold opens at h
    rw [tl_cons]
    split at h
    · rename_i q
      have e : (tkT t).length = 4 * l + 2 := by rw [q]; exact mark_len 91 l
      rcases List.mem_cons.mp h with rfl | h
      · omega
      · have := opens_bound h; omega
    · have := opens_bound h; omega
theorem opens_head {l : Nat} : ∀ {ts : List Tk} {o : Nat}, (opens l ts o)[0]? = (ff 91 l ts o).map fun k => k + (4 * l + 2)
  | [], _ => rfl
  | t :: r, o => by
    unfold opens ff
    split
    · rfl
    · exact opens_head
theorem opens_nth {l : Nat} : ∀ {ts : List Tk} {o k p : Nat}, (opens l ts o)[k]? = some p → ∃ a r, ts = a ++ .mk 91 l :: r ∧ p = o + tl a + (4 * l + 2) ∧ (opens l ts o).drop (k + 1) = opens l r p
  | [], _, _, _, h => nomatch h
  | t :: r, o, k, p, h => by
    by_cases q : t = .mk 91 l
    · subst q
      have e : opens l (.mk 91 l :: r) o = (o + (4 * l + 2)) :: opens l r (o + (4 * l + 2)) := by
        show (if _ then _ else _) = _
        rw [if_pos rfl, show (tkT (.mk 91 l)).length = 4 * l + 2 from mark_len 91 l]
      rw [e] at h ⊢
      cases k with
      | zero => cases h; exact ⟨[], r, rfl, rfl, rfl⟩
      | succ k =>
        obtain ⟨a, r', e1, e2, e3⟩ := opens_nth (ts := r) (k := k) h
        refine ⟨.mk 91 l :: a, r', by rw [e1]; rfl, ?_, e3⟩
        rw [tl_cons, show (tkT (.mk 91 l)).length = 4 * l + 2 from mark_len 91 l]; omega
    · have e : opens l (t :: r) o = opens l r (o + (tkT t).length) := by
        show (if _ then _ else _) = _
        rw [if_neg q]
      rw [e] at h ⊢
      obtain ⟨a, r', e1, e2, e3⟩ := opens_nth (ts := r) h
      exact ⟨t :: a, r', by rw [e1]; rfl, by rw [tl_cons]; omega, e3⟩
theorem door_at {x : Str} {l : Nat} {at' i : Int} {ts : List Tk} {o : Nat} (hi : (if 0 > at' - ((4 * l + 2 : Nat) : Int) then 0 else at' - ((4 * l + 2 : Nat) : Int)) = i) (hf : Txt.find3 x (mkS (opM l)) i = fI (ff 91 l ts o)) :
    doorsF x l x at' = (ff 91 l ts o).map fun k => dbl (k + (4 * l + 2)) := by
  unfold doorsF
  simp only [show (mkS (opM l)).length = 4 * l + 2 by rw [mkS_len]; exact mark_len 91 l, hi, hf, beq_self_eq_true, Bool.and_true]
  cases ff 91 l ts o with
  | none =>
    rw [if_neg]
    · rfl
    · rw [decide_eq_true_iff]; show ¬ (_ ≤ (-1 : Int) + _); omega
  | some k =>
    rw [if_pos]
    · rfl
    · rw [decide_eq_true_iff]; show _ ≤ ((k : Nat) : Int) + _; omega
theorem doors_hits {ts : List Tk} {l : Nat} (ok : AllOk ts) : Hits (doorsF (mkS (flat ts)) l) (mkS (flat ts)) ((opens l ts 0).map dbl) := by
  refine ⟨?_, fun k p hp => ?_⟩
  · have hf : Txt.find3 (mkS (flat ts)) (mkS (opM l)) 0 = fI (ff 91 l ts 0) := find_at (pre := []) (.inl rfl) ok
    rw [door_at (at' := 0) (by rw [if_pos (by omega)]) hf, List.getElem?_map, opens_head, Option.map_map]; rfl
  · rw [List.getElem?_map] at hp ⊢
    obtain ⟨q, hk, rfl⟩ := Option.map_eq_some_iff.mp hp
    obtain ⟨a, r, e1, e2, e3⟩ := opens_nth hk
    have okr : AllOk r := fun t ht => ok t (by rw [e1]; exact List.mem_append.mpr (.inr (.tail _ ht)))
    have hx : nx (dbl q) = ((q : Nat) : Int) + 1 := if_pos rfl
    rw [hx, door_at (i := ((tl a + 1 : Nat) : Int)) (ts := r) (o := q) ?_ ?_, ← Nat.add_zero (k + 1), ← List.getElem?_drop, e3, opens_head, Option.map_map]
    · rfl
    · rw [if_neg (by omega)]; omega
    · have := find_in (b := 91) (d := l) (b' := 91) (d' := l) (pre := a) (.inl rfl) (.inl rfl) okr
      rw [← e1] at this
      rw [show q = tl a + (4 * l + 2) by omega]
      exact this
theorem lastH_gen {α : Type} {f : α → Int × Int} {c : Int} {Y : List α} (hY : ∀ p, Y.head? = some p → okH c (f p) = false) : ∀ {X : List α}, (∀ p ∈ X, okH c (f p) = true) → lastH ((X ++ Y).map f) c = X.getLast?.map f := fun {X} hX => by
  have key : ((X ++ Y).map f).takeWhile (okH c) = X.map f := by
    induction X with
    | nil =>
      cases Y with
      | nil => rfl
      | cons y Y =>
        show ((f y :: Y.map f).takeWhile _) = []
        rw [List.takeWhile_cons_of_neg (by rw [hY y rfl]; exact Bool.false_ne_true)]
    | cons x X ih =>
      show ((f x :: (X ++ Y).map f).takeWhile _) = f x :: X.map f
      rw [List.takeWhile_cons_of_pos (hX x (.head _)), ih fun p hp => hX p (.tail _ hp)]
  unfold lastH
  rw [key, List.getLast?_map]

/-! the stack, counted from the front -/
def stkC : Tx → Nat → List Nat → List Nat
  | [], _, s => s
  | c :: r, o, s => stkC r (o + 1) (if c = 91 then s ++ [o] else if c = 93 then s.dropLast else s)
theorem stkC_app : ∀ (a b : Tx) (o : Nat) (s : List Nat), stkC (a ++ b) o s = stkC b (o + a.length) (stkC a o s)
  | [], b, o, s => rfl
  | c :: r, b, o, s => by
    show stkC (r ++ b) (o + 1) _ = _
    rw [stkC_app r b, List.length_cons, Nat.add_assoc, Nat.add_comm 1]; rfl
theorem stk_free : ∀ {x : Tx} (o : Nat) (s : List Nat), (∀ c ∈ x, c ≠ 91 ∧ c ≠ 93) → stkC x o s = s
  | [], _, _, _ => rfl
  | c :: r, o, s, h => by
    have := h c (.head _)
    show stkC r (o + 1) (if c = 91 then _ else if c = 93 then _ else _) = s
    rw [if_neg this.1, if_neg this.2]
    exact stk_free _ _ fun c hc => h c (.tail _ hc)
theorem head_free (d : Nat) : ∀ c ∈ (38 :: reps d : Tx), c ≠ 91 ∧ c ≠ 93 := fun c hc => by
  rcases List.mem_cons.mp hc with rfl | hc
  · decide
  · rcases reps_mem hc with rfl | rfl | rfl | rfl <;> decide
theorem stk_mark {b d : Nat} (o : Nat) (s : List Nat) : stkC (mark b d) o s = if b = 91 then s ++ [o + (4 * d + 1)] else if b = 93 then s.dropLast else s := by
  show stkC ((38 :: reps d) ++ [b]) o s = _
  rw [stkC_app, stk_free _ _ (head_free d), List.length_cons, reps_length]
  rfl
def stkT (ts : List Tk) : List Nat := stkC (flat ts) 0 []
theorem stkT_snoc (ts : List Tk) (t : Tk) : stkT (ts ++ [t]) = stkC (tkT t) (tl ts) (stkT ts) := by
  unfold stkT
  rw [flat_app, stkC_app, Nat.zero_add]
  show stkC (tkT t ++ []) _ _ = _
  rw [List.append_nil]; rfl
def bal : Nat → List Tk → Option Nat
  | k, [] => some k
  | k, .ch _ :: r => bal k r
  | k, .mk b d :: r => if b = 91 then (if d = k then bal (k + 1) r else none) else (if d + 1 = k then bal d r else none)
theorem bal_mk (k x d : Nat) (r : List Tk) : bal k (.mk x d :: r) = if x = 91 then (if d = k then bal (k + 1) r else none) else (if d + 1 = k then bal d r else none) := rfl
theorem bal_app : ∀ {a b : List Tk} {k n : Nat}, bal k (a ++ b) = some n → ∃ j, bal k a = some j ∧ bal j b = some n
  | [], b, k, n, h => ⟨k, rfl, h⟩
  | .ch c :: r, b, k, n, h => bal_app (a := r) h
  | .mk x d :: r, b, k, n, h => by
    rw [List.cons_append, bal_mk] at h
    rw [bal_mk]
    split at h
    · split at h
      · rename_i h1 h2; rw [if_pos h1, if_pos h2]; exact bal_app h
      · cases h
    · split at h
      · rename_i h1 h2; rw [if_neg h1, if_pos h2]; exact bal_app h
      · cases h
theorem bal_ch (k : Nat) (r : List Tk) : ∀ l : Tx, bal k (l.map .ch ++ r) = bal k r
  | [] => rfl
  | c :: l => bal_ch k r l
theorem bal_tree : ∀ (h : Nat) (es : List Nat) (t : Tr h) (r : List Tk), TrOk h t → bal es.length (tks h es t ++ r) = bal es.length r
  | 0, _, _, _, ok => ok.elim
  | h + 1, es, t, r, ok => by
    show bal es.length (.mk 91 es.length :: (t.2.flatMap (Sum.elim (tks h (t.1 :: es)) (txK (t.1 :: es))) ++ [.mk 93 es.length]) ++ r) = _
    have its : ∀ (l : List (Tr h ⊕ Tx)) (r : List Tk), (∀ k, .inl k ∈ l → TrOk h k) → bal (es.length + 1) (l.flatMap (Sum.elim (tks h (t.1 :: es)) (txK (t.1 :: es))) ++ r) = bal (es.length + 1) r := by
      intro l
      induction l with
      | nil => exact fun _ _ => rfl
      | cons it l ih =>
        intro r hk
        rw [List.flatMap_cons, List.append_assoc]
        cases it with
        | inl k => exact (bal_tree h (t.1 :: es) k _ (hk k (.head _))).trans (ih r fun k hm => hk k (.tail _ hm))
        | inr x => exact (bal_ch _ _ (spellL (t.1 :: es) x)).trans (ih r fun k hm => hk k (.tail _ hm))
    rw [List.cons_append, List.append_assoc]
    show (if 91 = 91 then (if es.length = es.length then bal (es.length + 1) _ else none) else _) = _
    rw [if_pos rfl, if_pos rfl, its t.2 _ ok.1]
    show (if 93 = 91 then _ else (if es.length + 1 = es.length + 1 then bal es.length r else none)) = _
    rw [if_neg (by decide), if_pos rfl]
theorem bal_close {l n : Nat} : ∀ {ts : List Tk} {k : Nat}, AllOk ts → bal k ts = some n → n ≤ l → l < k → Tk.mk 93 l ∈ ts
  | [], k, _, h, h1, h2 => by cases h; omega
  | .ch c :: r, k, ok, h, h1, h2 => .tail _ (bal_close (ts := r) (fun t ht => ok t (.tail _ ht)) h h1 h2)
  | .mk b d :: r, k, ok, h, h1, h2 => by
    have okr : AllOk r := fun t ht => ok t (.tail _ ht)
    have hb : Br b := ok _ (.head _)
    unfold bal at h
    split at h
    · split at h
      · exact .tail _ (bal_close okr h h1 (by omega))
      · cases h
    · split at h
      · rename_i q1 q2
        rcases hb with rfl | rfl
        · exact absurd rfl q1
        · by_cases z : d = l
          · rw [z]; exact .head _
          · exact .tail _ (bal_close okr h h1 (by omega))
      · cases h
structure Inv (pre : List Tk) (k : Nat) : Prop where
  len : (stkT pre).length = k
  opn : ∀ l, l < k → ∃ a b, pre = a ++ .mk 91 l :: b ∧ (stkT pre)[l]? = some (tl a + (4 * l + 1)) ∧ Tk.mk 91 l ∉ b ∧ Tk.mk 93 l ∉ b
  cls : ∀ l, k ≤ l → Tk.mk 91 l ∉ pre ∨ ∃ a b c, pre = a ++ .mk 91 l :: (b ++ .mk 93 l :: c) ∧ Tk.mk 91 l ∉ b ∧ Tk.mk 91 l ∉ c ∧ Tk.mk 93 l ∉ b
theorem inv0 : Inv [] 0 := ⟨rfl, fun l h => absurd h (Nat.not_lt_zero _), fun l _ => .inl nofun⟩
theorem not_snoc {x t : Tk} {l : List Tk} (h : x ∉ l) (q : x ≠ t) : x ∉ l ++ [t] := fun z => by
  rcases List.mem_append.mp z with z | z
  · exact h z
  · exact q (List.mem_singleton.mp z)
theorem Inv.cls_snoc {pre : List Tk} {t : Tk} {l : Nat} (q : Tk.mk 91 l ≠ t) (h : Tk.mk 91 l ∉ pre ∨ ∃ a b c, pre = a ++ .mk 91 l :: (b ++ .mk 93 l :: c) ∧ Tk.mk 91 l ∉ b ∧ Tk.mk 91 l ∉ c ∧ Tk.mk 93 l ∉ b) :
    Tk.mk 91 l ∉ pre ++ [t] ∨ ∃ a b c, pre ++ [t] = a ++ .mk 91 l :: (b ++ .mk 93 l :: c) ∧ Tk.mk 91 l ∉ b ∧ Tk.mk 91 l ∉ c ∧ Tk.mk 93 l ∉ b := by
  rcases h with h | ⟨a, b, c, e, h1, h2, h3⟩
  · exact .inl (not_snoc h q)
  · exact .inr ⟨a, b, c ++ [t], by rw [e]; simp, h1, not_snoc h2 q, h3⟩
theorem inv_step {pre : List Tk} {k n : Nat} {t : Tk} (I : Inv pre k) (ok : TkOk t) (hb : bal k [t] = some n) : Inv (pre ++ [t]) n := by
  cases t with
  | ch c =>
    cases hb
    have hs : stkT (pre ++ [.ch c]) = stkT pre := by rw [stkT_snoc]; exact stk_free _ _ fun x hx => by obtain rfl := List.mem_singleton.mp hx; exact ok
    refine ⟨by rw [hs]; exact I.len, fun l hl => ?_, fun l hl => Inv.cls_snoc (fun q => nomatch q) (I.cls l hl)⟩
    obtain ⟨a, b, e, h1, h2, h3⟩ := I.opn l hl
    exact ⟨a, b ++ [.ch c], by rw [e]; simp, by rw [hs]; exact h1, not_snoc h2 (fun q => nomatch q), not_snoc h3 (fun q => nomatch q)⟩
  | mk b d =>
    have hs := stkT_snoc pre (.mk b d)
    rw [show stkC (tkT (.mk b d)) (tl pre) (stkT pre) = _ from stk_mark _ _] at hs
    have hl := I.len
    rcases ok with rfl | rfl
    · change (if 91 = 91 then (if d = k then bal (k + 1) [] else none) else _) = some n at hb
      rw [if_pos rfl] at hb
      split at hb
      · rename_i hd
        subst hd
        cases hb
        rw [if_pos rfl] at hs
        refine ⟨by rw [hs, List.length_append, hl]; rfl, fun l hlt => ?_, fun l hle => Inv.cls_snoc (fun q => by injection q with _ q; omega) (I.cls l (by omega))⟩
        by_cases q : l < d
        · obtain ⟨a, b, e, h1, h2, h3⟩ := I.opn l q
          refine ⟨a, b ++ [.mk 91 d], by rw [e]; simp, ?_, not_snoc h2 (fun z => by injection z with _ z; omega), not_snoc h3 (fun z => by injection z with z _; cases z)⟩
          rw [hs, List.getElem?_append_left (by omega)]; exact h1
        · obtain rfl : l = d := by omega
          refine ⟨pre, [], rfl, ?_, nofun, nofun⟩
          rw [hs, List.getElem?_append_right (by omega), hl, Nat.sub_self]; rfl
      · cases hb
    · change (if 93 = 91 then _ else (if d + 1 = k then bal d [] else none)) = some n at hb
      rw [if_neg (by decide)] at hb
      split at hb
      · rename_i hd
        have hdn : d = n := Option.some.inj hb
        subst hdn
        rw [if_neg (by decide), if_pos rfl] at hs
        refine ⟨by rw [hs, List.length_dropLast, hl]; omega, fun l hlt => ?_, fun l hle => ?_⟩
        · obtain ⟨a, b, e, h1, h2, h3⟩ := I.opn l (by omega)
          refine ⟨a, b ++ [.mk 93 d], by rw [e]; simp, ?_, not_snoc h2 (fun z => by injection z with z _; cases z), not_snoc h3 (fun z => by injection z with _ z; omega)⟩
          rw [hs, List.getElem?_dropLast, if_pos (by omega)]; exact h1
        · by_cases q : l = d
          · subst q
            obtain ⟨a, b, e, _, h2, h3⟩ := I.opn l (by omega)
            exact .inr ⟨a, b, [], by rw [e]; simp, h2, nofun, h3⟩
          · exact Inv.cls_snoc (fun z => by injection z with z _; cases z) (I.cls l (by omega))
      · cases hb
theorem inv_run : ∀ (ts pre : List Tk) (k n : Nat), Inv pre k → AllOk ts → bal k ts = some n → Inv (pre ++ ts) n
  | [], pre, k, n, I, _, h => by cases h; rw [List.append_nil]; exact I
  | t :: r, pre, k, n, I, ok, h => by
    obtain ⟨j, h1, h2⟩ := bal_app (a := [t]) (b := r) h
    have := inv_run r (pre ++ [t]) j n (inv_step I (ok t (.head _)) h1) (fun t ht => ok t (.tail _ ht)) h2
    rw [List.append_assoc] at this; exact this
end Mine
namespace Mine
open PySem PySem.W PyProof.Rows PySem.Calls
set_option Elab.async false
set_option maxRecDepth 100000
set_option linter.unusedVariables false
theorem okD {c p : Nat} : okH ((c : Nat) : Int) (dbl p) = decide (p < c) := by
  unfold okH dbl
  by_cases h : p < c
  · rw [decide_eq_true h, decide_eq_true (by show ((p : Nat) : Int) < _; omega), decide_eq_true (by show ((p : Nat) : Int) ≤ _; omega)]; rfl
  · rw [decide_eq_false h, decide_eq_false (by show ¬ ((p : Nat) : Int) < _; omega)]; rfl
theorem round_at {pre post : List Tk} {k col : Nat} (ok : AllOk (pre ++ post)) (I : Inv pre k) (hb : bal k post = some 0) (h4 : k ≤ 4) (hA : ∀ l p, p ∈ opens l pre 0 → p < col) (hB : ∀ l p, p ∈ opens l post (tl pre) → col ≤ p)
    (hC : ∀ l q, l < k → ff 93 l post (tl pre) = some q → col < q + 2 + 4 * l) (hD : tl pre ≤ col) : RoundAt (mkS (flat (pre ++ post))) ((col : Nat) : Int) (stkT pre) (fun l => (opens l (pre ++ post) 0).map dbl) := by
  have okp : AllOk post := fun t ht => ok t (List.mem_append.mpr (.inr ht))
  have hlast : ∀ l, lastH ((opens l (pre ++ post) 0).map dbl) ((col : Nat) : Int) = (opens l pre 0).getLast?.map dbl := fun l => by
    rw [opens_app, Nat.zero_add]
    refine lastH_gen (fun p hp => ?_) fun p hp => ?_
    · rw [okD]; have := hB l p (List.mem_of_mem_head? hp); exact decide_eq_false (by omega)
    · rw [okD]; exact decide_eq_true (hA l p hp)
  have hsplit : ∀ {a b : List Tk} {l : Nat}, pre = a ++ .mk 91 l :: b → Tk.mk 91 l ∉ b → (opens l pre 0).getLast? = some (tl a + (4 * l + 2)) := fun {a b l} e h => by
    rw [e, opens_app, opens_cons, if_pos rfl, opens_none h, List.append_nil, Nat.zero_add]; simp
  refine ⟨by rw [I.len]; exact h4, fun l _ => doors_hits ok, fun l d hd => ?_, fun h => ?_⟩
  · have hl : l < k := by rw [← I.len]; exact (List.getElem?_eq_some_iff.mp hd).1
    obtain ⟨a, b, e, h1, h2, h3⟩ := I.opn l hl
    rw [h1] at hd; cases hd
    refine ⟨?_, ?_⟩
    · show lastH ((opens l (pre ++ post) 0).map dbl) _ = _
      rw [hlast, hsplit e h2]; rfl
    · have ew : pre ++ post = (a ++ [.mk 91 l]) ++ (b ++ post) := by rw [e]; simp
      have ea : tl (a ++ [.mk 91 l]) = tl a + (4 * l + 1) + 1 := by rw [tl_app, tl_cons, show (tkT (.mk 91 l)).length = 4 * l + 2 from mark_len 91 l]; show _ + (_ + 0) = _; omega
      have okb : AllOk (b ++ post) := fun t ht => ok t (by rw [ew]; exact List.mem_append.mpr (.inr ht))
      have hf : Txt.find3 (mkS (flat (pre ++ post))) (mkS (clM l)) (((tl a + (4 * l + 1) : Nat) : Int) + 1) = fI (ff 93 l post (tl pre)) := by
        have := find_at (b := 93) (d := l) (pre := a ++ [.mk 91 l]) (.inr rfl) okb
        rw [← ew, ea, ff_app h3] at this
        rw [show tl a + (4 * l + 1) + 1 + tl b = tl pre by rw [e, tl_app, tl_cons, show (tkT (.mk 91 l)).length = 4 * l + 2 from mark_len 91 l]; omega] at this
        exact this
      obtain ⟨q, hq⟩ := ff_mem (o := tl pre) (bal_close okp hb (Nat.zero_le _) hl)
      rw [hf, hq]
      have := hC l q hl hq
      show _ < ((q : Nat) : Int) + 2 + 4 * (l : Int); omega
  · show lastH ((opens (stkT pre).length (pre ++ post) 0).map dbl) _ = none ∨ ∃ p : Int, lastH ((opens (stkT pre).length (pre ++ post) 0).map dbl) _ = some (p, p) ∧ _
    rw [I.len, hlast]
    rcases I.cls k (Nat.le_refl _) with h1 | ⟨a, b, c, e, h1, h2, h3⟩
    · rw [opens_none h1]; exact .inl rfl
    · have hm : Tk.mk 91 k ∉ b ++ .mk 93 k :: c := fun z => by
        rcases List.mem_append.mp z with z | z
        · exact h1 z
        · rcases List.mem_cons.mp z with z | z
          · injection z with z _; cases z
          · exact h2 z
      rw [hsplit e hm]
      refine .inr ⟨((tl a + (4 * k + 2) : Nat) : Int), rfl, ?_⟩
      have ew : pre ++ post = (a ++ [.mk 91 k]) ++ (b ++ (.mk 93 k :: c ++ post)) := by rw [e]; simp
      have m1 : (tkT (.mk 91 k)).length = 4 * k + 2 := mark_len 91 k
      have m2 : (tkT (.mk 93 k)).length = 4 * k + 2 := mark_len 93 k
      have ea : tl (a ++ [.mk 91 k]) = tl a + (4 * k + 2) := by rw [tl_app, tl_cons, m1]; rfl
      have okb : AllOk (b ++ (.mk 93 k :: c ++ post)) := fun t ht => ok t (by rw [ew]; exact List.mem_append.mpr (.inr ht))
      have hf := find_at (b := 93) (d := k) (pre := a ++ [.mk 91 k]) (.inr rfl) okb
      rw [← ew, ea, ff_app h3] at hf
      have hff : ff 93 k (.mk 93 k :: c ++ post) (tl a + (4 * k + 2) + tl b) = some (tl a + (4 * k + 2) + tl b) := if_pos rfl
      rw [hff] at hf
      have hp : tl pre = tl a + (4 * k + 2 + (tl b + (4 * k + 2 + tl c))) := by rw [e, tl_app, tl_cons, m1, tl_app, tl_cons, m2]
      rw [show mkS (clM k) = mkS (mark 93 k) from rfl, hf]
      show ((tl a + (4 * k + 2) + tl b : Nat) : Int) + 2 + 4 * (k : Int) ≤ (col : Int)
      omega
theorem char_at {b : Nat} (hb : Br b) : ∀ {ts : List Tk} {q : Nat}, AllOk ts → (flat ts)[q]? = some b → ∃ pre d post, ts = pre ++ .mk b d :: post ∧ q = tl pre + (4 * d + 1)
  | [], q, _, h => by simp [flat] at h
  | t :: r, q, ok, h => by
    rw [flat_cons] at h
    by_cases hq : q < (tkT t).length
    · rw [List.getElem?_append_left hq] at h
      cases t with
      | ch c =>
        have hc : c ≠ 91 ∧ c ≠ 93 := ok _ (.head _)
        have : b ∈ [c] := List.mem_of_getElem? h
        obtain rfl := List.mem_singleton.mp this
        rcases hb with e | e
        · exact absurd e hc.1
        · exact absurd e hc.2
      | mk b' d =>
        have ml : (mark b' d).length = 4 * d + 2 := mark_len b' d
        have hq' : q < 4 * d + 2 := by rw [← ml]; exact hq
        change ((38 :: reps d) ++ [b'])[q]? = some b at h
        have hh : (38 :: reps d : Tx).length = 4 * d + 1 := by rw [List.length_cons, reps_length]
        by_cases z : q < 4 * d + 1
        · rw [List.getElem?_append_left (by rw [hh]; exact z)] at h
          have := head_free d b (List.mem_of_getElem? h)
          rcases hb with e | e
          · exact absurd e this.1
          · exact absurd e this.2
        · have : q = 4 * d + 1 := by omega
          subst this
          rw [List.getElem?_append_right (by rw [hh]; exact Nat.le_refl _), hh, Nat.sub_self] at h
          cases h
          exact ⟨[], d, r, rfl, by show _ = 0 + _; omega⟩
    · rw [List.getElem?_append_right (by omega)] at h
      obtain ⟨pre, d, post, e, f⟩ := char_at hb (fun t ht => ok t (.tail _ ht)) h
      exact ⟨t :: pre, d, post, by rw [e]; rfl, by rw [tl_cons]; omega⟩
theorem stk_at {pre post : List Tk} {b d : Nat} : stkC ((flat (pre ++ .mk b d :: post)).take (tl pre + (4 * d + 1))) 0 [] = stkT pre := by
  have e : flat (pre ++ .mk b d :: post) = (flat pre ++ (38 :: reps d)) ++ (b :: flat post) := by
    rw [flat_app, flat_cons]
    show flat pre ++ (((38 :: reps d) ++ [b]) ++ flat post) = _
    simp
  have l : (flat pre ++ (38 :: reps d)).length = tl pre + (4 * d + 1) := by rw [List.length_append, List.length_cons, reps_length]; rfl
  rw [e, ← l, List.take_left' rfl, stkC_app, stk_free _ _ (head_free d)]
  rfl
theorem stk_round {ts : List Tk} (ok : AllOk ts) (hb : bal 0 ts = some 0) (h4 : ∀ d, 4 ≤ d → Tk.mk 91 d ∉ ts) (q : Nat) :
    ((flat ts)[q]? = some 91 → ∃ hs, RoundAt (mkS (flat ts)) ((q + 1 : Nat) : Int) (stkC ((flat ts).take q) 0 []) hs) ∧
    ((flat ts)[q]? = some 93 → (∃ hs, RoundAt (mkS (flat ts)) ((q : Nat) : Int) (stkC ((flat ts).take q) 0 []) hs) ∧ ∃ hs, RoundAt (mkS (flat ts)) ((q + 1 : Nat) : Int) (stkC ((flat ts).take q) 0 []).dropLast hs) := by
  have okL : ∀ {a b : List Tk}, AllOk (a ++ b) → AllOk a ∧ AllOk b := fun h => ⟨fun t ht => h t (List.mem_append.mpr (.inl ht)), fun t ht => h t (List.mem_append.mpr (.inr ht))⟩
  refine ⟨fun h => ?_, fun h => ?_⟩
  · obtain ⟨pre, d, post, rfl, rfl⟩ := char_at (.inl rfl) ok h
    rw [stk_at]
    obtain ⟨k, b1, b2⟩ := bal_app hb
    have I := inv_run pre [] 0 k inv0 (okL ok).1 b1
    rw [List.nil_append] at I
    have hdk : d = k := by
      rw [bal_mk, if_pos rfl] at b2
      split at b2
      · assumption
      · cases b2
    have hd : d < 4 := by
      rcases Nat.lt_or_ge d 4 with z | z
      · exact z
      · exact absurd (List.mem_append.mpr (.inr (.head _))) (h4 d z)
    have m : (tkT (.mk 91 d)).length = 4 * d + 2 := mark_len 91 d
    refine ⟨_, round_at ok I b2 (by omega) (fun l p hp => ?_) (fun l p hp => ?_) (fun l q hl hq => ?_) (by omega)⟩
    · have := opens_bound hp; omega
    · rw [opens_cons] at hp
      rcases List.mem_append.mp hp with hp | hp
      · split at hp
        · rename_i z
          injection z with _ z
          have := List.mem_singleton.mp hp; omega
        · cases hp
      · have := opens_bound hp; omega
    · have hq' : ff 93 l ([.mk 91 d] ++ post) (tl pre) = some q := hq
      rw [ff_app (fun z => by have := List.mem_singleton.mp z; injection this with this _; cases this), tl_cons, m] at hq'
      have := ff_ge hq'
      have : tl ([] : List Tk) = 0 := rfl
      omega
  · obtain ⟨pre, d, post, rfl, rfl⟩ := char_at (.inr rfl) ok h
    rw [stk_at]
    obtain ⟨k, b1, b2⟩ := bal_app hb
    have I := inv_run pre [] 0 k inv0 (okL ok).1 b1
    rw [List.nil_append] at I
    have b2' := b2
    rw [bal_mk, if_neg (by decide)] at b2'
    have hdk : d + 1 = k := by
      split at b2'
      · assumption
      · cases b2'
    rw [if_pos hdk] at b2'
    have hd : d < 4 := by
      rcases Nat.lt_or_ge d 4 with z | z
      · exact z
      · obtain ⟨a, b, e, _⟩ := I.opn d (by omega)
        exact absurd (List.mem_append.mpr (.inl (by rw [e]; exact List.mem_append.mpr (.inr (.head _))))) (h4 d z)
    have m : (tkT (.mk 93 d)).length = 4 * d + 2 := mark_len 93 d
    have hne : ∀ l, ¬ (Tk.mk 93 d = .mk 91 l) := fun l z => by injection z with z _; cases z
    refine ⟨⟨_, round_at ok I b2 (by omega) (fun l p hp => ?_) (fun l p hp => ?_) (fun l q hl hq => ?_) (by omega)⟩, ?_⟩
    · have := opens_bound hp; omega
    · rw [opens_cons, if_neg (hne l), List.nil_append] at hp
      have := opens_bound hp; omega
    · unfold ff at hq
      split at hq
      · rename_i z
        injection z with _ z
        cases hq; omega
      · have := ff_ge hq; omega
    · have e2 : pre ++ .mk 93 d :: post = (pre ++ [.mk 93 d]) ++ post := by simp
      have I2 : Inv (pre ++ [.mk 93 d]) d := inv_step I (.inr rfl) (by rw [bal_mk, if_neg (by decide), if_pos hdk]; rfl)
      have hs : stkT (pre ++ [.mk 93 d]) = (stkT pre).dropLast := by
        rw [stkT_snoc, show stkC (tkT (.mk 93 d)) (tl pre) (stkT pre) = _ from stk_mark _ _, if_neg (by decide), if_pos rfl]
      have ht : tl (pre ++ [.mk 93 d]) = tl pre + (4 * d + 1) + 1 := by rw [tl_app, tl_cons, m]; show _ + (_ + 0) = _; omega
      rw [e2] at ok ⊢
      rw [← hs]
      refine ⟨_, round_at ok I2 b2' (by omega) (fun l p hp => ?_) (fun l p hp => ?_) (fun l q hl hq => ?_) (by omega)⟩
      · rw [opens_app, opens_cons, if_neg (hne l), List.nil_append, show opens l [] _ = [] from rfl, List.append_nil] at hp
        have := opens_bound hp; omega
      · have := opens_bound hp; omega
      · have := ff_ge hq; omega
end Mine
namespace Mine
open PySem PySem.W PyProof.Rows PySem.Calls
set_option Elab.async false
set_option maxRecDepth 100000
set_option linter.unusedVariables false
theorem plainL_map {α : Type} {f : α → PV} (h : ∀ a, (f a).plain = true) : ∀ l : List α, PV.plainL (l.map f) = true
  | [] => by rw [List.map_nil]; unfold PV.plainL; rfl
  | a :: r => by rw [List.map_cons]; unfold PV.plainL; rw [h a, plainL_map h r]; rfl
theorem depL_map {α : Type} {f : α → PV} {k : Nat} (h : ∀ a, (f a).dep ≤ k) : ∀ l : List α, PV.depL (l.map f) ≤ k
  | [] => by rw [List.map_nil]; unfold PV.depL; exact Nat.zero_le _
  | a :: r => by rw [List.map_cons]; unfold PV.depL; exact Nat.max_le.mpr ⟨h a, depL_map h r⟩
theorem plainL_mem {α : Type} {f : α → PV} : ∀ l : List α, (∀ a ∈ l, (f a).plain = true) → PV.plainL (l.map f) = true
  | [], _ => by rw [List.map_nil]; unfold PV.plainL; rfl
  | a :: r, h => by rw [List.map_cons]; unfold PV.plainL; rw [h a (.head _), plainL_mem r fun a ha => h a (.tail _ ha)]; rfl
theorem str_plain (x : Str) : (PV.str x).plain = true := by unfold PV.plain; rfl
theorem str_dep (x : Str) : (PV.str x).dep = 0 := by unfold PV.dep; rfl
theorem int_plain (x : Int) : (PV.int x).plain = true := by unfold PV.plain; rfl
theorem int_dep (x : Int) : (PV.int x).dep = 0 := by unfold PV.dep; rfl
theorem treeP_eq (h : Nat) (t : Tr (h + 1)) : treeP (h + 1) t = .list [.list (strL ((txs t.2).1 ++ [(txs t.2).2])), .list ((kidsOf t.2).map (treeP h))] := rfl
theorem tree_plain : ∀ (h : Nat) (t : Tr h), TrOk h t → (treeP h t).plain = true
  | 0, _, ok => ok.elim
  | h + 1, t, ok => by
    rw [treeP_eq]
    have h1 : PV.plainL (strL ((txs t.2).1 ++ [(txs t.2).2])) = true := plainL_map (fun x => str_plain _) _
    have h2 : PV.plainL ((kidsOf t.2).map (treeP h)) = true := plainL_mem _ fun k hk => by
      rw [seg_kids] at hk
      obtain ⟨p, hp, rfl⟩ := List.mem_map.mp hk
      exact tree_plain h p.1 (ok.1 p.1 (seg_mem hp))
    simp only [PV.plain, PV.plainL, h1, h2, Bool.and_true]
theorem tree_dep : ∀ (h : Nat) (t : Tr h), (treeP h t).dep ≤ 2 * h
  | 0, _ => by unfold treeP PV.dep; exact Nat.le_refl _
  | h + 1, t => by
    rw [treeP_eq]
    have h1 : PV.depL (strL ((txs t.2).1 ++ [(txs t.2).2])) ≤ 0 := depL_map (fun x => by rw [str_dep]; exact Nat.le_refl _) _
    have h2 : PV.depL ((kidsOf t.2).map (treeP h)) ≤ 2 * h := depL_map (fun k => tree_dep h k) _
    simp only [PV.dep, PV.depL]
    omega
/-- what the law asks of the nodes -/
structure Page (s : Bs) : Prop where
  wf : Wf s.ns
  few : ∀ d ∈ s.ns, d.ps.length ≤ 10
  root : ∀ k ∈ s.rs, ∃ d, s.ns[k]? = some d ∧ d.dep = 0
  rlen : s.rs.length ≤ 100
theorem GoodB.page {i : Nat} {s : Bs} (G : GoodB i s) (hi : i ≤ 10) : Page s := ⟨G.wf hi, fun d h => Nat.le_trans (G.all d h).few hi, G.root, Nat.le_trans G.rlen (by omega)⟩
def trK (s : Bs) (k : Nat) : Tr 4 := treeOf s.ns 4 k
def rowK (s : Bs) (k : Nat) : Tx := rowT 4 (trK s k)
def tkK (s : Bs) (k : Nat) : List Tk := tks 4 [] (trK s k)
theorem Page.tree {s : Bs} (P : Page s) {k : Nat} (hk : k ∈ s.rs) : TrOk 4 (trK s k) := by
  obtain ⟨d, h1, h2⟩ := P.root k hk
  exact tree_ok P.wf P.few 3 k d h1 (by omega)
theorem Page.due {s : Bs} (P : Page s) {k : Nat} (hk : k ∈ s.rs) : dueT 4 [] (trK s k) = rowK s k := (row_due 4 (trK s k) [] (P.tree hk)).symm
theorem Page.flatK {s : Bs} (P : Page s) {k : Nat} (hk : k ∈ s.rs) : flat (tkK s k) = rowK s k := (flat_tks 4 [] (trK s k)).trans (P.due hk)
theorem Page.len {s : Bs} (P : Page s) {k : Nat} (hk : k ∈ s.rs) : (rowK s k).length ≤ 350000 := by
  rw [← P.due hk]
  exact Nat.le_trans (due_len 4 (trK s k) [] (P.tree hk) (by decide)) (by decide)
theorem Page.ok {s : Bs} (P : Page s) {k : Nat} (hk : k ∈ s.rs) : AllOk (tkK s k) := fun t ht => (tks_mem 4 [] (trK s k) (P.tree hk) t ht).1
theorem Page.balK {s : Bs} (P : Page s) {k : Nat} (hk : k ∈ s.rs) : bal 0 (tkK s k) = some 0 := by
  have := bal_tree 4 [] (trK s k) [] (P.tree hk)
  rw [List.append_nil] at this; exact this
theorem Page.four {s : Bs} (P : Page s) {k : Nat} (hk : k ∈ s.rs) : ∀ d, 4 ≤ d → Tk.mk 91 d ∉ tkK s k := by
  obtain ⟨hs, D, _, e⟩ := dec_tree 4 (trK s k) [] 4 0 (P.tree hk) (by decide)
  exact D.none (e (by decide))
theorem Page.told {g : Gx} {s : Bs} (P : Page s) {k : Nat} (hk : k ∈ s.rs) : Fn g 24 "_law_told" [.str (mkS (rowK s k)), .int 0, .int 0, .int ((rowK s k).length : Nat)] (treeP 4 (trK s k)) := by
  have e : ([] : List Tk) ++ tks 4 [] (trK s k) ++ [] = tkK s k := List.append_nil _
  have := told_tree (g := g) 3 [] (trK s k) [] [] (P.tree hk) rfl (by rw [e]; exact P.ok hk) (by
    rw [e]; show (flat (tkK s k)).length ≤ _
    rw [P.flatK hk]; exact Nat.le_trans (P.len hk) (by decide)) ⟨fun L _ _ => ⟨[], .nil, fun _ => rfl⟩, fun L o _ _ => ⟨[], .nil, fun _ => rfl⟩⟩
  rw [e, P.flatK hk] at this
  have e2 : tl ([] : List Tk) + tl (tks (3 + 1) [] (trK s k)) = (rowK s k).length := by
    rw [← P.flatK hk]; exact Nat.zero_add _
  rw [e2] at this
  exact this
section
variable {g : Gx} {n : Nat} {sc : Scope} {Γ : VEnv} {C : RC}
theorem seen_of {scope : Scope} {x y : Str} {v : SL} {p : PV} (h : (y, NameKind.free) ∈ scope.names) (hΓ : Γ y = some (.val p)) (hx : y ≠ x) : upd (seen scope Γ) x v y = some (.val p) := by
  rw [upd_ne hx]; unfold seen; rw [if_pos h, hΓ]
def rowO (s : Bs) : PV → PV
  | .int i => .str (mkS (rowK s i.toNat))
  | q => q
def rowP (s : Bs) (k : Nat) : PV := .str (mkS (rowK s k))
theorem law_s5 {b : Stmt} (hb : b = lawS 5) {s : Bs} (P : Page s) (hn : Γ "nodes" = some (.val (ndsPV s.ns))) (hr : Γ "roots" = some (.val (.list (s.rs.map natP)))) : Ex1 g 40 lsc Γ b (.next (upd Γ "rows" (.val (.list (s.rs.map (rowP s)))))) := by
  have hsz : 1000 ≤ sizeLine := line_ok rfl
  have hrl := P.rlen
  have e : (((s.rs.map natP).filter fun _ => true).map (rowO s)) = s.rs.map (rowP s) := by
    rw [List.filter_eq_self.mpr (fun _ _ => rfl), List.map_map]; rfl
  rw [hb, ← e]
  conv => arg 5; whnf
  refine Ex1.comp (ps := s.rs.map natP) (fun _ => true) (rowO s) (CompSide.of ["nodes"] (by decide) rfl (fun y hy => ?_) rfl) (Ev.name hr) rfl ?_ (fun q hq => .inl ⟨rfl, rfl⟩) (fun q hq _ => ?_) rfl (fun env hs => ?_)
  · obtain rfl := List.mem_singleton.mp hy; exact ⟨_, hn⟩
  · rw [List.length_map]; omega
  · obtain ⟨k, hk, rfl⟩ := List.mem_map.mp hq
    obtain ⟨d, h1, h2⟩ := P.root k hk
    refine Ev.fn (j := 13) (by decide) (Evs.cons (Ev.name (seen_of (by decide) hn (by decide))) (Evs.cons (Ev.name rfl) Evs.nil)) ((fn_row P.wf (fun h k d hk hd => ?_) 3 k d h1 (by omega)).room (by decide))
    have := ins_len (tree_ok P.wf P.few h k d hk hd) (by omega)
    rw [show treeOf s.ns (h + 1) k = (d.e, d.ps.map (Sum.map (treeOf s.ns h) id)) by unfold treeOf; rw [hk]] at this
    exact this
  · unfold swapsWith Env.blockKind Env.kindOf; rw [hs]; rfl
theorem law_s6 {b : Stmt} (hb : b = lawS 6) {s : Bs} (P : Page s) (hn : Γ "nodes" = some (.val (ndsPV s.ns))) (hr : Γ "roots" = some (.val (.list (s.rs.map natP)))) (hw : Γ "rows" = some (.val (.list (s.rs.map (rowP s))))) : Ex1 g 40 lsc Γ b (.next Γ) := by
  have hsz : 1000 ≤ sizeLine := line_ok rfl
  have hrl := P.rlen
  rw [hb]
  conv => arg 5; whnf
  refine Ex1.ite (c := false) (Tt.cmp (Ev.name hw) (Ev.compN (rowP s) (CompSide.of ["nodes"] (by decide) rfl (fun y hy => ?_) rfl) (Ev.name hr) (by omega) (fun k hk => ?_)) (Op2.neL (plainL_map (fun k => str_plain _) _) (Nat.lt_of_le_of_lt (depL_map (k := 0) (fun k => by show (PV.str _).dep ≤ 0; rw [str_dep]; exact Nat.le_refl _) _) (by decide)))) nofun (fun _ => Ex.nil)
  · obtain rfl := List.mem_singleton.mp hy; exact ⟨_, hn⟩
  · obtain ⟨d, h1, h2⟩ := P.root k hk
    have hd := fn_due (g := g) P.wf 3 k d [] h1 (by omega) (by decide) (by
      show (dueT 4 [] (trK s k)).length ≤ _
      rw [P.due hk]; exact Nat.le_trans (P.len hk) (by decide))
    have e : dueT (3 + 1) (([] : List Nat).map dst) (treeOf s.ns (3 + 1) k) = rowK s k := P.due hk
    rw [e] at hd
    exact Ev.fn (j := 14) (by decide) (Evs.cons (Ev.name (seen_of (by decide) hn (by decide))) (Evs.cons (Ev.name rfl) (Evs.cons (Ev.fn0 (j := 11) (by decide) (fn_tables.room (by decide))) (Evs.cons (Ev.list Evs.nil (by exact line_ok rfl)) Evs.nil)))) (hd.room (by decide))
theorem law_s7 {b : Stmt} (hb : b = lawS 7) {s : Bs} (P : Page s) (hn : Γ "nodes" = some (.val (ndsPV s.ns))) (hr : Γ "roots" = some (.val (.list (s.rs.map natP)))) (hw : Γ "rows" = some (.val (.list (s.rs.map (rowP s))))) : Ex1 g 40 lsc Γ b (.next Γ) := by
  have hsz : 1000 ≤ sizeLine := line_ok rfl
  have h63 : 350000 < 2 ^ 63 := by decide
  have hrl := P.rlen
  rw [hb]
  conv => arg 5; whnf
  have e : s.rs.map (fun k => treeP 4 (trK s k)) = (s.rs.take (s.rs.map (rowP s)).length).map fun k => treeP 4 (trK s k) := by rw [List.length_map, List.take_length]
  refine Ex1.ite (c := false) (Tt.cmp (a := .list (s.rs.map fun k => treeP 4 (trK s k))) ?_ (Ev.compN (fun k => treeP 4 (trK s k)) (CompSide.of ["nodes"] (by decide) rfl (fun y hy => ?_) rfl) (Ev.name hr) (by omega) (fun k hk => ?_)) (Op2.neL (plainL_mem _ fun k hk => tree_plain 4 _ (P.tree hk)) (Nat.lt_of_le_of_lt (depL_map (k := 8) (fun k => tree_dep 4 _) _) (by decide)))) nofun (fun _ => Ex.nil)
  · rw [e]
    refine Ev.compR (ps := s.rs.map (rowP s)) (fun _ => true) (fun i => (s.rs.take i).map fun k => treeP 4 (trK s k)) (CompSide.of [] (by decide) rfl (fun y hy => by cases hy) rfl) (Ev.name hw) rfl (by rw [List.length_map]; omega) (fun _ _ => .inl ⟨rfl, rfl⟩) rfl (fun _ _ _ q => nomatch q) (fun i hi => by rw [List.length_map, List.length_map, List.length_take]; exact Nat.min_le_right _ _) (fun i q hq _ => ?_)
    rw [List.getElem?_map] at hq
    obtain ⟨k, hk, rfl⟩ := Option.map_eq_some_iff.mp hq
    have hkm := List.mem_of_getElem? hk
    refine ⟨treeP 4 (trK s k), by rw [List.take_add_one, hk, List.map_append]; rfl, ?_⟩
    have hl := P.len hkm
    refine Ev.fn (j := 21) (by decide) (Evs.cons (Ev.name (p := rowP s k) rfl) (Evs.cons Ev.int (Evs.cons Ev.int (Evs.cons (Ev.bi (by decide) rfl KeepOk.builtin (Evs.cons (Ev.name (p := .str (mkS (rowK s k))) rfl) Evs.nil) (p := .int ((rowK s k).length : Nat)) ?_) Evs.nil)))) ((P.told hkm).room (by decide))
    have := Cl.lenS (g := g) (n := 40) (x := mkS (rowK s k)) (by rw [mkS_len]; omega)
    rw [mkS_len] at this; exact this
  · obtain rfl := List.mem_singleton.mp hy; exact ⟨_, hn⟩
  · obtain ⟨d, h1, h2⟩ := P.root k hk
    exact Ev.fn (j := 15) (by decide) (Evs.cons (Ev.name (seen_of (by decide) hn (by decide))) (Evs.cons (Ev.name rfl) Evs.nil)) ((fn_tree P.wf 3 k d h1 (by omega)).room (by decide))
end
end Mine
namespace Mine
open PySem PySem.W PyProof.Rows PySem.Calls
set_option Elab.async false
set_option maxRecDepth 100000
set_option linter.unusedVariables false
def ifBody : Stmt → List Stmt | .If _ b _ _ => b | _ => []
def nthS (l : List Stmt) (k : Nat) : Stmt := l[k]?.getD (.Pass ⟨0, 0, 0, 0⟩)
def qBody : List Stmt := forBody (nthS (forBody (lawS 8)) 1)
def inBody : List Stmt := ifBody (nthS qBody 0)
def dueP (p : Nat × List Nat) : PV := .tup [.int (p.1 : Nat), .list (p.2.map natP)]
section
variable {g : Gx} {n : Nat} {sc : Scope} {Γ : VEnv} {C : RC}
theorem Ev.eqI {e : Expr} {i j : Int} (h : Ev g n sc Γ e (.int i)) (q : i = j) : Ev g n sc Γ e (.int j) := q ▸ h
theorem law_in {b : List Stmt} (hb : b = forBody (nthS inBody 0)) {x : Str} {rows : List PV} {i pl : Nat} {dl : List Nat} {hs : Nat → List (Int × Int)} (hrow : rows[i]? = some (.str x)) (hi : rows.length ≤ 100) (hpl : pl ≤ 1000000) (H : RoundAt x ((pl : Nat) : Int) dl hs)
    (vr : Γ "rows" = some (.val (.list rows))) (vn : Γ "n" = some (.val (.int (i : Nat)))) (vp : Γ "place" = some (.val (.int (pl : Nat)))) (vd : Γ "due" = some (.val (.list (dl.map natP)))) :
    Ex g 40 lsc Γ b (.next (upd Γ "told" (.val (.tup [.int ((i : Nat) + 1), .int (pl : Nat)])))) := by
  have hlt := (List.getElem?_eq_some_iff.mp hrow).1
  have h10 : (1000002 : Int) < 10 ^ 10 := by decide
  have h40 : 100 ≤ 2 ^ 40 := by decide
  rw [hb]
  conv => arg 5; whnf
  have tup : ∀ {Γ : VEnv} {p1 p2 p3 p4 p5 : Pos} {j k : Nat}, Γ "n" = some (.val (.int (i : Nat))) → Γ "place" = some (.val (.int (pl : Nat))) → Ev g 40 lsc Γ (.Tuple [.BinOp (.Name "n" p1) .Add (.Constant (.int 1) j p2) p3, .Name "place" p4] k p5) (.tup [.int ((i : Nat) + 1), .int (pl : Nat)]) := fun h1 h2 =>
    Ev.tup (Evs.cons (Ev.bin (Ev.name h1) Ev.int Op2.addI) (Evs.cons (Ev.name h2) Evs.nil)) (by exact line_ok rfl)
  refine Ex.cons (Ex1.assign (Ev.fn (j := 2) (by decide) (Evs.cons (Ev.bin Ev.str (tup vn vp) (Op2.pct (by decide +kernel) (by omega) (by omega) (by omega) (by omega))) Evs.nil) ((fn_glc (a := (i : Int) + 1) (b := (pl : Int)) (by omega) (by omega) (by omega) (by omega)).room (by decide)))) (Ex.cons (Ex1.ite (c := false || false) (Tt.or (Tt.cmp (Ev.name rfl) (tup vn vp) (Op2.neT ?_ ?_)) (fun _ => Tt.cmp (Ev.fn (j := 22) (by decide) (Evs.cons (Ev.atL (l := rows) (i := i) (Ev.name vr) ?_ hrow (by omega)) (Evs.cons (Ev.atT (i := 1) (l := [.int ((i : Nat) + 1), .int (pl : Nat)]) (Ev.name rfl) Ev.int rfl two40) Evs.nil)) ((fn_round H).room (by decide))) (Ev.name vd) (Op2.neL (plainL_map (fun k => int_plain _) _) (Nat.lt_of_le_of_lt (depL_map (k := 0) (fun k => by show (PV.int _).dep ≤ 0; rw [int_dep]; exact Nat.le_refl _) _) (by decide))))) nofun (fun _ => Ex.nil)) Ex.nil)
  · simp only [PV.plainL, int_plain, Bool.and_true]
  · simp only [PV.depL, int_dep]; decide
  · exact Ev.eqI (Ev.bin (Ev.atT (i := 0) (l := [.int ((i : Nat) + 1), .int (pl : Nat)]) (Ev.name rfl) Ev.int rfl two40) Ev.int Op2.subI) (by omega)
theorem in_br (c : Nat) : (!(Builtin.Str.occurrences (Str.ofString "[]") ⟨#[c]⟩ 0 (Str.ofString "[]").length 1).isEmpty) = decide (c = 91 ∨ c = 93) := by
  have := in_sign (Str.ofString "[]") c
  rw [show (Str.ofString "[]").cps.toList = [91, 93] from rfl] at this
  rw [show (⟨#[c]⟩ : Str) = mkS [c] from rfl, this]
  exact decide_eq_decide.mpr (by simp)
end
end Mine
namespace Mine
open PySem PySem.W PyProof.Rows PySem.Calls
set_option Elab.async false
set_option maxRecDepth 100000
set_option linter.unusedVariables false
def forIter : Stmt → Expr | .For _ e _ _ _ => e | _ => .Name "x" ⟨0, 0, 0, 0⟩
def baseΓ (rows : List PV) (i : Nat) : VEnv := fun y => if y = "rows" then some (.val (.list rows)) else if y = "n" then some (.val (.int (i : Nat))) else none
def openΓ (rows : List PV) (i : Nat) (s : List Nat) : VEnv := upd (baseΓ rows i) "opened" (.val (.list (s.map natP)))
def qΓ (rows : List PV) (i : Nat) (s : List Nat) (j : Nat) : VEnv := upd (openΓ rows i s) "q" (.val (.int (j : Nat)))
theorem stkC_len : ∀ (x : Tx) (o : Nat) (s : List Nat), (stkC x o s).length ≤ s.length + x.length
  | [], _, _ => Nat.le_refl _
  | c :: r, o, s => by
    show (stkC r (o + 1) (if c = 91 then s ++ [o] else if c = 93 then s.dropLast else s)).length ≤ _
    have := stkC_len r (o + 1) (if c = 91 then s ++ [o] else if c = 93 then s.dropLast else s)
    have h : (if c = 91 then s ++ [o] else if c = 93 then s.dropLast else s).length ≤ s.length + 1 := by
      split
      · rw [List.length_append]; exact Nat.le_refl _
      · split
        · rw [List.length_dropLast]; omega
        · omega
    rw [List.length_cons]; omega
theorem stkC_next {x : Tx} {j c : Nat} (h : x[j]? = some c) : stkC (x.take (j + 1)) 0 [] = if c = 91 then stkC (x.take j) 0 [] ++ [j] else if c = 93 then (stkC (x.take j) 0 []).dropLast else stkC (x.take j) 0 [] := by
  have hl : (x.take j).length = j := by
    rw [List.length_take]; have := (List.getElem?_eq_some_iff.mp h).1; omega
  rw [List.take_add_one, h, stkC_app, hl, Nat.zero_add]; rfl
section
variable {g : Gx} {n : Nat} {sc : Scope} {Γ : VEnv} {C : RC}
theorem for_form : ∃ p1 p2 k p3 pos, nthS inBody 0 = .For (.Tuple [.Name "place" p1, .Name "due" p2] k p3) (forIter (nthS inBody 0)) (forBody (nthS inBody 0)) [] pos := ⟨_, _, _, _, _, rfl⟩
theorem law_for {x : Str} {rows : List PV} {i j : Nat} {s : List Nat} {its : List (Nat × List Nat)} (hrow : rows[i]? = some (.str x)) (hi : rows.length ≤ 100) (hit : ∀ p ∈ its, p.1 ≤ 1000000 ∧ ∃ hs, RoundAt x ((p.1 : Nat) : Int) p.2 hs)
    {b : Stmt} (hb : b = nthS inBody 0) (hev : Ev g 40 lsc (qΓ rows i s j) (forIter b) (.list (its.map dueP))) (hf : ∀ env x, foldedSetIterable (forIter b) env x = pure x) : Ex1 g 40 lsc (qΓ rows i s j) b (.next (qΓ rows i s j)) := by
  obtain ⟨p1, p2, k, p3, pos, e⟩ := for_form
  rw [← hb] at e
  generalize hB : forBody b = B at e
  generalize forIter b = it at e hev hf
  rw [e]
  refine Ex1.forC its.length (fun _ => qΓ rows i s j) (fun t => upd (upd (qΓ rows i s j) "place" (.val (.int ((its[t]?.getD (0, [])).1 : Nat)))) "due" (.val (.list ((its[t]?.getD (0, [])).2.map natP)))) hev rfl (fun _ _ e => e) (by rw [List.length_map]; exact Nat.le_refl _) (fun t q _ hq => ?_) (fun t q ht hq => ?_) (fun q hq => ?_) (fun _ _ _ e => e) (.inr ⟨⟨_, rfl⟩, ⟨_, _, _, rfl⟩, fun q hq => ?_⟩) hf
  · rw [List.getElem?_map] at hq
    obtain ⟨p, hp, rfl⟩ := Option.map_eq_some_iff.mp hq
    rw [hp]
    exact As.pair rfl rfl
  · rw [List.getElem?_map] at hq
    obtain ⟨p, hp, rfl⟩ := Option.map_eq_some_iff.mp hq
    obtain ⟨h1, hs, h2⟩ := hit p (List.mem_of_getElem? hp)
    rw [hp]
    refine Ex.weak (law_in (b := B) (by rw [← hB, hb]) (i := i) (pl := p.1) (dl := p.2) hrow hi h1 h2 rfl rfl rfl rfl) ?_
    refine wk ["told", "place", "due"] (fun y hy sl e => ?_) (fun y hy => ?_)
    · simp only [List.mem_cons, List.not_mem_nil, or_false] at hy
      rcases hy with rfl | rfl | rfl <;> cases e
    · simp only [List.mem_cons, List.not_mem_nil, or_false, not_or] at hy
      rw [upd_ne hy.1, upd_ne hy.2.2, upd_ne hy.2.1]
  · rw [List.getElem?_map, List.getElem?_eq_none (Nat.le_refl _)] at hq; cases hq
  · obtain ⟨p, _, rfl⟩ := List.mem_map.mp hq
    exact ⟨_, rfl⟩
theorem chr {x : Tx} {rows : List PV} {i j c : Nat} {p1 p2 p3 p4 p5 : Pos} (hrow : rows[i]? = some (.str (mkS x))) (hi : rows.length ≤ 100) (hx : x.length ≤ 350000) (hc : x[j]? = some c) (vr : Γ "rows" = some (.val (.list rows))) (vn : Γ "n" = some (.val (.int (i : Nat)))) (vq : Γ "q" = some (.val (.int (j : Nat)))) :
    Ev g n sc Γ (.Subscript (.Subscript (.Name "rows" p1) (.Name "n" p2) p3) (.Name "q" p4) p5) (.str ⟨#[c]⟩) := by
  have h40 : 100 ≤ 2 ^ 40 := by decide
  have h63 : (350000 : Int) < 2 ^ 63 := by decide
  have hj := (List.getElem?_eq_some_iff.mp hc).1
  exact Ev.sub (T := "str") (a := .str (mkS x)) (b := .int (j : Nat)) (Ev.atL (l := rows) (i := i) (Ev.name vr) (Ev.name vn) hrow (by omega)) (Ev.name vq) (.inl KindOf.str) gi_str (Op2.itemS (by omega) (by omega) (by rw [Int.toNat_natCast]; simpa [mkS] using hc))
end
end Mine
namespace Mine
open PySem PySem.W PyProof.Rows PySem.Calls
set_option Elab.async false
set_option maxRecDepth 100000
set_option linter.unusedVariables false
section
variable {g : Gx} {n : Nat} {sc : Scope} {Γ : VEnv} {C : RC}
theorem q_form : ∃ t p, qBody = [.If t (nthS inBody 0 :: nthS inBody 1 :: []) [] p] := ⟨_, _, rfl⟩
def stkR (x : Tx) (j : Nat) : List Nat := stkC (x.take j) 0 []
def ifTest : Stmt → Expr | .If t _ _ _ => t | _ => .Name "x" ⟨0, 0, 0, 0⟩
def asgVal : Stmt → Expr | .Assign _ e _ => e | _ => .Name "x" ⟨0, 0, 0, 0⟩
structure QAt (x : Tx) (rows : List PV) (i j c : Nat) : Prop where
  row : rows[i]? = some (.str (mkS x))
  few : rows.length ≤ 100
  len : x.length ≤ 350000
  ch : x[j]? = some c
theorem q_test {x : Tx} {rows : List PV} {i j c : Nat} {s : List Nat} (H : QAt x rows i j c) {e : Expr} (he : e = ifTest (nthS qBody 0)) : Tt g 40 lsc (qΓ rows i s j) e (decide (c = 91 ∨ c = 93)) := by
  rw [he, ← in_br]
  conv => arg 5; whnf
  exact Tt.cmp (chr H.row H.few H.len H.ch rfl rfl rfl) Ev.str Op2.inS
theorem q_open {x : Tx} {rows : List PV} {i j c : Nat} {s : List Nat} (H : QAt x rows i j c) (hs : s.length ≤ 400000) {b : Stmt} (hb : b = nthS inBody 1) {s' : List Nat} (hc : (c = 91 ∧ s' = s ++ [j]) ∨ (c = 93 ∧ s' = s.dropLast)) :
    Ex1 g 40 lsc (qΓ rows i s j) b (.next (upd (qΓ rows i s j) "opened" (.val (.list (s'.map natP))))) := by
  have hsz : 2300000 ≤ sizeLine := by show 2300000 ≤ 2 ^ 24; decide
  rw [hb]
  conv => arg 5; whnf
  refine Ex1.assign ?_
  rcases hc with ⟨rfl, rfl⟩ | ⟨rfl, rfl⟩
  · rw [List.map_append]
    exact Ev.ifexp (c := true) (Tt.cmp (chr H.row H.few H.len H.ch rfl rfl rfl) Ev.str Op2.eqS) (fun _ => Ev.bin (Ev.name rfl) (Ev.list (Evs.cons (Ev.name (p := natP j) rfl) Evs.nil) (by exact line_ok rfl)) (Op2.addL (by rw [List.length_map]; show _ + 1 ≤ _; omega))) nofun
  · refine Ev.ifexp (c := false) (Tt.cmp (chr H.row H.few H.len H.ch rfl rfl rfl) Ev.str Op2.eqS) nofun (fun _ => ?_)
    rw [List.map_dropLast, ← pySl_last]
    exact Ev.cutL (Ev.name rfl) EvO.no (EvO.yes (Ev.neg Ev.int)) (by rw [List.length_map]; omega)
theorem q_iter {x : Tx} {rows : List PV} {i j c : Nat} {s : List Nat} (H : QAt x rows i j c) (hs : s.length ≤ 400000) {e : Expr} (he : e = forIter (nthS inBody 0)) {its : List (Nat × List Nat)} (hc : (c = 91 ∧ its = [(j + 1, s)]) ∨ (c = 93 ∧ its = [(j, s), (j + 1, s.dropLast)])) :
    Ev g 40 lsc (qΓ rows i s j) e (.list (its.map dueP)) := by
  have hsz : 2300000 ≤ sizeLine := by show 2300000 ≤ 2 ^ 24; decide
  rw [he]
  conv => arg 5; whnf
  rcases hc with ⟨rfl, rfl⟩ | ⟨rfl, rfl⟩
  · exact Ev.ifexp (c := true) (Tt.cmp (chr H.row H.few H.len H.ch rfl rfl rfl) Ev.str Op2.eqS) (fun _ => Ev.list (Evs.cons (p := dueP (j + 1, s)) (Ev.tup (Evs.cons (Ev.bin (Ev.name rfl) Ev.int Op2.addI) (Evs.cons (Ev.name rfl) Evs.nil)) (by exact line_ok rfl)) Evs.nil) (by exact line_ok rfl)) nofun
  · refine Ev.ifexp (c := false) (Tt.cmp (chr H.row H.few H.len H.ch rfl rfl rfl) Ev.str Op2.eqS) nofun (fun _ => ?_)
    refine Ev.list (Evs.cons (p := dueP (j, s)) (Ev.tup (Evs.cons (Ev.name rfl) (Evs.cons (Ev.name rfl) Evs.nil)) (by exact line_ok rfl)) (Evs.cons (p := dueP (j + 1, s.dropLast)) (Ev.tup (Evs.cons (Ev.bin (Ev.name rfl) Ev.int Op2.addI) (Evs.cons (p := .list ((s.dropLast).map natP)) ?_ Evs.nil)) (by exact line_ok rfl)) Evs.nil)) (by exact line_ok rfl)
    rw [List.map_dropLast, ← pySl_last]
    exact Ev.cutL (Ev.name rfl) EvO.no (EvO.yes (Ev.neg Ev.int)) (by rw [List.length_map]; omega)
theorem q_fold {e : Expr} (he : e = forIter (nthS inBody 0)) : ∀ env x, foldedSetIterable e env x = pure x := by rw [he]; intro _ _; rfl
theorem back_open {rows : List PV} {i j : Nat} {s s' : List Nat} : ∀ y sl, openΓ rows i s' y = some sl → upd (qΓ rows i s j) "opened" (.val (.list (s'.map natP))) y = some sl := by
  refine wk ["q", "opened"] (fun y hy sl e => ?_) (fun y hy => ?_)
  · simp only [List.mem_cons, List.not_mem_nil, or_false] at hy
    rcases hy with rfl | rfl
    · cases e
    · exact e
  · simp only [List.mem_cons, List.not_mem_nil, or_false, not_or] at hy
    simp only [qΓ, openΓ, upd, if_neg hy.1, if_neg hy.2]
theorem back_q {rows : List PV} {i j : Nat} {s : List Nat} : ∀ y sl, openΓ rows i s y = some sl → qΓ rows i s j y = some sl := by
  refine wk ["q"] (fun y hy sl e => ?_) (fun y hy => ?_)
  · obtain rfl := List.mem_singleton.mp hy; cases e
  · rw [List.mem_singleton] at hy
    unfold qΓ; rw [upd_ne hy]
theorem law_q {x : Tx} {rows : List PV} {i j c : Nat} (H : QAt x rows i j c) {b : List Stmt} (hb : b = qBody) (H1 : c = 91 → ∃ hs, RoundAt (mkS x) ((j + 1 : Nat) : Int) (stkR x j) hs)
    (H2 : c = 93 → (∃ hs, RoundAt (mkS x) ((j : Nat) : Int) (stkR x j) hs) ∧ ∃ hs, RoundAt (mkS x) ((j + 1 : Nat) : Int) (stkR x j).dropLast hs) :
    Ex g 40 lsc (qΓ rows i (stkR x j) j) b (.next (openΓ rows i (stkR x (j + 1)))) := by
  obtain ⟨t, p, e⟩ := q_form
  have et : t = ifTest (nthS qBody 0) := by rw [e]; rfl
  rw [hb, e]
  have hj := (List.getElem?_eq_some_iff.mp H.ch).1
  have hl := H.len
  have hs : (stkR x j).length ≤ 400000 := by
    have := stkC_len (x.take j) 0 []
    rw [List.length_take] at this
    have h0 : ([] : List Nat).length = 0 := rfl
    unfold stkR; omega
  have nxt : stkR x (j + 1) = _ := stkC_next H.ch
  by_cases hc : c = 91 ∨ c = 93
  · have hstep : (c = 91 ∧ stkR x (j + 1) = stkR x j ++ [j]) ∨ (c = 93 ∧ stkR x (j + 1) = (stkR x j).dropLast) := by
      rcases hc with rfl | rfl
      · exact .inl ⟨rfl, nxt⟩
      · exact .inr ⟨rfl, nxt⟩
    obtain ⟨its, h1, h2⟩ : ∃ its, ((c = 91 ∧ its = [(j + 1, stkR x j)]) ∨ (c = 93 ∧ its = [(j, stkR x j), (j + 1, (stkR x j).dropLast)])) ∧ ∀ p ∈ its, p.1 ≤ 1000000 ∧ ∃ hs, RoundAt (mkS x) ((p.1 : Nat) : Int) p.2 hs := by
      rcases hc with rfl | rfl
      · refine ⟨_, .inl ⟨rfl, rfl⟩, fun p hp => ?_⟩
        obtain rfl := List.mem_singleton.mp hp
        exact ⟨by show j + 1 ≤ _; omega, H1 rfl⟩
      · refine ⟨_, .inr ⟨rfl, rfl⟩, fun p hp => ?_⟩
        rcases List.mem_cons.mp hp with rfl | hp
        · exact ⟨by show j ≤ _; omega, (H2 rfl).1⟩
        · obtain rfl := List.mem_singleton.mp hp
          exact ⟨by show j + 1 ≤ _; omega, (H2 rfl).2⟩
    refine Ex.cons (Ex1.ite (c := true) (by rw [← decide_eq_true hc]; exact q_test H et) (fun _ => ?_) nofun) Ex.nil
    refine Ex.weak (Ex.cons (law_for H.row H.few h2 rfl (q_iter H hs rfl h1) (q_fold rfl)) (Ex.cons (q_open H hs rfl hstep) Ex.nil)) back_open
  · have e2 : stkR x (j + 1) = stkR x j := by
      rw [nxt, if_neg fun z => hc (.inl z), if_neg fun z => hc (.inr z)]; rfl
    rw [e2]
    refine Ex.cons (Ex1.ite (c := false) (by rw [← decide_eq_false hc]; exact q_test H et) nofun (fun _ => Ex.weak Ex.nil back_q)) Ex.nil
theorem s8_form : ∃ p1 p2 p3 p4 p5 p6 p7 p8 p9 q1 q2 q3 q4 q5 q6 q7 q8 q9 r1, lawS 8 = .For (.Name "n" p1) (.Call (.Name "range" p2) [.Call (.Name "len" p3) [.Name "rows" p4] [] p5] [] p6) [.Assign [.Name "opened" p7] (.List [] p8) p9,
    .For (.Name "q" q1) (.Call (.Name "range" q2) [.Call (.Name "len" q3) [.Subscript (.Name "rows" q4) (.Name "n" q5) q6] [] q7] [] q8) qBody [] q9] [] r1 := ⟨_, _, _, _, _, _, _, _, _, _, _, _, _, _, _, _, _, _, _, rfl⟩
def rowsΓ (rows : List PV) : VEnv := fun y => if y = "rows" then some (.val (.list rows)) else none
theorem law_s8 {b : Stmt} (hb : b = lawS 8) {s : Bs} (P : Page s) : Ex1 g 40 lsc (rowsΓ (s.rs.map (rowP s))) b (.next (rowsΓ (s.rs.map (rowP s)))) := by
  have h63 : 350000 < 2 ^ 63 := by decide
  have h40 : 100 ≤ 2 ^ 40 := by decide
  have hrl := P.rlen
  obtain ⟨p1, p2, p3, p4, p5, p6, p7, p8, p9, q1, q2, q3, q4, q5, q6, q7, q8, q9, r1, e⟩ := s8_form
  rw [hb, e]
  generalize hB : qBody = B
  have hlr : (s.rs.map (rowP s)).length ≤ 100 := by rw [List.length_map]; exact hrl
  generalize hrows : s.rs.map (rowP s) = rows at hlr ⊢
  refine Ex1.forAll (fun _ => rowsΓ rows) (Ev.bi (by decide) rfl KeepOk.type (Evs.cons (Ev.bi (by decide) rfl KeepOk.builtin (Evs.cons (Ev.name rfl) Evs.nil) (Cl.lenL (by omega))) Evs.nil) Cl.range1) (items_range _ (by omega)) (fun _ _ e => e) (fun i q hq => ?_)
  obtain ⟨hlt, rfl⟩ := List.getElem?_eq_some_iff.mp hq
  rw [List.length_map, List.length_range] at hlt
  rw [List.getElem_map, List.getElem_range, Int.zero_add]
  have hk : ∃ k, s.rs[i]? = some k := ⟨_, List.getElem?_eq_getElem (by rw [← hrows, List.length_map] at hlt; exact hlt)⟩
  obtain ⟨k, hk⟩ := hk
  have hkm := List.mem_of_getElem? hk
  have hrow : rows[i]? = some (.str (mkS (rowK s k))) := by rw [← hrows, List.getElem?_map, hk]; rfl
  have hlen := P.len hkm
  have base : upd (upd (rowsΓ rows) "n" (.val (.int (i : Nat)))) "opened" (.val (.list [])) = openΓ rows i (stkR (rowK s k) 0) := by
    have : upd (rowsΓ rows) "n" (.val (.int (i : Nat))) = baseΓ rows i := by
      funext y
      unfold upd rowsΓ baseΓ
      by_cases h1 : y = "n"
      · subst h1; rfl
      · rw [if_neg h1, if_neg h1]
    rw [this]; rfl
  refine Ex.cons (Ex1.assign (p := .list []) (Ev.list Evs.nil (by exact line_ok rfl))) ?_
  rw [base]
  refine Ex.weak (Ex.cons (Ex1.forAll (fun j => openΓ rows i (stkR (rowK s k) j)) (Ev.bi (by decide) rfl KeepOk.type (Evs.cons (Ev.bi (by decide) rfl KeepOk.builtin (Evs.cons (Ev.atL (l := rows) (i := i) (Ev.name rfl) (Ev.name rfl) hrow (by omega)) Evs.nil) (Cl.lenS (by rw [mkS_len]; omega))) Evs.nil) Cl.range1) (items_range _ (by rw [mkS_len]; omega)) (fun _ _ e => e) (fun j q hq => ?_)) Ex.nil) (fun y sl hy => ?_)
  · obtain ⟨hlt, rfl⟩ := List.getElem?_eq_some_iff.mp hq
    rw [List.length_map, List.length_range, mkS_len] at hlt
    rw [List.getElem_map, List.getElem_range, Int.zero_add]
    have hc := List.getElem?_eq_getElem hlt
    generalize (rowK s k)[j] = c at hc
    have R := stk_round (P.ok hkm) (P.balK hkm) (P.four hkm) j
    rw [P.flatK hkm] at R
    exact law_q ⟨hrow, hlr, hlen, hc⟩ hB.symm (fun z => R.1 (by rw [hc, z])) (fun z => R.2 (by rw [hc, z]))
  · unfold rowsΓ at hy
    split at hy
    · rename_i z; subst z; cases hy; rfl
    · cases hy
theorem s9_form : ∃ k p q, lawS 9 = .Return (some (.Constant (.bool true) k p)) q := ⟨_, _, _, rfl⟩
theorem law_tail {b5 b6 b7 b8 b9 : Stmt} (hb5 : b5 = lawS 5) (hb6 : b6 = lawS 6) (hb7 : b7 = lawS 7) (hb8 : b8 = lawS 8) (hb9 : b9 = lawS 9) {s : Bs} (P : Page s) : Ex g 40 lsc (endΓ s) [b5, b6, b7, b8, b9] (.ret (.bool true)) := by
  obtain ⟨k, p, q, e9⟩ := s9_form
  rw [← hb9] at e9
  have hn : upd (endΓ s) "rows" (.val (.list (s.rs.map (rowP s)))) "nodes" = some (.val (ndsPV s.ns)) := rfl
  have hr : upd (endΓ s) "rows" (.val (.list (s.rs.map (rowP s)))) "roots" = some (.val (.list (s.rs.map natP))) := rfl
  refine Ex.cons (law_s5 hb5 P rfl rfl) (Ex.cons (law_s6 hb6 P hn hr upd_eq) (Ex.cons (law_s7 hb7 P hn hr upd_eq) (Ex.from (Ex.cons (law_s8 hb8 P) ?_) (fun y sl hy => ?_))))
  · rw [e9]; exact Ex.stop_ret (Ex1.ret Ev.bool)
  · unfold rowsΓ at hy
    split at hy
    · rename_i z; subst z; rw [upd_eq]; exact hy
    · cases hy
theorem law_all : ∃ b0 b1 b2 b3 b4 b5 b6 b7 b8 b9, stBody (stm 23) = [b0, b1, b2, b3, b4, b5, b6, b7, b8, b9] ∧ b0 = lawS 0 ∧ b1 = lawS 1 ∧ b2 = lawS 2 ∧ b3 = lawS 3 ∧ b4 = lawS 4 ∧ b5 = lawS 5 ∧ b6 = lawS 6 ∧ b7 = lawS 7 ∧ b8 = lawS 8 ∧ b9 = lawS 9 :=
  ⟨_, _, _, _, _, _, _, _, _, _, rfl, rfl, rfl, rfl, rfl, rfl, rfl, rfl, rfl, rfl, rfl⟩
theorem law_ex {is : List Int} (hl : is.length ≤ 1000) : Ex g 40 lsc (args0 lsc ["script"] [.list (is.map .int)]) (stBody (stm 23)) (.ret (.bool true)) := by
  obtain ⟨b0, b1, b2, b3, b4, b5, b6, b7, b8, b9, e, h0, h1, h2, h3, h4, h5, h6, h7, h8, h9⟩ := law_all
  rw [e]
  have P : Page (endBs is) := by
    have hb : 0 ≤ ((numsOf10 is).map fun x : Nat => (x : Int)).sum % 5 := Int.emod_nonneg _ (by decide)
    have hb2 : ((numsOf10 is).map fun x : Nat => (x : Int)).sum % 5 < 5 := Int.emod_lt_of_pos _ (by decide)
    have := good_fold (numsOf10 is) (good0 (e := (((numsOf10 is).map fun x : Nat => (x : Int)).sum % 5).toNat) (by omega))
    rw [nums_len] at this
    exact this.page (by decide)
  have a0 : args0 lsc ["script"] [.list (is.map .int)] "script" = some (.val (.list (is.map .int))) := rfl
  have a1 : args0 lsc ["script"] [.list (is.map .int)] "nodes" = some .empty := rfl
  have hown : ∀ w l, args0 lsc ["script"] [.list (is.map .int)] w ≠ some (.own l) := fun w l => args_own (fr := [])
  have honly : ∀ y, args0 lsc ["script"] [.list (is.map .int)] y = some .empty → y = "nodes" := cell_uniq rfl (by decide)
  generalize args0 lsc ["script"] [.list (is.map .int)] = Γ0 at a0 a1 hown honly ⊢
  exact law_head h0 h1 h2 h3 h4 hl a0 a1 hown honly (law_tail h5 h6 h7 h8 h9 P)
end
end Mine
namespace Mine
open PySem PySem.W PyProof.Rows PySem.Calls
set_option Elab.async false
set_option maxRecDepth 100000
set_option linter.unusedVariables false
def tabs66 : List (Addr × Addr) := [(128, 124), (114, 110), (107, 103), (121, 117)]
def fullTab : List (Nat × Str) := [(1, "search_reverse"), (2, "get_line_col"), (4, "_raise_serialization_error"), (5, "_escape_cdata"), (6, "_escape_attrib"), (7, "_escape_attrib_html"), (8, "_escape_cdata_c14n"), (9, "_escape_attrib_c14n"),
  (11, "_law_tables"), (12, "_law_spell"), (13, "_law_row"), (14, "_law_due"), (15, "_law_tree"), (16, "_law_hit"), (17, "_law_prog"), (18, "_law_nodes"), (19, "_law_doors"), (20, "_law_read"), (21, "_law_told"), (22, "_law_round"), (23, "law")]
def recAt (q : Nat × Str) : DefRec := ⟨q.2, stArgs (stm q.1), stBody (stm q.1), stScope (stm q.1), stPos (stm q.1)⟩
theorem recsEq66 : recsOf view66 = fullTab.map recAt := by kernel_rfl
theorem fnFull : ∀ q ∈ fnTab, q ∈ fullTab := by decide +kernel
theorem biFree : biTab.all (fun x => !startupNames.contains x && !(looseW view66 []).contains x && !((recsOf view66).map (·.name)).contains x && !((litsOf view66).map (·.1)).contains x && !((clssOf view66 (looseW view66 [])).map (·.name)).contains x && x != "__name__") = true := by kernel_rfl
theorem says_code {K : Frag} (hK : kSays K = true) {x : Str} {c P : Addr} (hm : (x, c, P) ∈ codeTab) : codeHdIn K c P = true ∧ tabIn K x = some (c, P) := by
  obtain ⟨a, _⟩ := Bool.and_eq_true_iff.mp hK
  obtain ⟨p, q⟩ := Bool.and_eq_true_iff.mp (List.all_eq_true.mp a _ hm)
  exact ⟨p, beq_iff_eq.mp q⟩
theorem says_fn {K : Frag} {h : Heap} {mg : Str → Option Value} (X : K.In h) (G : h.Ns mainGlobals mg) {x : Str} {fa : Addr} {o : Obj} (e : clsFn K x = true) (hm : mg x = some (.ref fa)) (ho : h.get? fa = some o) : o.cls = .type "function" := by
  unfold clsFn at e
  split at e
  · rename_i f hf
    have e1 := mg_of X G hf
    rw [hm] at e1
    cases e1
    split at e
    · rename_i n d dd sl hfo
      have e2 := X _ _ hfo
      rw [ho] at e2
      cases e2
      rw [show n = "function" from beq_iff_eq.mp e]
    · cases e
  · cases e
section
variable {w : World} {h : Heap} {mg mb : Str → Option Value} {mean : ExcName → Option Value}
theorem tabsAt66 (Y : YP66 w h) : TabsAt tabs66 h := by
  obtain ⟨⟨K, X, hK⟩, t⟩ := Y
  have go : ∀ {x : Str} {c P : Addr}, (x, c, P) ∈ codeTab → P ∈ tabA → CodeHd h c P ∧ h.get? P = some (tabObj #[]) := fun hm hP => ⟨codeHd_of_K X (says_code hK hm).1, t _ hP⟩
  intro q hq
  simp only [tabs66, List.mem_cons, List.not_mem_nil, or_false] at hq
  rcases hq with rfl | rfl | rfl | rfl
  · exact go (x := "_law_doors") (by simp [codeTab]) (by simp [tabA])
  · exact go (x := "_law_prog") (by simp [codeTab]) (by simp [tabA])
  · exact go (x := "_law_hit") (by simp [codeTab]) (by simp [tabA])
  · exact go (x := "_law_nodes") (by simp [codeTab]) (by simp [tabA])
theorem ghost_codeHd {c P : Addr} (hT : TabsAt tabs66 h) (x : CodeHd h c P) : CodeHd (ghostOf h tabs66) c P := by
  obtain ⟨o, vs, file, tf, flags, tg, inF, text, tt, e1, r1, r⟩ := x
  exact ⟨o, vs, file, tf, flags, tg, inF, text, tt, ghost_get hT e1 (fun q => by rw [q] at r1; cases r1), r1, r⟩
theorem ghost_rec {cv : Value} {nm : Str} (hT : TabsAt tabs66 h) (x : h.CodeRec cv nm) : (ghostOf h tabs66).CodeRec cv nm := by
  obtain ⟨c, o, vs, t, h1, h2, h3, h4⟩ := x
  exact ⟨c, o, vs, t, h1, ghost_get hT h2 (fun q => by rw [q] at h3; cases h3; cases h4), h3, h4⟩
theorem fn66 (T : Top view66 (looseW view66 []) mean mg mb h) (Y : YP66 w h) (k : Nat) (nm : Str) (hm : (k, nm) ∈ fnTab) : ∃ a o pm cd doc, mg nm = some (.ref a) ∧ (ghostOf h tabs66).get? a = some o ∧ o.cls = .type "function" ∧ o.data = .func (docDef nm (stArgs (stm k)) (stBody (stm k)) (stScope (stm k)) pm cd doc) ∧ (ghostOf h tabs66).CodeRec cd nm ∧
    ∀ c P, (nm, c, P) ∈ codeTab → cd = .ref c ∧ CodeHd (ghostOf h tabs66) c P := by
  have hT := tabsAt66 Y
  obtain ⟨⟨K, X, hK⟩, _⟩ := Y
  obtain ⟨a, o, pm, cd, doc, h1, h2, h3, h4⟩ := T.fn (recAt (k, nm)) (by rw [recsEq66]; exact List.mem_map_of_mem (fnFull _ hm))
  refine ⟨a, o, pm, cd, doc, h1, ghost_get hT h2 (fun q => by rw [q] at h3; cases h3), says_fn X T.g (List.all_eq_true.mp (Bool.and_eq_true_iff.mp hK).2 _ hm) h1 h2, h3, ghost_rec hT h4, fun c P hc => ?_⟩
  obtain ⟨p, q⟩ := says_code hK hc
  exact ⟨law_code X T.g q h1 h2 h3, ghost_codeHd hT (codeHd_of_K X p)⟩
theorem bi66 (T : Top view66 (looseW view66 []) mean mg mb h) (x : Str) (hx : x ∈ biTab) : mg x = none ∧ mb x = bootBuiltins x := by
  have e := List.all_eq_true.mp biFree x hx
  simp only [Bool.and_eq_true, Bool.not_eq_true', List.contains_eq_mem, decide_eq_false_iff_not, bne_iff_ne] at e
  obtain ⟨⟨⟨⟨⟨a, b⟩, c⟩, d⟩, f⟩, n⟩ := e
  exact ⟨T.free x a b c d f, T.builtins x n⟩
def gx66 (T : Top view66 (looseW view66 []) mean mg mb h) (Y : YP66 w h) : Gx :=
  have hT := tabsAt66 Y
  have T' := ghost_top hT T
  { w := w, h0 := ghostOf h tabs66, mg := mg, mb := mb, ng := T'.g, nb := T'.b, nolimit := T'.nolimit, nodigits := T'.nodigits,
    tabs := fun P hP => hideAll_none _ (by simp only [tabA, List.mem_cons, List.not_mem_nil, or_false] at hP; rcases hP with rfl | rfl | rfl | rfl <;> simp [tabs66]),
    fn := fn66 T Y, bi := bi66 T, bmain := T'.bmain }
theorem st66 (T : Top view66 (looseW view66 []) mean mg mb h) (Y : YP66 w h) : St (gx66 T Y) (ghostOf h tabs66).get? h where
  base := .refl _
  sub := fun a o e => of_hideAll _ e
  ti := fun q hq => ⟨#[], Y.2 _ (by simp only [tabQ, List.mem_cons, List.not_mem_nil, or_false] at hq; rcases hq with rfl | rfl | rfl | rfl <;> simp [tabA]), trivial, fun pos cv e => nomatch e⟩
  off := (gx66 T Y).tabs
end
theorem ints_repL {g : Gx} {σ : PH} : ∀ {vs : List Value} {is : List Int}, IntsAre vs is → RepL g σ (is.map .int) vs
  | _, _, .nil => RepL.nil
  | _, _, .cons _ _ h => RepL.cons rep_int (ints_repL h)
theorem post66 {args : List WData} : law66.row.toRowW.claim.post args (.bool true) args = true := by wrow_post
theorem list_of_well {P : Params} {h : Heap} {a : Addr} {xs : List WData} {vs : List Value} (w : Well P h (.ref a) (.list xs)) (hl : h.IsList a vs.toArray) : h.get? a = some { cls := .type "list", data := .seq vs.toArray } := by
  obtain ⟨o, e, hc, n, hd⟩ := hl
  cases w with
  | list e2 _ =>
    rw [e] at e2
    cases e2
    cases hd
    exact e
theorem kind66 : ∀ x ∈ (["script"] : List Str), lsc.names.lookup x = some .local ∨ lsc.names.lookup x = some .cell := by decide
theorem core66 {w : World} {s₁ : Shared} {mg mb : Str → Option Value} {mean : ExcName → Option Value} (T : Top view66 (looseW view66 []) mean mg mb s₁.heap) (Y : YP66 w s₁.heap) {fa : Addr} {o : Obj} {pm cd doc : Value}
    (ho : s₁.heap.get? fa = some o) (hd : o.data = .func (docDef "law" (stArgs (stm 23)) (stBody (stm 23)) (stScope (stm 23)) pm cd doc)) (hcd : s₁.heap.CodeRec cd "law") (hg : s₁.gens = #[]) {la : Addr} {vs : List Value} {is : List Int}
    (hobj : s₁.heap.get? la = some { cls := .type "list", data := .seq vs.toArray }) (hI : IntsAre vs is) (hlen : is.length ≤ 63) (cl : Str → Option Addr) (me : ExcName → Option Value) (args : List WData) :
    codeAny (model prog66 w) callerA (.call (.ref fa) ⟨[.ref la], []⟩) (fun r s' => GoodW law66.row.toRowW.claim cl me args { s₁ with heap := ghostOf s₁.heap tabs66 } r s' ∧ GrownAll tabs66 s'.heap) s₁ := by
  have hT := tabsAt66 Y
  have S := st66 T Y
  have R : Room callerA 41 := ⟨rfl, by decide, by decide⟩
  have r : RepL (gx66 T Y) (ghostOf s₁.heap tabs66).get? [.list (is.map .int)] [.ref la] := RepL.cons (rep_list ⟨_, _, ghost_get hT hobj (fun q => by cases q), rfl, rfl, rfl⟩ (ints_repL hI)) RepL.nil
  refine codeAny_call_function R.depth ho hd rfl rfl rfl hcd ?_
  rw [show bindArgs (docDef "law" (stArgs (stm 23)) (stBody (stm 23)) (stScope (stm 23)) pm cd doc) ⟨[.ref la], []⟩ = pure (List.zip (["script"] : List Str) ([Value.ref la] : List Value)) from rfl]
  refine wpAny_pure (enterF (g := gx66 T Y) (fr := []) S (.inr ⟨"script", .head _, rfl⟩) r rfl kind66 rfl (fun y p e => nomatch e) fun env h1 tk1 σ1 m hs hcode hq ok F htk hno => ⟨hno, codeAny_func ?_⟩)
  refine law_ex (g := gx66 T Y) (is := is) (by omega) (callerA.deeper env) env _ s₁.heap.get? _ _ _ _ _ R.deeper hs ok F htk fun fl h2 t2 σ2 o2 k2 => ?_
  obtain ⟨v, rfl, rv, St2, le2, gr2, fr2⟩ := o2
  have hv : v = .bool true := by unfold Rep at rv; exact rv
  subst hv
  refine ⟨⟨.inl ⟨.bool true, .bool true, [], rfl, fun _ => rfl, ReadsW.bool _, post66, fun _ => ⟨List.nodup_nil, fun a h => nomatch h⟩⟩, fun b o e => St2.keep b o e, rfl, hg⟩, ?_⟩
  have ht : ∀ P ∈ tabA, GrownAt P h2 := fun P hP => ti_tab St2.ti hP
  exact ⟨ht 124 (by simp [tabA]), ht 110 (by simp [tabA]), ht 103 (by simp [tabA]), ht 117 (by simp [tabA]), trivial⟩
theorem walk66 : WalkO view66 [] (XL view66 []) YP66 law66.row.toRowW dLaw [] (fun f vs => PySem.call f vs) := by
  intro w s₀ s₁ mg mb G Y fa o pm cd doc dV kV ho hd hcd hD hmg hg args vals as hpre hlay hrd hwl hlo
  refine Ground.open G ?_
  intro T B D TE TW
  wrow_args hpre hlay hrd hwl hlo
  rename IntsAre _ _ => hI
  rename Heap.IsList _ _ _ => hL
  rename Well _ _ _ _ => hW
  rename ¬ _ => hlen
  have hdV : dV = .none := by rcases hD.pos with h | h; exact h.2; exact absurd rfl h.1
  have hkV : kV = .none := by rcases hD.kw with h | h; exact h.2; exact absurd rfl h.1
  subst hdV hkV
  refine enter_call (kn_post (tabsAt66 Y) (fun _ _ => rfl) ?_)
  exact core66 T Y ho hd hcd hg (list_of_well hW hL) hI (by omega) _ _ _
end Mine
theorem PySem.Challenge.cw_pk0066_01_holds : PySem.Challenge.rw_pk0066_01.Holds :=
  PySem.W.holds_law Mine.said66 fun said => PySem.W.holds_open (r := Mine.law66.row) (q := Mine.view66) (loose := []) (Xt := fun s => PySem.W.xlAt Mine.view66 [] s && PySem.W.recOk (PySem.W.OpenRow.toRowW Mine.law66.row).records s) (XP := PySem.W.XL Mine.view66 [])
    (Yf := Mine.yf66) (Ya := Mine.ya66) (YP := Mine.YP66) (d := Mine.dLaw) (kwd := []) (N := 1452) Mine.left66 Mine.yp_of Mine.yp_keeps (fun s e => PySem.W.xl_of s (Bool.and_eq_true_iff.mp e).1) PySem.W.XL.keeps Mine.def66 Mine.the66 Mine.kw66
    (fun s e => PySem.W.recFacts_of (Bool.and_eq_true_iff.mp e).2) rfl said Mine.ok66 Mine.bare66 Mine.prom66 Mine.walk66
