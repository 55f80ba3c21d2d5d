import PyProof.Rows.All
import Wide.All
import OpenK.AllK
import Wide.FinOn
import PySem.Challenge.RW_dn0235_02
open PySem PySem.W PyProof.Rows
set_option Elab.async false
set_option linter.unusedVariables false
set_option maxRecDepth 100000

namespace Mine

/-! plain data, and what a value reads as -/
inductive D where
  | none
  | bool (b : Bool)
  | int (i : Int)
  | str (x : Str)
  | list (ds : List D)
  | tup (ds : List D)
  | val (v : Value)

abbrev Keep (h h' : Heap) : Prop := ∀ b o, h.get? b = some o → h'.get? b = some o
def KeepS (h h' : Heap) : Prop := ∀ b o xs n, h.get? b = some o → o.data = .seq xs n → h'.get? b = some o
abbrev KeepB (L : Addr) (h h' : Heap) : Prop := ∀ b o, b ≠ L → h.get? b = some o → h'.get? b = some o

mutual
def Rd (h : Heap) : D → Value → Prop
  | .none, v => v = .none
  | .bool b, v => v = .bool b
  | .int i, v => ∃ t, v = .int i t
  | .str x, v => ∃ t, v = .str x t
  | .list ds, v => ∃ a vs, v = .ref a ∧ h.IsList a (List.toArray vs) ∧ RdAll h ds vs
  | .tup ds, v => ∃ a vs, v = .ref a ∧ IsTup h a (List.toArray vs) ∧ RdAll h ds vs
  | .val u, v => v = u
def RdAll (h : Heap) : List D → List Value → Prop
  | [], vs => vs = []
  | d :: ds, vs => ∃ v r, vs = v :: r ∧ Rd h d v ∧ RdAll h ds r
end

theorem Keep.s {h h' : Heap} (k : Keep h h') : KeepS h h' := fun b o _ _ e _ => k b o e
theorem KeepB.of_keep {h h' : Heap} {L : Addr} (k : Keep h h') : KeepB L h h' := fun b o _ e => k b o e
theorem Keep.trans {h h' h'' : Heap} (k : Keep h h') (k' : Keep h' h'') : Keep h h'' := fun b o e => k' b o (k b o e)
theorem KeepB.trans {h h' h'' : Heap} {L : Addr} (k : KeepB L h h') (k' : KeepB L h' h'') : KeepB L h h'' := fun b o n e => k' b o n (k b o n e)
theorem Keep.refl (h : Heap) : Keep h h := fun _ _ e => e

theorem isList_keepS {h h' : Heap} (k : KeepS h h') {a : Addr} {xs : Array Value} (x : h.IsList a xs) : h'.IsList a xs := by
  obtain ⟨o, ho, hc, n, hd⟩ := x
  exact ⟨o, k a o xs n ho hd, hc, n, hd⟩
theorem isTup_keepS {h h' : Heap} (k : KeepS h h') {a : Addr} {xs : Array Value} (x : IsTup h a xs) : IsTup h' a xs := by
  obtain ⟨o, ho, hc, n, hd⟩ := x
  exact ⟨o, k a o xs n ho hd, hc, n, hd⟩

mutual
theorem Rd.mono {h h' : Heap} (k : KeepS h h') : ∀ (d : D) (v : Value), Rd h d v → Rd h' d v
  | .none, _, e => by rw [Rd] at e ⊢; exact e
  | .bool _, _, e => by rw [Rd] at e ⊢; exact e
  | .int _, _, e => by rw [Rd] at e ⊢; exact e
  | .str _, _, e => by rw [Rd] at e ⊢; exact e
  | .val _, _, e => by rw [Rd] at e ⊢; exact e
  | .list ds, _, e => by
    rw [Rd] at e ⊢
    obtain ⟨a, vs, rfl, hl, r⟩ := e
    exact ⟨a, vs, rfl, isList_keepS k hl, RdAll.mono k ds vs r⟩
  | .tup ds, _, e => by
    rw [Rd] at e ⊢
    obtain ⟨a, vs, rfl, hl, r⟩ := e
    exact ⟨a, vs, rfl, isTup_keepS k hl, RdAll.mono k ds vs r⟩
theorem RdAll.mono {h h' : Heap} (k : KeepS h h') : ∀ (ds : List D) (vs : List Value), RdAll h ds vs → RdAll h' ds vs
  | [], _, e => by rw [RdAll] at e ⊢; exact e
  | d :: ds, _, e => by
    rw [RdAll] at e ⊢
    obtain ⟨v, r, rfl, x, y⟩ := e
    exact ⟨v, r, rfl, Rd.mono k d v x, RdAll.mono k ds r y⟩
end
theorem Rd.keep {h h' : Heap} (k : Keep h h') {d : D} {v : Value} (e : Rd h d v) : Rd h' d v := Rd.mono k.s d v e
theorem RdAll.keep {h h' : Heap} (k : Keep h h') {ds : List D} {vs : List Value} (e : RdAll h ds vs) : RdAll h' ds vs := RdAll.mono k.s ds vs e

section
variable {h : Heap} {v : Value}
theorem rd_none : Rd h .none v ↔ v = .none := by rw [Rd]
theorem rd_bool {b : Bool} : Rd h (.bool b) v ↔ v = .bool b := by rw [Rd]
theorem rd_int {i : Int} : Rd h (.int i) v ↔ ∃ t, v = .int i t := by rw [Rd]
theorem rd_str {x : Str} : Rd h (.str x) v ↔ ∃ t, v = .str x t := by rw [Rd]
theorem rd_val {u : Value} : Rd h (.val u) v ↔ v = u := by rw [Rd]
theorem rd_list {ds : List D} : Rd h (.list ds) v ↔ ∃ a vs, v = .ref a ∧ h.IsList a (List.toArray vs) ∧ RdAll h ds vs := by rw [Rd]
theorem rd_tup {ds : List D} : Rd h (.tup ds) v ↔ ∃ a vs, v = .ref a ∧ IsTup h a (List.toArray vs) ∧ RdAll h ds vs := by rw [Rd]
theorem rdAll_nil {vs : List Value} : RdAll h [] vs ↔ vs = [] := by rw [RdAll]
theorem rdAll_cons {d : D} {ds : List D} {vs : List Value} : RdAll h (d :: ds) vs ↔ ∃ v r, vs = v :: r ∧ Rd h d v ∧ RdAll h ds r := by rw [RdAll]
end

theorem RdAll.length {h : Heap} : ∀ {ds : List D} {vs : List Value}, RdAll h ds vs → vs.length = ds.length
  | [], _, e => by rw [rdAll_nil] at e; subst e; rfl
  | d :: ds, _, e => by
    obtain ⟨v, r, rfl, _, y⟩ := rdAll_cons.mp e
    simp [RdAll.length y]
theorem RdAll.get {h : Heap} : ∀ {ds : List D} {vs : List Value} (i : Nat) (v : Value), RdAll h ds vs → vs[i]? = some v → ∃ d, ds[i]? = some d ∧ Rd h d v
  | [], _, i, v, e, hv => by rw [rdAll_nil] at e; subst e; simp at hv
  | d :: ds, _, 0, v, e, hv => by
    obtain ⟨u, r, rfl, x, _⟩ := rdAll_cons.mp e
    simp at hv; subst hv; exact ⟨d, rfl, x⟩
  | d :: ds, _, i + 1, v, e, hv => by
    obtain ⟨u, r, rfl, _, y⟩ := rdAll_cons.mp e
    simp at hv ⊢
    exact RdAll.get i v y hv
theorem RdAll.get' {h : Heap} {ds : List D} {vs : List Value} (e : RdAll h ds vs) {i : Nat} {d : D} (hd : ds[i]? = some d) : ∃ v, vs[i]? = some v ∧ Rd h d v := by
  have hl : i < vs.length := by rw [e.length]; exact (List.getElem?_eq_some_iff.mp hd).1
  obtain ⟨d', h1, h2⟩ := RdAll.get i vs[i] e (by simp [hl])
  rw [hd] at h1; cases h1
  exact ⟨vs[i], by simp [hl], h2⟩
theorem RdAll.append {h : Heap} : ∀ {ds es : List D} {vs ws : List Value}, RdAll h ds vs → RdAll h es ws → RdAll h (ds ++ es) (vs ++ ws)
  | [], _, _, _, e, f => by rw [rdAll_nil] at e; subst e; exact f
  | d :: ds, es, _, ws, e, f => by
    obtain ⟨u, r, rfl, x, y⟩ := rdAll_cons.mp e
    exact rdAll_cons.mpr ⟨u, r ++ ws, rfl, x, RdAll.append y f⟩
theorem RdAll.single {h : Heap} {d : D} {v : Value} (e : Rd h d v) : RdAll h [d] [v] := rdAll_cons.mpr ⟨v, [], rfl, e, rdAll_nil.mpr rfl⟩
theorem RdAll.drop {h : Heap} : ∀ {ds : List D} {vs : List Value} (n : Nat), RdAll h ds vs → RdAll h (ds.drop n) (vs.drop n)
  | [], _, n, e => by rw [rdAll_nil] at e; subst e; simp [rdAll_nil]
  | d :: ds, _, 0, e => e
  | d :: ds, _, n + 1, e => by
    obtain ⟨u, r, rfl, _, y⟩ := rdAll_cons.mp e
    simpa using RdAll.drop n y
theorem RdAll.take {h : Heap} : ∀ {ds : List D} {vs : List Value} (n : Nat), RdAll h ds vs → RdAll h (ds.take n) (vs.take n)
  | [], _, n, e => by rw [rdAll_nil] at e; subst e; simp [rdAll_nil]
  | d :: ds, _, 0, e => by simp [rdAll_nil]
  | d :: ds, _, n + 1, e => by
    obtain ⟨u, r, rfl, x, y⟩ := rdAll_cons.mp e
    rw [List.take_succ_cons, List.take_succ_cons]
    exact rdAll_cons.mpr ⟨u, _, rfl, x, RdAll.take n y⟩

/-! the ground: what stands at the top -/
structure Grd where
  mg : Str → Option Value
  mb : Str → Option Value
  At : Heap → Prop
  keep : ∀ {h h' : Heap}, Keep h h' → At h → At h'
  g : ∀ {h : Heap}, At h → h.Ns mainGlobals mg
  b : ∀ {h : Heap}, At h → h.Ns builtinsNs mb
  lim : ∀ {h : Heap}, At h → h.NoLimit

structure Rm (A : Around) (k : Nat) : Prop where
  handled : A.handled = none
  depth : A.depth + k ≤ 900
  units : A.units + 10 * k ≤ 9000

/-- a fact of the heap that stands on some objects alone (what a turn mutates) -/
structure Kf where
  P : Heap → Prop
  fp : List Addr
  frame : ∀ {h h' : Heap}, P h → (∀ b ∈ fp, ∀ o, h.get? b = some o → h'.get? b = some o) → P h'
  there : ∀ {h : Heap}, P h → ∀ b ∈ fp, ∃ o, h.get? b = some o
def Kf.none : Kf := ⟨fun _ => True, [], fun _ _ => trivial, fun _ _ hb => nomatch hb⟩

structure C where
  prog : Program
  w : World
  G : Grd
  A : Around
  env : Env
  h0 : Heap
  K : Kf

structure C.Ok (c : C) (k : Nat) : Prop where
  kind : c.env.scope.kind = .function
  glob : c.env.globals = mainGlobals
  blt : c.env.builtins = builtinsNs
  at0 : c.G.At c.h0
  rm : Rm c.A k

abbrev Store := List (Str × D)

def Hd (c : C) (h : Heap) (σ : Store) : Prop := (∃ m, Fr c.h0 c.env.locals h m ∧ ∀ x d, σ.lookup x = some d → ∃ v, m x = some v ∧ Rd h d v) ∧ c.K.P h ∧ c.env.locals ∉ c.K.fp

def Sub (σ σ' : Store) : Prop := ∀ x d, σ'.lookup x = some d → σ.lookup x = some d
theorem Sub.refl (σ : Store) : Sub σ σ := fun _ _ e => e
theorem Hd.sub {c : C} {h : Heap} {σ σ' : Store} (H : Hd c h σ) (s : Sub σ σ') : Hd c h σ' := by
  obtain ⟨⟨m, F, f⟩, K⟩ := H
  exact ⟨⟨m, F, fun x d e => f x d (s x d e)⟩, K⟩
theorem frKeep {h₀ h h' : Heap} {L : Addr} {m : Str → Option Value} (F : Fr h₀ L h m) (k : Keep h h') : Fr h₀ L h' m :=
  ⟨F.ns.keeps k, fun b o e => k b o (F.keep b o e), F.above⟩
theorem Hd.keep {c : C} {h h' : Heap} {σ : Store} (H : Hd c h σ) (k : Keep h h') : Hd c h' σ := by
  obtain ⟨⟨m, F, f⟩, K, n⟩ := H
  refine ⟨⟨m, frKeep F k, fun x d e => ?_⟩, c.K.frame K fun b _ o e => k b o e, n⟩
  obtain ⟨v, a, b⟩ := f x d e
  exact ⟨v, a, b.keep k⟩
theorem Hd.grd {c : C} {h : Heap} {σ : Store} {k : Nat} (H : Hd c h σ) (ok : c.Ok k) : c.G.At h := by
  obtain ⟨⟨m, F, _⟩, _⟩ := H
  exact c.G.keep F.keep ok.at0
theorem keepS_of_sameBut {h h' : Heap} {L : Addr} {m : Str → Option Value} (n : h.Ns L m) (s : Heap.SameBut L h h') : KeepS h h' := by
  intro b o xs k e hd
  by_cases hb : b = L
  · subst hb
    obtain ⟨o', es, ep, ho, hd', _⟩ := n
    rw [e] at ho; cases ho
    rw [hd] at hd'; cases hd'
  · exact (s.2 b hb).trans e

/-! trees that give data -/
def Gv (prog : Program) (w : World) (A : Around) (t : Sem Value) (d : D) (s : Shared) : Prop :=
  ∀ (Q : Value → Shared → Prop), (∀ v h' tk, Keep s.heap h' → Rd h' d v → Q v { s with heap := h', toks := tk }) → wpAny (model prog w) A t Q (fun _ _ => False) s
def Gb (prog : Program) (w : World) (A : Around) (t : Sem Bool) (b : Bool) (s : Shared) : Prop :=
  ∀ (Q : Bool → Shared → Prop), (∀ h' tk, Keep s.heap h' → Q b { s with heap := h', toks := tk }) → wpAny (model prog w) A t Q (fun _ _ => False) s

def Ev (c : C) (σ : Store) (e : Expr) (d : D) : Prop := ∀ s : Shared, Hd c s.heap σ → Gv c.prog c.w c.A (eval e c.env) d s
def Ts (c : C) (σ : Store) (e : Expr) (b : Bool) : Prop := ∀ s : Shared, Hd c s.heap σ → Gb c.prog c.w c.A (isTrue e c.env (eval e c.env)) b s
/-- the arguments of a call, a display -/
def Es (c : C) (σ : Store) (pos : Pos) (es : List Expr) (ds : List D) : Prop := ∀ s : Shared, Hd c s.heap σ → ∀ (Q : List Value → Shared → Prop),
  (∀ vs h' tk, Keep s.heap h' → RdAll h' ds vs → Q vs { s with heap := h', toks := tk }) → wpAny (model c.prog c.w) c.A (spliced (backTo pos (starEach es c.env))) Q (fun _ _ => False) s

def Ex (c : C) (σ : Store) (body : List Stmt) (N : Store → Prop) (Rt : D → Prop) : Prop := ∀ s : Shared, Hd c s.heap σ → ∀ (Q : Flow → Shared → Prop),
  (∀ σ' h' tk, N σ' → KeepB c.env.locals s.heap h' → Hd c h' σ' → Q .next { s with heap := h', toks := tk }) →
  (∀ d v h' tk, Rt d → KeepB c.env.locals s.heap h' → Rd h' d v → Q (.ret v) { s with heap := h', toks := tk }) →
  wpAny (model c.prog c.w) c.A (execs body c.env) Q (fun _ _ => False) s
def Ex1 (c : C) (σ : Store) (st : Stmt) (N : Store → Prop) (Rt : D → Prop) : Prop := ∀ s : Shared, Hd c s.heap σ → ∀ (Q : Flow → Shared → Prop),
  (∀ σ' h' tk, N σ' → KeepB c.env.locals s.heap h' → Hd c h' σ' → Q .next { s with heap := h', toks := tk }) →
  (∀ d v h' tk, Rt d → KeepB c.env.locals s.heap h' → Rd h' d v → Q (.ret v) { s with heap := h', toks := tk }) →
  wpAny (model c.prog c.w) c.A (exec st c.env) Q (fun _ _ => False) s

section
variable {c : C} {σ : Store}

theorem Gv.then {prog : Program} {w : World} {A : Around} {t : Sem Value} {d : D} {s : Shared} (h : Gv prog w A t d s) {Q : Value → Shared → Prop} {E : Value → Shared → Prop}
    (k : ∀ v h' tk, Keep s.heap h' → Rd h' d v → Q v { s with heap := h', toks := tk }) : wpAny (model prog w) A t Q E s :=
  wpAny_mono (h Q k) (fun _ _ x => x) fun _ _ x => x.elim
theorem Gv.now {prog : Program} {w : World} {A : Around} {t : Sem Value} {d : D} {s : Shared} (h : ∀ Q, (∀ v tk, Rd s.heap d v → Q v { s with toks := tk }) → wpAny (model prog w) A t Q (fun _ _ => False) s) : Gv prog w A t d s :=
  fun Q k => h Q fun v tk r => k v s.heap tk (Keep.refl _) r

/-! statements -/
theorem Ex.nil {N : Store → Prop} {Rt : D → Prop} (h : N σ) : Ex c σ [] N Rt := fun s H Q n _ => wpAny_execs_nil (n σ s.heap s.toks h (KeepB.of_keep (Keep.refl _)) H)
theorem Ex.cons {st : Stmt} {rest : List Stmt} {N : Store → Prop} {Rt : D → Prop} (h : Ex1 c σ st (fun σ' => Ex c σ' rest N Rt) Rt) : Ex c σ (st :: rest) N Rt := fun s H Q n r =>
  wpAny_execs_cons (h s H _ (fun σ' h' tk ex k H' => ex _ H' Q (fun σ'' h'' tk' a b e => n σ'' h'' tk' a (k.trans b) e) fun d v h'' tk' a b e => r d v h'' tk' a (k.trans b) e)
    fun d v h' tk a b e => r d v h' tk a b e)
theorem Ex1.mono {st : Stmt} {N N' : Store → Prop} {Rt Rt' : D → Prop} (h : Ex1 c σ st N Rt) (hn : ∀ σ, N σ → N' σ) (hr : ∀ d, Rt d → Rt' d) : Ex1 c σ st N' Rt' := fun s H Q n r =>
  h s H Q (fun σ' h' tk a b e => n σ' h' tk (hn _ a) b e) fun d v h' tk a b e => r d v h' tk (hr _ a) b e
theorem Ex.mono {body : List Stmt} {N N' : Store → Prop} {Rt Rt' : D → Prop} (h : Ex c σ body N Rt) (hn : ∀ σ, N σ → N' σ) (hr : ∀ d, Rt d → Rt' d) : Ex c σ body N' Rt' := fun s H Q n r =>
  h s H Q (fun σ' h' tk a b e => n σ' h' tk (hn _ a) b e) fun d v h' tk a b e => r d v h' tk (hr _ a) b e
theorem Ex.sub {body : List Stmt} {N : Store → Prop} {Rt : D → Prop} {σ' : Store} (h : Ex c σ' body N Rt) (s : Sub σ σ') : Ex c σ body N Rt := fun st H Q n r => h st (H.sub s) Q n r

theorem Ex1.ret {e : Expr} {pos : Pos} {d : D} {N : Store → Prop} {Rt : D → Prop} (h : Ev c σ e d) (hr : Rt d) : Ex1 c σ (.Return (some e) pos) N Rt := fun s H Q _ r =>
  wpAny_Return_some ((h s H).then fun v h' tk k rd => r d v h' tk hr (KeepB.of_keep k) rd)
theorem Ex1.if {test : Expr} {body orelse : List Stmt} {pos : Pos} {b : Bool} {N : Store → Prop} {Rt : D → Prop} (ht : Ts c σ test b) (h1 : b = true → Ex c σ body N Rt) (h2 : b = false → Ex c σ orelse N Rt) :
    Ex1 c σ (.If test body orelse pos) N Rt := fun s H Q n r => by
  refine wpAny_If (ht s H _ fun h' tk k => ?_)
  cases b with
  | true => exact h1 rfl _ (H.keep k) Q (fun σ' h'' tk' a b' e => n σ' h'' tk' a ((KeepB.of_keep k).trans b') e) fun d v h'' tk' a b' e => r d v h'' tk' a ((KeepB.of_keep k).trans b') e
  | false => exact h2 rfl _ (H.keep k) Q (fun σ' h'' tk' a b' e => n σ' h'' tk' a ((KeepB.of_keep k).trans b') e) fun d v h'' tk' a b' e => r d v h'' tk' a ((KeepB.of_keep k).trans b') e

theorem kindOk {c : C} (hk : c.env.scope.kind = .function) : (c.env.scope.kind == .class || (c.env.scope.kind == .module && c.env.locals != c.env.globals)) = false := by
  rw [hk]; rfl

/-- a name of the frame is stored -/
theorem store {s : Shared} {x : Str} {d : D} {v : Value} {Q : Unit → Shared → Prop} {E : Value → Shared → Prop} (hk : c.env.scope.kind = .function) (hx : c.env.kindOf x = some .local) (H : Hd c s.heap σ) (rd : Rd s.heap d v)
    (q : ∀ h' tk, KeepB c.env.locals s.heap h' → KeepS s.heap h' → Hd c h' ((x, d) :: σ) → Q () { s with heap := h', toks := tk }) : wpAny (model c.prog c.w) c.A (storeName c.env x v) Q E s := by
  obtain ⟨⟨m, F, f⟩, K, nL⟩ := H
  refine wpAny_storeName_local hx F.ns (fun h' hn hs => ?_) (kindOk hk)
  have kS : KeepS s.heap h' := keepS_of_sameBut F.ns hs
  refine q h' (s.toks + 1) (fun b o n e => (hs.2 b n).trans e) kS ⟨⟨_, F.set hn hs, fun y d' e => ?_⟩, c.K.frame K fun b hb o e => (hs.2 b fun q => nL (q ▸ hb)).trans e, nL⟩
  rw [List.lookup_cons] at e
  by_cases hy : y = x
  · subst hy
    simp at e; subst e
    exact ⟨v, by simp, Rd.mono kS _ _ rd⟩
  · have hb : (y == x) = false := by simpa using hy
    rw [hb] at e
    obtain ⟨u, a, b⟩ := f y d' e
    exact ⟨u, by simp [hy, a], Rd.mono kS _ _ b⟩

theorem Ex1.assign {x : Str} {px pos : Pos} {e : Expr} {d : D} {N : Store → Prop} {Rt : D → Prop} (hk : c.env.scope.kind = .function) (hx : c.env.kindOf x = some .local) (h : Ev c σ e d)
    (hs : swapsWith e (some (.Name x px)) pos.line c.env = pure false) (hn : N ((x, d) :: σ)) : Ex1 c σ (.Assign [.Name x px] e pos) N Rt := fun s H Q n _ =>
  wpAny_Assign_Name (hs := hs) ((h s H).then fun v h' tk k rd => store (s := { s with heap := h', toks := tk }) hk hx (H.keep k) rd fun h'' tk' kb _ H' =>
    n _ h'' tk' hn ((KeepB.of_keep k).trans kb) H')

/-! names and constants -/
theorem Ev.name {x : Str} {pos : Pos} {d : D} (hk : c.env.scope.kind = .function) (hl : c.env.kindOf x = some .local) (e : σ.lookup x = some d) (hd : (x == ("__debug__" : Str)) = false) : Ev c σ (.Name x pos) d := fun s H Q k => by
  obtain ⟨⟨m, F, f⟩, _⟩ := H
  obtain ⟨v, hv, rd⟩ := f x d e
  exact wpAny_Name (wpAny_loadName_local hk hl F.ns hv (k v s.heap s.toks (Keep.refl _) rd)) hd
theorem Ev.glob {x : Str} {pos : Pos} {v : Value} {k : Nat} (ok : c.Ok k) (hl : c.env.kindOf x = some .globalImplicit) (e : c.G.mg x = some v) (hd : (x == ("__debug__" : Str)) = false) : Ev c σ (.Name x pos) (.val v) := fun s H Q q =>
  Calls.Name_function_global ok.kind hl (Calls.loadGlobal_global (by rw [ok.glob]; exact c.G.g (H.grd ok)) e (q v s.heap s.toks (Keep.refl _) (rd_val.mpr rfl))) hd
theorem Ev.blt {x : Str} {pos : Pos} {v : Value} {k : Nat} (ok : c.Ok k) (hl : c.env.kindOf x = some .globalImplicit) (e : c.G.mg x = none) (e' : c.G.mb x = some v) (hd : (x == ("__debug__" : Str)) = false) : Ev c σ (.Name x pos) (.val v) := fun s H Q q =>
  Calls.Name_function_global ok.kind hl (Calls.loadGlobal_builtin (by rw [ok.glob]; exact c.G.g (H.grd ok)) e (by rw [ok.blt]; exact c.G.b (H.grd ok)) e' (q v s.heap s.toks (Keep.refl _) (rd_val.mpr rfl))) hd
theorem Ev.cint {i : Int} {k : Nat} {pos : Pos} : Ev c σ (.Constant (.int i) k pos) (.int i) := fun s _ _ q => wpAny_Constant_int (q _ s.heap _ (Keep.refl _) (rd_int.mpr ⟨_, rfl⟩))
theorem Ev.cstr {x : Str} {k : Nat} {pos : Pos} : Ev c σ (.Constant (.str x) k pos) (.str x) := fun s _ _ q => Calls.Constant_str (q _ s.heap _ (Keep.refl _) (rd_str.mpr ⟨_, rfl⟩))
theorem Ev.cnone {k : Nat} {pos : Pos} : Ev c σ (.Constant .none k pos) .none := fun s _ _ q => wpAny_Constant_none (q _ s.heap s.toks (Keep.refl _) (rd_none.mpr rfl))
theorem Ev.cbool {b : Bool} {k : Nat} {pos : Pos} : Ev c σ (.Constant (.bool b) k pos) (.bool b) := fun s _ _ q => wpAny_Constant_bool (q _ s.heap s.toks (Keep.refl _) (rd_bool.mpr rfl))

/-! expressions put together -/
def Bin (c : C) (op : Operator) (d1 d2 d : D) : Prop := ∀ (s : Shared) v1 v2, Rd s.heap d1 v1 → Rd s.heap d2 v2 → Gv c.prog c.w c.A (binaryOp op v1 v2) d s
theorem Ev.bin {a b : Expr} {op : Operator} {pos : Pos} {d1 d2 d : D} (h1 : Ev c σ a d1) (h2 : Ev c σ b d2) (h : Bin c op d1 d2 d) : Ev c σ (.BinOp a op b pos) d := fun s H Q q =>
  wpAny_BinOp ((h1 s H).then fun v1 h' tk k r1 => (h2 _ (H.keep k)).then fun v2 h'' tk' k' r2 => (h _ v1 v2 (r1.keep k') r2).then fun v h3 tk3 k3 r => q v h3 tk3 ((k.trans k').trans k3) r)
def Cmp (c : C) (op : CmpOp) (d1 d2 : D) (b : Bool) : Prop := ∀ (s : Shared) v1 v2, Rd s.heap d1 v1 → Rd s.heap d2 v2 → Gv c.prog c.w c.A (compareOp op v1 v2) (.bool b) s
theorem Ev.cmp {l r : Expr} {op : CmpOp} {pos : Pos} {d1 d2 : D} {b : Bool} (h1 : Ev c σ l d1) (h2 : Ev c σ r d2) (h : Cmp c op d1 d2 b) (hm : behindInMarks op r = false) : Ev c σ (.Compare l [op] [r] pos) (.bool b) := fun s H Q q =>
  wpAny_Compare1 ((h1 s H).then fun v1 h' tk k r1 => (h2 _ (H.keep k)).then fun v2 h'' tk' k' r2 => (h _ v1 v2 (r1.keep k') r2).then fun v h3 tk3 k3 r => q v h3 tk3 ((k.trans k').trans k3) r) hm
theorem Ts.cmp {l r : Expr} {op : CmpOp} {pos : Pos} {d1 d2 : D} {b : Bool} (h1 : Ev c σ l d1) (h2 : Ev c σ r d2) (h : Cmp c op d1 d2 b) (hm : behindInMarks op r = false) : Ts c σ (.Compare l [op] [r] pos) b := fun s H Q q =>
  wpAny_isTrue_Compare1 ((h1 s H).then fun v1 h' tk k r1 => (h2 _ (H.keep k)).then fun v2 h'' tk' k' r2 => (h _ v1 v2 (r1.keep k') r2).then fun v h3 tk3 k3 r => by
    rw [rd_bool] at r; subst r
    exact wpAny_truthy_bool (q h3 tk3 ((k.trans k').trans k3))) hm
def Tru (c : C) (d : D) (b : Bool) : Prop := ∀ (s : Shared) v, Rd s.heap d v → Gb c.prog c.w c.A (truthy v) b s
theorem Gb.then {prog : Program} {w : World} {A : Around} {t : Sem Bool} {b : Bool} {s : Shared} (h : Gb prog w A t b s) {Q : Bool → Shared → Prop} {E : Value → Shared → Prop}
    (k : ∀ h' tk, Keep s.heap h' → Q b { s with heap := h', toks := tk }) : wpAny (model prog w) A t Q E s := wpAny_mono (h Q k) (fun _ _ x => x) fun _ _ x => x.elim
/-- the truth of a plain expression -/
theorem Ts.of {e : Expr} {d : D} {b : Bool} (h : Ev c σ e d) (t : Tru c d b) (he : isTrue e c.env (eval e c.env) = (do let v ← eval e c.env; standAt e.pos; holding [v] (truthy v))) : Ts c σ e b := fun s H Q q =>
  isTrue_plain ((h s H).then fun v h' tk k r => (t _ v r).then fun h'' tk' k' => q h'' tk' (k.trans k')) he
theorem Ts.not {e : Expr} {pos : Pos} {b : Bool} (h : Ts c σ e b) : Ts c σ (.UnaryOp .Not e pos) (!b) := fun s H Q q => isTrue_not ((h s H).then fun h' tk k => q h' tk k)
theorem Ts.and {x : Expr} {rest : List Expr} {pos : Pos} {b b' : Bool} (h : Ts c σ x b) (h' : b = true → Ts c σ (.BoolOp .And rest pos) b') : Ts c σ (.BoolOp .And (x :: rest) pos) (b && b') := fun s H Q q =>
  isTrue_and ((h s H).then fun h1 tk k => by
    cases b with
    | true => rw [if_pos rfl]; exact (h' rfl _ (H.keep k)).then fun h2 tk2 k2 => q h2 tk2 (k.trans k2)
    | false => rw [if_neg (by decide)]; exact q h1 tk k)
theorem Ts.and0 {pos : Pos} : Ts c σ (.BoolOp .And [] pos) true := fun s _ Q q => isTrue_and_nil (q s.heap s.toks (Keep.refl _))
theorem Ts.or0 {pos : Pos} : Ts c σ (.BoolOp .Or [] pos) false := fun s _ Q q => isTrue_or_nil (q s.heap s.toks (Keep.refl _))
theorem Ts.or {x : Expr} {rest : List Expr} {pos : Pos} {b b' : Bool} (h : Ts c σ x b) (h' : b = false → Ts c σ (.BoolOp .Or rest pos) b') : Ts c σ (.BoolOp .Or (x :: rest) pos) (b || b') := fun s H Q q =>
  isTrue_or ((h s H).then fun h1 tk k => by
    cases b with
    | false => rw [if_neg (by decide)]; exact (h' rfl _ (H.keep k)).then fun h2 tk2 k2 => q h2 tk2 (k.trans k2)
    | true => rw [if_pos rfl]; exact q h1 tk k)
theorem Ev.ifexp {t x y : Expr} {pos : Pos} {b : Bool} {d : D} (ht : Ts c σ t b) (h1 : b = true → Ev c σ x d) (h2 : b = false → Ev c σ y d) : Ev c σ (.IfExp t x y pos) d := fun s H Q q =>
  wpAny_IfExp ((ht s H).then fun h' tk k => by
    cases b with
    | true => rw [if_pos rfl]; exact (h1 rfl _ (H.keep k)).then fun v h2 tk2 k2 r => q v h2 tk2 (k.trans k2) r
    | false => rw [if_neg (by decide)]; exact (h2 rfl _ (H.keep k)).then fun v h2 tk2 k2 r => q v h2 tk2 (k.trans k2) r)
def Un (c : C) (op : UnaryOp) (d1 d : D) : Prop := ∀ (s : Shared) v1, Rd s.heap d1 v1 → Gv c.prog c.w c.A (unaryOp op v1) d s
theorem Ev.un {a : Expr} {op : UnaryOp} {pos : Pos} {d1 d : D} (h1 : Ev c σ a d1) (h : Un c op d1 d) : Ev c σ (.UnaryOp op a pos) d := fun s H Q q =>
  wpAny_UnaryOp ((h1 s H).then fun v1 h' tk k r1 => (h _ v1 r1).then fun v h3 tk3 k3 r => q v h3 tk3 (k.trans k3) r)

theorem Es.nil {pos : Pos} : Es c σ pos [] [] := fun s _ Q q => spliced_none (q [] s.heap s.toks (Keep.refl _) (rdAll_nil.mpr rfl))
theorem Es.cons {pos : Pos} {e : Expr} {es : List Expr} {d : D} {ds : List D} (h : Ev c σ e d) (h' : Es c σ pos es ds) (he : starEach (e :: es) c.env = (false, eval e c.env) :: starEach es c.env) : Es c σ pos (e :: es) (d :: ds) := fun s H Q q =>
  spliced_more ((h s H).then fun v h1 tk k r => wpAny_mono (h' _ (H.keep k) _ fun vs h2 tk2 k2 rs => q (v :: vs) h2 tk2 (k.trans k2) (rdAll_cons.mpr ⟨v, vs, rfl, r.keep k2, rs⟩)) (fun _ _ x => x) fun _ _ x => x.elim) he
theorem keep_push (h : Heap) (o : Obj) : Keep h (h.push o) := fun _ _ e => Heap.get?_push_of_some o e
theorem Ev.tup {es : List Expr} {k : Nat} {pos : Pos} {ds : List D} (h : Es c σ pos es ds) (hsz : ds.length ≤ sizeLine) : Ev c σ (.Tuple es k pos) (.tup ds) := fun s H Q q =>
  Tuple_ (h s H _ fun vs h1 tk k rs => by
    have hl : vs.length ≤ sizeLine := by rw [rs.length]; exact hsz
    refine wpAny_newObj_type ?_ (by show vs.toArray.size ≤ sizeLine; rw [List.size_toArray]; exact hl)
    exact q _ _ tk (k.trans (keep_push _ _)) (rd_tup.mpr ⟨_, vs, rfl, ⟨_, Heap.get?_push_size _ rfl, rfl, _, rfl⟩, rs.keep (keep_push _ _)⟩))
theorem Ev.list {es : List Expr} {pos : Pos} {ds : List D} (h : Es c σ pos es ds) (hsz : ds.length ≤ sizeLine) : Ev c σ (.List es pos) (.list ds) := fun s H Q q =>
  List_ (h s H _ fun vs h1 tk k rs => by
    have hl : vs.length ≤ sizeLine := by rw [rs.length]; exact hsz
    refine wpAny_newObj_type ?_ (by show vs.toArray.size ≤ sizeLine; rw [List.size_toArray]; exact hl)
    exact q _ _ tk (k.trans (keep_push _ _)) (rd_list.mpr ⟨_, vs, rfl, ⟨_, Heap.get?_push_size _ rfl, rfl, _, rfl⟩, rs.keep (keep_push _ _)⟩))
end
end Mine

namespace Mine

section
variable {c : C} {σ : Store}

/-! operators -/
theorem gv_pure {prog : Program} {w : World} {A : Around} {t : Sem Value} {d : D} {s : Shared}
    (h : ∀ (Q : Value → Shared → Prop), (∀ v tk, Rd s.heap d v → Q v { s with toks := tk }) → wpAny (model prog w) A t Q (fun _ _ => False) s) : Gv prog w A t d s :=
  fun Q k => h Q fun v tk r => k v s.heap tk (Keep.refl _) r

theorem Bin.add_int {a b : Int} : Bin c .Add (.int a) (.int b) (.int (a + b)) := fun s v1 v2 r1 r2 => by
  obtain ⟨t, rfl⟩ := rd_int.mp r1
  obtain ⟨u, rfl⟩ := rd_int.mp r2
  exact gv_pure fun Q k => PySem.P.add_int (k _ _ (rd_int.mpr ⟨_, rfl⟩))
theorem Bin.sub_int {a b : Int} : Bin c .Sub (.int a) (.int b) (.int (a - b)) := fun s v1 v2 r1 r2 => by
  obtain ⟨t, rfl⟩ := rd_int.mp r1
  obtain ⟨u, rfl⟩ := rd_int.mp r2
  exact gv_pure fun Q k => PySem.P.sub_int (k _ _ (rd_int.mpr ⟨_, rfl⟩))
theorem Bin.mul_int {a b : Int} (hm : IntMulOk a b) : Bin c .Mult (.int a) (.int b) (.int (a * b)) := fun s v1 v2 r1 r2 => by
  obtain ⟨t, rfl⟩ := rd_int.mp r1
  obtain ⟨u, rfl⟩ := rd_int.mp r2
  exact gv_pure fun Q k => PySem.P.mul_int (k _ _ (rd_int.mpr ⟨_, rfl⟩)) hm
theorem Bin.mod_int {a b : Int} (hb : b ≠ 0) : Bin c .Mod (.int a) (.int b) (.int (a.fmod b)) := fun s v1 v2 r1 r2 => by
  obtain ⟨t, rfl⟩ := rd_int.mp r1
  obtain ⟨u, rfl⟩ := rd_int.mp r2
  exact gv_pure fun Q k => mod_int' hb (k _ _ (rd_int.mpr ⟨_, rfl⟩))
theorem Bin.div_int {a b : Int} (hb : b ≠ 0) (hp : Builtin.divisionGoesByPylong a b = false) : Bin c .FloorDiv (.int a) (.int b) (.int (a.fdiv b)) := fun s v1 v2 r1 r2 => by
  obtain ⟨t, rfl⟩ := rd_int.mp r1
  obtain ⟨u, rfl⟩ := rd_int.mp r2
  exact gv_pure fun Q k => floordiv_int hb (k _ _ (rd_int.mpr ⟨_, rfl⟩)) (.inl hp)

theorem str_of_len0 {x : Str} (h : (x.length == 0) = true) : x = Str.empty := by
  have h0 : x.cps.size = 0 := by simpa [Str.length] using h
  exact Str.ext' (by rw [Array.size_eq_zero_iff.mp h0]; rfl)
theorem post_add {x y : Str} {t u : Tok} {s : Shared} {Q : Value → Shared → Prop} (hsz : x.length + y.length ≤ sizeLine) (k : ∀ v tk, Rd s.heap (.str (x ++ y)) v → Q v { s with toks := tk }) :
    (if x.length == 0 then Made.val (.str y u) else if y.length == 0 then Made.val (.str x t) else Made.str (x ++ y)).post Q s := by
  by_cases h1 : (x.length == 0) = true
  · rw [if_pos h1]
    have e : x ++ y = y := by rw [str_of_len0 h1]; exact Str.empty_append y
    rw [e] at k
    exact k _ s.toks (rd_str.mpr ⟨u, rfl⟩)
  · rw [if_neg h1]
    by_cases h2 : (y.length == 0) = true
    · rw [if_pos h2]
      have e : x ++ y = x := by rw [str_of_len0 h2]; exact Str.append_empty x
      rw [e] at k
      exact k _ s.toks (rd_str.mpr ⟨t, rfl⟩)
    · rw [if_neg h2]
      exact ⟨by rw [Str.length_append]; exact hsz, k _ (s.toks + 1) (rd_str.mpr ⟨s.toks, rfl⟩)⟩
theorem Bin.add_str {x y : Str} (hsz : x.length + y.length ≤ sizeLine) : Bin c .Add (.str x) (.str y) (.str (x ++ y)) := fun s v1 v2 r1 r2 => by
  obtain ⟨t, rfl⟩ := rd_str.mp r1
  obtain ⟨u, rfl⟩ := rd_str.mp r2
  exact gv_pure fun Q k => PySem.P.add_str (post_add hsz k)
theorem Bin.add_list {ds es : List D} (hsz : ds.length + es.length ≤ sizeLine) : Bin c .Add (.list ds) (.list es) (.list (ds ++ es)) := fun s v1 v2 r1 r2 Q k => by
  obtain ⟨l, vs, rfl, hl, rs⟩ := rd_list.mp r1
  obtain ⟨b, ws, rfl, hb, rs'⟩ := rd_list.mp r2
  have l1 := rs.length
  have l2 := rs'.length
  obtain ⟨⟨cls, dd, data, sl⟩, ho, hc, n, hd⟩ := id hl
  obtain ⟨⟨cls2, dd2, data2, sl2⟩, ho2, hc2, n2, hd2⟩ := id hb
  simp only at hc hd hc2 hd2
  subst hc hd hc2 hd2
  have e : vs.toArray ++ ws.toArray = (vs ++ ws).toArray := by simp
  refine concat_meets ⟨_, ho, rfl⟩ ⟨_, ho2, rfl⟩ noFill_list_add seq_list_add PySem.F.slot_list_add PySem.F.entry_list_add (PySem.F.args_list_add_2 _ _) (list_addW l b vs.toArray ws.toArray n n2 dd dd2 sl sl2 (by simp; omega)) ⟨ho, ho2, ?_⟩
  rw [e]
  exact k _ _ s.toks (keep_push _ _) (rd_list.mpr ⟨_, _, rfl, ⟨_, Heap.get?_push_size _ rfl, rfl, _, rfl⟩, (rs.append rs').keep (keep_push _ _)⟩)

def Inp (c : C) (op : Operator) (d1 d2 d : D) : Prop := ∀ (s : Shared) v1 v2, Rd s.heap d1 v1 → Rd s.heap d2 v2 → Gv c.prog c.w c.A (inplaceOp op v1 v2) d s
theorem Inp.add_str {x y : Str} (hsz : x.length + y.length ≤ sizeLine) : Inp c .Add (.str x) (.str y) (.str (x ++ y)) := fun s v1 v2 r1 r2 => by
  obtain ⟨t, rfl⟩ := rd_str.mp r1
  obtain ⟨u, rfl⟩ := rd_str.mp r2
  exact gv_pure fun Q k => PySem.P.iadd_str (post_add hsz k)
theorem Inp.sub_int {a b : Int} : Inp c .Sub (.int a) (.int b) (.int (a - b)) := fun s v1 v2 r1 r2 => by
  obtain ⟨t, rfl⟩ := rd_int.mp r1
  obtain ⟨u, rfl⟩ := rd_int.mp r2
  exact gv_pure fun Q k => PySem.P.isub_int (k _ _ (rd_int.mpr ⟨_, rfl⟩))
theorem Ex1.aug {x : Str} {px pos : Pos} {op : Operator} {e : Expr} {d0 d1 d : D} {N : Store → Prop} {Rt : D → Prop} (hk : c.env.scope.kind = .function) (hx : c.env.kindOf x = some .local)
    (h0 : σ.lookup x = some d0) (h : Ev c σ e d1) (op' : Inp c op d0 d1 d) (hn : N ((x, d) :: σ)) : Ex1 c σ (.AugAssign (.Name x px) op e pos) N Rt := fun s H Q n _ => by
  obtain ⟨⟨m, F, f⟩, _⟩ := id H
  obtain ⟨v, hv, rd⟩ := f x d0 h0
  refine wpAny_AugAssign_Name (wpAny_loadName_local hk hx F.ns hv ((h s H).then fun v1 h1 tk k r1 => (op' _ v v1 (rd.keep k) r1).then fun v2 h2 tk2 k2 r2 => ?_))
  exact store (s := { s with heap := h2, toks := tk2 }) hk hx (H.keep (k.trans k2)) r2 fun h3 tk3 kb _ H' => n _ h3 tk3 hn ((KeepB.of_keep (k.trans k2)).trans kb) H'

theorem Un.neg_int {a : Int} : Un c .USub (.int a) (.int (-a)) := fun s v1 r1 => by
  obtain ⟨t, rfl⟩ := rd_int.mp r1
  exact gv_pure fun Q k => PySem.P.neg_int (k _ _ (rd_int.mpr ⟨_, rfl⟩))

/-! comparisons -/
mutual
def toPy : D → PyData
  | .none => .none
  | .bool b => .bool b
  | .int i => .int i
  | .str x => .str x
  | .list ds => .list (toPys ds)
  | .tup ds => .tuple (toPys ds)
  | .val _ => .none
def toPys : List D → List PyData
  | [] => []
  | d :: ds => toPy d :: toPys ds
end
mutual
/-- data without opaque values whose texts are made of code points -/
def Pln : D → Bool
  | .none => true
  | .bool _ => true
  | .int _ => true
  | .str x => x.cps.all (· < 0x110000)
  | .list ds => Plns ds
  | .tup ds => Plns ds
  | .val _ => false
def Plns : List D → Bool
  | [] => true
  | d :: ds => Pln d && Plns ds
end
mutual
theorem pln_lay : ∀ d : D, Pln d = true → (toPy d).canLay0 = true
  | .none, _ => rfl
  | .bool _, _ => rfl
  | .int _, _ => rfl
  | .str x, h => by rw [Pln] at h; exact h
  | .list ds, h => by rw [Pln] at h; exact plns_lay ds h
  | .tup ds, h => by rw [Pln] at h; exact plns_lay ds h
  | .val _, h => by rw [Pln] at h; cases h
theorem plns_lay : ∀ ds : List D, Plns ds = true → PyData.canLayAll0 (toPys ds) = true
  | [], _ => rfl
  | d :: ds, h => by
    rw [Plns, Bool.and_eq_true] at h
    rw [toPys, PyData.canLayAll0, pln_lay d h.1, plns_lay ds h.2]; rfl
end
mutual
theorem rd_reads {h : Heap} : ∀ (d : D) (v : Value), Pln d = true → Rd h d v → ∃ as, Reads h v (toPy d) as
  | .none, v, _, r => by rw [rd_none] at r; subst r; exact ⟨[], .none⟩
  | .bool b, v, _, r => by rw [rd_bool] at r; subst r; exact ⟨[], .bool b⟩
  | .int i, v, _, r => by obtain ⟨t, rfl⟩ := rd_int.mp r; exact ⟨[], .int i t⟩
  | .str x, v, _, r => by obtain ⟨t, rfl⟩ := rd_str.mp r; exact ⟨[], .str x t⟩
  | .list ds, v, p, r => by
    obtain ⟨a, vs, rfl, ⟨o, ho, hc, n, hd⟩, rs⟩ := rd_list.mp r
    rw [Pln] at p
    obtain ⟨as, ra⟩ := rdAll_reads ds vs p rs
    exact ⟨a :: as, .list ho hc hd (by simpa using ra)⟩
  | .tup ds, v, p, r => by
    obtain ⟨a, vs, rfl, ⟨o, ho, hc, n, hd⟩, rs⟩ := rd_tup.mp r
    rw [Pln] at p
    obtain ⟨as, ra⟩ := rdAll_reads ds vs p rs
    exact ⟨as, .tuple ho hc hd (by simpa using ra)⟩
  | .val _, _, p, _ => by rw [Pln] at p; cases p
theorem rdAll_reads {h : Heap} : ∀ (ds : List D) (vs : List Value), Plns ds = true → RdAll h ds vs → ∃ as, ReadsAll h vs (toPys ds) as
  | [], vs, _, r => by rw [rdAll_nil] at r; subst r; exact ⟨[], .nil⟩
  | d :: ds, vs, p, r => by
    rw [Plns, Bool.and_eq_true] at p
    obtain ⟨v, r', rfl, x, y⟩ := rdAll_cons.mp r
    obtain ⟨as, ra⟩ := rd_reads d v p.1 x
    obtain ⟨bs, rb⟩ := rdAll_reads ds r' p.2 y
    exact ⟨as ++ bs, .cons ra rb⟩
end
mutual
def dep : D → Nat
  | .list ds => deps ds + 1
  | .tup ds => deps ds + 1
  | .none => 0
  | .bool _ => 0
  | .int _ => 0
  | .str _ => 0
  | .val _ => 0
def deps : List D → Nat
  | [] => 0
  | d :: ds => max (dep d) (deps ds)
end
mutual
theorem dep_le : ∀ d : D, (toPy d).depth ≤ dep d
  | .none => Nat.le_refl _
  | .bool _ => Nat.le_refl _
  | .int _ => Nat.le_refl _
  | .str _ => Nat.le_refl _
  | .val _ => Nat.zero_le _
  | .list ds => by rw [toPy, dep, PyData.depth]; have := deps_le ds; omega
  | .tup ds => by rw [toPy, dep, PyData.depth]; have := deps_le ds; omega
theorem deps_le : ∀ ds : List D, PyData.depthAll (toPys ds) ≤ deps ds
  | [] => Nat.le_refl _
  | d :: ds => by rw [toPys, deps, PyData.depthAll]; have := dep_le d; have := deps_le ds; omega
end
theorem Cmp.eq {d1 d2 : D} {k : Nat} (rm : Rm c.A k) (p1 : Pln d1 = true) (p2 : Pln d2 = true) (hd : dep d1 ≤ 64) : Cmp c .Eq d1 d2 (PyData.eqv (toPy d1) (toPy d2)) := fun s v1 v2 r1 r2 => by
  obtain ⟨as, ra⟩ := rd_reads d1 v1 p1 r1
  obtain ⟨bs, rb⟩ := rd_reads d2 v2 p2 r2
  have := dep_le d1
  have := rm.units
  exact gv_pure fun Q q => SeqAt.compareEq_reads ra rb (pln_lay _ p1) (pln_lay _ p2) (by show _ < 9900; omega) (q _ s.toks (rd_bool.mpr rfl))
theorem Cmp.ne {d1 d2 : D} {k : Nat} (rm : Rm c.A k) (p1 : Pln d1 = true) (p2 : Pln d2 = true) (hd : dep d1 ≤ 64) : Cmp c .NotEq d1 d2 (!PyData.eqv (toPy d1) (toPy d2)) := fun s v1 v2 r1 r2 => by
  obtain ⟨as, ra⟩ := rd_reads d1 v1 p1 r1
  obtain ⟨bs, rb⟩ := rd_reads d2 v2 p2 r2
  have := dep_le d1
  have := rm.units
  exact gv_pure fun Q q => SeqAt.compareNe_reads ra rb (pln_lay _ p1) (pln_lay _ p2) (by show _ < 9900; omega) (q _ s.toks (rd_bool.mpr rfl))
theorem eqv_same {d : D} (p : Pln d = true) : PyData.eqv (toPy d) (toPy d) = true := SeqAt.eqv_refl _ (pln_lay d p)
theorem Cmp.ne_same {d : D} {k : Nat} (rm : Rm c.A k) (p : Pln d = true) (hd : dep d ≤ 64) : Cmp c .NotEq d d false := by
  have h := Cmp.ne (c := c) rm p p hd
  rw [eqv_same p] at h
  exact h
theorem Cmp.eq_same {d : D} {k : Nat} (rm : Rm c.A k) (p : Pln d = true) (hd : dep d ≤ 64) : Cmp c .Eq d d true := by
  have h := Cmp.eq (c := c) rm p p hd
  rw [eqv_same p] at h
  exact h
theorem Cmp.eq_str {x y : Str} : Cmp c .Eq (.str x) (.str y) (decide (x = y)) := fun s v1 v2 r1 r2 => by
  obtain ⟨t, rfl⟩ := rd_str.mp r1
  obtain ⟨u, rfl⟩ := rd_str.mp r2
  refine gv_pure fun Q k => PySem.P.eq_str ?_
  have e : (x.cps.toList == y.cps.toList) = decide (x = y) := by
    rw [SeqAt.str_beq]
    by_cases h : x = y
    · simp [h]
    · simp [h]
  rw [e]
  exact k _ s.toks (rd_bool.mpr rfl)
theorem Cmp.ne_str {x y : Str} : Cmp c .NotEq (.str x) (.str y) (decide (x ≠ y)) := fun s v1 v2 r1 r2 => by
  obtain ⟨t, rfl⟩ := rd_str.mp r1
  obtain ⟨u, rfl⟩ := rd_str.mp r2
  refine gv_pure fun Q k => PySem.P.ne_str ?_
  have e : (x.cps.toList != y.cps.toList) = decide (x ≠ y) := by
    rw [bne, SeqAt.str_beq]
    by_cases h : x = y
    · simp [h]
    · simp [h]
  rw [e]
  exact k _ s.toks (rd_bool.mpr rfl)
theorem Cmp.eq_int {a b : Int} : Cmp c .Eq (.int a) (.int b) (decide (a = b)) := fun s v1 v2 r1 r2 => by
  obtain ⟨t, rfl⟩ := rd_int.mp r1
  obtain ⟨u, rfl⟩ := rd_int.mp r2
  exact gv_pure fun Q k => PySem.P.eq_int (k _ s.toks (rd_bool.mpr rfl))
theorem Cmp.ne_int {a b : Int} : Cmp c .NotEq (.int a) (.int b) (decide (a ≠ b)) := fun s v1 v2 r1 r2 => by
  obtain ⟨t, rfl⟩ := rd_int.mp r1
  obtain ⟨u, rfl⟩ := rd_int.mp r2
  refine gv_pure fun Q k => PySem.P.ne_int (k _ s.toks (rd_bool.mpr ?_))
  by_cases h : a = b <;> simp [h]
theorem Cmp.lt_int {a b : Int} : Cmp c .Lt (.int a) (.int b) (decide (a < b)) := fun s v1 v2 r1 r2 => by
  obtain ⟨t, rfl⟩ := rd_int.mp r1
  obtain ⟨u, rfl⟩ := rd_int.mp r2
  exact gv_pure fun Q k => PySem.P.lt_int (k _ s.toks (rd_bool.mpr rfl))
theorem Cmp.le_int {a b : Int} : Cmp c .LtE (.int a) (.int b) (decide (a ≤ b)) := fun s v1 v2 r1 r2 => by
  obtain ⟨t, rfl⟩ := rd_int.mp r1
  obtain ⟨u, rfl⟩ := rd_int.mp r2
  exact gv_pure fun Q k => PySem.P.le_int (k _ s.toks (rd_bool.mpr rfl))
theorem Cmp.ge_int {a b : Int} : Cmp c .GtE (.int a) (.int b) (decide (b ≤ a)) := fun s v1 v2 r1 r2 => by
  obtain ⟨t, rfl⟩ := rd_int.mp r1
  obtain ⟨u, rfl⟩ := rd_int.mp r2
  exact gv_pure fun Q k => PySem.P.ge_int (k _ s.toks (rd_bool.mpr rfl))
theorem Cmp.gt_int {a b : Int} : Cmp c .Gt (.int a) (.int b) (decide (b < a)) := fun s v1 v2 r1 r2 => by
  obtain ⟨t, rfl⟩ := rd_int.mp r1
  obtain ⟨u, rfl⟩ := rd_int.mp r2
  exact gv_pure fun Q k => PySem.P.gt_int (k _ s.toks (rd_bool.mpr rfl))
def has (x y : Str) : Bool := !(Builtin.Str.occurrences x y 0 x.length 1).isEmpty
theorem Cmp.in_str {x y : Str} : Cmp c .In (.str y) (.str x) (has x y) := fun s v1 v2 r1 r2 => by
  obtain ⟨t, rfl⟩ := rd_str.mp r1
  obtain ⟨u, rfl⟩ := rd_str.mp r2
  exact gv_pure fun Q k => PySem.P.in_str (k _ s.toks (rd_bool.mpr rfl))
theorem Cmp.notin_str {x y : Str} : Cmp c .NotIn (.str y) (.str x) (!has x y) := fun s v1 v2 r1 r2 => by
  obtain ⟨t, rfl⟩ := rd_str.mp r1
  obtain ⟨u, rfl⟩ := rd_str.mp r2
  exact gv_pure fun Q k => PySem.P.notIn_str (k _ s.toks (rd_bool.mpr rfl))

/-! truth -/
theorem Tru.bool {b : Bool} : Tru c (.bool b) b := fun s v r Q q => by
  rw [rd_bool] at r; subst r
  exact wpAny_truthy_bool (q s.heap s.toks (Keep.refl _))
theorem Tru.none : Tru c .none false := fun s v r Q q => by
  rw [rd_none] at r; subst r
  exact truthy_none (q s.heap s.toks (Keep.refl _))
theorem Tru.str {x : Str} (h : x.length < 2 ^ 63) : Tru c (.str x) (decide (x ≠ Str.empty)) := fun s v r Q q => by
  obtain ⟨t, rfl⟩ := rd_str.mp r
  have e : ((x.length : Int) != 0) = decide (x ≠ Str.empty) := by
    by_cases hx : x = Str.empty
    · subst hx; rfl
    · have hl : x.length ≠ 0 := fun h0 => hx (str_of_len0 (by simp [h0]))
      simp only [ne_eq, hx, not_false_eq_true, decide_true, bne_iff_ne]
      omega
  refine PySem.P.truthy_str (by omega) ?_
  rw [e]
  exact q s.heap _ (Keep.refl _)
end
end Mine

namespace Mine

/-! calls of the text's own defs -/
def FnAt (G : Grd) (f : Addr) (fd : FuncData) : Prop := ∀ h : Heap, G.At h → ∃ o, h.get? f = some o ∧ o.data = .func fd ∧ h.CodeRec fd.code fd.qualname
def Fsp (prog : Program) (w : World) (G : Grd) (k : Nat) (f : Value) (ds : List D) (d : D) : Prop :=
  ∀ (A : Around) (s : Shared) (vs : List Value), Rm A k → G.At s.heap → RdAll s.heap ds vs → Gv prog w A (call f vs) d s

section
variable {c : C} {σ : Store}
theorem Rm.mono {A : Around} {k j : Nat} (r : Rm A k) (h : j ≤ k) : Rm A j := ⟨r.handled, by have := r.depth; omega, by have := r.units; omega⟩
theorem Rm.deeper {A : Around} {k : Nat} {env : Env} (r : Rm A (k + 1)) : Rm (A.deeper env) k := ⟨r.handled, by have := r.depth; show A.depth + 1 + k ≤ 900; omega, by have := r.units; show A.units + 3 + 10 * k ≤ 9000; omega⟩

theorem Ev.call {func e : Expr} {es : List Expr} {pos : Pos} {f : Addr} {fd : FuncData} {ds : List D} {d : D} {k : Nat} (ok : c.Ok k) (hf : Ev c σ func (.val (.ref f))) (fa : FnAt c.G f fd) (ha : Es c σ pos (e :: es) ds)
    (sp : Fsp c.prog c.w c.G k (.ref f) ds d)
    (he : starEach (e :: es) c.env = (false, eval e c.env) :: starEach es c.env)
    (hc : eval (.Call func (e :: es) [] pos) c.env = (do PySem.callWith pos (← eval func c.env) [] (backTo pos (starEach (e :: es) c.env)) (backToKw pos (keywordEach [] c.env)))) : Ev c σ (.Call func (e :: es) [] pos) d := fun s H Q q => by
  refine Call_ ((hf s H).then fun v h' tk k' r => ?_) hc
  rw [rd_val] at r; subst r
  have H' := H.keep k'
  obtain ⟨o, ho, hdat, _⟩ := fa _ (H'.grd ok)
  refine callWith_def hdat (ha { s with heap := h', toks := tk } H' _ fun vs h2 tk2 k2 rs => ⟨k2 _ _ ho, ?_⟩) he
  exact sp c.A _ vs ok.rm ((H'.keep k2).grd ok) rs Q fun v h3 tk3 k3 r3 => q v h3 tk3 ((k'.trans k2).trans k3) r3

/-- a def's contract from its body -/
theorem Fsp.of {prog : Program} {w : World} {G : Grd} {k : Nat} {f : Addr} {fd : FuncData} {body : List Stmt} {ds : List D} {d : D} {σ₀ : Store} (fa : FnAt G f fd) (hb : fd.body = .stmts body)
    (hcell : ∀ x ∈ fd.scope.names, x.2 ≠ .cell) (hco : fd.scope.isCoroutine = false) (hgen : fd.scope.isGenerator = false) (hk : fd.scope.kind = .function) (hg : fd.globals = mainGlobals) (hbu : fd.builtins = builtinsNs)
    (bind : ∀ (s : Shared) vs, G.At s.heap → RdAll s.heap ds vs → ∃ binds, BindsTo s fd ⟨vs, []⟩ binds ∧ (∀ x ∈ binds, fd.scope.names.lookup x.1 = some .local) ∧ ∀ x d', σ₀.lookup x = some d' → ∃ v, binds.reverse.lookup x = some v ∧ Rd s.heap d' v)
    (run : ∀ (A : Around) (L : Addr) (h0 : Heap), Rm A k → G.At h0 → Ex ⟨prog, w, G, A, callEnv fd L f, h0, Kf.none⟩ σ₀ body (fun _ => d = .none) (fun d' => d' = d)) : Fsp prog w G (k + 1) (.ref f) ds d := fun A s vs rm g rs Q q => by
  obtain ⟨binds, hbind, hloc, hst⟩ := bind s vs g rs
  obtain ⟨o, ho, hdat, hcr⟩ := fa _ g
  refine wpAny_call (codeAny_call_def (by have := rm.depth; show A.depth < 1000; omega) ho hdat (G.lim g) hcr hb hbind hcell hloc (fun h₁ hns hkp => ?_) hco hgen hk)
  have hL : (callEnv fd s.heap.objs.size f).locals = s.heap.objs.size := rfl
  have F : Fr s.heap s.heap.objs.size h₁ (fun x => binds.reverse.lookup x) := ⟨hns, hkp, Nat.le_refl _⟩
  have H : Hd ⟨prog, w, G, A.deeper (callEnv fd s.heap.objs.size f), callEnv fd s.heap.objs.size f, s.heap, Kf.none⟩ h₁ σ₀ := ⟨⟨_, F, fun x d' e => by
    obtain ⟨v, a, b⟩ := hst x d' e
    exact ⟨v, a, b.keep hkp⟩⟩, trivial, fun hb => nomatch hb⟩
  have fin : ∀ h', KeepB s.heap.objs.size h₁ h' → Keep s.heap h' := fun h' kb b o' e => kb b o' (Nat.ne_of_lt (Heap.lt_size e)) (hkp b o' e)
  refine wpAny_mono (run _ s.heap.objs.size s.heap rm.deeper g { s with heap := h₁, toks := s.toks + binds.length } H
    (fun fl s' => match (Except.ok (Flow.ret (match fl with | .ret v => v | _ => .none)) : Result) with | .ok (.ret v) => Q v s' | .ok _ => False | .error e => False) ?_ ?_) (fun _ _ x => x) (fun _ _ x => x.elim)
  · intro σ' h' tk hd kb _
    exact q .none h' tk (fin h' kb) (by rw [hd]; exact rd_none.mpr rfl)
  · intro d' v h' tk hd kb r
    subst hd
    exact q v h' tk (fin h' kb) r

/-! methods and built-ins -/
def Bsp (c : C) (id : String) (ds : List D) (d : D) : Prop := ∀ (s : Shared) vs, Hd c s.heap [] → RdAll s.heap ds vs → Gv c.prog c.w c.A (PySem.call (.builtin id) vs) d s
def GmAt (d0 : D) (name : Str) (id : String) : Prop := ∀ (M : Model) (A : Around) (E : Value → Shared → Prop) (s : Shared) (v : Value) (pl : Sem Bool) (Q : Value × List Value → Shared → Prop), Rd s.heap d0 v → Q (.builtin id, [v]) s → wpAny M A (getMethod v name pl) Q E s

theorem Hd.none {h : Heap} (H : Hd c h σ) : Hd c h [] := H.sub fun x d e => by cases e
theorem Ev.meth0 {o : Expr} {name : Str} {apos pos : Pos} {pl : Sem Bool} {id : String} {d0 d : D} (ho : Ev c σ o d0) (gm : GmAt d0 name id) (sp : Bsp c id [d0] d)
    (he : eval (.Call (.Attribute o name apos) [] [] pos) c.env = (do
      let ov ← eval o c.env
      standAt apos.atName
      let (f, first) ← holding [ov] (getMethod ov name pl)
      PySem.callWith pos f first (backTo pos (starEach [] c.env)) [])) : Ev c σ (.Call (.Attribute o name apos) [] [] pos) d := fun s H Q q =>
  MethodCall_ ((ho s H).then fun v h' tk k r => gm _ _ _ _ v pl _ r (callWith_method0 ((sp _ [v] (H.keep k).none (RdAll.single r)).then fun v2 h2 tk2 k2 r2 => q v2 h2 tk2 (k.trans k2) r2))) he
theorem Ev.meth {o e : Expr} {es : List Expr} {name : Str} {apos pos : Pos} {pl : Sem Bool} {id : String} {d0 d : D} {ds : List D} (ho : Ev c σ o d0) (gm : GmAt d0 name id) (ha : Es c σ pos (e :: es) ds) (sp : Bsp c id (d0 :: ds) d)
    (he : eval (.Call (.Attribute o name apos) (e :: es) [] pos) c.env = (do
      let ov ← eval o c.env
      standAt apos.atName
      let (f, first) ← holding [ov] (getMethod ov name pl)
      PySem.callWith pos f first (backTo pos (starEach (e :: es) c.env)) []))
    (he' : starEach (e :: es) c.env = (false, eval e c.env) :: starEach es c.env) (hp : (backTo pos (starEach es c.env)).any (·.1) = false) : Ev c σ (.Call (.Attribute o name apos) (e :: es) [] pos) d := fun s H Q q =>
  MethodCall_ ((ho s H).then fun v h' tk k r => gm _ _ _ _ v pl _ r (callWith_method1 (wpAny_mono (ha _ (H.keep k) _ fun vs h2 tk2 k2 rs =>
    (sp _ (v :: vs) ((H.keep k).keep k2).none (rdAll_cons.mpr ⟨v, vs, rfl, r.keep k2, rs⟩)).then fun v3 h3 tk3 k3 r3 => q v3 h3 tk3 ((k.trans k2).trans k3) r3) (fun _ _ x => x) fun _ _ x => x.elim) he' hp)) he

theorem Ev.bltin {func e : Expr} {es : List Expr} {pos : Pos} {id : String} {ds : List D} {d : D} (hf : Ev c σ func (.val (.builtin id))) (ha : Es c σ pos (e :: es) ds) (sp : Bsp c id ds d)
    (he : starEach (e :: es) c.env = (false, eval e c.env) :: starEach es c.env) (hp : (backTo pos (starEach es c.env)).any (·.1) = false)
    (hc : eval (.Call func (e :: es) [] pos) c.env = (do PySem.callWith pos (← eval func c.env) [] (backTo pos (starEach (e :: es) c.env)) (backToKw pos (keywordEach [] c.env)))) : Ev c σ (.Call func (e :: es) [] pos) d := fun s H Q q => by
  refine Call_ ((hf s H).then fun v h' tk k' r => ?_) hc
  rw [rd_val] at r; subst r
  exact callWith_builtin1 (ha { s with heap := h', toks := tk } (H.keep k') _ fun vs h2 tk2 k2 rs => (sp _ vs ((H.keep k').keep k2).none rs).then fun v h3 tk3 k3 r3 => q v h3 tk3 ((k'.trans k2).trans k3) r3) he hp

def Tsp (c : C) (T : String) (ds : List D) (d : D) : Prop := ∀ (s : Shared) vs, Hd c s.heap [] → RdAll s.heap ds vs → Gv c.prog c.w c.A (PySem.call (.type T) vs) d s
theorem Ev.typ {func e : Expr} {es : List Expr} {pos : Pos} {T : String} {ds : List D} {d : D} (hf : Ev c σ func (.val (.type T))) (ha : Es c σ pos (e :: es) ds) (sp : Tsp c T ds d)
    (he : starEach (e :: es) c.env = (false, eval e c.env) :: starEach es c.env) (hp : (backTo pos (starEach es c.env)).any (·.1) = false)
    (hc : eval (.Call func (e :: es) [] pos) c.env = (do PySem.callWith pos (← eval func c.env) [] (backTo pos (starEach (e :: es) c.env)) (backToKw pos (keywordEach [] c.env)))) : Ev c σ (.Call func (e :: es) [] pos) d := fun s H Q q => by
  refine Call_ ((hf s H).then fun v h' tk k' r => ?_) hc
  rw [rd_val] at r; subst r
  exact PyProof.Rows.callWith_type1 (ha { s with heap := h', toks := tk } (H.keep k') _ fun vs h2 tk2 k2 rs => (sp _ vs ((H.keep k').keep k2).none rs).then fun v h3 tk3 k3 r3 => q v h3 tk3 ((k'.trans k2).trans k3) r3) he hp

theorem gm_str {x : Str} {name : Str} {id : String} (slot : Slot "str" name id) (ty : typeOf (.builtin id) = pure (.type "method_descriptor")) : GmAt (.str x) name id := fun M A E s v pl Q r q => by
  obtain ⟨t, rfl⟩ := rd_str.mp r
  with_reducible exact PySem.GM.of (.str x t) (typeIs_str _ _ _) slot ty PySem.GM.noRef q
theorem gm_split {x : Str} : GmAt (.str x) "split" "str.split" := gm_str F.slot_str_split F.type_str_split
theorem gm_partition {x : Str} : GmAt (.str x) "partition" "str.partition" := gm_str F.slot_str_partition F.type_str_partition
theorem gm_rpartition {x : Str} : GmAt (.str x) "rpartition" "str.rpartition" := gm_str F.slot_str_rpartition F.type_str_rpartition
theorem gm_find {x : Str} : GmAt (.str x) "find" "str.find" := gm_str F.slot_str_find F.type_str_find
theorem gm_rfind {x : Str} : GmAt (.str x) "rfind" "str.rfind" := gm_str F.slot_str_rfind F.type_str_rfind
theorem gm_join {x : Str} : GmAt (.str x) "join" "str.join" := gm_str F.slot_str_join F.type_str_join
theorem gm_isdigit {x : Str} : GmAt (.str x) "isdigit" "str.isdigit" := gm_str F.slot_str_isdigit F.type_str_isdigit
theorem gm_isascii {x : Str} : GmAt (.str x) "isascii" "str.isascii" := gm_str F.slot_str_isascii F.type_str_isascii

theorem rdAll_one {h : Heap} {d : D} {vs : List Value} (r : RdAll h [d] vs) : ∃ v, vs = [v] ∧ Rd h d v := by
  obtain ⟨v, r', rfl, x, y⟩ := rdAll_cons.mp r
  rw [rdAll_nil] at y; subst y
  exact ⟨v, rfl, x⟩
theorem rdAll_two {h : Heap} {d e : D} {vs : List Value} (r : RdAll h [d, e] vs) : ∃ v u, vs = [v, u] ∧ Rd h d v ∧ Rd h e u := by
  obtain ⟨v, r', rfl, x, y⟩ := rdAll_cons.mp r
  obtain ⟨u, rfl, z⟩ := rdAll_one y
  exact ⟨v, u, rfl, x, z⟩
theorem rdAll_three {h : Heap} {d e f : D} {vs : List Value} (r : RdAll h [d, e, f] vs) : ∃ v u t, vs = [v, u, t] ∧ Rd h d v ∧ Rd h e u ∧ Rd h f t := by
  obtain ⟨v, r', rfl, x, y⟩ := rdAll_cons.mp r
  obtain ⟨u, t, rfl, z, z'⟩ := rdAll_two y
  exact ⟨v, u, t, rfl, x, z, z'⟩

theorem rdAll_strs {h : Heap} : ∀ (l : List (Str × Tok)), RdAll h (l.map fun p => D.str p.1) (strValues l)
  | [] => rdAll_nil.mpr rfl
  | p :: l => rdAll_cons.mpr ⟨.str p.1 p.2, strValues l, rfl, rd_str.mpr ⟨_, rfl⟩, rdAll_strs l⟩
theorem strs_rdAll {h : Heap} : ∀ (ws : List Str) (vs : List Value), RdAll h (ws.map D.str) vs → ∃ l : List (Str × Tok), vs = strValues l ∧ l.map (·.1) = ws
  | [], vs, r => by rw [List.map_nil, rdAll_nil] at r; subst r; exact ⟨[], rfl, rfl⟩
  | x :: ws, vs, r => by
    obtain ⟨v, r', rfl, a, b⟩ := rdAll_cons.mp r
    obtain ⟨t, rfl⟩ := rd_str.mp a
    obtain ⟨l, rfl, rfl⟩ := strs_rdAll ws r' b
    exact ⟨(x, t) :: l, rfl, rfl⟩

theorem Bsp.split {x y : Str} (hy : (y.length == 0) = false) (hsz : x.length + 2 ≤ sizeLine) : Bsp c "str.split" [.str x, .str y] (.list ((Txt.split x y).map D.str)) := fun s vs _ r Q q => by
  obtain ⟨v, u, rfl, r1, r2⟩ := rdAll_two r
  obtain ⟨t, rfl⟩ := rd_str.mp r1
  obtain ⟨t', rfl⟩ := rd_str.mp r2
  have h2 : (Builtin.Str.partsBetween x (Builtin.Str.occurrences x y 0 x.length (x.length + 1)) y.length).length ≤ sizeLine := by
    have := StrLaws.occ_length_le x y 0 x.length (x.length + 1)
    unfold Builtin.Str.partsBetween
    simp only [List.length_map, List.length_zip, List.length_cons, List.length_append, List.length_nil]
    omega
  refine SCH.split1 (P := fun h => Keep s.heap h) (fun h ob k => k.trans (keep_push _ _)) (Keep.refl _) hy (fun D l h' k ht kp hl => ?_) (by omega) h2
  refine q _ h' k kp (rd_list.mpr ⟨D, _, rfl, hl, ?_⟩)
  have := rdAll_strs (h := h') l
  rw [← ht, List.map_map]
  exact this
theorem Bsp.partition {x y : Str} (hy : (y.length == 0) = false) (hsz : x.length ≤ sizeLine) : Bsp c "str.partition" [.str x, .str y] (.tup [.str (Txt.partition x y).1, .str (Txt.partition x y).2.1, .str (Txt.partition x y).2.2]) := fun s vs _ r Q q => by
  obtain ⟨v, u, rfl, r1, r2⟩ := rdAll_two r
  obtain ⟨t, rfl⟩ := rd_str.mp r1
  obtain ⟨t', rfl⟩ := rd_str.mp r2
  refine call_meets F.slot_str_partition (typeIs_str _ _ _) F.entry_str_partition (F.args_str_partition_2 _ _) (meets_str_partition x y t t' hy hsz) ?_
  have q' : ∀ ta tb tc k, Q (.ref s.heap.objs.size) { s with heap := s.heap.push { cls := .type "tuple", data := .seq [.str (Txt.partition x y).1 ta, .str (Txt.partition x y).2.1 tb, .str (Txt.partition x y).2.2 tc].toArray }, toks := k } := fun ta tb tc k =>
    q _ _ k (keep_push _ _) (rd_tup.mpr ⟨_, _, rfl, ⟨_, Heap.get?_push_size _ rfl, rfl, _, rfl⟩, rdAll_cons.mpr ⟨_, _, rfl, rd_str.mpr ⟨_, rfl⟩, rdAll_cons.mpr ⟨_, _, rfl, rd_str.mpr ⟨_, rfl⟩, RdAll.single (rd_str.mpr ⟨_, rfl⟩)⟩⟩⟩)
  unfold Txt.partition at q'
  revert q'
  cases Builtin.Str.occurrences x y 0 x.length 1 with
  | nil => intro h'; exact h' _ _ _ _
  | cons i r => intro h'; exact h' _ _ _ _
theorem Bsp.rpartition {x y : Str} (hy : (y.length == 0) = false) (hsz : x.length ≤ sizeLine) : Bsp c "str.rpartition" [.str x, .str y] (.tup [.str (Txt.rpartition x y).1, .str (Txt.rpartition x y).2.1, .str (Txt.rpartition x y).2.2]) := fun s vs _ r Q q => by
  obtain ⟨v, u, rfl, r1, r2⟩ := rdAll_two r
  obtain ⟨t, rfl⟩ := rd_str.mp r1
  obtain ⟨t', rfl⟩ := rd_str.mp r2
  refine call_meets F.slot_str_rpartition (typeIs_str _ _ _) F.entry_str_rpartition (F.args_str_rpartition_2 _ _) (meets_str_rpartition x y t t' hy hsz) ?_
  have q' : ∀ ta tb tc k, Q (.ref s.heap.objs.size) { s with heap := s.heap.push { cls := .type "tuple", data := .seq [.str (Txt.rpartition x y).1 ta, .str (Txt.rpartition x y).2.1 tb, .str (Txt.rpartition x y).2.2 tc].toArray }, toks := k } := fun ta tb tc k =>
    q _ _ k (keep_push _ _) (rd_tup.mpr ⟨_, _, rfl, ⟨_, Heap.get?_push_size _ rfl, rfl, _, rfl⟩, rdAll_cons.mpr ⟨_, _, rfl, rd_str.mpr ⟨_, rfl⟩, rdAll_cons.mpr ⟨_, _, rfl, rd_str.mpr ⟨_, rfl⟩, RdAll.single (rd_str.mpr ⟨_, rfl⟩)⟩⟩⟩)
  unfold Txt.rpartition at q'
  revert q'
  cases Builtin.Str.lastOccurrence x y 0 x.length with
  | none => intro h'; exact h' _ _ _ _
  | some i => intro h'; exact h' _ _ _ _
theorem Bsp.find {x y : Str} : Bsp c "str.find" [.str x, .str y] (.int (Txt.find x y)) := fun s vs _ r Q q => by
  obtain ⟨v, u, rfl, r1, r2⟩ := rdAll_two r
  obtain ⟨t, rfl⟩ := rd_str.mp r1
  obtain ⟨t', rfl⟩ := rd_str.mp r2
  exact SC.find (q _ s.heap _ (Keep.refl _) (rd_int.mpr ⟨_, rfl⟩))
theorem Bsp.rfind {x y : Str} : Bsp c "str.rfind" [.str x, .str y] (.int (Txt.rfind x y)) := fun s vs _ r Q q => by
  obtain ⟨v, u, rfl, r1, r2⟩ := rdAll_two r
  obtain ⟨t, rfl⟩ := rd_str.mp r1
  obtain ⟨t', rfl⟩ := rd_str.mp r2
  exact SC.rfind (q _ s.heap _ (Keep.refl _) (rd_int.mpr ⟨_, rfl⟩))
theorem Bsp.find3 {x y : Str} {i : Int} : Bsp c "str.find" [.str x, .str y, .int i] (.int (Txt.find3 x y i)) := fun s vs _ r Q q => by
  obtain ⟨v, u, t0, rfl, r1, r2, r3⟩ := rdAll_three r
  obtain ⟨t, rfl⟩ := rd_str.mp r1
  obtain ⟨t', rfl⟩ := rd_str.mp r2
  obtain ⟨t'', rfl⟩ := rd_int.mp r3
  exact SC.find3 (q _ s.heap _ (Keep.refl _) (rd_int.mpr ⟨_, rfl⟩))
theorem Bsp.isdigit {x : Str} : Bsp c "str.isdigit" [.str x] (.bool (Txt.isdigit x)) := fun s vs _ r Q q => by
  obtain ⟨v, rfl, r1⟩ := rdAll_one r
  obtain ⟨t, rfl⟩ := rd_str.mp r1
  exact SC.isdigit (q _ s.heap s.toks (Keep.refl _) (rd_bool.mpr rfl))
theorem Bsp.isascii {x : Str} : Bsp c "str.isascii" [.str x] (.bool (Txt.isascii x)) := fun s vs _ r Q q => by
  obtain ⟨v, rfl, r1⟩ := rdAll_one r
  obtain ⟨t, rfl⟩ := rd_str.mp r1
  exact SC.isascii (q _ s.heap s.toks (Keep.refl _) (rd_bool.mpr rfl))
theorem Bsp.join {x : Str} {ws : List Str} (hj : JoinOk x ws = true) : Bsp c "str.join" [.str x, .list (ws.map D.str)] (.str (Txt.join x ws)) := fun s vs _ r Q q => by
  obtain ⟨v, u, rfl, r1, r2⟩ := rdAll_two r
  obtain ⟨t, rfl⟩ := rd_str.mp r1
  obtain ⟨a, us, rfl, hl, rs⟩ := rd_list.mp r2
  obtain ⟨l, rfl, hw⟩ := strs_rdAll ws us rs
  exact SC.join hl hw hj fun t' k => q _ s.heap k (Keep.refl _) (rd_str.mpr ⟨_, rfl⟩)
theorem Bsp.chr {i : Int} (h0 : 0 ≤ i) (h1 : i ≤ 1114111) : Bsp c "chr" [.int i] (.str ⟨#[i.toNat]⟩) := fun s vs _ r Q q => by
  obtain ⟨v, rfl, r1⟩ := rdAll_one r
  obtain ⟨t, rfl⟩ := rd_int.mp r1
  exact PySem.P.chr_of_int (by simp; omega) (q _ s.heap _ (Keep.refl _) (rd_str.mpr ⟨_, rfl⟩))
theorem Bsp.ord {k : Nat} : Bsp c "ord" [.str ⟨#[k]⟩] (.int k) := fun s vs _ r Q q => by
  obtain ⟨v, rfl, r1⟩ := rdAll_one r
  obtain ⟨t, rfl⟩ := rd_str.mp r1
  exact PySem.P.ord_of_char (q _ s.heap _ (Keep.refl _) (rd_int.mpr ⟨_, rfl⟩))
theorem Bsp.len_str {x : Str} (h : x.length < 2 ^ 63) : Bsp c "len" [.str x] (.int x.length) := fun s vs _ r Q q => by
  obtain ⟨v, rfl, r1⟩ := rdAll_one r
  obtain ⟨t, rfl⟩ := rd_str.mp r1
  exact PyProof.Rows.len_str (by omega) (q _ s.heap _ (Keep.refl _) (rd_int.mpr ⟨_, rfl⟩))
theorem Bsp.len_list {ds : List D} (h : ds.length < 2 ^ 63) : Bsp c "len" [.list ds] (.int ds.length) := fun s vs _ r Q q => by
  obtain ⟨v, rfl, r1⟩ := rdAll_one r
  obtain ⟨a, us, rfl, hl, rs⟩ := rd_list.mp r1
  have e : us.toArray.size = ds.length := by rw [List.size_toArray, rs.length]
  refine PyProof.Rows.len_list hl (by rw [e]; omega) ?_
  rw [e]
  exact q _ s.heap _ (Keep.refl _) (rd_int.mpr ⟨_, rfl⟩)
theorem Bsp.len_tup {ds : List D} (h : ds.length < 2 ^ 63) : Bsp c "len" [.tup ds] (.int ds.length) := fun s vs _ r Q q => by
  obtain ⟨v, rfl, r1⟩ := rdAll_one r
  obtain ⟨a, us, rfl, hl, rs⟩ := rd_tup.mp r1
  have e : us.toArray.size = ds.length := by rw [List.size_toArray, rs.length]
  refine len_tuple hl (by rw [e]; omega) ?_
  rw [e]
  exact q _ s.heap _ (Keep.refl _) (rd_int.mpr ⟨_, rfl⟩)
theorem Tru.list {ds : List D} (h : ds.length < 2 ^ 63) : Tru c (.list ds) (decide (ds ≠ [])) := fun s v r Q q => by
  obtain ⟨a, us, rfl, hl, rs⟩ := rd_list.mp r
  have e : us.toArray.size = ds.length := by rw [List.size_toArray, rs.length]
  refine wpAny_truthy_list hl (by rw [e]; omega) ?_
  have e' : (!us.toArray.isEmpty) = decide (ds ≠ []) := by
    cases ds with
    | nil => rw [rdAll_nil] at rs; subst rs; rfl
    | cons d ds => obtain ⟨v, r, rfl, _, _⟩ := rdAll_cons.mp rs; simp
  rw [e']
  exact q s.heap _ (Keep.refl _)

/-! items and slices -/
def Itm (c : C) (d0 di d : D) : Prop := ∀ (s : Shared) o i, Rd s.heap d0 o → Rd s.heap di i → ∃ T id, s.TypeIs o T ∧ typeLookup (.type T) "__getitem__" = pure (some (.builtin id)) ∧ Gv c.prog c.w c.A (getItem o i) d s
theorem Ev.item {value slice : Expr} {pos : Pos} {d0 di d : D} (ho : Ev c σ value d0) (hi : Ev c σ slice di) (g : Itm c d0 di d)
    (hs : ∀ o i, Rd c.h0 d0 o ∨ True → subscripted slice false o i = operate [o, i] (getItem o i)) : Ev c σ (.Subscript value slice pos) d := fun s H Q q =>
  Subscript_ ((ho s H).then fun o h1 tk1 k1 r1 => (hi _ (H.keep k1)).then fun i h2 tk2 k2 r2 => by
    obtain ⟨T, id, hT, hl, gv⟩ := g { s with heap := h2, toks := tk2 } o i (r1.keep k2) r2
    exact tail_any hT hl (gv.then fun v h3 tk3 k3 r3 => q v h3 tk3 ((k1.trans k2).trans k3) r3) (hs o i (.inr trivial)))
theorem Itm.str {x : Str} {i : Int} {n : Nat} (h1 : -(2 ^ 63) ≤ i) (h2 : i < 2 ^ 63) (hc : (seqIndex? i x.length).bind (x.cps[·]?) = some n) : Itm c (.str x) (.int i) (.str ⟨#[n]⟩) := fun s o v r1 r2 => by
  obtain ⟨t, rfl⟩ := rd_str.mp r1
  obtain ⟨u, rfl⟩ := rd_int.mp r2
  exact ⟨"str", _, typeIs_str _ _ _, F.slot_str_getitem.lookup, fun Q q => PySem.P.getItem_str (by simp; omega) hc (q _ s.heap _ (Keep.refl _) (rd_str.mpr ⟨_, rfl⟩))⟩
theorem Itm.list {ds : List D} {i : Int} {d : D} (h0 : 0 ≤ i) (h2 : i < 2 ^ 63) (hd : ds[i.toNat]? = some d) : Itm c (.list ds) (.int i) d := fun s o v r1 r2 => by
  obtain ⟨a, us, rfl, hl, rs⟩ := rd_list.mp r1
  obtain ⟨u, rfl⟩ := rd_int.mp r2
  obtain ⟨v, hv, r⟩ := rs.get' hd
  exact ⟨"list", _, hl.typeIs, slot_list_getitem.lookup, fun Q q => wpAny_getItem_list hl h0 h2 (by simpa using hv) (q _ s.heap s.toks (Keep.refl _) r)⟩
theorem Itm.tup {ds : List D} {i : Int} {d : D} (h0 : 0 ≤ i) (h2 : i < 2 ^ 63) (hd : ds[i.toNat]? = some d) : Itm c (.tup ds) (.int i) d := fun s o v r1 r2 => by
  obtain ⟨a, us, rfl, hl, rs⟩ := rd_tup.mp r1
  obtain ⟨u, rfl⟩ := rd_int.mp r2
  obtain ⟨v, hv, r⟩ := rs.get' hd
  have hlen : i.toNat < us.length := (List.getElem?_eq_some_iff.mp hv).1
  exact ⟨"tuple", _, hl.typeIs, slot_tuple_getitem.lookup, fun Q q => getItem_tuple hl (by omega) h2 (by rw [List.size_toArray]; exact StrLaws.seqIndex_nonneg h0 (by omega)) (by simpa using hv) (q _ s.heap s.toks (Keep.refl _) r)⟩

/-- a slice's bound: none, or an int -/
def Pt (c : C) (σ : Store) : Option Expr → Option Int → Prop
  | none, j => j = none
  | some e, j => ∃ i, j = some i ∧ Ev c σ e (.int i)
theorem Pt.then {l : Option Expr} {j : Option Int} (h : Pt c σ l j) {s : Shared} (H : Hd c s.heap σ) {Q : Value → Shared → Prop} {E : Value → Shared → Prop}
    (k : ∀ (p : Option (Int × Tok)) h' tk, p.map (·.1) = j → Keep s.heap h' → Q (partValue p) { s with heap := h', toks := tk }) : wpAny (model c.prog c.w) c.A (evalPart l c.env) Q E s := by
  cases l with
  | none => cases h; exact wpAny_evalPart_none (k none s.heap s.toks rfl (Keep.refl _))
  | some e =>
    obtain ⟨i, rfl, he⟩ := h
    refine wpAny_evalPart_some ((he s H).then fun v h' tk kp r => ?_)
    obtain ⟨t, rfl⟩ := rd_int.mp r
    exact k (some (i, t)) h' tk rfl kp
theorem Ev.slice_str {value : Expr} {lower upper : Option Expr} {p pos : Pos} {x : Str} {l u : Option Int} (ho : Ev c σ value (.str x)) (hl : Pt c σ lower l) (hu : Pt c σ upper u) (hsz : x.length ≤ sizeLine)
    (ht : ∀ o r, letTemporaryGo value o r = pure ()) : Ev c σ (.Subscript value (.Slice lower upper none p) pos) (.str (Txt.slice x l u)) := fun s H Q q =>
  wpAny_Subscript_str_slice ((ho s H).then fun o h1 tk1 k1 r1 => hl.then (s := { s with heap := h1, toks := tk1 }) (H.keep k1) fun pl h2 tk2 e2 k2 => hu.then (s := { s with heap := h2, toks := tk2 }) ((H.keep k1).keep k2) fun pu h3 tk3 e3 k3 => by
    obtain ⟨t, rfl⟩ := rd_str.mp r1
    refine ⟨x, t, pl, pu, rfl, rfl, rfl, ?_⟩
    unfold sliceMade slicePicked
    rw [e2, e3]
    refine post_val_or_str ⟨Nat.le_trans (Txt.slice_le x l u) hsz, fun t' k => ?_⟩
    exact q _ _ k (((k1.trans k2).trans k3).trans (keep_push _ _)) (rd_str.mpr ⟨t', rfl⟩)) ht
theorem isPart_of {p : Option (Int × Tok)} {j : Option Int} (e : p.map (·.1) = j) : IsPart (partValue p) j := by
  subst e
  cases p with
  | none => exact .none
  | some q => exact .int q.1 q.2
def lsl {α : Type} (ds : List α) (l u : Option Int) : List α := (ds.drop (l.elim 0 (clipAt ds.length))).take (u.elim ds.length (clipAt ds.length) - l.elim 0 (clipAt ds.length))
theorem Ev.slice_list {value : Expr} {lower upper : Option Expr} {p pos : Pos} {ds : List D} {l u : Option Int} (ho : Ev c σ value (.list ds)) (hl : Pt c σ lower l) (hu : Pt c σ upper u) (hsz : ds.length ≤ sizeLine)
    (ht : ∀ o r, letTemporaryGo value o r = pure ()) : Ev c σ (.Subscript value (.Slice lower upper none p) pos) (.list (lsl ds l u)) := fun s H Q q =>
  wpAny_Subscript_list_slice ((ho s H).then fun o h1 tk1 k1 r1 => hl.then (s := { s with heap := h1, toks := tk1 }) (H.keep k1) fun pl h2 tk2 e2 k2 => hu.then (s := { s with heap := h2, toks := tk2 }) ((H.keep k1).keep k2) fun pu h3 tk3 e3 k3 => by
    obtain ⟨a, us, rfl, hls, rs⟩ := rd_list.mp (r1.keep (k2.trans k3))
    have e : us.length = ds.length := rs.length
    refine ⟨a, us.toArray, l, u, rfl, hls, by rw [List.size_toArray, e]; exact hsz, isPart_of e2, isPart_of e3, ?_⟩
    have kk := (keep_push h3 { cls := .type "slice", data := .fields #[partValue pl, partValue pu, .none] }).trans (keep_push _ { cls := .type "list", data := .seq (slicePick us.toArray l u none) })
    refine q _ _ tk3 (((k1.trans k2).trans k3).trans kk) (rd_list.mpr ⟨_, _, rfl, ⟨_, by rw [← Heap.size_push h3 { cls := .type "slice", data := .fields #[partValue pl, partValue pu, .none] }]; exact Heap.get?_push_size _ rfl, rfl, _, by rw [slicePick_plain]⟩, ?_⟩)
    have := (((rs.keep kk).drop (l.elim 0 (clipAt ds.length))).take (u.elim ds.length (clipAt ds.length) - l.elim 0 (clipAt ds.length)))
    simpa [lsl, e] using this) ht
end
end Mine

namespace Mine

section
variable {prog : Program} {w : World} {A : Around} {s : Shared}
/-- a for loop, with the target's tuple let go -/
theorem forLoopT {R : Result → Shared → Prop} {target it body orelse env} (I : Nat → Shared → Prop)
    (turn : ∀ n s, I n s → wpAny (model prog w) A (pyNext it) (fun r s₁ => match r with
      | none => wpAny (model prog w) A (execs orelse env) (fun f s₃ => R (.ok f) s₃) (notedBy (model prog w) A env fun e s' => R (.error e) s') s₁
      | some v => wpAny (model prog w) A (letOwnedTupleGo target it v) (fun _ s₀ => wpAny (model prog w) A (assign target env v) (fun _ s₂ => wpAny (model prog w) A (execs body env) (fun f s₃ => match f with
          | .next | .cont => ∃ m, m < n ∧ I m s₃
          | .brk => R (.ok .next) s₃
          | .ret v => R (.ok (.ret v)) s₃) (notedBy (model prog w) A env fun e s' => R (.error e) s') s₂) (notedBy (model prog w) A env fun e s' => R (.error e) s') s₀) (notedBy (model prog w) A env fun e s' => R (.error e) s') s₁) (notedBy (model prog w) A env fun e s' => R (.error e) s') s)
    (n : Nat) (h : I n s) : codeAny (model prog w) A (.forLoop target it body orelse env) R s := by
  refine codeAny_loop' rfl I (fun n s hI => ?_) n h
  show wpAny _ _ ((forTurn target it body orelse env).onRaise (fun x => do noteFrame x env; theTreesLotGoes x)) _ _ s
  refine wpAny_noted ?_
  simp only [forTurn]
  refine wpAny_bind (wpAny_standAt (wpAny_bind (wpAny_onRaise (wpAny_mono (turn n s hI) (fun r s₁ h₁ => ?_) fun _ _ h' => wpAny_standAt h'))))
  cases r with
  | none => exact wpAny_pure (.inr ⟨rfl, codeAny_block h₁⟩)
  | some v =>
    refine wpAny_bind (wpAny_mono h₁ (fun _ s₀ h₀ => ?_) fun _ _ h' => h')
    refine wpAny_bind (wpAny_mono h₀ (fun _ s₂ h₂ => wpAny_bind (wpAny_mono h₂ (fun f s₃ h₃ => ?_) fun _ _ h' => h')) fun _ _ h' => h')
    cases f with
    | next => exact wpAny_pure (.inl ⟨rfl, h₃⟩)
    | cont => exact wpAny_pure (.inl ⟨rfl, h₃⟩)
    | brk => exact wpAny_pure h₃
    | ret v => exact wpAny_pure h₃
end

structure ItrAt (c : C) (ds : List D) (h : Heap) (I : Addr) (fp wr : List Addr) (P : Nat → Value → Prop) (St : Nat → Heap → Prop) (h' : Heap) : Prop where
  keep : Keep h h'
  W : Walks c.prog c.w c.A I fp wr ds.length P St
  new : ∀ b ∈ wr, h.get? b = none
  noseq : ∀ i h'', St i h'' → ∀ b ∈ wr, ∀ o xs n, h''.get? b = some o → o.data ≠ .seq xs n
  fpL : ∀ b ∈ fp, b ≠ c.env.locals
  fplt : ∀ b ∈ fp, b < h'.objs.size
  st : St 0 h'
  rd : ∀ i v h'', P i v → KeepS h h'' → ∃ d, ds[i]? = some d ∧ Rd h'' d v
  go : ∀ i (s : Shared) target v (Q : Unit → Shared → Prop), St i s.heap → Q () s → wpAny (model c.prog c.w) c.A (letOwnedTupleGo target (.ref I) v) Q (fun _ _ => False) s
def Itr (c : C) (d : D) (ds : List D) : Prop := ∀ (s : Shared) v, Rd s.heap d v → Hd c s.heap [] → ∀ (Q : Value → Shared → Prop),
  (∀ I fp wr P St h' tk, ItrAt c ds s.heap I fp wr P St h' → Q (.ref I) { s with heap := h', toks := tk }) → wpAny (model c.prog c.w) c.A (pyIter v) Q (fun _ _ => False) s

section
variable {c : C} {σ : Store}

theorem Hd.ns {h : Heap} (H : Hd c h σ) : ∃ m, h.Ns c.env.locals m := by obtain ⟨⟨m, F, _⟩, _⟩ := H; exact ⟨m, F.ns⟩
theorem Hd.keepS {h h' : Heap} (H : Hd c h σ) (k : KeepB c.env.locals h h') : KeepS h h' := by
  obtain ⟨m, o, es, ep, ho, hd, _⟩ := H.ns
  intro b o' xs n e hd'
  by_cases hb : b = c.env.locals
  · subst hb; rw [e] at ho; cases ho; rw [hd] at hd'; cases hd'
  · exact k b o' hb e
/-- heaps that part at fresh objects which are no sequences -/
theorem Hd.but {h h' : Heap} {wr : List Addr} (H : Hd c h σ) (k : ∀ b o, b ∉ wr → h.get? b = some o → h'.get? b = some o) (h0 : ∀ b ∈ wr, c.h0.get? b = Option.none) (hL : c.env.locals ∉ wr)
    (ns : ∀ b ∈ wr, ∀ o xs n, h.get? b = some o → o.data ≠ .seq xs n) (hK : ∀ b ∈ c.K.fp, b ∉ wr) : Hd c h' σ := by
  obtain ⟨⟨m, F, f⟩, K, nL⟩ := H
  have kS : KeepS h h' := fun b o xs n e hd => k b o (fun hb => ns b hb o xs n e hd) e
  refine ⟨⟨m, ⟨F.ns.at' fun o e => k _ o hL e, fun b o e => k b o (fun hb => by rw [h0 b hb] at e; cases e) (F.keep b o e), F.above⟩, fun x d e => ?_⟩, c.K.frame K fun b hb o e => k b o (hK b hb) e, nL⟩
  obtain ⟨v, a, b⟩ := f x d e
  exact ⟨v, a, Rd.mono kS _ _ b⟩

/-- a target is bound -/
def Asg (c : C) (σ : Store) (target : Expr) (d : D) (σ' : Store) : Prop := ∀ (s : Shared) v, Hd c s.heap σ → Rd s.heap d v → ∀ (Q : Unit → Shared → Prop),
  (∀ h' tk, KeepB c.env.locals s.heap h' → Hd c h' σ' → Q () { s with heap := h', toks := tk }) → wpAny (model c.prog c.w) c.A (assign target c.env v) Q (fun _ _ => False) s
theorem Asg.name {x : Str} {px : Pos} {d : D} (hk : c.env.scope.kind = .function) (hx : c.env.kindOf x = some .local) : Asg c σ (.Name x px) d ((x, d) :: σ) := fun s v H r Q q =>
  wpAny_assign_Name (store hk hx H r fun h' tk kb _ H' => q h' tk kb H')

theorem Ex1.for {γ : Type} {target iter : Expr} {body : List Stmt} {pos : Pos} {d : D} {ds : List D} {k : Nat} {N : Store → Prop} {Rt : D → Prop} (ok : c.Ok k) (hi : Ev c σ iter d) (it : Itr c d ds)
    (σI : γ → Store) (P : Nat → γ → Prop) (g₀ : γ) (h0 : Sub σ (σI g₀)) (p0 : P 0 g₀)
    (step : ∀ i g d', ds[i]? = some d' → P i g → ∃ σ1, Asg c (σI g) target d' σ1 ∧ Ex c σ1 body (fun σ' => ∃ g', Sub σ' (σI g') ∧ P (i + 1) g') Rt)
    (done : ∀ g, P ds.length g → N (σI g)) (hs : ∀ x, foldedSetIterable iter c.env x = pure x) : Ex1 c σ (.For target iter body [] pos) N Rt := fun s H Q n r => by
  refine wpAny_For ((hi s H).then fun v h1 tk1 k1 r1 => ?_) hs
  have H1 := H.keep k1
  refine it { s with heap := h1, toks := tk1 } v r1 H1.none _ fun I fp wr P' St h2 tk2 X => ?_
  have F0 : ∀ b ∈ wr, c.h0.get? b = none := fun b hb => by
    obtain ⟨⟨m, F, _⟩, _⟩ := H1
    cases q : c.h0.get? b with
    | none => rfl
    | some o => have := F.keep b o q; rw [X.new b hb] at this; cases this
  have hLw : c.env.locals ∉ wr := fun hb => X.fpL _ (X.W.sub _ hb) rfl
  have hKw : ∀ b ∈ c.K.fp, b ∉ wr := fun b hb hw => by
    obtain ⟨o, ho⟩ := c.K.there H1.2.1 b hb
    have := X.new b hw
    rw [show ({ s with heap := h1, toks := tk1 } : Shared).heap = h1 from rfl, ho] at this; cases this
  refine forLoopT (fun m s' => ∃ h' tk i g, s' = { s with heap := h', toks := tk } ∧ i ≤ ds.length ∧ m = ds.length + 1 - i ∧ St i h' ∧ Hd c h' (σI g) ∧ P i g ∧ KeepB c.env.locals h1 h') ?_ (ds.length + 1)
    ⟨h2, tk2, 0, g₀, rfl, Nat.zero_le _, rfl, X.st, (H1.keep X.keep).sub h0, p0, KeepB.of_keep X.keep⟩
  rintro m s' ⟨h, tk, i, g, rfl, hi', rfl, hst, Hg, hp, kb⟩
  by_cases hlt : i < ds.length
  · refine X.W.item i _ _ _ hlt hst fun v' h3 tk3 hP hst3 hk3 => ?_
    refine wpAny_mono (X.go (i + 1) _ target v' (fun _ s' => s' = { s with heap := h3, toks := tk3 }) hst3 rfl) (fun _ s4 e4 => ?_) fun _ _ x => x.elim
    subst e4
    have H3 : Hd c h3 (σI g) := Hg.but hk3 F0 hLw (X.noseq i h hst) hKw
    have kb3 : KeepB c.env.locals h1 h3 := fun b o hb e => hk3 b o (fun hw => by have := X.new b hw; rw [show ({ s with heap := h1, toks := tk1 } : Shared).heap = h1 from rfl] at this; rw [e] at this; cases this) (kb b o hb e)
    obtain ⟨d', hd', rd'⟩ := X.rd i v' h3 hP (H1.keepS kb3)
    obtain ⟨σ1, as, ex⟩ := step i g d' hd' hp
    refine wpAny_mono (as { s with heap := h3, toks := tk3 } v' H3 rd' _ fun h4 tk4 kb4 H4 => ?_) (fun _ _ x => x) fun _ _ x => x.elim
    refine wpAny_mono (ex { s with heap := h4, toks := tk4 } H4 _ (fun σ' h5 tk5 hn kb5 H5 => ?_) fun d5 v5 h5 tk5 hr kb5 r5 => ?_) (fun _ _ x => x) fun _ _ x => x.elim
    · obtain ⟨g', hsub, hp'⟩ := hn
      refine ⟨ds.length + 1 - (i + 1), by omega, h5, tk5, i + 1, g', rfl, hlt, rfl, X.W.frame _ _ _ hst3 fun b hb o e => kb5 b o (X.fpL b hb) (kb4 b o (X.fpL b hb) e), H5.sub hsub, hp', (kb3.trans kb4).trans kb5⟩
    · exact r d5 v5 h5 tk5 hr ((KeepB.of_keep k1).trans ((kb3.trans kb4).trans kb5)) r5
  · have e : i = ds.length := by omega
    subst e
    refine X.W.done _ _ _ hst fun h3 tk3 hk3 => wpAny_execs_nil ?_
    have kb3 : KeepB c.env.locals h1 h3 := fun b o hb e => hk3 b o (fun hw => by have := X.new b hw; rw [show ({ s with heap := h1, toks := tk1 } : Shared).heap = h1 from rfl] at this; rw [e] at this; cases this) (kb b o hb e)
    exact n _ h3 tk3 (done g hp) ((KeepB.of_keep k1).trans kb3) (Hg.but hk3 F0 hLw (X.noseq _ h hst) hKw)

theorem go_fields {I : Addr} {T : String} {vs : Array Value} {s : Shared} {target : Expr} {v : Value} {Q : Unit → Shared → Prop} {E : Value → Shared → Prop} {prog : Program} {w : World} {A : Around}
    (hI : ∃ o, s.heap.get? I = some o ∧ o.cls = .type T ∧ o.data = .fields vs) (hT : (["enumerate", "zip", "dict_itemiterator", "dict_reverseitemiterator", "odict_iterator", "itertools.zip_longest", "itertools.pairwise"].contains T) = false)
    (q : Q () s) : wpAny (model prog w) A (letOwnedTupleGo target (.ref I) v) Q E s := by
  obtain ⟨o, ho, hc, hd⟩ := hI
  unfold letOwnedTupleGo
  split
  · split
    · rename_i r a e
      cases e
      refine wpAny_bind (wpAny_load ho ?_)
      rw [hc, hd]
      dsimp only
      rw [hT, Bool.false_and]
      exact wpAny_pure q
    · exact wpAny_pure q
  · split
    · rename_i r a e
      cases e
      refine wpAny_bind (wpAny_load ho ?_)
      rw [hc, hd]
      dsimp only
      rw [hT, Bool.false_and]
      exact wpAny_pure q
    · exact wpAny_pure q
  · exact wpAny_pure q

theorem Itr.list {ds : List D} {k : Nat} (ok : c.Ok k) : Itr c (.list ds) ds := fun s v r H Q q => by
  obtain ⟨a, us, rfl, hl, rs⟩ := rd_list.mp r
  obtain ⟨ol, hol, _, _, hold⟩ := id hl
  have hlt : a < s.heap.objs.size := Heap.lt_size hol
  have hlen : us.toArray.size = ds.length := by rw [List.size_toArray, rs.length]
  have W := Walks.list (prog := c.prog) (w := c.w) ok.rm.handled s.heap.objs.size a (Nat.ne_of_lt hlt) us.toArray
  rw [hlen] at W
  refine wpAny_pyIter_list hl (q _ _ _ _ _ _ _ ⟨keep_push _ _, W, ?_, ?_, ?_, ?_, ⟨⟨_, Heap.get?_push_size _ rfl, rfl, rfl⟩, hl.push _⟩, ?_, ?_⟩)
  · intro b hb
    rw [List.mem_singleton.mp hb]
    cases e : s.heap.get? s.heap.objs.size with
    | none => rfl
    | some o => exact absurd (Heap.lt_size e) (Nat.lt_irrefl _)
  · rintro i h'' ⟨⟨o, ho, _, hd⟩, _⟩ b hb o' xs n e e'
    rw [List.mem_singleton.mp hb, ho] at e; cases e
    rw [hd] at e'; cases e'
  · intro b hb e
    obtain ⟨m, o, es, ep, ho, hd, _⟩ := H.ns
    rcases List.mem_cons.mp hb with h1 | h1
    · rw [← e, h1] at ho; exact absurd (Heap.lt_size ho) (Nat.lt_irrefl _)
    · have h2 := List.mem_singleton.mp h1
      rw [← e, h2, hol] at ho; cases ho
      rw [hold] at hd; cases hd
  · intro b hb
    rw [Heap.size_push]
    rcases List.mem_cons.mp hb with h1 | h1
    · rw [h1]; exact Nat.lt_succ_self _
    · rw [List.mem_singleton.mp h1]; exact Nat.lt_succ_of_lt hlt
  · intro i v' h'' hP kS
    exact RdAll.get i v' (RdAll.mono kS _ _ rs) (by simpa using hP)
  · rintro i s' target v' Q' ⟨⟨o, ho, hc, hd⟩, _⟩ q'
    exact go_fields ⟨o, ho, hc, hd⟩ (by decide) q'
theorem Itr.tup {ds : List D} {k : Nat} (ok : c.Ok k) : Itr c (.tup ds) ds := fun s v r H Q q => by
  obtain ⟨a, us, rfl, hl, rs⟩ := rd_tup.mp r
  obtain ⟨ol, hol, _, _, hold⟩ := id hl
  have hlt : a < s.heap.objs.size := Heap.lt_size hol
  have hlen : us.toArray.size = ds.length := by rw [List.size_toArray, rs.length]
  have W := Walks.tuple (prog := c.prog) (w := c.w) ok.rm.handled s.heap.objs.size a (Nat.ne_of_lt hlt) us.toArray
  rw [hlen] at W
  refine wpAny_pyIter_tuple hl (q _ _ _ _ _ _ _ ⟨keep_push _ _, W, ?_, ?_, ?_, ?_, ⟨⟨_, Heap.get?_push_size _ rfl, rfl, rfl⟩, IsTup.push hl _⟩, ?_, ?_⟩)
  · intro b hb
    rw [List.mem_singleton.mp hb]
    cases e : s.heap.get? s.heap.objs.size with
    | none => rfl
    | some o => exact absurd (Heap.lt_size e) (Nat.lt_irrefl _)
  · rintro i h'' ⟨⟨o, ho, _, hd⟩, _⟩ b hb o' xs n e e'
    rw [List.mem_singleton.mp hb, ho] at e; cases e
    rw [hd] at e'; cases e'
  · intro b hb e
    obtain ⟨m, o, es, ep, ho, hd, _⟩ := H.ns
    rcases List.mem_cons.mp hb with h1 | h1
    · rw [← e, h1] at ho; exact absurd (Heap.lt_size ho) (Nat.lt_irrefl _)
    · have h2 := List.mem_singleton.mp h1
      rw [← e, h2, hol] at ho; cases ho
      rw [hold] at hd; cases hd
  · intro b hb
    rw [Heap.size_push]
    rcases List.mem_cons.mp hb with h1 | h1
    · rw [h1]; exact Nat.lt_succ_self _
    · rw [List.mem_singleton.mp h1]; exact Nat.lt_succ_of_lt hlt
  · intro i v' h'' hP kS
    exact RdAll.get i v' (RdAll.mono kS _ _ rs) (by simpa using hP)
  · rintro i s' target v' Q' ⟨⟨o, ho, hc, hd⟩, _⟩ q'
    exact go_fields ⟨o, ho, hc, hd⟩ (by decide) q'
/-- the signs of a text -/
def signs (x : Str) : List D := x.cps.toList.map fun n => D.str ⟨#[n]⟩
theorem Itr.str {x : Str} {k : Nat} (ok : c.Ok k) : Itr c (.str x) (signs x) := fun s v r H Q q => by
  obtain ⟨t, rfl⟩ := rd_str.mp r
  have hlen : (signs x).length = x.cps.size := by simp [signs]
  have new : ∀ b ∈ [s.heap.objs.size], s.heap.get? b = none := fun b hb => by
    rw [List.mem_singleton.mp hb]
    cases e : s.heap.get? s.heap.objs.size with
    | none => rfl
    | some o => exact absurd (Heap.lt_size e) (Nat.lt_irrefl _)
  have fpL : ∀ b ∈ [s.heap.objs.size], b ≠ c.env.locals := fun b hb e => by
    obtain ⟨m, o, es, ep, ho, hd, _⟩ := H.ns
    rw [← e, List.mem_singleton.mp hb] at ho
    exact absurd (Heap.lt_size ho) (Nat.lt_irrefl _)
  have fplt : ∀ (o : Obj), ∀ b ∈ [s.heap.objs.size], b < (s.heap.push o).objs.size := fun o b hb => by rw [Heap.size_push, List.mem_singleton.mp hb]; omega
  have rdx : ∀ i v' h'', SignAt x i v' → KeepS s.heap h'' → ∃ d, (signs x)[i]? = some d ∧ Rd h'' d v' := fun i v' h'' hP _ => by
    obtain ⟨n, u, hn, rfl⟩ := hP
    exact ⟨.str ⟨#[n]⟩, by simp [signs, hn], rd_str.mpr ⟨u, rfl⟩⟩
  cases ha : x.cps.all (· < 128)
  · have W := Walks.strWide (prog := c.prog) (w := c.w) ok.rm.handled s.heap.objs.size x t
    rw [← hlen] at W
    refine wpAny_pyIter_wide ha (q _ _ _ _ _ _ _ ⟨keep_push _ _, W, new, ?_, fpL, fplt _, ⟨_, Heap.get?_push_size _ rfl, rfl, rfl⟩, rdx, ?_⟩)
    · rintro i h'' ⟨o, ho, _, hd⟩ b hb o' xs n e e'
      rw [List.mem_singleton.mp hb, ho] at e; cases e
      rw [hd] at e'; cases e'
    · rintro i s' target v' Q' ⟨o, ho, hc, hd⟩ q'
      exact go_fields ⟨o, ho, hc, hd⟩ (by decide) q'
  · have W := Walks.strAscii (prog := c.prog) (w := c.w) ok.rm.handled s.heap.objs.size x t
    rw [← hlen] at W
    refine wpAny_pyIter_ascii ha (q _ _ _ _ _ _ _ ⟨keep_push _ _, W, new, ?_, fpL, fplt _, ⟨_, Heap.get?_push_size _ rfl, rfl, rfl⟩, rdx, ?_⟩)
    · rintro i h'' ⟨o, ho, _, hd⟩ b hb o' xs n e e'
      rw [List.mem_singleton.mp hb, ho] at e; cases e
      rw [hd] at e'; cases e'
    · rintro i s' target v' Q' ⟨o, ho, hc, hd⟩ q'
      exact go_fields ⟨o, ho, hc, hd⟩ (by decide) q'

/-! tuples taken apart -/
def Aso (c : C) : Store → List (Value → Sem Unit) → List D → Store → Prop
  | σ, [], [], σ' => σ' = σ
  | σ, t :: ts, d :: ds, σ' => ∃ x : Str, c.env.kindOf x = some .local ∧ (∃ px : Pos, t = assign (.Name x px) c.env) ∧ Aso c ((x, d) :: σ) ts ds σ'
  | _, _, _, _ => False
theorem Aso.run (hk : c.env.scope.kind = .function) : ∀ (ts : List (Value → Sem Unit)) (ds : List D) (σ σ' : Store) (s : Shared) (vs : List Value), Aso c σ ts ds σ' → Hd c s.heap σ → RdAll s.heap ds vs → ∀ (Q : Unit → Shared → Prop),
    (∀ h' tk, KeepB c.env.locals s.heap h' → Hd c h' σ' → Q () { s with heap := h', toks := tk }) → wpAny (model c.prog c.w) c.A (assignInOrder ts vs) Q (fun _ _ => False) s
  | [], [], σ, σ', s, vs, a, H, r, Q, q => by
    rw [rdAll_nil] at r; subst r
    rw [Aso] at a; subst a
    exact wpAny_assignInOrder_none (q s.heap s.toks (KeepB.of_keep (Keep.refl _)) H)
  | t :: ts, d :: ds, σ, σ', s, vs, a, H, r, Q, q => by
    obtain ⟨v, vs', rfl, r1, r2⟩ := rdAll_cons.mp r
    rw [Aso] at a
    obtain ⟨x, hx, ⟨px, rfl⟩, a'⟩ := a
    refine wpAny_assignInOrder_more (wpAny_assign_Name (store hk hx H r1 fun h' tk kb kS H' => ?_))
    exact Aso.run hk ts ds _ σ' { s with heap := h', toks := tk } vs' a' H' (RdAll.mono kS _ _ r2) Q fun h2 tk2 kb2 H2 => q h2 tk2 (kb.trans kb2) H2
  | [], _ :: _, _, _, _, _, a, _, _, _, _ => by rw [Aso] at a; exact a.elim; all_goals simp
  | _ :: _, [], _, _, _, _, a, _, _, _, _ => by rw [Aso] at a; exact a.elim; all_goals simp
theorem Asg.tup {elts : List Expr} {x1 : Nat} {pos : Pos} {ds : List D} {σ' : Store} {k : Nat} (ok : c.Ok k) (hn : (assignEach elts c.env).length = ds.length) (hstar : (assignEach elts c.env).findIdx? (·.1) = none)
    (a : Aso c σ ((assignEach elts c.env).map (·.2)) ds σ') : Asg c σ (.Tuple elts x1 pos) (.tup ds) σ' := fun s v H r Q q => by
  obtain ⟨t, us, rfl, ht, rs⟩ := rd_tup.mp r
  have hlen : us.toArray.size = ds.length := by rw [List.size_toArray, rs.length]
  refine wpAny_assign_Tuple ok.rm.handled ht (by rw [hlen]; exact hn) hstar fun h' hext => ?_
  have kp : Keep s.heap h' := fun b o e => hext b o (Nat.ne_of_lt (Heap.lt_size e)) e
  exact Aso.run ok.kind _ ds σ σ' { s with heap := h' } us a (H.keep kp) (rs.keep kp) Q fun h2 tk2 kb2 H2 => q h2 tk2 ((KeepB.of_keep kp).trans kb2) H2
theorem Ex1.assignT {elts : List Expr} {x1 : Nat} {tpos pos : Pos} {e : Expr} {ds : List D} {σ' : Store} {N : Store → Prop} {Rt : D → Prop} (h : Ev c σ e (.tup ds)) (a : Asg c σ (.Tuple elts x1 tpos) (.tup ds) σ')
    (hs : swapsWithSole [.Tuple elts x1 tpos] e pos.line c.env = pure false) (hw : swappedStores [.Tuple elts x1 tpos] e c.env = pure none) (hn : N σ') : Ex1 c σ (.Assign [.Tuple elts x1 tpos] e pos) N Rt := fun s H Q n _ =>
  Assign_Tuple ((h s H).then fun v h' tk k rd => wpAny_mono (a { s with heap := h', toks := tk } v (H.keep k) rd _ fun h2 tk2 kb H2 => n σ' h2 tk2 hn ((KeepB.of_keep k).trans kb) H2) (fun _ _ x => x) fun _ _ x => x.elim) hs hw
end
end Mine

namespace Mine

/-! texts as lists of code points -/
abbrev T (l : List Nat) : Str := ⟨l.toArray⟩
abbrev ch (n : Nat) : Str := ⟨#[n]⟩
theorem T_toList (x : Str) : T x.cps.toList = x := by cases x; simp
theorem T_inj {a b : List Nat} (h : T a = T b) : a = b := by
  have := congrArg (fun x => x.cps.toList) h
  simpa using this
theorem T_app (a b : List Nat) : T a ++ T b = T (a ++ b) := Str.ext' (by rw [Str.cps_append]; simp)
theorem T_len (a : List Nat) : (T a).length = a.length := by simp [Str.length]
theorem T_nil : T [] = Str.empty := rfl
theorem T_one (n : Nat) : T [n] = ch n := rfl
theorem empty_T : Str.empty = T [] := rfl
theorem T_ne_empty {l : List Nat} : T l ≠ Str.empty ↔ l ≠ [] := by
  constructor
  · intro h e; subst e; exact h rfl
  · intro h e; exact h (T_inj e)

open StrLaws Builtin.Str

theorem at_T {l : List Nat} {c i : Nat} : At (T l) (ch c) (T l).length i ↔ l[i]? = some c := by
  have := subAt_one (T l) c i
  unfold At
  rw [this]

theorem mem_first {l : List Nat} {c : Nat} (h : c ∈ l) : ∃ a b, l = a ++ c :: b ∧ c ∉ a := by
  induction l with
  | nil => cases h
  | cons x l ih =>
    by_cases e : x = c
    · exact ⟨[], l, by simp [e], by simp⟩
    · have h' : c ∈ l := by
        rcases List.mem_cons.mp h with h1 | h1
        · exact absurd h1.symm e
        · exact h1
      obtain ⟨a, b, rfl, hn⟩ := ih h'
      exact ⟨x :: a, b, rfl, by simp only [List.mem_cons, not_or]; exact ⟨fun q => e q.symm, hn⟩⟩
theorem mem_last {l : List Nat} {c : Nat} (h : c ∈ l) : ∃ a b, l = a ++ c :: b ∧ c ∉ b := by
  obtain ⟨a, b, e, hn⟩ := mem_first (List.mem_reverse.mpr h)
  refine ⟨b.reverse, a.reverse, ?_, by simpa using hn⟩
  have := congrArg List.reverse e
  simpa using this

theorem get_mid {a b : List Nat} {c : Nat} : (a ++ c :: b)[a.length]? = some c := by simp
theorem get_lt {a b : List Nat} {c i : Nat} (ha : c ∉ a) (hi : i < a.length) : (a ++ c :: b)[i]? ≠ some c := by
  rw [List.getElem?_append_left hi]
  intro e
  exact ha (List.mem_of_getElem? e)
theorem get_gt {a b : List Nat} {c i : Nat} (hb : c ∉ b) (hi : a.length < i) : (a ++ c :: b)[i]? ≠ some c := by
  rw [List.getElem?_append_right (by omega)]
  obtain ⟨k, hk⟩ : ∃ k, i - a.length = k + 1 := ⟨i - a.length - 1, by omega⟩
  rw [hk, List.getElem?_cons_succ]
  intro e
  exact hb (List.mem_of_getElem? e)

theorem occ_has {a b : List Nat} {c : Nat} (ha : c ∉ a) : ∃ r, occurrences (T (a ++ c :: b)) (ch c) 0 (T (a ++ c :: b)).length 1 = a.length :: r := by
  rcases occ_head (T (a ++ c :: b)) (ch c) 1 (Nat.le_refl 1) with ⟨_, hn⟩ | ⟨i, r, h0, hi, hn⟩
  · exact absurd (at_T.mpr get_mid) (hn a.length)
  · have hi' := at_T.mp hi
    have : i = a.length := by
      rcases Nat.lt_trichotomy i a.length with h | h | h
      · exact absurd hi' (get_lt ha h)
      · exact h
      · exact absurd (at_T.mpr get_mid) (hn a.length h)
    exact ⟨r, by rw [h0, this]⟩
theorem occ_no {l : List Nat} {c : Nat} (h : c ∉ l) : occurrences (T l) (ch c) 0 (T l).length 1 = [] := by
  rcases occ_head (T l) (ch c) 1 (Nat.le_refl 1) with ⟨h0, _⟩ | ⟨i, r, h0, hi, hn⟩
  · exact h0
  · exact absurd (List.mem_of_getElem? (at_T.mp hi)) h
theorem last_has {a b : List Nat} {c : Nat} (hb : c ∉ b) : lastOccurrence (T (a ++ c :: b)) (ch c) 0 (T (a ++ c :: b)).length = some a.length := by
  rcases last_spec (T (a ++ c :: b)) (ch c) with ⟨_, hn⟩ | ⟨i, h0, hi, hn⟩
  · exact absurd (at_T.mpr get_mid) (hn a.length)
  · have hi' := at_T.mp hi
    have : i = a.length := by
      rcases Nat.lt_trichotomy i a.length with h | h | h
      · exact absurd (at_T.mpr get_mid) (hn a.length h)
      · exact h
      · exact absurd hi' (get_gt hb h)
    rw [h0, this]
theorem last_no {l : List Nat} {c : Nat} (h : c ∉ l) : lastOccurrence (T l) (ch c) 0 (T l).length = none := by
  rcases last_spec (T l) (ch c) with ⟨h0, _⟩ | ⟨i, h0, hi, hn⟩
  · exact h0
  · exact absurd (List.mem_of_getElem? (at_T.mp hi)) h

theorem strSub_T (l : List Nat) (i j : Nat) : strSub (T l) i j = T ((l.drop i).take (j - i)) := by
  have := strSub_toList (T l) i j
  rw [← T_toList (strSub (T l) i j), this]
theorem sub_before (a b : List Nat) (c : Nat) : strSub (T (a ++ c :: b)) 0 a.length = T a := by
  rw [strSub_T]; simp
theorem sub_behind (a b : List Nat) (c : Nat) : strSub (T (a ++ c :: b)) (a.length + (ch c).length) (T (a ++ c :: b)).length = T b := by
  rw [strSub_T, T_len]
  have e : (ch c).length = 1 := rfl
  rw [e]
  have e2 : List.drop (a.length + 1) (a ++ c :: b) = b := by
    rw [show a ++ c :: b = (a ++ [c]) ++ b by simp, show a.length + 1 = (a ++ [c]).length by simp, List.drop_left]
  rw [e2, List.take_of_length_le (by simp; omega)]
theorem part_has {a b : List Nat} {c : Nat} (ha : c ∉ a) : Txt.partition (T (a ++ c :: b)) (ch c) = (T a, ch c, T b) := by
  obtain ⟨r, h⟩ := occ_has (b := b) ha
  unfold Txt.partition
  rw [h]
  dsimp only
  rw [sub_before, sub_behind]
theorem part_no {l : List Nat} {c : Nat} (h : c ∉ l) : Txt.partition (T l) (ch c) = (T l, Str.empty, Str.empty) := by
  unfold Txt.partition
  rw [occ_no h]
theorem rpart_has {a b : List Nat} {c : Nat} (hb : c ∉ b) : Txt.rpartition (T (a ++ c :: b)) (ch c) = (T a, ch c, T b) := by
  unfold Txt.rpartition
  rw [last_has hb]
  dsimp only
  rw [sub_before, sub_behind]
theorem rpart_no {l : List Nat} {c : Nat} (h : c ∉ l) : Txt.rpartition (T l) (ch c) = (Str.empty, Str.empty, T l) := by
  unfold Txt.rpartition
  rw [last_no h]
theorem find_has {a b : List Nat} {c : Nat} (ha : c ∉ a) : Txt.find (T (a ++ c :: b)) (ch c) = a.length := by
  obtain ⟨r, h⟩ := occ_has (b := b) ha
  unfold Txt.find
  rw [h]
theorem find_no {l : List Nat} {c : Nat} (h : c ∉ l) : Txt.find (T l) (ch c) = -1 := by
  unfold Txt.find
  rw [occ_no h]
theorem rfind_has {a b : List Nat} {c : Nat} (hb : c ∉ b) : Txt.rfind (T (a ++ c :: b)) (ch c) = a.length := by
  unfold Txt.rfind
  rw [last_has hb]
theorem rfind_no {l : List Nat} {c : Nat} (h : c ∉ l) : Txt.rfind (T l) (ch c) = -1 := by
  unfold Txt.rfind
  rw [last_no h]
theorem has_T {l : List Nat} {c : Nat} : has (T l) (ch c) = decide (c ∈ l) := by
  have := found_one (T l) c
  unfold has
  rw [this]
theorem find3_has {p a b : List Nat} {c : Nat} {i : Int} (hi : fromIndex (p ++ a ++ c :: b).length i = p.length) (ha : c ∉ a) : Txt.find3 (T (p ++ a ++ c :: b)) (ch c) i = (p ++ a).length := by
  rcases occ_head_from (T (p ++ a ++ c :: b)) (ch c) p.length 1 (Nat.le_refl 1) with ⟨_, hn⟩ | ⟨k, r, h0, hlo, hk, hn⟩
  · exact absurd (at_T.mpr get_mid) (hn (p ++ a).length (by simp))
  · have hk' := at_T.mp hk
    have : k = (p ++ a).length := by
      rcases Nat.lt_trichotomy k (p ++ a).length with h | h | h
      · exfalso
        rw [List.append_assoc, List.getElem?_append_right hlo] at hk'
        exact get_lt ha (by simp at h; omega) hk'
      · exact h
      · exact absurd (at_T.mpr get_mid) (hn (p ++ a).length (by simp) h)
    unfold Txt.find3
    rw [T_len, hi]
    rw [T_len] at h0
    rw [h0, this]
theorem find3_no {p b : List Nat} {c : Nat} {i : Int} (hi : fromIndex (p ++ b).length i = p.length) (hb : c ∉ b) : Txt.find3 (T (p ++ b)) (ch c) i = -1 := by
  rcases occ_head_from (T (p ++ b)) (ch c) p.length 1 (Nat.le_refl 1) with ⟨h0, _⟩ | ⟨k, r, h0, hlo, hk, hn⟩
  · unfold Txt.find3
    rw [T_len, hi]
    rw [T_len] at h0
    rw [h0]
  · have hk' := at_T.mp hk
    rw [List.getElem?_append_right hlo] at hk'
    exact absurd (List.mem_of_getElem? hk') hb

/-! pieces between a sign -/
def jn (c : Nat) : List (List Nat) → List Nat
  | [] => []
  | [a] => a
  | a :: b :: r => a ++ c :: jn c (b :: r)
theorem jn_cons (c : Nat) (a : List Nat) {r : List (List Nat)} (h : r ≠ []) : jn c (a :: r) = a ++ c :: jn c r := by
  cases r with
  | nil => exact absurd rfl h
  | cons b r => rfl
theorem jn_inj {c : Nat} : ∀ {ps qs : List (List Nat)}, ps ≠ [] → qs ≠ [] → (∀ p ∈ ps, c ∉ p) → (∀ q ∈ qs, c ∉ q) → jn c ps = jn c qs → ps = qs
  | [], _, h, _, _, _, _ => absurd rfl h
  | _, [], _, h, _, _, _ => absurd rfl h
  | [a], [b], _, _, _, _, e => by simpa [jn] using e
  | [a], b :: b' :: r, _, _, hp, _, e => by
    rw [jn_cons c b (by simp)] at e
    exact absurd (by show c ∈ a; rw [show a = b ++ c :: jn c (b' :: r) from e]; simp) (hp a (.head _))
  | a :: a' :: r, [b], _, _, _, hq, e => by
    rw [jn_cons c a (by simp)] at e
    exact absurd (by show c ∈ b; rw [show b = a ++ c :: jn c (a' :: r) from e.symm]; simp) (hq b (.head _))
  | a :: a' :: r, b :: b' :: t, _, _, hp, hq, e => by
    rw [jn_cons c a (by simp), jn_cons c b (by simp)] at e
    have key : ∀ (a b u v : List Nat), c ∉ a → c ∉ b → a ++ c :: u = b ++ c :: v → a = b ∧ u = v := by
      intro a
      induction a with
      | nil =>
        intro b u v _ hb e
        cases b with
        | nil => simpa using e
        | cons y b => simp at e; exact absurd (by simp [e.1]) hb
      | cons x a ih =>
        intro b u v ha hb e
        cases b with
        | nil => simp at e; exact absurd (by simp [e.1]) ha
        | cons y b =>
          simp only [List.cons_append, List.cons.injEq] at e
          obtain ⟨h1, h2⟩ := ih b u v (fun h => ha (.tail _ h)) (fun h => hb (.tail _ h)) e.2
          exact ⟨by rw [e.1, h1], h2⟩
    obtain ⟨h1, h2⟩ := key a b _ _ (hp a (.head _)) (hq b (.head _)) e
    have := jn_inj (by simp) (by simp) (fun p hp' => hp p (.tail _ hp')) (fun q hq' => hq q (.tail _ hq')) h2
    rw [h1, this]
theorem join_T (c : Nat) : ∀ ps : List (List Nat), Str.join (ch c) (ps.map T) = T (jn c ps)
  | [] => rfl
  | [a] => rfl
  | a :: b :: r => by
    have := join_T c (b :: r)
    show T a ++ ch c ++ Str.join (ch c) ((b :: r).map T) = _
    rw [this, jn_cons c a (by simp), ← T_one c, T_app, T_app]
    simp
theorem txt_join (c : Nat) (ps : List (List Nat)) : Txt.join (ch c) (ps.map T) = T (jn c ps) := by
  rw [← join_T]; exact glued_eq_join _ _
theorem map_T (xs : List Str) : (xs.map fun x => x.cps.toList).map T = xs := by
  rw [List.map_map]
  exact (List.map_congr_left fun x _ => T_toList x).trans (List.map_id _)
theorem split_ne (x y : Str) : Txt.split x y ≠ [] := by
  unfold Txt.split
  split
  · simp
  · split
    · simp
    · rw [partsBetween_eq]
      obtain ⟨p, r, e⟩ := partsFrom_ne x y.length 0 (occurrences x y 0 x.length (x.length + 1))
      rw [e]; simp
theorem split_T {c : Nat} {ps : List (List Nat)} (hne : ps ≠ []) (hf : ∀ p ∈ ps, c ∉ p) : Txt.split (T (jn c ps)) (ch c) = ps.map T := by
  have h1 := join_split (T (jn c ps)) (ch c)
  have h2 := split_free (T (jn c ps)) c
  have h3 := split_ne (T (jn c ps)) (ch c)
  generalize Txt.split (T (jn c ps)) (ch c) = qs at h1 h2 h3
  rw [← map_T qs, join_T] at h1
  have e := T_inj h1
  have := jn_inj (c := c) (by simpa using h3) hne (by
    intro p hp
    obtain ⟨q, hq, rfl⟩ := List.mem_map.mp hp
    exact h2 q hq) hf e
  rw [← this, map_T]
/-- every text is such a join -/
theorem split_is (l : List Nat) (c : Nat) : ∃ ps, ps ≠ [] ∧ (∀ p ∈ ps, c ∉ p) ∧ l = jn c ps ∧ Txt.split (T l) (ch c) = ps.map T := by
  refine ⟨(Txt.split (T l) (ch c)).map fun x => x.cps.toList, by simpa using split_ne _ _, ?_, ?_, (map_T _).symm⟩
  · intro p hp
    obtain ⟨q, hq, rfl⟩ := List.mem_map.mp hp
    exact split_free (T l) c q hq
  · have h1 := join_split (T l) (ch c)
    generalize Txt.split (T l) (ch c) = qs at h1
    rw [← map_T qs, join_T] at h1
    exact (T_inj h1).symm

/-! slices -/
theorem slice_T (l : List Nat) (a b : Option Int) : Txt.slice (T l) a b = T (lsl l a b) := by
  have hidx : strSliceIndices a b 1 l.length = (List.range (b.elim l.length (clipAt l.length) - a.elim 0 (clipAt l.length))).map (a.elim 0 (clipAt l.length) + ·) := by
    rw [← sliceRange_one]
    unfold strSliceIndices
    cases a <;> cases b <;> simp [clipAt_cast]
  have hpick : (strSliceIndices a b 1 l.length).filterMap ((T l).cps[·]?) = lsl l a b := by
    rw [hidx, pick_run]; rfl
  unfold Txt.slice
  rw [T_len]
  split
  · rename_i h
    have hlen : (strSliceIndices a b 1 l.length).length = l.length := by simpa using h
    have hn : (b.elim l.length (clipAt l.length) - a.elim 0 (clipAt l.length)) = l.length := by rw [hidx] at hlen; simpa using hlen
    have hb : b.elim l.length (clipAt l.length) ≤ l.length := by
      cases b with
      | none => exact Nat.le_refl _
      | some j => show clipAt l.length j ≤ l.length; have := clipAt_cast l.length j; omega
    by_cases h0 : l.length = 0
    · have : l = [] := List.length_eq_zero_iff.mp h0
      subst this
      simp [lsl]
    · have ha : a.elim 0 (clipAt l.length) = 0 := by omega
      have hb' : b.elim l.length (clipAt l.length) = l.length := by omega
      simp [lsl, ha, hb']
  · rw [hpick]
theorem lsl_from {α : Type} (l : List α) (n : Nat) : lsl l (some (n : Int)) none = l.drop n := by
  unfold lsl
  simp only [Option.elim, clipAt_nat]
  rw [List.take_of_length_le (by simp)]
  rcases Nat.le_total n l.length with h | h
  · rw [Nat.min_eq_left h]
  · rw [Nat.min_eq_right h, List.drop_of_length_le (Nat.le_refl _), List.drop_of_length_le h]
theorem lsl_to {α : Type} (l : List α) (n : Nat) : lsl l none (some (n : Int)) = l.take n := by
  unfold lsl
  simp only [Option.elim, clipAt_nat, List.drop_zero, Nat.sub_zero]
  rcases Nat.le_total n l.length with h | h
  · rw [Nat.min_eq_left h]
  · rw [Nat.min_eq_right h, List.take_of_length_le (Nat.le_refl _), List.take_of_length_le h]
theorem lsl_butLast {α : Type} (l : List α) : lsl l none (some (-1)) = l.take (l.length - 1) := by
  unfold lsl
  have := clipAt_neg l.length 1 (Nat.le_refl 1)
  simp only [Option.elim, List.drop_zero, Nat.sub_zero]
  rw [show ((-1 : Int)) = -((1 : Nat) : Int) from rfl, this]
end Mine

namespace Mine
def nth (p : Program) (i : Nat) : Str × Arguments × List Stmt × Scope := match p.main.body[i]? with
  | some (.FunctionDef n a b _ _ _ sc _ _ _) => (n, a, b, sc)
  | _ => (Str.empty, ⟨[], [], none, [], [], none, []⟩, [], { kind := .function, names := [], isGenerator := false, isCoroutine := false, more := [] })
abbrev fdOf (p : Program) (i : Nat) (dV kV doc pm : Value) (an : Option Addr) (cdv ct : Value) : FuncData :=
  fnOf (nth p i).1 (nth p i).1 (nth p i).2.1 (nth p i).2.2.1 (nth p i).2.2.2 dV kV doc pm an cdv ct
/-- what is asked of a def's scope -/
def scopeOk (sc : Scope) : Bool := sc.names.all (fun x => x.2 != .cell) && !sc.isCoroutine && !sc.isGenerator && sc.kind == .function
theorem scopeOk_cell {sc : Scope} (h : scopeOk sc = true) : ∀ x ∈ sc.names, x.2 ≠ .cell := by
  simp only [scopeOk, Bool.and_eq_true, List.all_eq_true] at h
  intro x hx
  simpa using h.1.1.1 x hx
theorem scopeOk_co {sc : Scope} (h : scopeOk sc = true) : sc.isCoroutine = false := by
  simp only [scopeOk, Bool.and_eq_true, Bool.not_eq_true'] at h; exact h.1.1.2
theorem scopeOk_gen {sc : Scope} (h : scopeOk sc = true) : sc.isGenerator = false := by
  simp only [scopeOk, Bool.and_eq_true, Bool.not_eq_true'] at h; exact h.1.2
theorem scopeOk_kind {sc : Scope} (h : scopeOk sc = true) : sc.kind = .function := by
  simp only [scopeOk, Bool.and_eq_true, beq_iff_eq] at h; exact h.2

section
variable {p : Program} {w : World} {G : Grd} {k i : Nat} {f : Addr} {dV kV doc pm : Value} {an : Option Addr} {cdv ct : Value} {d1 d2 d : D} {x y : Str}
theorem Fsp.one (fa : FnAt G f (fdOf p i dV kV doc pm an cdv ct)) (hs : scopeOk (nth p i).2.2.2 = true)
    (hbind : ∀ v, bindArgs (fdOf p i dV kV doc pm an cdv ct) ⟨[v], []⟩ = pure [(x, v)]) (hx : (nth p i).2.2.2.names.lookup x = some .local)
    (run : ∀ (A : Around) (L : Addr) (h0 : Heap), C.Ok ⟨p, w, G, A, callEnv (fdOf p i dV kV doc pm an cdv ct) L f, h0, Kf.none⟩ k →
      Ex ⟨p, w, G, A, callEnv (fdOf p i dV kV doc pm an cdv ct) L f, h0, Kf.none⟩ [(x, d1)] (nth p i).2.2.1 (fun _ => d = .none) (fun d' => d' = d)) : Fsp p w G (k + 1) (.ref f) [d1] d := by
  refine Fsp.of (σ₀ := [(x, d1)]) fa rfl (scopeOk_cell hs) (scopeOk_co hs) (scopeOk_gen hs) (scopeOk_kind hs) rfl rfl ?_ ?_
  · intro s vs g r
    obtain ⟨v, rfl, r1⟩ := rdAll_one r
    refine ⟨[(x, v)], BindsTo.of_eq (hbind v), fun z hz => ?_, fun z d' e => ?_⟩
    · rw [List.mem_singleton.mp hz]; exact hx
    · rw [List.lookup_cons] at e
      show ∃ u, [(x, v)].lookup z = some u ∧ _
      rw [List.lookup_cons]
      cases hz : z == x with
      | true => rw [hz] at e; cases e; exact ⟨v, rfl, r1⟩
      | false => rw [hz] at e; cases e
  · intro A L h0 rm g
    exact run A L h0 ⟨scopeOk_kind hs, rfl, rfl, g, rm⟩
theorem Fsp.two (fa : FnAt G f (fdOf p i dV kV doc pm an cdv ct)) (hs : scopeOk (nth p i).2.2.2 = true)
    (hbind : ∀ v u, bindArgs (fdOf p i dV kV doc pm an cdv ct) ⟨[v, u], []⟩ = pure [(x, v), (y, u)]) (hx : (nth p i).2.2.2.names.lookup x = some .local) (hy : (nth p i).2.2.2.names.lookup y = some .local) (hxy : (y == x) = false)
    (run : ∀ (A : Around) (L : Addr) (h0 : Heap), C.Ok ⟨p, w, G, A, callEnv (fdOf p i dV kV doc pm an cdv ct) L f, h0, Kf.none⟩ k →
      Ex ⟨p, w, G, A, callEnv (fdOf p i dV kV doc pm an cdv ct) L f, h0, Kf.none⟩ [(x, d1), (y, d2)] (nth p i).2.2.1 (fun _ => d = .none) (fun d' => d' = d)) : Fsp p w G (k + 1) (.ref f) [d1, d2] d := by
  refine Fsp.of (σ₀ := [(x, d1), (y, d2)]) fa rfl (scopeOk_cell hs) (scopeOk_co hs) (scopeOk_gen hs) (scopeOk_kind hs) rfl rfl ?_ ?_
  · intro s vs g r
    obtain ⟨v, u, rfl, r1, r2⟩ := rdAll_two r
    refine ⟨[(x, v), (y, u)], BindsTo.of_eq (hbind v u), fun z hz => ?_, fun z d' e => ?_⟩
    · rcases List.mem_cons.mp hz with rfl | hz
      · exact hx
      · rw [List.mem_singleton.mp hz]; exact hy
    · show ∃ t, [(y, u), (x, v)].lookup z = some t ∧ _
      rw [List.lookup_cons, List.lookup_cons] at e
      rw [List.lookup_cons, List.lookup_cons]
      cases hz : z == x with
      | true =>
        rw [hz] at e; cases e
        have : z = x := by simpa using hz
        subst this
        have : (z == y) = false := by
          cases q : z == y with
          | false => rfl
          | true => have : z = y := by simpa using q
                    subst this; simp at hxy
        rw [this]; exact ⟨v, rfl, r1⟩
      | false =>
        rw [hz] at e
        cases hz' : z == y with
        | true => rw [hz'] at e; cases e; exact ⟨u, rfl, r2⟩
        | false => rw [hz'] at e; cases e
  · intro A L h0 rm g
    exact run A L h0 ⟨scopeOk_kind hs, rfl, rfl, g, rm⟩
end

theorem lsl_cut1 {α : Type} (a b : List α) (c : α) : lsl (a ++ c :: b) none (some (a.length : Int)) = a := by rw [lsl_to]; simp
theorem lsl_cut2 {α : Type} (a b : List α) (c : α) : lsl (a ++ c :: b) (some ((a.length : Int) + 1)) none = b := by
  rw [show (a.length : Int) + 1 = ((a.length + 1 : Nat) : Int) by simp, lsl_from]
  rw [show a ++ c :: b = (a ++ [c]) ++ b by simp, show a.length + 1 = (a ++ [c]).length by simp, List.drop_left]
open StrLaws Builtin.Str in
theorem from_nat {n a : Nat} (h : a ≤ n) : fromIndex n (a : Int) = a := by
  unfold fromIndex
  omega
theorem jn_length {c : Nat} : ∀ ps : List (List Nat), ps.length ≤ (jn c ps).length + 1
  | [] => Nat.zero_le _
  | [a] => by simp
  | a :: b :: r => by
    have := jn_length (c := c) (b :: r)
    rw [jn_cons c a (by simp)]
    simp at this ⊢; omega

theorem Sub.nil {σ : Store} : Sub σ [] := fun _ _ e => by cases e
theorem Sub.cons {σ τ : Store} {n : Str} {d : D} (h : σ.lookup n = some d) (s : Sub σ τ) : Sub σ ((n, d) :: τ) := fun x d' e => by
  rw [List.lookup_cons] at e
  cases hx : x == n with
  | true => rw [hx] at e; cases e; rw [show x = n by simpa using hx]; exact h
  | false => rw [hx] at e; exact s x d' e
theorem Ex.cut {c : C} {σ : Store} {st : Stmt} {rest : List Stmt} {N : Store → Prop} {Rt : D → Prop} {γ : Type} (σM : γ → Store) (Pm : γ → Prop) (h : Ex1 c σ st (fun σ' => ∃ g, Pm g ∧ Sub σ' (σM g)) Rt) (k : ∀ g, Pm g → Ex c (σM g) rest N Rt) : Ex c σ (st :: rest) N Rt :=
  Ex.cons (h.mono (fun σ' ⟨g, hp, hs⟩ => (k g hp).sub hs) fun _ x => x)

section
variable {c : C} {σ : Store} {k : Nat}
theorem sz {n : Nat} (h : n ≤ 1000000) : n ≤ sizeLine := by rw [sizeLine_eq]; omega
/-- l op1 r1 op2 r2 -/
theorem Ts.chain {l r1 r2 : Expr} {op1 op2 : CmpOp} {pos : Pos} {d0 d1 d2 : D} {b1 b2 : Bool} (h0 : Ev c σ l d0) (h1 : Ev c σ r1 d1) (h2 : Ev c σ r2 d2) (c1 : Cmp c op1 d0 d1 b1) (c2 : Cmp c op2 d1 d2 b2)
    (hm : lastMarks [op1, op2] [r1, r2] = false) : Ts c σ (.Compare l [op1, op2] [r1, r2] pos) (b1 && b2) := fun s H Q q => by
  refine isTrue_chain ((h0 s H).then fun v0 g0 t0 k0 q0 => test_link ((h1 _ (H.keep k0)).then fun v1 g1 t1 k1 q1 => (c1 _ v0 v1 (q0.keep k1) q1).then fun v2 g2 t2 k2 q2 => ?_)) hm
  rw [rd_bool] at q2; subst q2
  refine wpAny_truthy_bool ?_
  have kk := (k0.trans k1).trans k2
  cases b1 with
  | false => rw [if_neg (by decide)]; exact q g2 t2 kk
  | true =>
    rw [if_pos rfl]
    refine test_last ((h2 _ (H.keep kk)).then fun v3 g3 t3 k3 q3 => (c2 _ v1 v3 (q1.keep (k2.trans k3)) q3).then fun v4 g4 t4 k4 q4 => ?_)
    rw [rd_bool] at q4; subst q4
    exact wpAny_truthy_bool (q g4 t4 ((kk.trans k3).trans k4))
theorem Itm.tab {l : List Nat} {i : Int} (h0 : 0 ≤ i) (h1 : i < l.length) (hl : l.length ≤ 1000) : Itm c (.str (T l)) (.int i) (.str (ch (l.getD i.toNat 0))) := by
  have hj : i.toNat < l.length := by omega
  refine Itm.str (by omega) (by omega) ?_
  rw [T_len, StrLaws.seqIndex_nonneg h0 h1]
  simp [List.getD, hj]
theorem getD_lt {l : List Nat} {i : Int} (h1 : i < l.length) (h0 : 0 ≤ i) {m : Nat} (h : ∀ x ∈ l, x < m) : l.getD i.toNat 0 < m := by
  have hj : i.toNat < l.length := by omega
  rw [List.getD_eq_getElem?_getD, List.getElem?_eq_getElem hj]
  exact h _ (List.getElem_mem hj)
theorem fmod_pos {a b : Int} (hb : 0 < b) : 0 ≤ a.fmod b ∧ a.fmod b < b := by
  rw [Int.fmod_eq_emod_of_nonneg _ (by omega)]
  exact ⟨Int.emod_nonneg _ (by omega), Int.emod_lt_of_pos _ hb⟩
end
end Mine

namespace Mine

/-! statements that change the objects of a context's heap fact -/
abbrev KeepM (L : Addr) (fp : List Addr) (h h' : Heap) : Prop := ∀ b o, b ≠ L → b ∉ fp → h.get? b = some o → h'.get? b = some o
abbrev C.on (c : C) (K : Kf) : C := { c with K := K }
def Em (c : C) (σ : Store) (body : List Stmt) (N : Kf → Store → Prop) (Rt : D → Prop) : Prop := ∀ s : Shared, Hd c s.heap σ → ∀ (Q : Flow → Shared → Prop),
  (∀ K σ' h' tk, K.fp = c.K.fp → N K σ' → KeepM c.env.locals c.K.fp s.heap h' → Hd (c.on K) h' σ' → Q .next { s with heap := h', toks := tk }) →
  (∀ d v h' tk, Rt d → KeepM c.env.locals c.K.fp s.heap h' → Rd h' d v → Q (.ret v) { s with heap := h', toks := tk }) →
  wpAny (model c.prog c.w) c.A (execs body c.env) Q (fun _ _ => False) s
def Em1 (c : C) (σ : Store) (st : Stmt) (N : Kf → Store → Prop) (Rt : D → Prop) : Prop := ∀ s : Shared, Hd c s.heap σ → ∀ (Q : Flow → Shared → Prop),
  (∀ K σ' h' tk, K.fp = c.K.fp → N K σ' → KeepM c.env.locals c.K.fp s.heap h' → Hd (c.on K) h' σ' → Q .next { s with heap := h', toks := tk }) →
  (∀ d v h' tk, Rt d → KeepM c.env.locals c.K.fp s.heap h' → Rd h' d v → Q (.ret v) { s with heap := h', toks := tk }) →
  wpAny (model c.prog c.w) c.A (exec st c.env) Q (fun _ _ => False) s

section
variable {c : C} {σ : Store} {N : Kf → Store → Prop} {Rt : D → Prop}
theorem KeepM.of_b {L : Addr} {fp : List Addr} {h h' : Heap} (k : KeepB L h h') : KeepM L fp h h' := fun b o n _ e => k b o n e
theorem KeepM.trans {L : Addr} {fp : List Addr} {h h' h'' : Heap} (k : KeepM L fp h h') (k' : KeepM L fp h' h'') : KeepM L fp h h'' := fun b o n m e => k' b o n m (k b o n m e)
theorem Em.nil (h : N c.K σ) : Em c σ [] N Rt := fun s H Q n _ => wpAny_execs_nil (n c.K σ s.heap s.toks rfl h (fun _ _ _ _ e => e) H)
theorem Em.cons {st : Stmt} {rest : List Stmt} (h : Em1 c σ st (fun K σ' => Em (c.on K) σ' rest N Rt) Rt) : Em c σ (st :: rest) N Rt := fun s H Q n r =>
  wpAny_execs_cons (h s H _ (fun K σ' h' tk hfp em k H' => em _ H' Q (fun K' σ'' h'' tk' hfp' a b e => n K' σ'' h'' tk' (hfp'.trans hfp) a (k.trans (by rw [← hfp]; exact b)) e)
      fun d v h'' tk' a b e => r d v h'' tk' a (k.trans (by rw [← hfp]; exact b)) e)
    fun d v h' tk a b e => r d v h' tk a b e)
theorem Em1.ofEx {st : Stmt} (h : Ex1 c σ st (fun σ' => N c.K σ') Rt) : Em1 c σ st N Rt := fun s H Q n r =>
  h s H Q (fun σ' h' tk a k H' => n c.K σ' h' tk rfl a (KeepM.of_b k) H') fun d v h' tk a k e => r d v h' tk a (KeepM.of_b k) e
theorem Em1.mono {st : Stmt} {N' : Kf → Store → Prop} (h : Em1 c σ st N Rt) (hn : ∀ K σ, N K σ → N' K σ) : Em1 c σ st N' Rt := fun s H Q n r =>
  h s H Q (fun K σ' h' tk hf a b e => n K σ' h' tk hf (hn _ _ a) b e) r
theorem Em1.if {test : Expr} {body orelse : List Stmt} {pos : Pos} {b : Bool} (ht : Ts c σ test b) (h1 : b = true → Em c σ body N Rt) (h2 : b = false → Em c σ orelse N Rt) :
    Em1 c σ (.If test body orelse pos) N Rt := fun s H Q n r => by
  refine wpAny_If (ht s H _ fun h' tk k => ?_)
  have km : KeepM c.env.locals c.K.fp s.heap h' := fun b o _ _ e => k b o e
  cases b with
  | true => exact h1 rfl _ (H.keep k) Q (fun K σ' h'' tk' hf a b' e => n K σ' h'' tk' hf a (km.trans b') e) fun d v h'' tk' a b' e => r d v h'' tk' a (km.trans b') e
  | false => exact h2 rfl _ (H.keep k) Q (fun K σ' h'' tk' hf a b' e => n K σ' h'' tk' hf a (km.trans b') e) fun d v h'' tk' a b' e => r d v h'' tk' a (km.trans b') e

theorem Em.sub {body : List Stmt} {σ' : Store} (h : Em c σ' body N Rt) (s : Sub σ σ') : Em c σ body N Rt := fun st H Q n r => h st (H.sub s) Q n r
theorem Em.cut {st : Stmt} {rest : List Stmt} {γ : Type} (σM : γ → Store) (Pm : γ → Prop) (h : Ex1 c σ st (fun σ' => ∃ g, Pm g ∧ Sub σ' (σM g)) Rt) (k : ∀ g, Pm g → Em c (σM g) rest N Rt) : Em c σ (st :: rest) N Rt :=
  Em.cons (Em1.ofEx (h.mono (fun σ' ⟨g, hp, hs⟩ => (k g hp).sub hs) fun _ x => x))
theorem Em.ofEx {body : List Stmt} (h : Ex c σ body (fun σ' => N c.K σ') Rt) : Em c σ body N Rt := fun s H Q n r =>
  h s H Q (fun σ' h' tk a k H' => n c.K σ' h' tk rfl a (KeepM.of_b k) H') fun d v h' tk a k e => r d v h' tk a (KeepM.of_b k) e

theorem Em.cutM {st : Stmt} {rest : List Stmt} {γ : Type} (KM : γ → Kf) (σM : γ → Store) (Pm : γ → Prop) (h : Em1 c σ st (fun K σ' => ∃ g, K = KM g ∧ Pm g ∧ Sub σ' (σM g)) Rt) (k : ∀ g, Pm g → Em (c.on (KM g)) (σM g) rest N Rt) : Em c σ (st :: rest) N Rt :=
  Em.cons (h.mono fun K σ' ⟨g, hK, hp, hs⟩ => by subst hK; exact (k g hp).sub hs)

def Flat : D → Prop
  | .list _ => False
  | .tup _ => False
  | _ => True
theorem Flat.rd {h h' : Heap} : ∀ {d : D} {v : Value}, Flat d → Rd h d v → Rd h' d v
  | .none, _, _, r => by rw [rd_none] at r ⊢; exact r
  | .bool _, _, _, r => by rw [rd_bool] at r ⊢; exact r
  | .int _, _, _, r => by rw [rd_int] at r ⊢; exact r
  | .str _, _, _, r => by rw [rd_str] at r ⊢; exact r
  | .val _, _, _, r => by rw [rd_val] at r ⊢; exact r
  | .list _, _, f, _ => by unfold Flat at f; exact f.elim
  | .tup _, _, f, _ => by unfold Flat at f; exact f.elim

/-- a loop over a list of flat data whose turns change what K tells -/
theorem Em1.for {γ : Type} {target iter : Expr} {body : List Stmt} {pos : Pos} {ds : List D} {k : Nat} (ok : c.Ok k) (hi : Ev c σ iter (.list ds)) (hfl : ∀ d ∈ ds, Flat d)
    (KI : γ → Kf) (hfp : ∀ g, (KI g).fp = c.K.fp) (σI : γ → Store) (P : Nat → γ → Prop) (g₀ : γ) (hK0 : KI g₀ = c.K) (h0 : Sub σ (σI g₀)) (p0 : P 0 g₀)
    (hdis : ∀ (h : Heap) l vs, c.K.P h → h.IsList l (List.toArray vs) → RdAll h ds vs → l ∉ c.K.fp)
    (step : ∀ i g d', ds[i]? = some d' → P i g → ∃ σ1, Asg (c.on (KI g)) (σI g) target d' σ1 ∧ Em (c.on (KI g)) σ1 body (fun K σ' => ∃ g', K = KI g' ∧ Sub σ' (σI g') ∧ P (i + 1) g') Rt)
    (done : ∀ g, P ds.length g → N (KI g) (σI g)) (hs : ∀ x, foldedSetIterable iter c.env x = pure x) : Em1 c σ (.For target iter body [] pos) N Rt := fun s H Q n r => by
  refine wpAny_For ((hi s H).then fun v h1 tk1 k1 r1 => ?_) hs
  have H1 := H.keep k1
  obtain ⟨a, us, rfl, hl, rs⟩ := rd_list.mp r1
  obtain ⟨ol, hol, _, _, hold⟩ := id hl
  have hlt : a < h1.objs.size := Heap.lt_size hol
  have hlen : us.toArray.size = ds.length := by rw [List.size_toArray, rs.length]
  have haf : a ∉ c.K.fp := hdis h1 a us H1.2.1 hl rs
  have W := Walks.list (prog := c.prog) (w := c.w) ok.rm.handled h1.objs.size a (Nat.ne_of_lt hlt) us.toArray
  rw [hlen] at W
  refine wpAny_pyIter_list (s := { s with heap := h1, toks := tk1 }) hl ?_
  have Inone : h1.get? h1.objs.size = none := by
    cases e : h1.get? h1.objs.size with
    | none => rfl
    | some o => exact absurd (Heap.lt_size e) (Nat.lt_irrefl _)
  have IL : h1.objs.size ≠ c.env.locals := fun e => by
    obtain ⟨m, o, es, ep, ho, hd, _⟩ := H1.ns
    rw [← e] at ho
    exact absurd (Heap.lt_size ho) (Nat.lt_irrefl _)
  have aL : a ≠ c.env.locals := fun e => by
    obtain ⟨m, o, es, ep, ho, hd, _⟩ := H1.ns
    rw [← e, hol] at ho; cases ho
    rw [hold] at hd; cases hd
  have If : h1.objs.size ∉ c.K.fp := fun hb => by
    obtain ⟨o, ho⟩ := c.K.there H1.2.1 _ hb
    rw [Inone] at ho; cases ho
  have F0 : c.h0.get? h1.objs.size = none := by
    obtain ⟨⟨m, F, _⟩, _⟩ := H1
    cases q : c.h0.get? h1.objs.size with
    | none => rfl
    | some o => have := F.keep _ o q; rw [Inone] at this; cases this
  refine forLoopT (fun m s' => ∃ h' tk i g, s' = { s with heap := h', toks := tk } ∧ i ≤ ds.length ∧ m = ds.length + 1 - i ∧ (h'.IsListIter h1.objs.size a i ∧ h'.IsList a us.toArray) ∧ Hd (c.on (KI g)) h' (σI g) ∧ P i g ∧ KeepM c.env.locals c.K.fp h1 h') ?_ (ds.length + 1)
    ⟨_, tk1, 0, g₀, rfl, Nat.zero_le _, rfl, ⟨⟨_, Heap.get?_push_size _ rfl, rfl, rfl⟩, hl.push _⟩, by rw [hK0]; exact (H1.keep (keep_push _ _)).sub h0, p0, fun b o _ _ e => keep_push _ _ b o e⟩
  rintro m s' ⟨h, tk, i, g, rfl, hi', rfl, hst, Hg, hp, kb⟩
  have but : ∀ h3, (∀ b o, b ∉ [h1.objs.size] → h.get? b = some o → h3.get? b = some o) → Hd (c.on (KI g)) h3 (σI g) ∧ KeepM c.env.locals c.K.fp h1 h3 := fun h3 hk3 => by
    refine ⟨Hg.but hk3 ?_ ?_ ?_ ?_, fun b o hb hb' e => hk3 b o (fun hw => by rw [List.mem_singleton.mp hw, Inone] at e; cases e) (kb b o hb hb' e)⟩
    · intro b hb; rw [List.mem_singleton.mp hb]; exact F0
    · intro hb; exact IL (List.mem_singleton.mp hb).symm
    · intro b hb o xs n e e'
      obtain ⟨o2, ho2, _, hd2⟩ := hst.1
      rw [List.mem_singleton.mp hb, ho2] at e; cases e
      rw [hd2] at e'; cases e'
    · intro b hb hw
      have hb' : b ∈ (KI g).fp := hb
      rw [hfp g] at hb'
      rw [List.mem_singleton.mp hw] at hb'
      exact If hb'
  by_cases hlt' : i < ds.length
  · refine W.item i _ _ _ hlt' hst fun v' h3 tk3 hP hst3 hk3 => ?_
    obtain ⟨H3, kb3⟩ := but h3 hk3
    refine wpAny_mono (go_fields (s := { s with heap := h3, toks := tk3 }) (target := target) (v := v') (Q := fun _ s' => s' = { s with heap := h3, toks := tk3 }) (E := fun _ _ => False) (by obtain ⟨o, ho, hc, hd⟩ := hst3.1; exact ⟨o, ho, hc, hd⟩) (by decide) rfl) (fun _ s4 e4 => ?_) fun _ _ x => x.elim
    subst e4
    obtain ⟨d', hd', rd'⟩ := RdAll.get i v' rs (by simpa using hP)
    have rd3 : Rd h3 d' v' := Flat.rd (hfl d' (List.mem_of_getElem? hd')) rd'
    obtain ⟨σ1, as, em⟩ := step i g d' hd' hp
    refine wpAny_mono (as { s with heap := h3, toks := tk3 } v' H3 rd3 _ fun h4 tk4 kb4 H4 => ?_) (fun _ _ x => x) fun _ _ x => x.elim
    refine wpAny_mono (em { s with heap := h4, toks := tk4 } H4 _ (fun K σ' h5 tk5 hf5 hn kb5 H5 => ?_) fun d5 v5 h5 tk5 hr kb5 r5 => ?_) (fun _ _ x => x) fun _ _ x => x.elim
    · obtain ⟨g', rfl, hsub, hp'⟩ := hn
      have kb5' : KeepM c.env.locals c.K.fp h4 h5 := by rw [← hfp g]; exact kb5
      have kb35 : KeepM c.env.locals c.K.fp h3 h5 := (KeepM.of_b kb4).trans kb5'
      refine ⟨ds.length + 1 - (i + 1), by omega, h5, tk5, i + 1, g', rfl, hlt', rfl, W.frame _ _ _ hst3 fun b hb o e => ?_, H5.sub hsub, hp', kb3.trans kb35⟩
      rcases List.mem_cons.mp hb with h6 | h6
      · rw [h6] at e ⊢; exact kb35 _ o IL If e
      · rw [List.mem_singleton.mp h6] at e ⊢; exact kb35 _ o aL haf e
    · have kb5' : KeepM c.env.locals c.K.fp h4 h5 := by rw [← hfp g]; exact kb5
      exact r d5 v5 h5 tk5 hr (fun b o n1 n2 e => ((kb3.trans (KeepM.of_b kb4)).trans kb5') b o n1 n2 (k1 b o e)) r5
  · have e : i = ds.length := by omega
    subst e
    refine W.done _ _ _ hst fun h3 tk3 hk3 => wpAny_execs_nil ?_
    obtain ⟨H3, kb3⟩ := but h3 hk3
    exact n (KI g) _ h3 tk3 (hfp g) (done g hp) (fun b o n1 n2 e => kb3 b o n1 n2 (k1 b o e)) H3

/-! a list of texts of the frame's own -/
def cellK (a : Addr) (ws : List Str) : Kf where
  P h := ∃ l n, h.get? a = some { cls := .type "list", data := .seq (strValues l).toArray n } ∧ l.map (·.1) = ws
  fp := [a]
  frame := fun ⟨l, n, e, hw⟩ k => ⟨l, n, k a (.head _) _ e, hw⟩
  there := fun ⟨l, n, e, _⟩ b hb => by rw [List.mem_singleton.mp hb]; exact ⟨_, e⟩
theorem Ev.asCell {a : Addr} {ws : List Str} {e : Expr} (hK : c.K = cellK a ws) (h : Ev c σ e (.val (.ref a))) : Ev c σ e (.list (ws.map D.str)) := fun s H Q q =>
  (h s H).then fun v h' tk k r => by
    rw [rd_val] at r; subst r
    refine q _ h' tk k (rd_list.mpr ?_)
    have hp := (H.keep k).2.1
    rw [hK] at hp
    obtain ⟨l, n, e, rfl⟩ := hp
    refine ⟨a, strValues l, rfl, ⟨_, e, rfl, n, rfl⟩, ?_⟩
    rw [List.map_map]
    exact rdAll_strs l

/-- the object is changed -/
theorem Hd.change {a : Addr} {ws ws' : List Str} {h h' : Heap} (H : Hd (c.on (cellK a ws)) h σ) (hfl : ∀ y d, σ.lookup y = some d → Flat d) (h0 : c.h0.get? a = Option.none) (hs : Heap.SameBut a h h') (hP : (cellK a ws').P h') :
    Hd (c.on (cellK a ws')) h' σ := by
  obtain ⟨⟨m, F, f⟩, K, nL⟩ := H
  have hL : c.env.locals ≠ a := fun e => nL (by rw [show (c.on (cellK a ws)).env.locals = c.env.locals from rfl, e]; exact .head _)
  refine ⟨⟨m, ⟨F.ns.at' fun o e => (hs.2 _ hL).trans e, fun b o e => (hs.2 b fun q => by have e' : c.h0.get? b = some o := e; rw [q, h0] at e'; cases e').trans (F.keep b o e), F.above⟩, fun x d e => ?_⟩, hP, nL⟩
  obtain ⟨v, x1, x2⟩ := f x d e
  exact ⟨v, x1, Flat.rd (hfl x d e) x2⟩
theorem keepM_sameBut {a L : Addr} {h h' : Heap} (hs : Heap.SameBut a h h') : KeepM L [a] h h' := fun b o _ n e => (hs.2 b fun q => n (by rw [q]; exact .head _)).trans e
theorem Em1.append {a : Addr} {ws : List Str} {x : Str} {e : Expr} {y : Str} {px ap pos pos' : Pos} {pl : Sem Bool} (hk : c.env.scope.kind = .function) (hx : c.env.kindOf x = some .local) (hd : (x == ("__debug__" : Str)) = false)
    (hl : σ.lookup x = some (.val (.ref a))) (hfl : ∀ y d, σ.lookup y = some d → Flat d) (he : Ev (c.on (cellK a ws)) σ e (.str y)) (h0 : c.h0.get? a = none) (hsz : ws.length ≤ 1000000)
    (hc : eval (.Call (.Attribute (.Name x px) "append" ap) [e] [] pos) c.env = (do
      let ov ← eval (.Name x px) c.env
      standAt ap.atName
      let (f, first) ← holding [ov] (getMethod ov "append" pl)
      PySem.callWith pos f first (backTo pos (starEach [e] c.env)) []))
    (he' : starEach [e] c.env = (false, eval e c.env) :: starEach [] c.env) (hi : interactive c.env = false) (hsw : swapsWith (.Call (.Attribute (.Name x px) "append" ap) [e] [] pos) none pos'.line c.env = Pure.pure false)
    (hn : N (cellK a (ws ++ [y])) σ) : Em1 (c.on (cellK a ws)) σ (.Expr (.Call (.Attribute (.Name x px) "append" ap) [e] [] pos) pos') N Rt := fun s H Q n r => by
  refine wpAny_Expr_any ?_ hi hsw
  refine MethodCall_ (pl := pl) ((Ev.name (c := c.on (cellK a ws)) hk hx hl hd s H).then fun v h1 tk1 k1 r1 => ?_) hc
  rw [rd_val] at r1; subst r1
  have H1 := H.keep k1
  obtain ⟨l, ep, ho, hw⟩ := id H1.2.1
  refine getMethod_builtin (T := "list") (id := "list.append") ⟨_, ho, rfl⟩ F.plainAttrs_list PySem.F.slot_list_append PySem.F.type_list_append (fun b hb => by cases hb; exact ⟨_, ho, rfl⟩) ?_
  refine callWith_method1 (spliced_more ((he { s with heap := h1, toks := tk1 } H1).then fun v h2 tk2 k2 r2 => spliced_none ?_) he') he' (by rfl)
  obtain ⟨t, rfl⟩ := rd_str.mp r2
  have H2 := H1.keep k2
  have ho2 := k2 _ _ ho
  refine append_at (s := { s with heap := h2, toks := tk2 }) ho2 (fun h3 hs3 ho3 => ?_) ?_
  · have hP : (cellK a (ws ++ [y])).P h3 := ⟨l ++ [(y, t)], ep + 1, by rw [ho3]; simp [strValues], by simp [hw]⟩
    exact n (cellK a (ws ++ [y])) σ h3 tk2 rfl hn (fun b o n1 n2 e => keepM_sameBut hs3 b o n1 n2 (k2 _ _ (k1 _ _ e))) (H2.change hfl h0 hs3 hP)
  · rw [List.size_toArray]
    have : l.length = ws.length := by rw [← hw, List.length_map]
    refine sz ?_
    simp [strValues]; omega

/-- the last place of a list is stored -/
theorem setLast_at {prog : Program} {w : World} {A : Around} {E : Value → Shared → Prop} {s : Shared} {a : Addr} {items : Array Value} {ep : Nat} {t : Tok} {v : Value} {Q : Unit → Shared → Prop} (ho : s.heap.get? a = some { cls := .type "list", data := .seq items ep })
    (hn : 0 < items.size) (hQ : ∀ h', h'.get? a = some { cls := .type "list", data := .seq (items.setIfInBounds (items.size - 1) v) ep } → Heap.SameBut a s.heap h' → Q () { s with heap := h' }) :
    wpAny (model prog w) A (setItem (.ref a) (.int (-1) t) v) Q E s := by
  have hl : s.heap.IsList a items := ⟨_, ho, rfl, ep, rfl⟩
  unfold setItem
  try with_reducible refine wpAny_holding ?_
  first | refine wpAny_bind (wpAny_pure ?_) | skip
  refine wpAny_bind (wpAny_sequenceKey hl.typeIs (by decide) ?_)
  refine wpAny_bind (wpAny_callSpecial?_slot (name := Str.ofString "__setitem__") hl.typeIs slot_list_setitem
    (wpAny_call_entry slot_list_setitem hl.typeIs entry_list_setitem ?_ (args_list_setitem _ _ _)))
  show wpAny _ _ (Builtin.List.listSubscript? (.int (-1) t) >>= _) _ _ s
  refine wpAny_bind (wpAny_listSubscript_int (fitsIndex_neg (by decide) (by decide)) ?_)
  have hidx : seqIndex? (-1) items.size = some (items.size - 1) := by
    rw [seqIndex_neg (by decide) (by omega)]; congr 1; omega
  have hx : items[items.size - 1]? = some items[items.size - 1] := Array.getElem?_eq_getElem (by omega)
  show wpAny _ _ ((Builtin.List.listItems (.ref a) >>= fun xs => pure ((seqIndex? (-1) xs.size).bind fun i => xs[i]?.map (i, ·))) >>= _) _ _ s
  refine wpAny_bind (wpAny_bind ?_)
  show wpAny _ _ (seqItems? (.ref a) >>= _) _ _ s
  refine wpAny_bind (wpAny_seqItems ho rfl (wpAny_pure (wpAny_pure ?_)))
  rw [hidx]
  simp only [Option.bind_some, hx, Option.map_some]
  show wpAny _ _ (setSeqItemAt a (items.size - 1) v >>= _) _ _ s
  have hfin : (s.heap.update a (Obj.mapSeq (·.setIfInBounds (items.size - 1) v))).get? a = some { cls := .type "list", data := .seq (items.setIfInBounds (items.size - 1) v) ep } := by
    have e : Obj.mapSeq (·.setIfInBounds (items.size - 1) v) { cls := .type "list", data := .seq items ep } = { cls := .type "list", data := .seq (items.setIfInBounds (items.size - 1) v) ep } := by
      unfold Obj.mapSeq
      simp
    rw [Heap.get?_update_self _ ho (by rw [e]; rfl), e]
  refine wpAny_bind (wpAny_setSeqItemAt ho rfl ?_)
  first
    | exact wpAny_bind (wpAny_pure (wpAny_pure ⟨.none, rfl, wpAny_pure (hQ _ hfin (Heap.SameBut.update ..))⟩))
    | exact wpAny_pure ⟨.none, rfl, wpAny_pure (hQ _ hfin (Heap.SameBut.update ..))⟩

/-- x[-1] += e -/
theorem Em1.augLast {a : Addr} {ws : List Str} {last : Str} {x : Str} {i e : Expr} {y : Str} {px tpos pos : Pos} (hk : c.env.scope.kind = .function) (hx : c.env.kindOf x = some .local) (hd : (x == ("__debug__" : Str)) = false)
    (hl : σ.lookup x = some (.val (.ref a))) (hfl : ∀ y d, σ.lookup y = some d → Flat d) (hi : Ev (c.on (cellK a (ws ++ [last]))) σ i (.int (-1))) (he : Ev (c.on (cellK a (ws ++ [last]))) σ e (.str y)) (h0 : c.h0.get? a = none) (hsz : last.length + y.length ≤ 1000000)
    (hst : ∀ ov iv new, augStore i ov iv new = (do holding [new, ov, iv] (setItem ov iv new); release [new, ov, iv] []; Pure.pure .next))
    (hn : N (cellK a (ws ++ [last ++ y])) σ) : Em1 (c.on (cellK a (ws ++ [last]))) σ (.AugAssign (.Subscript (.Name x px) i tpos) .Add e pos) N Rt := fun s H Q n r => by
  refine wpAny_AugAssign_SubscriptAny ((Ev.name (c := c.on (cellK a (ws ++ [last]))) hk hx hl hd s H).then fun v h1 tk1 k1 r1 => ?_) hst
  rw [rd_val] at r1; subst r1
  have H1 := H.keep k1
  refine (hi { s with heap := h1, toks := tk1 } H1).then fun v h2 tk2 k2 r2 => ?_
  obtain ⟨t, rfl⟩ := rd_int.mp r2
  have H2 := H1.keep k2
  obtain ⟨l, ep, ho, hw⟩ := id H2.2.1
  obtain ⟨l', q, rfl, hl', hq⟩ : ∃ l' q, l = l' ++ [q] ∧ l'.map (·.1) = ws ∧ q.1 = last := by
    have hne : l ≠ [] := by intro e; subst e; simp at hw
    refine ⟨l.dropLast, l.getLast hne, (List.dropLast_concat_getLast hne).symm, ?_, ?_⟩
    · have e : l.dropLast.map (·.1) = (l.map (·.1)).dropLast := (List.map_dropLast ..)
      rw [e, hw]; simp
    · have := congrArg List.getLast? hw
      rw [List.getLast?_map, List.getLast?_eq_some_getLast hne] at this
      simpa using this
  subst hl' hq
  have sz1 : (strValues (l' ++ [q])).toArray.size = l'.length + 1 := by simp [strValues]
  refine wpAny_getItem_list_neg (s := { s with heap := h2, toks := tk2 }) (x := .str q.1 q.2) ⟨_, ho, rfl, ep, rfl⟩ (by decide) (by rw [sz1]; omega) (by decide) (by rw [sz1, show ((-1 : Int) + ((l'.length + 1 : Nat) : Int)).toNat = l'.length by omega]; simp [strValues]) ?_
  refine (he { s with heap := h2, toks := tk2 } H2).then fun v h3 tk3 k3 r3 => ?_
  refine (Inp.add_str (c := c) (x := q.1) (y := y) (sz hsz) { s with heap := h3, toks := tk3 } (.str q.1 q.2) v (rd_str.mpr ⟨_, rfl⟩) r3).then fun v' h4 tk4 k4 r4 => ?_
  obtain ⟨t', rfl⟩ := rd_str.mp r4
  have H4 := (H2.keep k3).keep k4
  refine setLast_at (s := { s with heap := h4, toks := tk4 }) (k4 _ _ (k3 _ _ ho)) (by rw [sz1]; omega) fun h5 ho5 hs5 => ?_
  have hP : (cellK a (l'.map (·.1) ++ [q.1 ++ y])).P h5 := ⟨l' ++ [(q.1 ++ y, t')], ep, by
    rw [ho5, sz1]
    congr 3
    simp [strValues], by simp⟩
  exact n (cellK a (l'.map (·.1) ++ [q.1 ++ y])) σ h5 tk4 rfl hn (fun b o n1 n2 e => keepM_sameBut hs5 b o n1 n2 (k4 _ _ (k3 _ _ (k2 _ _ (k1 _ _ e))))) (H4.change hfl h0 hs5 hP)

/-- a display of texts is bound to a name: from here on the list is the frame's own -/
theorem Ex.newcell {x : Str} {es : List Expr} {px pos' pos : Pos} {rest : List Stmt} {ws : List Str} {N' : Store → Prop} {k : Nat} (ok : c.Ok k) (hx : c.env.kindOf x = some .local) (he : Es c σ pos' es (ws.map D.str)) (hsz : ws.length ≤ 1000000) (hK : c.K = Kf.none)
    (hs : swapsWith (.List es pos') (some (.Name x px)) pos.line c.env = Pure.pure false)
    (h : ∀ a, c.h0.get? a = none → Em (c.on (cellK a ws)) ((x, .val (.ref a)) :: σ) rest (fun _ _ => False) Rt) : Ex c σ (.Assign [.Name x px] (.List es pos') pos :: rest) N' Rt := fun s H Q n r => by
  refine wpAny_execs_cons (wpAny_Assign_Name (hs := hs) (List_ (he s H _ fun vs h1 tk1 k1 rs => ?_)))
  obtain ⟨l, rfl, hw⟩ := strs_rdAll ws vs rs
  have H1 := H.keep k1
  refine wpAny_newObj_type ?_ (by show (strValues l).toArray.size ≤ sizeLine; rw [List.size_toArray]; exact sz (by rw [rs.length]; simpa using hsz))
  have Anone : h1.get? h1.objs.size = none := by
    cases e : h1.get? h1.objs.size with
    | none => rfl
    | some o => exact absurd (Heap.lt_size e) (Nat.lt_irrefl _)
  have H2 : Hd c (h1.push { cls := .type "list", data := .seq (strValues l).toArray }) σ := H1.keep (keep_push _ _)
  have AL : c.env.locals ≠ h1.objs.size := fun e => by
    obtain ⟨m, o, es, ep, ho, hd, _⟩ := H1.ns
    rw [e, Anone] at ho; cases ho
  have F0 : c.h0.get? h1.objs.size = none := by
    obtain ⟨⟨m, F, _⟩, _⟩ := H1
    cases q : c.h0.get? h1.objs.size with
    | none => rfl
    | some o => have := F.keep _ o q; rw [Anone] at this; cases this
  have H3 : Hd (c.on (cellK h1.objs.size ws)) (h1.push { cls := .type "list", data := .seq (strValues l).toArray }) σ := ⟨H2.1, ⟨l, 0, Heap.get?_push_size _ rfl, hw⟩, fun hb => AL (List.mem_singleton.mp hb)⟩
  refine store (c := c.on (cellK h1.objs.size ws)) (s := { s with heap := h1.push { cls := .type "list", data := .seq (strValues l).toArray }, toks := tk1 }) ok.kind hx H3 (rd_val.mpr rfl) fun h4 tk4 kb4 _ H4 => ?_
  have fin : ∀ h', KeepM c.env.locals [h1.objs.size] h4 h' → KeepB c.env.locals s.heap h' := fun h' km b o n1 e => km b o n1 (fun hb => by
    have e1 := k1 _ _ e
    rw [List.mem_singleton.mp hb, Anone] at e1; cases e1) (kb4 b o n1 (keep_push _ _ _ _ (k1 _ _ e)))
  exact h h1.objs.size F0 { s with heap := h4, toks := tk4 } H4 Q (fun K σ' h' tk hf a b e => a.elim) fun d v h' tk a b e => r d v h' tk a (fin h' b) e
end
end Mine

namespace Mine
abbrev P2 := PySem.Challenge.pw_dn0235_02
theorem s_semi : Str.ofString ";" = ch 59 := by decide +kernel
theorem s_slash : Str.ofString "/" = ch 47 := by decide +kernel
theorem s_empty : Str.ofString "" = T [] := by decide +kernel
local macro_rules | `(tactic| walk_at "ev") => `(tactic| first
  | exact Ev.cint | exact Ev.cnone | exact Ev.cbool | exact Ev.cstr
  | exact Ev.name (C.Ok.kind (by assumption)) (by rfl) (by rfl) (by decide))
local macro_rules | `(tactic| walk_at "ev2") => `(tactic| refine Ev.tup (ds := [_, _]) (Es.cons ?_ (Es.cons ?_ Es.nil (by rfl)) (by rfl)) (sz (Nat.le_of_ble_eq_true rfl)))

set_option maxHeartbeats 4000000 in
theorem splitattr_sp {w : World} {G : Grd} {f : Addr} {kV doc pm : Value} {an : Option Addr} {cdv ct : Value} (fa : FnAt G f (fdOf P2 2 .none kV doc pm an cdv ct)) {ps : List (List Nat)} (hne : ps ≠ []) (hf : ∀ p ∈ ps, 59 ∉ p) (hsz : (jn 59 ps).length ≤ 1000) :
    Fsp P2 w G 1 (.ref f) [.str (T (jn 59 ps))] (.tup [.str (T (ps.headD [])), .list (ps.tail.map fun p => D.str (T p))]) := by
  refine Fsp.one (x := "url") fa (by decide +kernel) (fun v => rfl) (by decide +kernel) fun A L h0 ok => ?_
  refine Ex.cons (Ex1.assign (d := .list (ps.map fun p => D.str (T p))) ok.kind (by rfl) ?_ (by rfl) ?_)
  · refine Ev.meth (d0 := .str (T (jn 59 ps))) (ds := [.str (ch 59)]) (by walk_at "ev") gm_split (Es.cons (by rw [← s_semi]; exact Ev.cstr) Es.nil (by rfl)) ?_ (by rfl) (by rfl) (by rfl)
    have := Bsp.split (c := ⟨P2, w, G, A, callEnv (fdOf P2 2 .none kV doc pm an cdv ct) L f, h0, Kf.none⟩) (x := T (jn 59 ps)) (y := ch 59) rfl (sz (by rw [T_len]; omega))
    rw [split_T hne hf, List.map_map] at this
    exact this
  refine Ex.cons (Ex1.ret (d := (.tup [.str (T (ps.headD [])), .list (ps.tail.map fun p => D.str (T p))])) ?_ rfl)
  walk_at "ev2"
  · refine Ev.item (d0 := .list (ps.map fun p => D.str (T p))) (by walk_at "ev") (by walk_at "ev") (Itm.list (by decide) (by decide) ?_) ?_
    · cases ps with
      | nil => exact absurd rfl hne
      | cons p r => rfl
    · intro o i _; with_unfolding_all rfl
  · have e : ps.tail.map (fun p => D.str (T p)) = lsl (ps.map fun p => D.str (T p)) (some ((1 : Nat) : Int)) none := by
      rw [lsl_from, ← List.map_drop]; cases ps <;> rfl
    rw [e]
    refine Ev.slice_list (by walk_at "ev") ⟨1, rfl, by walk_at "ev"⟩ rfl (sz ?_) ?_
    · rw [List.length_map]; have := jn_length (c := 59) ps; omega
    · intro o r; with_unfolding_all rfl

/-- what _splitparams gives -/
inductive PR : List Nat → List Nat → List Nat → Prop
  | both {a u v : List Nat} (h1 : 47 ∉ u) (h2 : 47 ∉ v) (h3 : 59 ∉ u) : PR (a ++ 47 :: (u ++ 59 :: v)) (a ++ 47 :: u) v
  | slash {a b : List Nat} (h1 : 47 ∉ b) (h2 : 59 ∉ b) : PR (a ++ 47 :: b) (a ++ 47 :: b) []
  | semi {u v : List Nat} (h1 : 47 ∉ u) (h2 : 47 ∉ v) (h3 : 59 ∉ u) : PR (u ++ 59 :: v) u v
  | none {l : List Nat} (h1 : 47 ∉ l) (h2 : 59 ∉ l) : PR l (l.take (l.length - 1)) l

set_option maxHeartbeats 4000000 in
theorem splitparams_sp {w : World} {G : Grd} {f : Addr} {kV doc pm : Value} {an : Option Addr} {cdv ct : Value} (fa : FnAt G f (fdOf P2 1 .none kV doc pm an cdv ct)) {l a b : List Nat} (h : PR l a b) (hsz : l.length ≤ 1000) :
    Fsp P2 w G 1 (.ref f) [.str (T l)] (.tup [.str (T a), .str (T b)]) := by
  refine Fsp.one (x := "url") fa (by decide +kernel) (fun v => rfl) (by decide +kernel) fun A L h0 ok => ?_
  have fin : ∀ (i : Int) (σ : Store), σ = [(Str.ofString "i", D.int i), (Str.ofString "url", D.str (T l))] → lsl l none (some i) = a → lsl l (some (i + 1)) none = b →
     Ex ⟨P2, w, G, A, callEnv (fdOf P2 1 .none kV doc pm an cdv ct) L f, h0, Kf.none⟩ σ ((nth P2 1).2.2.1.drop 1) (fun _ => D.tup [.str (T a), .str (T b)] = .none) (fun d' => d' = .tup [.str (T a), .str (T b)]) := by
    rintro i σ rfl e1 e2
    refine Ex.cons (Ex1.ret (d := (.tup [.str (T a), .str (T b)])) ?_ rfl)
    rw [← e1, ← e2, ← slice_T, ← slice_T]
    walk_at "ev2"
    · refine Ev.slice_str (by walk_at "ev") rfl ⟨i, rfl, by walk_at "ev"⟩ (sz (by rw [T_len]; omega)) (by intro o r; with_unfolding_all rfl)
    · refine Ev.slice_str (by walk_at "ev") ⟨i + 1, rfl, Ev.bin (d1 := .int i) (d2 := .int 1) (by walk_at "ev") (by walk_at "ev") Bin.add_int⟩ rfl (sz (by rw [T_len]; omega)) (by intro o r; with_unfolding_all rfl)
  refine Ex.cons (Ex1.if (b := decide (47 ∈ l)) ?_ ?_ ?_)
  · rw [← has_T]
    refine Ts.cmp (d1 := .str (ch 47)) (d2 := .str (T l)) (by rw [← s_slash]; walk_at "ev") (by walk_at "ev") Cmp.in_str (by with_unfolding_all rfl)
  · intro hb
    replace hb := of_decide_eq_true hb
    refine Ex.cons (Ex1.assign (d := .int (Txt.find3 (T l) (ch 59) (Txt.rfind (T l) (ch 47)))) ok.kind (by rfl) ?_ (by rfl) ?_)
    · refine Ev.meth (d0 := .str (T l)) (ds := [.str (ch 59), .int (Txt.rfind (T l) (ch 47))]) (by walk_at "ev") gm_find (Es.cons (by rw [← s_semi]; exact Ev.cstr) (Es.cons ?_ Es.nil (by rfl)) (by rfl)) Bsp.find3 (by rfl) (by rfl) (by rfl)
      refine Ev.meth (d0 := .str (T l)) (ds := [.str (ch 47)]) (by walk_at "ev") gm_rfind (Es.cons (by rw [← s_slash]; exact Ev.cstr) Es.nil (by rfl)) Bsp.rfind (by rfl) (by rfl) (by rfl)
    cases h with
    | semi h1 h2 h3 => simp at hb; exact absurd hb (by simp [h1, h2])
    | none h1 h2 => exact absurd hb h1
    | slash h1 h2 =>
      rename_i a b
      have e : Txt.find3 (T (a ++ 47 :: b)) (ch 59) (Txt.rfind (T (a ++ 47 :: b)) (ch 47)) = -1 := by
        rw [rfind_has h1]
        exact find3_no (from_nat (by simp)) (by simp [h2])
      rw [e]
      refine Ex.cons (Ex1.if (b := true) (Ts.cmp (d1 := .int (-1)) (d2 := .int 0) (by walk_at "ev") (by walk_at "ev") Cmp.lt_int (by with_unfolding_all rfl)) (fun _ => ?_) (fun h => by cases h))
      refine Ex.cons (Ex1.ret ?_ rfl)
      rw [← s_empty]
      walk_at "ev2"
      · walk_at "ev"
      · walk_at "ev"
    | both h1 h2 h3 =>
      rename_i a u
      have e : Txt.find3 (T (a ++ 47 :: (u ++ 59 :: b))) (ch 59) (Txt.rfind (T (a ++ 47 :: (u ++ 59 :: b))) (ch 47)) = (a ++ 47 :: u).length := by
        rw [rfind_has (by simp [h1, h2])]
        have := find3_has (p := a) (a := 47 :: u) (b := b) (c := 59) (i := (a.length : Int)) (from_nat (by simp)) (by simp [h3])
        simpa using this
      rw [e]
      refine Ex.cons (Ex1.if (b := decide ((((a ++ 47 :: u).length : Nat) : Int) < 0)) (Ts.cmp (d1 := .int ((a ++ 47 :: u).length : Nat)) (d2 := .int 0) (by walk_at "ev") (by walk_at "ev") Cmp.lt_int (by with_unfolding_all rfl)) (fun h => by simp at h; omega) (fun _ => ?_))
      · refine Ex.nil (Ex.nil (fin _ _ rfl ?_ ?_))
        · rw [show a ++ 47 :: (u ++ 59 :: b) = (a ++ 47 :: u) ++ 59 :: b by simp]; exact lsl_cut1 _ _ _
        · rw [show a ++ 47 :: (u ++ 59 :: b) = (a ++ 47 :: u) ++ 59 :: b by simp]; exact lsl_cut2 _ _ _
  · intro hb
    replace hb := of_decide_eq_false hb
    refine Ex.cons (Ex1.assign (d := .int (Txt.find (T l) (ch 59))) ok.kind (by rfl) ?_ (by rfl) ?_)
    · refine Ev.meth (d0 := .str (T l)) (ds := [.str (ch 59)]) (by walk_at "ev") gm_find (Es.cons (by rw [← s_semi]; exact Ev.cstr) Es.nil (by rfl)) Bsp.find (by rfl) (by rfl) (by rfl)
    refine Ex.nil (fin _ _ rfl ?_ ?_)
    all_goals cases h with
    | slash h1 h2 => simp at hb
    | both h1 h2 h3 => simp at hb
    | semi h1 h2 h3 =>
      rw [find_has h3]
      first
      | exact lsl_cut1 _ _ _
      | exact lsl_cut2 _ _ _
    | none h1 h2 =>
      rw [find_no h2]
      first
      | exact lsl_butLast _
      | (rw [show (-1 : Int) + 1 = ((0 : Nat) : Int) from rfl, lsl_from]; simp)
end Mine

namespace Mine

theorem jn_app {c : Nat} : ∀ (a b : List (List Nat)), a ≠ [] → b ≠ [] → jn c (a ++ b) = jn c a ++ c :: jn c b
  | [], _, h, _ => absurd rfl h
  | [x], b, _, h => by rw [List.cons_append, List.nil_append, jn_cons c x h]; rfl
  | x :: y :: r, b, _, h => by
    have := jn_app (c := c) (y :: r) b (by simp) h
    rw [List.cons_append, jn_cons c x (by simp), this, jn_cons c x (by simp)]
    simp
theorem jn_snoc_nil {c : Nat} (a : List (List Nat)) (h : a ≠ []) : jn c (a ++ [[]]) = jn c a ++ [c] := by
  rw [jn_app a [[]] h (by simp)]; rfl
theorem jn_last {c : Nat} (a : List (List Nat)) (l m : List Nat) : jn c (a ++ [l ++ m]) = jn c (a ++ [l]) ++ m := by
  by_cases h : a = []
  · subst h; rfl
  · rw [jn_app a _ h (by simp), jn_app a _ h (by simp)]
    show jn c a ++ c :: (l ++ m) = jn c a ++ c :: l ++ m
    simp
theorem mem_jn {c n : Nat} (hn : n ≠ c) : ∀ ps : List (List Nat), n ∈ jn c ps ↔ ∃ p ∈ ps, n ∈ p
  | [] => by simp [jn]
  | [a] => by simp [jn]
  | a :: b :: r => by
    rw [jn_cons c a (by simp)]
    have := mem_jn (c := c) hn (b :: r)
    simp only [List.mem_append, List.mem_cons, hn, false_or, this]
    constructor
    · rintro (h | ⟨p, hp, h⟩)
      · exact ⟨a, .inl rfl, h⟩
      · exact ⟨p, .inr hp, h⟩
    · rintro ⟨p, rfl | hp, h⟩
      · exact .inl h
      · exact .inr ⟨p, hp, h⟩

/-- how the words lie: hind is the place of the last word with a slash -/
def Lies (ps : List (List Nat)) (hind : Nat) (sl : Bool) : Prop :=
  ∃ A w B, ps = A ++ w :: B ∧ A.length = hind ∧ (sl = true → 47 ∈ w) ∧ (∀ p ∈ B, 47 ∉ p) ∧ (sl = false → A = [] ∧ 47 ∉ w)

/-- what is due -/
def due1 (b : List Nat) (ps : List (List Nat)) (hind : Nat) (sl : Bool) : List Nat := if sl = false ∧ ps.drop (hind + 1) = [] then b.take (b.length - 1) else jn 59 (ps.take (hind + 1))
def due2 (b : List Nat) (ps : List (List Nat)) (hind : Nat) (sl : Bool) : List Nat := if sl = false ∧ ps.drop (hind + 1) = [] then b else jn 59 (ps.drop (hind + 1))

theorem take_cut {α : Type} (A B : List α) (w : α) : (A ++ w :: B).take (A.length + 1) = A ++ [w] := by
  rw [show A ++ w :: B = (A ++ [w]) ++ B by simp, show A.length + 1 = (A ++ [w]).length by simp, List.take_left]
theorem drop_cut {α : Type} (A B : List α) (w : α) : (A ++ w :: B).drop (A.length + 1) = B := by
  rw [show A ++ w :: B = (A ++ [w]) ++ B by simp, show A.length + 1 = (A ++ [w]).length by simp, List.drop_left]

theorem due_pr {ps : List (List Nat)} {hind : Nat} {sl : Bool} (hf : ∀ p ∈ ps, 59 ∉ p) (h : Lies ps hind sl) : PR (jn 59 ps) (due1 (jn 59 ps) ps hind sl) (due2 (jn 59 ps) ps hind sl) := by
  obtain ⟨A, w, B, rfl, rfl, h1, h2, h3⟩ := h
  have hw : 59 ∉ w := hf w (by simp)
  unfold due1 due2
  rw [take_cut, drop_cut]
  have hB : 47 ∉ jn 59 B := by rw [mem_jn (by decide)]; rintro ⟨p, hp, h⟩; exact h2 p hp h
  cases sl with
  | true =>
    rw [if_neg (by simp), if_neg (by simp)]
    obtain ⟨w1, w2, rfl, hw2⟩ := mem_last (h1 rfl)
    have hw2' : 59 ∉ w2 := fun h => hw (by simp [h])
    have e : jn 59 (A ++ [w1 ++ 47 :: w2]) = jn 59 (A ++ [w1]) ++ 47 :: w2 := by rw [jn_last]
    by_cases hb : B = []
    · subst hb
      rw [show jn 59 [] = [] from rfl, e]
      exact .slash hw2 hw2'
    · rw [show A ++ (w1 ++ 47 :: w2) :: B = (A ++ [w1 ++ 47 :: w2]) ++ B by simp, jn_app _ _ (by simp) hb, e]
      have := PR.both (a := jn 59 (A ++ [w1])) hw2 hB hw2'
      simpa using this
  | false =>
    obtain ⟨rfl, hw47⟩ := h3 rfl
    by_cases hb : B = []
    · subst hb
      rw [if_pos (by simp), if_pos (by simp)]
      exact .none hw47 hw
    · rw [if_neg (by simp [hb]), if_neg (by simp [hb])]
      rw [show ([] : List (List Nat)) ++ w :: B = [w] ++ B by simp, jn_app _ _ (by simp) hb]
      exact .semi hw47 hB hw

theorem lies_start : Lies [[]] 0 false := ⟨[], [], [], rfl, rfl, by simp, by simp, by simp⟩
theorem lies_semi {ps : List (List Nat)} {hind : Nat} {sl : Bool} (h : Lies ps hind sl) : Lies (ps ++ [[]]) hind sl := by
  obtain ⟨A, w, B, rfl, rfl, h1, h2, h3⟩ := h
  refine ⟨A, w, B ++ [[]], by simp, rfl, h1, ?_, h3⟩
  intro p hp
  rcases List.mem_append.mp hp with h | h
  · exact h2 p h
  · rw [List.mem_singleton.mp h]; simp
theorem lies_slash {qs : List (List Nat)} {last : List Nat} : Lies (qs ++ [last ++ [47]]) qs.length true :=
  ⟨qs, last ++ [47], [], rfl, rfl, by simp, by simp, by simp⟩
theorem lies_other {qs : List (List Nat)} {last : List Nat} {v : Nat} (hv : v ≠ 47) {hind : Nat} {sl : Bool} (h : Lies (qs ++ [last]) hind sl) : Lies (qs ++ [last ++ [v]]) hind sl := by
  obtain ⟨A, w, B, e, rfl, h1, h2, h3⟩ := h
  rcases List.eq_nil_or_concat B with rfl | ⟨B', z, rfl⟩
  · have e' : qs = A ∧ [last] = [w] := List.append_inj' e rfl
    obtain ⟨rfl, e2⟩ := e'
    cases e2
    refine ⟨qs, last ++ [v], [], rfl, rfl, fun h => by simp [h1 h], by simp, fun h => ⟨(h3 h).1, ?_⟩⟩
    have := (h3 h).2
    simp [this]; exact fun q => hv q.symm
  · rw [List.concat_eq_append, show A ++ w :: (B' ++ [z]) = (A ++ w :: B') ++ [z] by simp] at e
    obtain ⟨rfl, e2⟩ := List.append_inj' e rfl
    cases e2
    refine ⟨A, w, B' ++ [last ++ [v]], by simp, rfl, h1, ?_, h3⟩
    intro p hp
    rcases List.mem_append.mp hp with h | h
    · exact h2 p (by rw [List.concat_eq_append]; exact List.mem_append_left _ h)
    · rw [List.mem_singleton.mp h]
      have := h2 last (by rw [List.concat_eq_append]; simp)
      simp [this]; exact fun q => hv q.symm
theorem lies_lt {ps : List (List Nat)} {hind : Nat} {sl : Bool} (h : Lies ps hind sl) : hind < ps.length := by
  obtain ⟨A, w, B, rfl, rfl, _⟩ := h; simp
end Mine

namespace Mine

local macro_rules | `(tactic| walk_at "ev") => `(tactic| first
  | exact Ev.cint | exact Ev.cnone | exact Ev.cbool | exact Ev.cstr
  | exact Ev.name (by rfl) (by rfl) (by rfl) (by decide))
local macro_rules | `(tactic| walk_at "nm") => `(tactic| exact Ev.name (by rfl) (by rfl) (by rfl) (by decide))
local macro_rules | `(tactic| walk_at "sub") => `(tactic| repeat' (first | exact Sub.nil | refine Sub.cons (by rfl) ?_))
local macro_rules | `(tactic| walk_at "ev2") => `(tactic| refine Ev.tup (ds := [_, _]) (Es.cons ?_ (Es.cons ?_ Es.nil (by rfl)) (by rfl)) (sz (Nat.le_of_ble_eq_true rfl)))

theorem py4 (n : Int) : Builtin.divisionGoesByPylong n 4 = false := by
  unfold Builtin.divisionGoesByPylong
  rfl
theorem s_table : Str.ofString "a=?#" = T [97, 61, 63, 35] := by decide +kernel

structure Top2 (G : Grd) (fA fP : Addr) : Prop where
  gA : G.mg "_splitattr" = some (.ref fA)
  gP : G.mg "_splitparams" = some (.ref fP)
  fA : ∃ kV doc pm an cdv ct, FnAt G fA (fdOf P2 2 .none kV doc pm an cdv ct)
  fP : ∃ kV doc pm an cdv ct, FnAt G fP (fdOf P2 1 .none kV doc pm an cdv ct)
  gl : G.mg "len" = none
  bl : G.mb "len" = some (.builtin "len")
  gc : G.mg "chr" = none
  bc : G.mb "chr" = some (.builtin "chr")

abbrev c2 (w : World) (G : Grd) (A : Around) (L a : Addr) (cd : Value) (h0 : Heap) (K : Kf) : C := ⟨P2, w, G, A, envOf (nth P2 4).1 (nth P2 4).2.2.2 L a cd, h0, K⟩
abbrev S2 := List (List Nat) × List Nat × Nat × Bool
abbrev ws2 (g : S2) : List (List Nat) := g.1 ++ [g.2.1]
abbrev K2 (b : Addr) (g : S2) : Kf := cellK b (g.1.map T ++ [T g.2.1])
abbrev σ2 (b : Addr) (g : S2) : Store := [("begin", .str (T (jn 59 (ws2 g)))), ("words", .val (.ref b)), ("slashed", .bool g.2.2.2), ("hindmost", .int (g.2.2.1 : Nat))]
structure P2I (i : Nat) (g : S2) : Prop where
  free : ∀ p ∈ ws2 g, 59 ∉ p
  len : (jn 59 (ws2 g)).length = i
  cp : ∀ n ∈ jn 59 (ws2 g), n < 1114112
  lies : Lies (ws2 g) g.2.2.1 g.2.2.2
  le : i ≤ 40

/-- the sign that a number makes -/
theorem sign2 {w : World} {G : Grd} {A : Around} {L a : Addr} {cd : Value} {h0 : Heap} {K : Kf} {fA fP : Addr} (T2 : Top2 G fA fP) (ok : (c2 w G A L a cd h0 K).Ok 1) (n : Int) (b : Addr) (g : S2) {N : Store → Prop} {Rt : D → Prop} :
    ∀ st, ((nth P2 4).2.2.1[6]?.bind fun s => match s with | .For _ _ b _ _ => b[2]? | _ => none) = some st →
    Ex1 (c2 w G A L a cd h0 K) (("which", .int (n.fdiv 4)) :: ("kind", .int (n.fmod 4)) :: ("number", .int n) :: σ2 b g) st (fun σ' => ∃ v : Nat, v < 1114112 ∧ Sub σ' (("sign", .str (ch v)) :: σ2 b g)) Rt := by
  intro st hst
  have e : st = _ := (Option.some.inj hst).symm
  subst e
  clear hst
  refine Ex1.if (b := decide (n.fmod 4 = 0)) (Ts.cmp (d1 := .int (n.fmod 4)) (d2 := .int 0) (by walk_at "ev") (by walk_at "ev") Cmp.eq_int (by with_unfolding_all rfl)) (fun _ => ?_) (fun _ => ?_)
  · refine Ex.cons (Ex1.assign (d := .str (ch 59)) (by rfl) (by rfl) (by rw [← s_semi]; walk_at "ev") (by rfl) (Ex.nil ⟨59, by decide, ?_⟩))
    walk_at "sub"
  refine Ex.cons (Ex1.if (b := decide (n.fmod 4 = 1)) (Ts.cmp (d1 := .int (n.fmod 4)) (d2 := .int 1) (by walk_at "ev") (by walk_at "ev") Cmp.eq_int (by with_unfolding_all rfl)) (fun _ => ?_) (fun _ => ?_))
  · refine Ex.cons (Ex1.assign (d := .str (ch 47)) (by rfl) (by rfl) (by rw [← s_slash]; walk_at "ev") (by rfl) (Ex.nil (Ex.nil ⟨47, by decide, ?_⟩)))
    walk_at "sub"
  refine Ex.cons (Ex1.if (b := decide (n.fmod 4 = 2)) (Ts.cmp (d1 := .int (n.fmod 4)) (d2 := .int 2) (by walk_at "ev") (by walk_at "ev") Cmp.eq_int (by with_unfolding_all rfl)) (fun _ => ?_) (fun _ => ?_))
  · have hm := fmod_pos (a := n.fdiv 4) (b := 4) (by decide)
    refine Ex.cons (Ex1.assign (d := .str (ch (([97, 61, 63, 35] : List Nat).getD ((n.fdiv 4).fmod 4).toNat 0))) (by rfl) (by rfl) ?_ (by rfl) (Ex.nil (Ex.nil (Ex.nil ⟨_, getD_lt (m := 1114112) (l := [97, 61, 63, 35]) (by simp; omega) hm.1 (by decide), ?_⟩))))
    · refine Ev.item (d0 := .str (T [97, 61, 63, 35])) (di := .int ((n.fdiv 4).fmod 4)) (by rw [← s_table]; walk_at "ev") (Ev.bin (d1 := .int (n.fdiv 4)) (d2 := .int 4) (by walk_at "ev") (by walk_at "ev") (Bin.mod_int (by decide))) (Itm.tab hm.1 (by simp; omega) (by decide)) (by intro o i _; with_unfolding_all rfl)
    · walk_at "sub"
  · have hm := fmod_pos (a := n.fdiv 4) (b := 1114112) (by decide)
    generalize hp : (n.fdiv 4).fmod 1114112 = p at hm
    refine Ex.cons (Ex1.assign (d := .int p) (by rfl) (by rfl) ?_ (by rfl) ?_)
    · rw [← hp]
      exact Ev.bin (d1 := .int (n.fdiv 4)) (d2 := .int 1114112) (by walk_at "ev") (by walk_at "ev") (Bin.mod_int (by decide))
    refine Ex.cut (fun q : Int => ("place", .int q) :: σ2 b g) (fun q => 0 ≤ q ∧ q < 1114112) ?_ ?_
    · refine Ex1.if (b := decide (55296 ≤ p) && decide (p < 57344)) (Ts.chain (d0 := .int 55296) (d1 := .int p) (d2 := .int 57344) (by walk_at "ev") (by walk_at "ev") (by walk_at "ev") Cmp.le_int Cmp.lt_int (by with_unfolding_all rfl)) (fun h => ?_) (fun _ => ?_)
      · have h' : 55296 ≤ p ∧ p < 57344 := by simpa using h
        refine Ex.cons (Ex1.aug (d0 := .int p) (d1 := .int 2048) (by rfl) (by rfl) (by rfl) (by walk_at "ev") Inp.sub_int (Ex.nil ⟨p - 2048, by omega, ?_⟩))
        walk_at "sub"
      · refine Ex.nil ⟨p, by omega, ?_⟩
        walk_at "sub"
    · intro q hq
      refine Ex.cons (Ex1.assign (d := .str (ch q.toNat)) (by rfl) (by rfl) ?_ (by rfl) (Ex.nil (Ex.nil (Ex.nil ⟨q.toNat, by omega, ?_⟩))))
      · exact Ev.bltin (Ev.blt ok (by rfl) T2.gc T2.bc (by decide)) (Es.cons (d := .int q) (by walk_at "ev") Es.nil (by rfl)) (Bsp.chr hq.1 (by omega)) (by rfl) (by rfl) (by rfl)
      · walk_at "sub"

theorem map_cellT (g : S2) : g.1.map T ++ [T g.2.1] = (ws2 g).map T := by simp
theorem plns_strs : ∀ {l : List (List Nat)}, (∀ p ∈ l, ∀ n ∈ p, n < 1114112) → Plns (l.map fun p => D.str (T p)) = true
  | [], _ => rfl
  | p :: l, h => by
    rw [List.map_cons, Plns, plns_strs fun q hq => h q (.tail _ hq), Pln, Bool.and_true]
    simpa using h p (.head _)
theorem pln_str {p : List Nat} (h : ∀ n ∈ p, n < 1114112) : Pln (.str (T p)) = true := by rw [Pln]; simpa using h
theorem deps_strs : ∀ (l : List (List Nat)), deps (l.map fun p => D.str (T p)) = 0
  | [] => rfl
  | p :: l => by rw [List.map_cons, deps, deps_strs l]; rfl
theorem mem_jn_of {c n : Nat} {ps : List (List Nat)} {p : List Nat} (hp : p ∈ ps) (hn : n ∈ p) : n ∈ jn c ps := by
  by_cases h : n = c
  · subst h
    induction ps with
    | nil => cases hp
    | cons a r ih =>
      cases r with
      | nil => rw [List.mem_singleton.mp hp] at hn; exact hn
      | cons b r =>
        rw [jn_cons n a (by simp)]
        simp
  · exact (mem_jn h ps).mpr ⟨p, hp, hn⟩

theorem part_len {c : Nat} : ∀ {ps : List (List Nat)} {q : List Nat}, q ∈ ps → q.length ≤ (jn c ps).length
  | [], _, h => by cases h
  | [a], _, h => by rw [List.mem_singleton.mp h]; exact Nat.le_refl _
  | a :: b :: r, q, h => by
    rw [jn_cons c a (by simp)]
    rcases List.mem_cons.mp h with rfl | h
    · simp
    · have := part_len (c := c) (ps := b :: r) h; simp; omega
theorem jn_take_len {c : Nat} (ps : List (List Nat)) (n : Nat) : (jn c (ps.take n)).length ≤ (jn c ps).length ∧ (jn c (ps.drop n)).length ≤ (jn c ps).length := by
  by_cases h1 : ps.take n = []
  · have e : ps.drop n = ps := by
      have := List.take_append_drop n ps; rw [h1] at this; simpa using this
    rw [h1, e]; exact ⟨Nat.zero_le _, Nat.le_refl _⟩
  · by_cases h2 : ps.drop n = []
    · have e : ps.take n = ps := by
        have := List.take_append_drop n ps; rw [h2] at this; simpa using this
      rw [h2, e]; exact ⟨Nat.le_refl _, Nat.zero_le _⟩
    · have := jn_app (c := c) _ _ h1 h2
      rw [List.take_append_drop] at this
      rw [this]; simp; omega
theorem joinOk_of {c : Nat} {X : List (List Nat)} (h1 : X.length ≤ 1001) (h2 : ∀ q ∈ X, q.length ≤ 1000) : JoinOk (ch c) (X.map T) = true := by
  unfold JoinOk
  rw [StrLaws.joinFits (B := 1000)]
  · rfl
  · intro y hy
    obtain ⟨q, hq, rfl⟩ := List.mem_map.mp hy
    rw [T_len]; exact h2 q hq
  · rw [List.length_map, show (ch c).length = 1 from rfl]; omega

/-- (e[0], e[1:]) of a list of texts -/
theorem parts_ev {c : C} {σ : Store} {O : List (List Nat)} {x : Str} {p1 p2 p3 p4 p5 p6 p7 p8 : Pos} {k1 k2 k3 : Nat} (hne : O ≠ []) (hl : O.length ≤ 100000) (h : ∀ pos, Ev c σ (.Name x pos) (.list (O.map fun p => D.str (T p)))) :
    Ev c σ (.Tuple [.Subscript (.Name x p1) (.Constant (.int 0) k1 p2) p3, .Subscript (.Name x p4) (.Slice (some (.Constant (.int 1) k2 p5)) none none p6) p7] k3 p8) (.tup [.str (T (O.headD [])), .list (O.tail.map fun p => D.str (T p))]) := by
  refine Ev.tup (ds := [_, _]) (Es.cons ?_ (Es.cons ?_ Es.nil (by rfl)) (by rfl)) (sz (Nat.le_of_ble_eq_true rfl))
  · refine Ev.item (h _) Ev.cint (Itm.list (by decide) (by decide) ?_) (by intro o i _; with_unfolding_all rfl)
    cases O with
    | nil => exact absurd rfl hne
    | cons p r => rfl
  · have e : O.tail.map (fun p => D.str (T p)) = lsl (O.map fun p => D.str (T p)) (some ((1 : Nat) : Int)) none := by
      rw [lsl_from, ← List.map_drop]; cases O <;> rfl
    rw [e]
    exact Ev.slice_list (h _) ⟨1, rfl, Ev.cint⟩ rfl (sz (by rw [List.length_map]; omega)) (by intro o r; with_unfolding_all rfl)
theorem pln_parts {O : List (List Nat)} (h : ∀ q ∈ O, ∀ n ∈ q, n < 1114112) : Pln (.tup [.str (T (O.headD [])), .list (O.tail.map fun p => D.str (T p))]) = true := by
  rw [Pln, Plns, Plns, Plns, pln_str, Pln, plns_strs]
  · rfl
  · intro q hq; exact h q (List.mem_of_mem_tail hq)
  · cases O with
    | nil => simp
    | cons p r => exact h p (.head _)
theorem dep_parts {O : List (List Nat)} : dep (.tup [.str (T (O.headD [])), .list (O.tail.map fun p => D.str (T p))]) = 2 := by
  rw [dep, deps, deps, deps, dep, dep, deps_strs]; rfl

set_option maxHeartbeats 4000000 in
/-- what is asked behind each sign -/
theorem check2 {w : World} {G : Grd} {A : Around} {L a : Addr} {cd : Value} {h0 : Heap} {fA fP : Addr} (T2 : Top2 G fA fP) {b : Addr} {g : S2} (ok : (c2 w G A L a cd h0 (K2 b g)).Ok 1) {i : Nat} (p : P2I i g) {Rt : D → Prop} :
    ∀ st, ((nth P2 4).2.2.1[6]?.bind fun s => match s with | .For _ _ b _ _ => some (b.drop 5) | _ => none) = some st →
    Ex (c2 w G A L a cd h0 (K2 b g)) (σ2 b g) st (fun σ' => Sub σ' (σ2 b g)) Rt := by
  intro st hst
  have e : st = _ := (Option.some.inj hst).symm
  subst e
  clear hst
  obtain ⟨kV, doc, pm, an, cdv, ct, faA⟩ := T2.fA
  obtain ⟨kV', doc', pm', an', cdv', ct', faP⟩ := T2.fP
  have hne : ws2 g ≠ [] := by simp
  have hlen : (jn 59 (ws2 g)).length ≤ 1000 := by have := p.len; have := p.le; omega
  have hwl : (ws2 g).length ≤ 1001 := by have := jn_length (c := 59) (ws2 g); omega
  have hcp : ∀ q ∈ ws2 g, ∀ n ∈ q, n < 1114112 := fun q hq n hn => p.cp n (mem_jn_of hq hn)
  have words : ∀ (σ : Store) pos, σ.lookup ("words" : Str) = some (D.val (.ref b)) → Ev (c2 w G A L a cd h0 (K2 b g)) σ (.Name "words" pos) (.list ((ws2 g).map fun q => D.str (T q))) := by
    intro σ pos hσ
    have := Ev.asCell (c := c2 w G A L a cd h0 (K2 b g)) (σ := σ) (a := b) (ws := g.1.map T ++ [T g.2.1]) (e := .Name "words" pos) rfl (Ev.name (by rfl) (by rfl) hσ (by decide))
    rw [map_cellT, List.map_map] at this
    exact this
  -- _splitattr(begin) != (words[0], words[1:])
  refine Ex.cons (Ex1.if (b := false) ?_ (fun h => by cases h) (fun _ => Ex.nil ?_))
  · refine Ts.cmp (d1 := .tup [.str (T ((ws2 g).headD [])), .list ((ws2 g).tail.map fun p => D.str (T p))]) (d2 := .tup [.str (T ((ws2 g).headD [])), .list ((ws2 g).tail.map fun p => D.str (T p))]) ?_ ?_ (Cmp.ne_same ok.rm ?_ ?_) (by with_unfolding_all rfl)
    · exact Ev.call ok (Ev.glob ok (by rfl) T2.gA (by decide)) faA (Es.cons (by walk_at "nm") Es.nil (by rfl)) (splitattr_sp faA hne p.free hlen) (by rfl) (by rfl)
    · exact parts_ev hne (by omega) (fun pos => words _ pos rfl)
    · exact pln_parts hcp
    · rw [dep_parts]; decide
  have hl := lies_lt p.lies
  have hcpt : ∀ q ∈ (ws2 g).take (g.2.2.1 + 1), ∀ n ∈ q, n < 1114112 := fun q hq => hcp q (List.mem_of_mem_take hq)
  have hcpd : ∀ q ∈ (ws2 g).drop (g.2.2.1 + 1), ∀ n ∈ q, n < 1114112 := fun q hq => hcp q (List.mem_of_mem_drop hq)
  -- some, others
  refine Ex.cons (Ex1.assign (d := .list (((ws2 g).take (g.2.2.1 + 1)).map fun p => D.str (T p))) (by rfl) (by rfl) ?_ (by rfl) ?_)
  · rw [List.map_take, ← lsl_to]
    refine Ev.slice_list (words _ _ rfl) rfl ⟨_, rfl, ?_⟩ (sz (by rw [List.length_map]; omega)) (by intro o r; with_unfolding_all rfl)
    exact Ev.bin (d1 := .int (g.2.2.1 : Nat)) (d2 := .int 1) (by walk_at "nm") (by walk_at "ev") Bin.add_int
  refine Ex.cons (Ex1.assign (d := .list (((ws2 g).drop (g.2.2.1 + 1)).map fun p => D.str (T p))) (by rfl) (by rfl) ?_ (by rfl) ?_)
  · rw [List.map_drop, ← lsl_from]
    refine Ev.slice_list (words _ _ rfl) ⟨_, rfl, ?_⟩ rfl (sz (by rw [List.length_map]; omega)) (by intro o r; with_unfolding_all rfl)
    exact Ev.bin (d1 := .int (g.2.2.1 : Nat)) (d2 := .int 1) (by walk_at "nm") (by walk_at "ev") Bin.add_int
  generalize hS : (ws2 g).take (g.2.2.1 + 1) = S at hcpt
  generalize hO : (ws2 g).drop (g.2.2.1 + 1) = O at hcpd
  have hSO : ∀ X, X = S ∨ X = O → (jn 59 X).length ≤ 1000 ∧ X.length ≤ 1001 ∧ ∀ q ∈ X, q.length ≤ 1000 := by
    intro X hX
    have h1 := jn_take_len (c := 59) (ws2 g) (g.2.2.1 + 1)
    have h2 : (jn 59 X).length ≤ 1000 := by
      rcases hX with rfl | rfl
      · rw [← hS]; omega
      · rw [← hO]; omega
    refine ⟨h2, by have := jn_length (c := 59) X; omega, fun q hq => by have := part_len (c := 59) hq; omega⟩
  -- due
  refine Ex.cons (Ex1.assign (d := .tup [.str (T (jn 59 S)), .str (T (jn 59 O))]) (by rfl) (by rfl) ?_ (by rfl) ?_)
  · walk_at "ev2"
    · rw [← txt_join]
      refine Ev.meth (d0 := .str (ch 59)) (ds := [.list ((S.map T).map D.str)]) (by rw [← s_semi]; walk_at "ev") gm_join (Es.cons (by rw [List.map_map]; walk_at "nm") Es.nil (by rfl)) (Bsp.join (joinOk_of (hSO S (.inl rfl)).2.1 (hSO S (.inl rfl)).2.2)) (by rfl) (by rfl) (by rfl)
    · rw [← txt_join]
      refine Ev.meth (d0 := .str (ch 59)) (ds := [.list ((O.map T).map D.str)]) (by rw [← s_semi]; walk_at "ev") gm_join (Es.cons (by rw [List.map_map]; walk_at "nm") Es.nil (by rfl)) (Bsp.join (joinOk_of (hSO O (.inr rfl)).2.1 (hSO O (.inr rfl)).2.2)) (by rfl) (by rfl) (by rfl)
  refine Ex.cut (fun _ : Unit => ("due", .tup [.str (T (due1 (jn 59 (ws2 g)) (ws2 g) g.2.2.1 g.2.2.2)), .str (T (due2 (jn 59 (ws2 g)) (ws2 g) g.2.2.1 g.2.2.2))]) :: ("others", .list (O.map fun p => D.str (T p))) :: σ2 b g) (fun _ => True) ?_ ?_
  · refine Ex1.if (b := (!g.2.2.2) && ((!decide ((O.map fun p => D.str (T p)) ≠ [])) && true)) ?_ (fun h => ?_) (fun h => ?_)
    · refine Ts.and (Ts.not (Ts.of (by walk_at "nm") Tru.bool (by rfl))) fun _ => Ts.and (Ts.not (Ts.of (by walk_at "nm") (Tru.list ?_) (by rfl))) fun _ => Ts.and0
      rw [List.length_map]; have := (hSO O (.inr rfl)).2.1; omega
    · have h' : g.2.2.2 = false ∧ O = [] := by simpa using h
      refine Ex.cons (Ex1.assign (d := .tup [.str (T (due1 (jn 59 (ws2 g)) (ws2 g) g.2.2.1 g.2.2.2)), .str (T (due2 (jn 59 (ws2 g)) (ws2 g) g.2.2.1 g.2.2.2))]) (by rfl) (by rfl) ?_ (by rfl) (Ex.nil ⟨(), trivial, ?_⟩))
      · unfold due1 due2
        rw [hO, if_pos h', if_pos h']
        walk_at "ev2"
        · rw [← lsl_butLast, ← slice_T]
          refine Ev.slice_str (by walk_at "nm") rfl ⟨-1, rfl, Ev.un (d1 := .int 1) (by walk_at "ev") Un.neg_int⟩ (sz (by rw [T_len]; omega)) (by intro o r; with_unfolding_all rfl)
        · walk_at "nm"
      · walk_at "sub"
    · have h' : ¬ (g.2.2.2 = false ∧ O = []) := by
        rintro ⟨h1, h2⟩; subst h2; rw [h1] at h; simp at h
      refine Ex.nil ⟨(), trivial, ?_⟩
      unfold due1 due2
      rw [hO, hS, if_neg h', if_neg h']
      walk_at "sub"
  intro _ _
  have hpr := due_pr p.free p.lies
  -- told
  refine Ex.cons (Ex1.assign (d := .tup [.str (T (due1 (jn 59 (ws2 g)) (ws2 g) g.2.2.1 g.2.2.2)), .str (T (due2 (jn 59 (ws2 g)) (ws2 g) g.2.2.1 g.2.2.2))]) (by rfl) (by rfl) ?_ (by rfl) ?_)
  · exact Ev.call ok (Ev.glob ok (by rfl) T2.gP (by decide)) faP (Es.cons (d := .str (T (jn 59 (ws2 g)))) (by walk_at "nm") Es.nil (by rfl)) (splitparams_sp faP hpr hlen) (by rfl) (by rfl)
  refine Ex.cons (Ex1.if (b := false) ?_ (fun h => by cases h) (fun _ => Ex.nil ?_))
  · refine Ts.cmp (d1 := .tup [.str (T (due1 (jn 59 (ws2 g)) (ws2 g) g.2.2.1 g.2.2.2)), .str (T (due2 (jn 59 (ws2 g)) (ws2 g) g.2.2.1 g.2.2.2))]) (by walk_at "nm") (by walk_at "nm") (Cmp.ne_same ok.rm ?_ ?_) (by with_unfolding_all rfl)
    · have hS' : ∀ n ∈ jn 59 S, n < 1114112 := fun n hn => by
        by_cases e : n = 59
        · omega
        · obtain ⟨q, hq, h⟩ := (mem_jn e S).mp hn; exact hcpt q hq n h
      have hO' : ∀ n ∈ jn 59 O, n < 1114112 := fun n hn => by
        by_cases e : n = 59
        · omega
        · obtain ⟨q, hq, h⟩ := (mem_jn e O).mp hn; exact hcpd q hq n h
      rw [Pln, Plns, Plns, Plns, pln_str, pln_str]
      · rfl
      · unfold due2; rw [hO]; split
        · exact p.cp
        · exact hO'
      · unfold due1; rw [hO, hS]; split
        · exact fun n hn => p.cp n (List.mem_of_mem_take hn)
        · exact hS'
    · exact Nat.le_of_ble_eq_true rfl
  refine Ex.cons (Ex1.if (b := decide ((O.map fun p => D.str (T p)) ≠ []) && (false && true)) ?_ (fun h => by simp at h) (fun _ => Ex.nil (Ex.nil ?_)))
  · refine Ts.and (Ts.of (by walk_at "nm") (Tru.list ?_) (by rfl)) fun h => Ts.and (Ts.cmp (d1 := .tup [.str (T (O.headD [])), .list (O.tail.map fun p => D.str (T p))]) (d2 := .tup [.str (T (O.headD [])), .list (O.tail.map fun p => D.str (T p))]) ?_ ?_ (Cmp.ne_same ok.rm ?_ ?_) (by with_unfolding_all rfl)) fun h => by cases h
    · rw [List.length_map]; have := (hSO O (.inr rfl)).2.1; omega
    · have hOne : O ≠ [] := by simpa using h
      have e2 : due2 (jn 59 (ws2 g)) (ws2 g) g.2.2.1 g.2.2.2 = jn 59 O := by unfold due2; rw [hO, if_neg (by simp [hOne])]
      refine Ev.call ok (Ev.glob ok (by rfl) T2.gA (by decide)) faA (Es.cons (d := .str (T (jn 59 O))) ?_ Es.nil (by rfl)) (splitattr_sp faA hOne (fun q hq => p.free q (by rw [← hO] at hq; exact List.mem_of_mem_drop hq)) (hSO O (.inr rfl)).1) (by rfl) (by rfl)
      refine Ev.item (d0 := .tup [_, _]) (di := .int 1) (by walk_at "nm") (by walk_at "ev") (Itm.tup (by decide) (by decide) (by rw [e2]; rfl)) (by intro o i _; with_unfolding_all rfl)
    · have hOne : O ≠ [] := by simpa using h
      exact parts_ev hOne (by have := (hSO O (.inr rfl)).2.1; omega) (fun pos => by walk_at "nm")
    · exact pln_parts hcpd
    · rw [dep_parts]; decide
  walk_at "sub"
end Mine

namespace Mine

local macro_rules | `(tactic| walk_at "ev") => `(tactic| first
  | exact Ev.cint | exact Ev.cnone | exact Ev.cbool | exact Ev.cstr
  | exact Ev.name (by rfl) (by rfl) (by rfl) (by decide))
local macro_rules | `(tactic| walk_at "nm") => `(tactic| exact Ev.name (by rfl) (by rfl) (by rfl) (by decide))
local macro_rules | `(tactic| walk_at "sub") => `(tactic| repeat' (first | exact Sub.nil | refine Sub.cons (by rfl) ?_))
local macro_rules | `(tactic| walk_at "ev2") => `(tactic| refine Ev.tup (ds := [_, _]) (Es.cons ?_ (Es.cons ?_ Es.nil (by rfl)) (by rfl)) (sz (Nat.le_of_ble_eq_true rfl)))

theorem ok2 {w : World} {G : Grd} {A : Around} {L a : Addr} {cd : Value} {h0 : Heap} {K K' : Kf} (ok : (c2 w G A L a cd h0 K).Ok 1) : (c2 w G A L a cd h0 K').Ok 1 := ⟨ok.kind, ok.glob, ok.blt, ok.at0, ok.rm⟩
theorem flat2 {b : Addr} {g : S2} {v : Nat} {x : D} (hx : Flat x) : ∀ y d, List.lookup y ((("begin", x) :: ("sign", .str (ch v)) :: σ2 b g) : Store) = some d → Flat d := by
  intro y d e
  simp only [List.lookup_cons] at e
  repeat' split at e
  all_goals first | (cases e; exact hx) | (cases e; exact trivial) | cases e

set_option maxHeartbeats 4000000 in
theorem turn2 {w : World} {G : Grd} {A : Around} {L a : Addr} {cd : Value} {h0 : Heap} {fA fP : Addr} (T2 : Top2 G fA fP) {b : Addr} {g : S2} (ok : (c2 w G A L a cd h0 (K2 b g)).Ok 1) (hb0 : h0.get? b = none) {i : Nat} (p : P2I i g) (hi : i < 40) (n : Int) {Rt : D → Prop} :
    ∀ st, ((nth P2 4).2.2.1[6]?.bind fun s => match s with | .For _ _ b _ _ => some b | _ => none) = some st →
    Em (c2 w G A L a cd h0 (K2 b g)) (("number", .int n) :: σ2 b g) st (fun K σ' => ∃ g', K = K2 b g' ∧ Sub σ' (σ2 b g') ∧ P2I (i + 1) g') Rt := by
  intro st hst
  have e : st = _ := (Option.some.inj hst).symm
  subst e
  clear hst
  refine Em.cons (Em1.ofEx (Ex1.assign (d := .int (n.fmod 4)) (by rfl) (by rfl) (Ev.bin (d1 := .int n) (d2 := .int 4) (by walk_at "nm") (by walk_at "ev") (Bin.mod_int (by decide))) (by rfl) ?_))
  refine Em.cons (Em1.ofEx (Ex1.assign (d := .int (n.fdiv 4)) (by rfl) (by rfl) (Ev.bin (d1 := .int n) (d2 := .int 4) (by walk_at "nm") (by walk_at "ev") (Bin.div_int (by decide) (py4 n))) (by rfl) ?_))
  refine Em.cut (fun v : Nat => ("sign", .str (ch v)) :: σ2 b g) (fun v => v < 1114112) (sign2 (N := fun _ => True) T2 ok n b g _ rfl) fun v hv => ?_
  have hlen : (jn 59 (ws2 g)).length ≤ 1000 := by have := p.len; omega
  refine Em.cons (Em1.ofEx (Ex1.aug (d0 := .str (T (jn 59 (ws2 g)))) (d1 := .str (ch v)) (d := .str (T (jn 59 (ws2 g) ++ [v]))) (by rfl) (by rfl) (by rfl) (by walk_at "nm") ?_ ?_))
  · rw [← T_app]
    exact Inp.add_str (sz (by rw [T_len]; show _ + 1 ≤ _; omega))
  have hlast : g.2.1.length ≤ 1000 := by have := part_len (c := 59) (ps := ws2 g) (q := g.2.1) (by simp); omega
  refine Em.cutM (K2 b) (σ2 b) (fun g' => P2I (i + 1) g') ?_ ?_
  · refine Em1.if (b := decide (ch v = ch 59)) ?_ (fun h => ?_) (fun h => ?_)
    · exact Ts.cmp (d1 := .str (ch v)) (d2 := .str (ch 59)) (by walk_at "nm") (by rw [← s_semi]; walk_at "ev") Cmp.eq_str (by with_unfolding_all rfl)
    · have hv59 : v = 59 := by
        have := T_inj (a := [v]) (b := [59]) (of_decide_eq_true h); simpa using this
      subst hv59
      refine Em.cons (Em1.append (y := T []) (by rfl) (by rfl) (by decide) (by rfl) (flat2 trivial) (by rw [← s_empty]; walk_at "ev") hb0 ?_ (by rfl) (by rfl) (by rfl) (by rfl) (Em.nil ⟨(g.1 ++ [g.2.1], [], g.2.2.1, g.2.2.2), ?_, ?_, ?_⟩))
      · have := jn_length (c := 59) (ws2 g); simp at this ⊢; omega
      · show cellK b _ = cellK b _
        simp
      · refine ⟨?_, ?_, ?_, lies_semi p.lies, by omega⟩
        · intro q hq
          rcases List.mem_append.mp hq with h | h
          · exact p.free q h
          · rw [List.mem_singleton.mp h]; simp
        · rw [jn_snoc_nil _ (by simp)]; simp; exact p.len
        · rw [jn_snoc_nil _ (by simp)]
          intro n hn
          rcases List.mem_append.mp hn with h | h
          · exact p.cp n h
          · rw [List.mem_singleton.mp h]; omega
      · have e : jn 59 (ws2 (g.1 ++ [g.2.1], [], g.2.2.1, g.2.2.2)) = jn 59 (ws2 g) ++ [59] := jn_snoc_nil _ (by simp)
        unfold σ2
        rw [e]
        walk_at "sub"
    · have hv59 : v ≠ 59 := fun e => by subst e; simp at h
      have e : jn 59 (g.1 ++ [g.2.1 ++ [v]]) = jn 59 (ws2 g) ++ [v] := jn_last _ _ _
      have base : ∀ hind sl, Lies (g.1 ++ [g.2.1 ++ [v]]) hind sl → P2I (i + 1) (g.1, g.2.1 ++ [v], hind, sl) := fun hind sl hl => by
        refine ⟨?_, ?_, ?_, hl, by omega⟩
        · intro q hq
          rcases List.mem_append.mp hq with h | h
          · exact p.free q (List.mem_append_left _ h)
          · rw [List.mem_singleton.mp h]
            have := p.free g.2.1 (by simp)
            simp [this]; exact fun q => hv59 q.symm
        · show (jn 59 (g.1 ++ [g.2.1 ++ [v]])).length = _
          rw [e]; simp; exact p.len
        · show ∀ n ∈ jn 59 (g.1 ++ [g.2.1 ++ [v]]), _
          rw [e]
          intro n hn
          rcases List.mem_append.mp hn with h | h
          · exact p.cp n h
          · rw [List.mem_singleton.mp h]; exact hv
      refine Em.cons (Em1.augLast (y := ch v) (by rfl) (by rfl) (by decide) (by rfl) (flat2 trivial) (Ev.un (d1 := .int 1) (by walk_at "ev") Un.neg_int) (by walk_at "nm") hb0 ?_ (by intros; rfl) ?_)
      · rw [T_len]; show _ + 1 ≤ _; omega
      have eK : cellK b (g.1.map T ++ [T g.2.1 ++ ch v]) = K2 b (g.1, g.2.1 ++ [v], g.2.2.1, g.2.2.2) := by
        show cellK b _ = cellK b _
        rw [← T_one, T_app]
      rw [eK]
      refine Em.cons (Em1.ofEx (Ex1.if (b := decide (ch v = ch 47)) ?_ (fun h => ?_) (fun h => ?_)))
      · exact Ts.cmp (d1 := .str (ch v)) (d2 := .str (ch 47)) (by walk_at "nm") (by rw [← s_slash]; walk_at "ev") Cmp.eq_str (by with_unfolding_all rfl)
      · have hv47 : v = 47 := by
          have := T_inj (a := [v]) (b := [47]) (of_decide_eq_true h); simpa using this
        subst hv47
        refine Ex.cons (Ex1.assign (d := .bool true) (by rfl) (by rfl) (by walk_at "ev") (by rfl) ?_)
        refine Ex.cons (Ex1.assign (d := .int (g.1.length : Nat)) (by rfl) (by rfl) ?_ (by rfl) (Ex.nil (Em.nil ⟨(g.1, g.2.1 ++ [47], g.1.length, true), rfl, base _ _ lies_slash, ?_⟩)))
        · have hl : ((g.1.map T ++ [T (g.2.1 ++ [47])]).map D.str).length = g.1.length + 1 := by simp
          rw [show ((g.1.length : Nat) : Int) = ((g.1.length + 1 : Nat) : Int) - 1 by omega]
          refine Ev.bin (d1 := .int ((g.1.length + 1 : Nat) : Int)) (d2 := .int 1) ?_ (by walk_at "ev") Bin.sub_int
          rw [← hl]
          refine Ev.bltin (Ev.blt (ok2 ok) (by rfl) T2.gl T2.bl (by decide)) (Es.cons (d := .list ((g.1.map T ++ [T (g.2.1 ++ [47])]).map D.str)) (Ev.asCell rfl (by walk_at "nm")) Es.nil (by rfl)) (Bsp.len_list ?_) (by rfl) (by rfl) (by rfl)
          rw [hl]; have := jn_length (c := 59) (ws2 g); simp at this; omega
        · unfold σ2
          rw [show jn 59 (ws2 (g.1, g.2.1 ++ [47], g.1.length, true)) = jn 59 (ws2 g) ++ [47] from e]
          walk_at "sub"
      · have hv47 : v ≠ 47 := fun e => by subst e; simp at h
        refine Ex.nil (Em.nil ⟨(g.1, g.2.1 ++ [v], g.2.2.1, g.2.2.2), rfl, base _ _ (lies_other hv47 p.lies), ?_⟩)
        unfold σ2
        rw [show jn 59 (ws2 (g.1, g.2.1 ++ [v], g.2.2.1, g.2.2.2)) = jn 59 (ws2 g) ++ [v] from e]
        walk_at "sub"
  · intro g' p'
    refine Em.ofEx ((check2 T2 (ok2 ok) p' _ rfl).mono (fun σ' hs => ⟨g', rfl, hs, p'⟩) fun _ x => x)

set_option maxHeartbeats 4000000 in
theorem law2_run {w : World} {G : Grd} {A : Around} {L a : Addr} {cd : Value} {h0 : Heap} {fA fP : Addr} (T2 : Top2 G fA fP) (ok : (c2 w G A L a cd h0 Kf.none).Ok 1) (ns : List Int) (hn : ns.length ≤ 63) :
    Ex (c2 w G A L a cd h0 Kf.none) [("script", .list (ns.map D.int))] (nth P2 4).2.2.1 (fun _ => False) (fun d => d = .bool true) := by
  obtain ⟨kV, doc, pm, an, cdv, ct, faA⟩ := id T2.fA
  obtain ⟨kV', doc', pm', an', cdv', ct', faP⟩ := id T2.fP
  refine Ex.cons (Ex1.assign (d := .list ((ns.take 40).map D.int)) (by rfl) (by rfl) ?_ (by rfl) ?_)
  · rw [List.map_take, ← lsl_to]
    exact Ev.slice_list (by walk_at "nm") rfl ⟨40, rfl, by walk_at "ev"⟩ (sz (by rw [List.length_map]; omega)) (by intro o r; with_unfolding_all rfl)
  refine Ex.cons (Ex1.assign (d := .str (T [])) (by rfl) (by rfl) (by rw [← s_empty]; walk_at "ev") (by rfl) ?_)
  refine Ex.newcell (ws := [T []]) ok (by rfl) (Es.cons (by rw [← s_empty]; walk_at "ev") Es.nil (by rfl)) (by decide) rfl (by rfl) fun b hb0 => ?_
  have ok' : (c2 w G A L a cd h0 (K2 b ([], [], 0, false))).Ok 1 := ok2 ok
  refine Em.cons (Em1.ofEx (Ex1.assign (d := .bool false) (by rfl) (by rfl) (by walk_at "ev") (by rfl) ?_))
  refine Em.cons (Em1.ofEx (Ex1.assign (d := .int 0) (by rfl) (by rfl) (by walk_at "ev") (by rfl) ?_))
  refine Em.cons (Em1.ofEx (Ex1.if (b := false || (false || false)) ?_ (fun h => by cases h) (fun _ => Ex.nil ?_)))
  · refine Ts.or ?_ fun _ => Ts.or ?_ fun _ => Ts.or0
    · refine Ts.cmp (d1 := .tup [.str (T []), .list []]) (d2 := .tup [.str (T []), .list []]) ?_ ?_ (Cmp.ne_same ok.rm (by simp [Pln, Plns]) (Nat.le_of_ble_eq_true rfl)) (by with_unfolding_all rfl)
      · refine Ev.call ok' (Ev.glob ok' (by rfl) T2.gA (by decide)) faA (Es.cons (d := .str (T (jn 59 [[]]))) (by rw [show jn 59 [[]] = [] from rfl, ← s_empty]; walk_at "ev") Es.nil (by rfl)) (splitattr_sp faA (ps := [[]]) (by simp) (by simp) (by simp [jn])) (by rfl) (by rfl)
      · walk_at "ev2"
        · rw [← s_empty]; walk_at "ev"
        · exact Ev.list Es.nil (sz (by decide))
    · refine Ts.cmp (d1 := .tup [.str (T []), .str (T [])]) (d2 := .tup [.str (T []), .str (T [])]) ?_ ?_ (Cmp.ne_same ok.rm (by simp [Pln, Plns]) (Nat.le_of_ble_eq_true rfl)) (by with_unfolding_all rfl)
      · refine Ev.call ok' (Ev.glob ok' (by rfl) T2.gP (by decide)) faP (Es.cons (d := .str (T [])) (by rw [← s_empty]; walk_at "ev") Es.nil (by rfl)) (splitparams_sp faP (l := []) (PR.none (l := []) (by simp) (by simp)) (by simp)) (by rfl) (by rfl)
      · walk_at "ev2"
        · rw [← s_empty]; walk_at "ev"
        · rw [← s_empty]; walk_at "ev"
  refine Em.cons (Em1.for (ds := (ns.take 40).map D.int) ok' (by walk_at "nm") ?_ (K2 b) (fun g => rfl) (σ2 b) P2I ([], [], 0, false) rfl ?_ ?_ ?_ ?_ ?_ (by intro x; rfl))
  · intro d hd
    obtain ⟨n, _, rfl⟩ := List.mem_map.mp hd
    exact trivial
  · walk_at "sub"
  · exact ⟨fun q hq => by rw [List.mem_singleton.mp hq]; exact List.not_mem_nil, rfl, fun n hn => (List.not_mem_nil hn).elim, lies_start, by decide⟩
  · rintro h l vs ⟨l', ep, ho, hw⟩ ⟨o, ho', hc, m, hd⟩ rs hb
    rw [List.mem_singleton.mp hb, ho] at ho'
    cases ho'
    have e : strValues l' = vs := by
      have h1 : (strValues l').toArray = vs.toArray := by injection hd
      simpa using h1
    subst e
    cases l' with
    | nil => simp at hw
    | cons q l' =>
      cases hns : ns.take 40 with
      | nil => rw [hns, List.map_nil, rdAll_nil] at rs; cases rs
      | cons n r =>
        rw [hns] at rs
        obtain ⟨v, r', hv, r1, _⟩ := rdAll_cons.mp rs
        obtain ⟨t, rfl⟩ := rd_int.mp r1
        cases hv
  · intro i g d' hd' p
    have hi : i < 40 := by
      have := (List.getElem?_eq_some_iff.mp hd').1
      simp at this; omega
    obtain ⟨n, rfl⟩ : ∃ n, d' = .int n := by
      obtain ⟨n, _, rfl⟩ := List.mem_map.mp (List.mem_of_getElem? hd')
      exact ⟨n, rfl⟩
    exact ⟨_, Asg.name (by rfl) (by rfl), turn2 T2 (ok2 ok) hb0 p hi n _ rfl⟩
  · intro g p
    refine Em.ofEx (Ex.cons (Ex1.ret (d := .bool true) (by walk_at "ev") rfl))
end Mine

namespace Mine
/-! the head handed on -/
def grd (K : Frag) (p : Program) (loose : List Str) (mean : ExcName → Option Value) (mg mb : Str → Option Value) : Grd where
  mg := mg
  mb := mb
  At h := K.In h ∧ Top p loose mean mg mb h
  keep := fun k a => ⟨a.1.keeps k, a.2.keeps k⟩
  g := fun a => a.2.g
  b := fun a => a.2.b
  lim := fun a => a.2.nolimit
theorem rd_ints {h : Heap} : ∀ {vs : List Value} {ns : List Int}, IntsAre vs ns → RdAll h (ns.map D.int) vs
  | _, _, .nil => rdAll_nil.mpr rfl
  | _, _, .cons n t r => rdAll_cons.mpr ⟨_, _, rfl, rd_int.mpr ⟨_, rfl⟩, rd_ints r⟩
theorem law_top {c : C} {s₁ : Shared} {h₁ : Heap} {tk : Nat} {la : Addr} {vs : List Value} {ns : List Int} {body : List Stmt} {m : Str → Option Value} {Q : Flow → Shared → Prop} {E : Value → Shared → Prop} (h0 : c.h0 = s₁.heap) (hK : c.K = Kf.none)
    (F : Fr s₁.heap c.env.locals h₁ m) (hm : m "script" = some (.ref la)) (hL : s₁.heap.IsList la vs.toArray) (hI : IntsAre vs ns)
    (run : Ex c [("script", .list (ns.map D.int))] body (fun _ => False) (fun d => d = .bool true))
    (q : ∀ h' tk, (∀ b o, s₁.heap.get? b = some o → h'.get? b = some o) → Q (.ret (.bool true)) { s₁ with heap := h', toks := tk }) : wpAny (model c.prog c.w) c.A (execs body c.env) Q E { s₁ with heap := h₁, toks := tk } := by
  have H : Hd c h₁ [("script", .list (ns.map D.int))] := by
    refine ⟨⟨m, by rw [h0]; exact F, fun x d e => ?_⟩, by rw [hK]; trivial, by rw [hK]; exact fun hb => nomatch hb⟩
    rw [List.lookup_cons] at e
    cases hx : x == ("script" : Str) with
    | true =>
      rw [hx] at e; cases e
      refine ⟨.ref la, by rw [show x = ("script" : Str) by simpa using hx]; exact hm, rd_list.mpr ⟨la, vs, rfl, hL.at fun o e => F.keep la o e, rd_ints hI⟩⟩
    | false => rw [hx] at e; cases e
  refine wpAny_mono (run { s₁ with heap := h₁, toks := tk } H Q (fun _ _ _ hf _ _ => hf.elim) fun d v h' tk' hd kb r => ?_) (fun _ _ x => x) (fun _ _ x => x.elim)
  subst hd
  rw [rd_bool] at r; subst r
  exact q h' tk' fun b o e => kb b o (fun hb => absurd (Heap.lt_size e) (by rw [hb]; exact Nat.not_lt.mpr F.above)) (F.keep b o e)
theorem rm_caller {env : Env} {k : Nat} (h : k ≤ 20) : Rm (callerA.deeper env) k := ⟨rfl, by show 1 + 300 + 1 + k ≤ 900; omega, by show 4 + 3 + 10 * k ≤ 9000; omega⟩
theorem fnAt_K {K : Frag} {p : Program} {loose : List Str} {mean : ExcName → Option Value} {mg mb : Str → Option Value} {f : Addr} {oc : Value} {od : Option Addr} {osl : Array (Option Value)} {fd : FuncData} {h₀ : Heap} (_X : K.In h₀) (_T : Top p loose mean mg mb h₀)
    (ho : K.lookup f = some ⟨oc, od, .func fd, osl⟩) (hc : codeIn K fd.code fd.qualname = true) : FnAt (grd K p loose mean mg mb) f fd := fun h a => ⟨_, a.1 _ _ ho, rfl, codeRec_of a.1 hc⟩
end Mine

set_option maxHeartbeats 8000000 in
theorem PySem.Challenge.cw_dn0235_02_holds : PySem.Challenge.rw_dn0235_02.Holds := by
  w_on
  o_law
  k_head
  case hw => w_witness2
  w_strict (
    k_go0
    (with_reducible rename Frag.In _ _ => KX)
    (with_reducible rename Top _ _ _ _ _ _ => TT)
    (with_reducible rename IntsAre _ _ => hI)
    (with_reducible rename Heap.IsList _ _ _ => hL)
    (with_reducible rename Fr _ _ _ _ => F)
    (with_reducible rename ¬ ((_ : Int) < _) => hn)
    (with_reducible rename _ = #[] => hg)
    have T2 : Mine.Top2 (Mine.grd _ _ _ _ _ _) _ _ := ⟨mg_of KX TT.g (by k_is), mg_of KX TT.g (by k_is), ⟨_, _, _, _, _, _, Mine.fnAt_K KX TT (by k_is) (by k_is)⟩, ⟨_, _, _, _, _, _, Mine.fnAt_K KX TT (by k_is) (by k_is)⟩, mg_none_of KX TT.g (by k_is), (TT.builtins _ (by decide)).trans (by boot_by_name), mg_none_of KX TT.g (by k_is), (TT.builtins _ (by decide)).trans (by boot_by_name)⟩
    refine Mine.law_top (c := Mine.c2 _ (Mine.grd _ _ _ _ _ _) _ _ _ _ _ Mine.Kf.none) rfl rfl F rfl hL hI (Mine.law2_run T2 ?ok _ ?len) ?fin
    case ok => exact ⟨rfl, rfl, rfl, ⟨KX, TT⟩, Mine.rm_caller (by decide)⟩
    case len => omega
    case fin =>
      intro h' tk k
      exact ⟨.inl ⟨.bool true, .bool true, [], rfl, fun cls => rfl, .bool true, postW_of rfl (w_eq_bool (w_res rfl) w_lit) rfl, fun _ => ⟨.nil, fun _ h => nomatch h⟩⟩, k, rfl, hg⟩)

