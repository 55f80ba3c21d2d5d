import PyProof.Rows.All
import Wide.All
import OpenK.AllK
import Wide.FinOn
import PySem.Challenge.RW_dn0235_01
open PySem PySem.W PyProof.Rows
set_option Elab.async false
set_option linter.unusedVariables false
set_option maxRecDepth 100000

namespace Mine

/-! plain data, and what a value reads as -/
inductive D where
  | none
  | bool (b : Bool)
  | int (i : Int)
  | str (x : Str)
  | list (ds : List D)
  | tup (ds : List D)
  | val (v : Value)

abbrev Keep (h h' : Heap) : Prop := ∀ b o, h.get? b = some o → h'.get? b = some o
def KeepS (h h' : Heap) : Prop := ∀ b o xs n, h.get? b = some o → o.data = .seq xs n → h'.get? b = some o
abbrev KeepB (L : Addr) (h h' : Heap) : Prop := ∀ b o, b ≠ L → h.get? b = some o → h'.get? b = some o

mutual
def Rd (h : Heap) : D → Value → Prop
  | .none, v => v = .none
  | .bool b, v => v = .bool b
  | .int i, v => ∃ t, v = .int i t
  | .str x, v => ∃ t, v = .str x t
  | .list ds, v => ∃ a vs, v = .ref a ∧ h.IsList a (List.toArray vs) ∧ RdAll h ds vs
  | .tup ds, v => ∃ a vs, v = .ref a ∧ IsTup h a (List.toArray vs) ∧ RdAll h ds vs
  | .val u, v => v = u
def RdAll (h : Heap) : List D → List Value → Prop
  | [], vs => vs = []
  | d :: ds, vs => ∃ v r, vs = v :: r ∧ Rd h d v ∧ RdAll h ds r
end

theorem Keep.s {h h' : Heap} (k : Keep h h') : KeepS h h' := fun b o _ _ e _ => k b o e
theorem KeepB.of_keep {h h' : Heap} {L : Addr} (k : Keep h h') : KeepB L h h' := fun b o _ e => k b o e
theorem Keep.trans {h h' h'' : Heap} (k : Keep h h') (k' : Keep h' h'') : Keep h h'' := fun b o e => k' b o (k b o e)
theorem KeepB.trans {h h' h'' : Heap} {L : Addr} (k : KeepB L h h') (k' : KeepB L h' h'') : KeepB L h h'' := fun b o n e => k' b o n (k b o n e)
theorem Keep.refl (h : Heap) : Keep h h := fun _ _ e => e

theorem isList_keepS {h h' : Heap} (k : KeepS h h') {a : Addr} {xs : Array Value} (x : h.IsList a xs) : h'.IsList a xs := by
  obtain ⟨o, ho, hc, n, hd⟩ := x
  exact ⟨o, k a o xs n ho hd, hc, n, hd⟩
theorem isTup_keepS {h h' : Heap} (k : KeepS h h') {a : Addr} {xs : Array Value} (x : IsTup h a xs) : IsTup h' a xs := by
  obtain ⟨o, ho, hc, n, hd⟩ := x
  exact ⟨o, k a o xs n ho hd, hc, n, hd⟩

mutual
theorem Rd.mono {h h' : Heap} (k : KeepS h h') : ∀ (d : D) (v : Value), Rd h d v → Rd h' d v
  | .none, _, e => by rw [Rd] at e ⊢; exact e
  | .bool _, _, e => by rw [Rd] at e ⊢; exact e
  | .int _, _, e => by rw [Rd] at e ⊢; exact e
  | .str _, _, e => by rw [Rd] at e ⊢; exact e
  | .val _, _, e => by rw [Rd] at e ⊢; exact e
  | .list ds, _, e => by
    rw [Rd] at e ⊢
    obtain ⟨a, vs, rfl, hl, r⟩ := e
    exact ⟨a, vs, rfl, isList_keepS k hl, RdAll.mono k ds vs r⟩
  | .tup ds, _, e => by
    rw [Rd] at e ⊢
    obtain ⟨a, vs, rfl, hl, r⟩ := e
    exact ⟨a, vs, rfl, isTup_keepS k hl, RdAll.mono k ds vs r⟩
theorem RdAll.mono {h h' : Heap} (k : KeepS h h') : ∀ (ds : List D) (vs : List Value), RdAll h ds vs → RdAll h' ds vs
  | [], _, e => by rw [RdAll] at e ⊢; exact e
  | d :: ds, _, e => by
    rw [RdAll] at e ⊢
    obtain ⟨v, r, rfl, x, y⟩ := e
    exact ⟨v, r, rfl, Rd.mono k d v x, RdAll.mono k ds r y⟩
end
theorem Rd.keep {h h' : Heap} (k : Keep h h') {d : D} {v : Value} (e : Rd h d v) : Rd h' d v := Rd.mono k.s d v e
theorem RdAll.keep {h h' : Heap} (k : Keep h h') {ds : List D} {vs : List Value} (e : RdAll h ds vs) : RdAll h' ds vs := RdAll.mono k.s ds vs e

section
variable {h : Heap} {v : Value}
theorem rd_none : Rd h .none v ↔ v = .none := by rw [Rd]
theorem rd_bool {b : Bool} : Rd h (.bool b) v ↔ v = .bool b := by rw [Rd]
theorem rd_int {i : Int} : Rd h (.int i) v ↔ ∃ t, v = .int i t := by rw [Rd]
theorem rd_str {x : Str} : Rd h (.str x) v ↔ ∃ t, v = .str x t := by rw [Rd]
theorem rd_val {u : Value} : Rd h (.val u) v ↔ v = u := by rw [Rd]
theorem rd_list {ds : List D} : Rd h (.list ds) v ↔ ∃ a vs, v = .ref a ∧ h.IsList a (List.toArray vs) ∧ RdAll h ds vs := by rw [Rd]
theorem rd_tup {ds : List D} : Rd h (.tup ds) v ↔ ∃ a vs, v = .ref a ∧ IsTup h a (List.toArray vs) ∧ RdAll h ds vs := by rw [Rd]
theorem rdAll_nil {vs : List Value} : RdAll h [] vs ↔ vs = [] := by rw [RdAll]
theorem rdAll_cons {d : D} {ds : List D} {vs : List Value} : RdAll h (d :: ds) vs ↔ ∃ v r, vs = v :: r ∧ Rd h d v ∧ RdAll h ds r := by rw [RdAll]
end

theorem RdAll.length {h : Heap} : ∀ {ds : List D} {vs : List Value}, RdAll h ds vs → vs.length = ds.length
  | [], _, e => by rw [rdAll_nil] at e; subst e; rfl
  | d :: ds, _, e => by
    obtain ⟨v, r, rfl, _, y⟩ := rdAll_cons.mp e
    simp [RdAll.length y]
theorem RdAll.get {h : Heap} : ∀ {ds : List D} {vs : List Value} (i : Nat) (v : Value), RdAll h ds vs → vs[i]? = some v → ∃ d, ds[i]? = some d ∧ Rd h d v
  | [], _, i, v, e, hv => by rw [rdAll_nil] at e; subst e; simp at hv
  | d :: ds, _, 0, v, e, hv => by
    obtain ⟨u, r, rfl, x, _⟩ := rdAll_cons.mp e
    simp at hv; subst hv; exact ⟨d, rfl, x⟩
  | d :: ds, _, i + 1, v, e, hv => by
    obtain ⟨u, r, rfl, _, y⟩ := rdAll_cons.mp e
    simp at hv ⊢
    exact RdAll.get i v y hv
theorem RdAll.get' {h : Heap} {ds : List D} {vs : List Value} (e : RdAll h ds vs) {i : Nat} {d : D} (hd : ds[i]? = some d) : ∃ v, vs[i]? = some v ∧ Rd h d v := by
  have hl : i < vs.length := by rw [e.length]; exact (List.getElem?_eq_some_iff.mp hd).1
  obtain ⟨d', h1, h2⟩ := RdAll.get i vs[i] e (by simp [hl])
  rw [hd] at h1; cases h1
  exact ⟨vs[i], by simp [hl], h2⟩
theorem RdAll.append {h : Heap} : ∀ {ds es : List D} {vs ws : List Value}, RdAll h ds vs → RdAll h es ws → RdAll h (ds ++ es) (vs ++ ws)
  | [], _, _, _, e, f => by rw [rdAll_nil] at e; subst e; exact f
  | d :: ds, es, _, ws, e, f => by
    obtain ⟨u, r, rfl, x, y⟩ := rdAll_cons.mp e
    exact rdAll_cons.mpr ⟨u, r ++ ws, rfl, x, RdAll.append y f⟩
theorem RdAll.single {h : Heap} {d : D} {v : Value} (e : Rd h d v) : RdAll h [d] [v] := rdAll_cons.mpr ⟨v, [], rfl, e, rdAll_nil.mpr rfl⟩
theorem RdAll.drop {h : Heap} : ∀ {ds : List D} {vs : List Value} (n : Nat), RdAll h ds vs → RdAll h (ds.drop n) (vs.drop n)
  | [], _, n, e => by rw [rdAll_nil] at e; subst e; simp [rdAll_nil]
  | d :: ds, _, 0, e => e
  | d :: ds, _, n + 1, e => by
    obtain ⟨u, r, rfl, _, y⟩ := rdAll_cons.mp e
    simpa using RdAll.drop n y
theorem RdAll.take {h : Heap} : ∀ {ds : List D} {vs : List Value} (n : Nat), RdAll h ds vs → RdAll h (ds.take n) (vs.take n)
  | [], _, n, e => by rw [rdAll_nil] at e; subst e; simp [rdAll_nil]
  | d :: ds, _, 0, e => by simp [rdAll_nil]
  | d :: ds, _, n + 1, e => by
    obtain ⟨u, r, rfl, x, y⟩ := rdAll_cons.mp e
    rw [List.take_succ_cons, List.take_succ_cons]
    exact rdAll_cons.mpr ⟨u, _, rfl, x, RdAll.take n y⟩

/-! the ground: what stands at the top -/
structure Grd where
  mg : Str → Option Value
  mb : Str → Option Value
  At : Heap → Prop
  keep : ∀ {h h' : Heap}, Keep h h' → At h → At h'
  g : ∀ {h : Heap}, At h → h.Ns mainGlobals mg
  b : ∀ {h : Heap}, At h → h.Ns builtinsNs mb
  lim : ∀ {h : Heap}, At h → h.NoLimit

structure Rm (A : Around) (k : Nat) : Prop where
  handled : A.handled = none
  depth : A.depth + k ≤ 900
  units : A.units + 10 * k ≤ 9000

/-- a fact of the heap that stands on some objects alone (what a turn mutates) -/
structure Kf where
  P : Heap → Prop
  fp : List Addr
  frame : ∀ {h h' : Heap}, P h → (∀ b ∈ fp, ∀ o, h.get? b = some o → h'.get? b = some o) → P h'
  there : ∀ {h : Heap}, P h → ∀ b ∈ fp, ∃ o, h.get? b = some o
def Kf.none : Kf := ⟨fun _ => True, [], fun _ _ => trivial, fun _ _ hb => nomatch hb⟩

structure C where
  prog : Program
  w : World
  G : Grd
  A : Around
  env : Env
  h0 : Heap
  K : Kf

structure C.Ok (c : C) (k : Nat) : Prop where
  kind : c.env.scope.kind = .function
  glob : c.env.globals = mainGlobals
  blt : c.env.builtins = builtinsNs
  at0 : c.G.At c.h0
  rm : Rm c.A k

abbrev Store := List (Str × D)

def Hd (c : C) (h : Heap) (σ : Store) : Prop := (∃ m, Fr c.h0 c.env.locals h m ∧ ∀ x d, σ.lookup x = some d → ∃ v, m x = some v ∧ Rd h d v) ∧ c.K.P h ∧ c.env.locals ∉ c.K.fp

def Sub (σ σ' : Store) : Prop := ∀ x d, σ'.lookup x = some d → σ.lookup x = some d
theorem Sub.refl (σ : Store) : Sub σ σ := fun _ _ e => e
theorem Hd.sub {c : C} {h : Heap} {σ σ' : Store} (H : Hd c h σ) (s : Sub σ σ') : Hd c h σ' := by
  obtain ⟨⟨m, F, f⟩, K⟩ := H
  exact ⟨⟨m, F, fun x d e => f x d (s x d e)⟩, K⟩
theorem frKeep {h₀ h h' : Heap} {L : Addr} {m : Str → Option Value} (F : Fr h₀ L h m) (k : Keep h h') : Fr h₀ L h' m :=
  ⟨F.ns.keeps k, fun b o e => k b o (F.keep b o e), F.above⟩
theorem Hd.keep {c : C} {h h' : Heap} {σ : Store} (H : Hd c h σ) (k : Keep h h') : Hd c h' σ := by
  obtain ⟨⟨m, F, f⟩, K, n⟩ := H
  refine ⟨⟨m, frKeep F k, fun x d e => ?_⟩, c.K.frame K fun b _ o e => k b o e, n⟩
  obtain ⟨v, a, b⟩ := f x d e
  exact ⟨v, a, b.keep k⟩
theorem Hd.grd {c : C} {h : Heap} {σ : Store} {k : Nat} (H : Hd c h σ) (ok : c.Ok k) : c.G.At h := by
  obtain ⟨⟨m, F, _⟩, _⟩ := H
  exact c.G.keep F.keep ok.at0
theorem keepS_of_sameBut {h h' : Heap} {L : Addr} {m : Str → Option Value} (n : h.Ns L m) (s : Heap.SameBut L h h') : KeepS h h' := by
  intro b o xs k e hd
  by_cases hb : b = L
  · subst hb
    obtain ⟨o', es, ep, ho, hd', _⟩ := n
    rw [e] at ho; cases ho
    rw [hd] at hd'; cases hd'
  · exact (s.2 b hb).trans e

/-! trees that give data -/
def Gv (prog : Program) (w : World) (A : Around) (t : Sem Value) (d : D) (s : Shared) : Prop :=
  ∀ (Q : Value → Shared → Prop), (∀ v h' tk, Keep s.heap h' → Rd h' d v → Q v { s with heap := h', toks := tk }) → wpAny (model prog w) A t Q (fun _ _ => False) s
def Gb (prog : Program) (w : World) (A : Around) (t : Sem Bool) (b : Bool) (s : Shared) : Prop :=
  ∀ (Q : Bool → Shared → Prop), (∀ h' tk, Keep s.heap h' → Q b { s with heap := h', toks := tk }) → wpAny (model prog w) A t Q (fun _ _ => False) s

def Ev (c : C) (σ : Store) (e : Expr) (d : D) : Prop := ∀ s : Shared, Hd c s.heap σ → Gv c.prog c.w c.A (eval e c.env) d s
def Ts (c : C) (σ : Store) (e : Expr) (b : Bool) : Prop := ∀ s : Shared, Hd c s.heap σ → Gb c.prog c.w c.A (isTrue e c.env (eval e c.env)) b s
/-- the arguments of a call, a display -/
def Es (c : C) (σ : Store) (pos : Pos) (es : List Expr) (ds : List D) : Prop := ∀ s : Shared, Hd c s.heap σ → ∀ (Q : List Value → Shared → Prop),
  (∀ vs h' tk, Keep s.heap h' → RdAll h' ds vs → Q vs { s with heap := h', toks := tk }) → wpAny (model c.prog c.w) c.A (spliced (backTo pos (starEach es c.env))) Q (fun _ _ => False) s

def Ex (c : C) (σ : Store) (body : List Stmt) (N : Store → Prop) (Rt : D → Prop) : Prop := ∀ s : Shared, Hd c s.heap σ → ∀ (Q : Flow → Shared → Prop),
  (∀ σ' h' tk, N σ' → KeepB c.env.locals s.heap h' → Hd c h' σ' → Q .next { s with heap := h', toks := tk }) →
  (∀ d v h' tk, Rt d → KeepB c.env.locals s.heap h' → Rd h' d v → Q (.ret v) { s with heap := h', toks := tk }) →
  wpAny (model c.prog c.w) c.A (execs body c.env) Q (fun _ _ => False) s
def Ex1 (c : C) (σ : Store) (st : Stmt) (N : Store → Prop) (Rt : D → Prop) : Prop := ∀ s : Shared, Hd c s.heap σ → ∀ (Q : Flow → Shared → Prop),
  (∀ σ' h' tk, N σ' → KeepB c.env.locals s.heap h' → Hd c h' σ' → Q .next { s with heap := h', toks := tk }) →
  (∀ d v h' tk, Rt d → KeepB c.env.locals s.heap h' → Rd h' d v → Q (.ret v) { s with heap := h', toks := tk }) →
  wpAny (model c.prog c.w) c.A (exec st c.env) Q (fun _ _ => False) s

section
variable {c : C} {σ : Store}

theorem Gv.then {prog : Program} {w : World} {A : Around} {t : Sem Value} {d : D} {s : Shared} (h : Gv prog w A t d s) {Q : Value → Shared → Prop} {E : Value → Shared → Prop}
    (k : ∀ v h' tk, Keep s.heap h' → Rd h' d v → Q v { s with heap := h', toks := tk }) : wpAny (model prog w) A t Q E s :=
  wpAny_mono (h Q k) (fun _ _ x => x) fun _ _ x => x.elim
theorem Gv.now {prog : Program} {w : World} {A : Around} {t : Sem Value} {d : D} {s : Shared} (h : ∀ Q, (∀ v tk, Rd s.heap d v → Q v { s with toks := tk }) → wpAny (model prog w) A t Q (fun _ _ => False) s) : Gv prog w A t d s :=
  fun Q k => h Q fun v tk r => k v s.heap tk (Keep.refl _) r

/-! statements -/
theorem Ex.nil {N : Store → Prop} {Rt : D → Prop} (h : N σ) : Ex c σ [] N Rt := fun s H Q n _ => wpAny_execs_nil (n σ s.heap s.toks h (KeepB.of_keep (Keep.refl _)) H)
theorem Ex.cons {st : Stmt} {rest : List Stmt} {N : Store → Prop} {Rt : D → Prop} (h : Ex1 c σ st (fun σ' => Ex c σ' rest N Rt) Rt) : Ex c σ (st :: rest) N Rt := fun s H Q n r =>
  wpAny_execs_cons (h s H _ (fun σ' h' tk ex k H' => ex _ H' Q (fun σ'' h'' tk' a b e => n σ'' h'' tk' a (k.trans b) e) fun d v h'' tk' a b e => r d v h'' tk' a (k.trans b) e)
    fun d v h' tk a b e => r d v h' tk a b e)
theorem Ex1.mono {st : Stmt} {N N' : Store → Prop} {Rt Rt' : D → Prop} (h : Ex1 c σ st N Rt) (hn : ∀ σ, N σ → N' σ) (hr : ∀ d, Rt d → Rt' d) : Ex1 c σ st N' Rt' := fun s H Q n r =>
  h s H Q (fun σ' h' tk a b e => n σ' h' tk (hn _ a) b e) fun d v h' tk a b e => r d v h' tk (hr _ a) b e
theorem Ex.mono {body : List Stmt} {N N' : Store → Prop} {Rt Rt' : D → Prop} (h : Ex c σ body N Rt) (hn : ∀ σ, N σ → N' σ) (hr : ∀ d, Rt d → Rt' d) : Ex c σ body N' Rt' := fun s H Q n r =>
  h s H Q (fun σ' h' tk a b e => n σ' h' tk (hn _ a) b e) fun d v h' tk a b e => r d v h' tk (hr _ a) b e
theorem Ex.sub {body : List Stmt} {N : Store → Prop} {Rt : D → Prop} {σ' : Store} (h : Ex c σ' body N Rt) (s : Sub σ σ') : Ex c σ body N Rt := fun st H Q n r => h st (H.sub s) Q n r

theorem Ex1.ret {e : Expr} {pos : Pos} {d : D} {N : Store → Prop} {Rt : D → Prop} (h : Ev c σ e d) (hr : Rt d) : Ex1 c σ (.Return (some e) pos) N Rt := fun s H Q _ r =>
  wpAny_Return_some ((h s H).then fun v h' tk k rd => r d v h' tk hr (KeepB.of_keep k) rd)
theorem Ex1.if {test : Expr} {body orelse : List Stmt} {pos : Pos} {b : Bool} {N : Store → Prop} {Rt : D → Prop} (ht : Ts c σ test b) (h1 : b = true → Ex c σ body N Rt) (h2 : b = false → Ex c σ orelse N Rt) :
    Ex1 c σ (.If test body orelse pos) N Rt := fun s H Q n r => by
  refine wpAny_If (ht s H _ fun h' tk k => ?_)
  cases b with
  | true => exact h1 rfl _ (H.keep k) Q (fun σ' h'' tk' a b' e => n σ' h'' tk' a ((KeepB.of_keep k).trans b') e) fun d v h'' tk' a b' e => r d v h'' tk' a ((KeepB.of_keep k).trans b') e
  | false => exact h2 rfl _ (H.keep k) Q (fun σ' h'' tk' a b' e => n σ' h'' tk' a ((KeepB.of_keep k).trans b') e) fun d v h'' tk' a b' e => r d v h'' tk' a ((KeepB.of_keep k).trans b') e

theorem kindOk {c : C} (hk : c.env.scope.kind = .function) : (c.env.scope.kind == .class || (c.env.scope.kind == .module && c.env.locals != c.env.globals)) = false := by
  rw [hk]; rfl

/-- a name of the frame is stored -/
theorem store {s : Shared} {x : Str} {d : D} {v : Value} {Q : Unit → Shared → Prop} {E : Value → Shared → Prop} (hk : c.env.scope.kind = .function) (hx : c.env.kindOf x = some .local) (H : Hd c s.heap σ) (rd : Rd s.heap d v)
    (q : ∀ h' tk, KeepB c.env.locals s.heap h' → KeepS s.heap h' → Hd c h' ((x, d) :: σ) → Q () { s with heap := h', toks := tk }) : wpAny (model c.prog c.w) c.A (storeName c.env x v) Q E s := by
  obtain ⟨⟨m, F, f⟩, K, nL⟩ := H
  refine wpAny_storeName_local hx F.ns (fun h' hn hs => ?_) (kindOk hk)
  have kS : KeepS s.heap h' := keepS_of_sameBut F.ns hs
  refine q h' (s.toks + 1) (fun b o n e => (hs.2 b n).trans e) kS ⟨⟨_, F.set hn hs, fun y d' e => ?_⟩, c.K.frame K fun b hb o e => (hs.2 b fun q => nL (q ▸ hb)).trans e, nL⟩
  rw [List.lookup_cons] at e
  by_cases hy : y = x
  · subst hy
    simp at e; subst e
    exact ⟨v, by simp, Rd.mono kS _ _ rd⟩
  · have hb : (y == x) = false := by simpa using hy
    rw [hb] at e
    obtain ⟨u, a, b⟩ := f y d' e
    exact ⟨u, by simp [hy, a], Rd.mono kS _ _ b⟩

theorem Ex1.assign {x : Str} {px pos : Pos} {e : Expr} {d : D} {N : Store → Prop} {Rt : D → Prop} (hk : c.env.scope.kind = .function) (hx : c.env.kindOf x = some .local) (h : Ev c σ e d)
    (hs : swapsWith e (some (.Name x px)) pos.line c.env = pure false) (hn : N ((x, d) :: σ)) : Ex1 c σ (.Assign [.Name x px] e pos) N Rt := fun s H Q n _ =>
  wpAny_Assign_Name (hs := hs) ((h s H).then fun v h' tk k rd => store (s := { s with heap := h', toks := tk }) hk hx (H.keep k) rd fun h'' tk' kb _ H' =>
    n _ h'' tk' hn ((KeepB.of_keep k).trans kb) H')

/-! names and constants -/
theorem Ev.name {x : Str} {pos : Pos} {d : D} (hk : c.env.scope.kind = .function) (hl : c.env.kindOf x = some .local) (e : σ.lookup x = some d) (hd : (x == ("__debug__" : Str)) = false) : Ev c σ (.Name x pos) d := fun s H Q k => by
  obtain ⟨⟨m, F, f⟩, _⟩ := H
  obtain ⟨v, hv, rd⟩ := f x d e
  exact wpAny_Name (wpAny_loadName_local hk hl F.ns hv (k v s.heap s.toks (Keep.refl _) rd)) hd
theorem Ev.glob {x : Str} {pos : Pos} {v : Value} {k : Nat} (ok : c.Ok k) (hl : c.env.kindOf x = some .globalImplicit) (e : c.G.mg x = some v) (hd : (x == ("__debug__" : Str)) = false) : Ev c σ (.Name x pos) (.val v) := fun s H Q q =>
  Calls.Name_function_global ok.kind hl (Calls.loadGlobal_global (by rw [ok.glob]; exact c.G.g (H.grd ok)) e (q v s.heap s.toks (Keep.refl _) (rd_val.mpr rfl))) hd
theorem Ev.blt {x : Str} {pos : Pos} {v : Value} {k : Nat} (ok : c.Ok k) (hl : c.env.kindOf x = some .globalImplicit) (e : c.G.mg x = none) (e' : c.G.mb x = some v) (hd : (x == ("__debug__" : Str)) = false) : Ev c σ (.Name x pos) (.val v) := fun s H Q q =>
  Calls.Name_function_global ok.kind hl (Calls.loadGlobal_builtin (by rw [ok.glob]; exact c.G.g (H.grd ok)) e (by rw [ok.blt]; exact c.G.b (H.grd ok)) e' (q v s.heap s.toks (Keep.refl _) (rd_val.mpr rfl))) hd
theorem Ev.cint {i : Int} {k : Nat} {pos : Pos} : Ev c σ (.Constant (.int i) k pos) (.int i) := fun s _ _ q => wpAny_Constant_int (q _ s.heap _ (Keep.refl _) (rd_int.mpr ⟨_, rfl⟩))
theorem Ev.cstr {x : Str} {k : Nat} {pos : Pos} : Ev c σ (.Constant (.str x) k pos) (.str x) := fun s _ _ q => Calls.Constant_str (q _ s.heap _ (Keep.refl _) (rd_str.mpr ⟨_, rfl⟩))
theorem Ev.cnone {k : Nat} {pos : Pos} : Ev c σ (.Constant .none k pos) .none := fun s _ _ q => wpAny_Constant_none (q _ s.heap s.toks (Keep.refl _) (rd_none.mpr rfl))
theorem Ev.cbool {b : Bool} {k : Nat} {pos : Pos} : Ev c σ (.Constant (.bool b) k pos) (.bool b) := fun s _ _ q => wpAny_Constant_bool (q _ s.heap s.toks (Keep.refl _) (rd_bool.mpr rfl))

/-! expressions put together -/
def Bin (c : C) (op : Operator) (d1 d2 d : D) : Prop := ∀ (s : Shared) v1 v2, Rd s.heap d1 v1 → Rd s.heap d2 v2 → Gv c.prog c.w c.A (binaryOp op v1 v2) d s
theorem Ev.bin {a b : Expr} {op : Operator} {pos : Pos} {d1 d2 d : D} (h1 : Ev c σ a d1) (h2 : Ev c σ b d2) (h : Bin c op d1 d2 d) : Ev c σ (.BinOp a op b pos) d := fun s H Q q =>
  wpAny_BinOp ((h1 s H).then fun v1 h' tk k r1 => (h2 _ (H.keep k)).then fun v2 h'' tk' k' r2 => (h _ v1 v2 (r1.keep k') r2).then fun v h3 tk3 k3 r => q v h3 tk3 ((k.trans k').trans k3) r)
def Cmp (c : C) (op : CmpOp) (d1 d2 : D) (b : Bool) : Prop := ∀ (s : Shared) v1 v2, Rd s.heap d1 v1 → Rd s.heap d2 v2 → Gv c.prog c.w c.A (compareOp op v1 v2) (.bool b) s
theorem Ev.cmp {l r : Expr} {op : CmpOp} {pos : Pos} {d1 d2 : D} {b : Bool} (h1 : Ev c σ l d1) (h2 : Ev c σ r d2) (h : Cmp c op d1 d2 b) (hm : behindInMarks op r = false) : Ev c σ (.Compare l [op] [r] pos) (.bool b) := fun s H Q q =>
  wpAny_Compare1 ((h1 s H).then fun v1 h' tk k r1 => (h2 _ (H.keep k)).then fun v2 h'' tk' k' r2 => (h _ v1 v2 (r1.keep k') r2).then fun v h3 tk3 k3 r => q v h3 tk3 ((k.trans k').trans k3) r) hm
theorem Ts.cmp {l r : Expr} {op : CmpOp} {pos : Pos} {d1 d2 : D} {b : Bool} (h1 : Ev c σ l d1) (h2 : Ev c σ r d2) (h : Cmp c op d1 d2 b) (hm : behindInMarks op r = false) : Ts c σ (.Compare l [op] [r] pos) b := fun s H Q q =>
  wpAny_isTrue_Compare1 ((h1 s H).then fun v1 h' tk k r1 => (h2 _ (H.keep k)).then fun v2 h'' tk' k' r2 => (h _ v1 v2 (r1.keep k') r2).then fun v h3 tk3 k3 r => by
    rw [rd_bool] at r; subst r
    exact wpAny_truthy_bool (q h3 tk3 ((k.trans k').trans k3))) hm
def Tru (c : C) (d : D) (b : Bool) : Prop := ∀ (s : Shared) v, Rd s.heap d v → Gb c.prog c.w c.A (truthy v) b s
theorem Gb.then {prog : Program} {w : World} {A : Around} {t : Sem Bool} {b : Bool} {s : Shared} (h : Gb prog w A t b s) {Q : Bool → Shared → Prop} {E : Value → Shared → Prop}
    (k : ∀ h' tk, Keep s.heap h' → Q b { s with heap := h', toks := tk }) : wpAny (model prog w) A t Q E s := wpAny_mono (h Q k) (fun _ _ x => x) fun _ _ x => x.elim
/-- the truth of a plain expression -/
theorem Ts.of {e : Expr} {d : D} {b : Bool} (h : Ev c σ e d) (t : Tru c d b) (he : isTrue e c.env (eval e c.env) = (do let v ← eval e c.env; standAt e.pos; holding [v] (truthy v))) : Ts c σ e b := fun s H Q q =>
  isTrue_plain ((h s H).then fun v h' tk k r => (t _ v r).then fun h'' tk' k' => q h'' tk' (k.trans k')) he
theorem Ts.not {e : Expr} {pos : Pos} {b : Bool} (h : Ts c σ e b) : Ts c σ (.UnaryOp .Not e pos) (!b) := fun s H Q q => isTrue_not ((h s H).then fun h' tk k => q h' tk k)
theorem Ts.and {x : Expr} {rest : List Expr} {pos : Pos} {b b' : Bool} (h : Ts c σ x b) (h' : b = true → Ts c σ (.BoolOp .And rest pos) b') : Ts c σ (.BoolOp .And (x :: rest) pos) (b && b') := fun s H Q q =>
  isTrue_and ((h s H).then fun h1 tk k => by
    cases b with
    | true => rw [if_pos rfl]; exact (h' rfl _ (H.keep k)).then fun h2 tk2 k2 => q h2 tk2 (k.trans k2)
    | false => rw [if_neg (by decide)]; exact q h1 tk k)
theorem Ts.and0 {pos : Pos} : Ts c σ (.BoolOp .And [] pos) true := fun s _ Q q => isTrue_and_nil (q s.heap s.toks (Keep.refl _))
theorem Ts.or0 {pos : Pos} : Ts c σ (.BoolOp .Or [] pos) false := fun s _ Q q => isTrue_or_nil (q s.heap s.toks (Keep.refl _))
theorem Ts.or {x : Expr} {rest : List Expr} {pos : Pos} {b b' : Bool} (h : Ts c σ x b) (h' : b = false → Ts c σ (.BoolOp .Or rest pos) b') : Ts c σ (.BoolOp .Or (x :: rest) pos) (b || b') := fun s H Q q =>
  isTrue_or ((h s H).then fun h1 tk k => by
    cases b with
    | false => rw [if_neg (by decide)]; exact (h' rfl _ (H.keep k)).then fun h2 tk2 k2 => q h2 tk2 (k.trans k2)
    | true => rw [if_pos rfl]; exact q h1 tk k)
theorem Ev.ifexp {t x y : Expr} {pos : Pos} {b : Bool} {d : D} (ht : Ts c σ t b) (h1 : b = true → Ev c σ x d) (h2 : b = false → Ev c σ y d) : Ev c σ (.IfExp t x y pos) d := fun s H Q q =>
  wpAny_IfExp ((ht s H).then fun h' tk k => by
    cases b with
    | true => rw [if_pos rfl]; exact (h1 rfl _ (H.keep k)).then fun v h2 tk2 k2 r => q v h2 tk2 (k.trans k2) r
    | false => rw [if_neg (by decide)]; exact (h2 rfl _ (H.keep k)).then fun v h2 tk2 k2 r => q v h2 tk2 (k.trans k2) r)
def Un (c : C) (op : UnaryOp) (d1 d : D) : Prop := ∀ (s : Shared) v1, Rd s.heap d1 v1 → Gv c.prog c.w c.A (unaryOp op v1) d s
theorem Ev.un {a : Expr} {op : UnaryOp} {pos : Pos} {d1 d : D} (h1 : Ev c σ a d1) (h : Un c op d1 d) : Ev c σ (.UnaryOp op a pos) d := fun s H Q q =>
  wpAny_UnaryOp ((h1 s H).then fun v1 h' tk k r1 => (h _ v1 r1).then fun v h3 tk3 k3 r => q v h3 tk3 (k.trans k3) r)

theorem Es.nil {pos : Pos} : Es c σ pos [] [] := fun s _ Q q => spliced_none (q [] s.heap s.toks (Keep.refl _) (rdAll_nil.mpr rfl))
theorem Es.cons {pos : Pos} {e : Expr} {es : List Expr} {d : D} {ds : List D} (h : Ev c σ e d) (h' : Es c σ pos es ds) (he : starEach (e :: es) c.env = (false, eval e c.env) :: starEach es c.env) : Es c σ pos (e :: es) (d :: ds) := fun s H Q q =>
  spliced_more ((h s H).then fun v h1 tk k r => wpAny_mono (h' _ (H.keep k) _ fun vs h2 tk2 k2 rs => q (v :: vs) h2 tk2 (k.trans k2) (rdAll_cons.mpr ⟨v, vs, rfl, r.keep k2, rs⟩)) (fun _ _ x => x) fun _ _ x => x.elim) he
theorem keep_push (h : Heap) (o : Obj) : Keep h (h.push o) := fun _ _ e => Heap.get?_push_of_some o e
theorem Ev.tup {es : List Expr} {k : Nat} {pos : Pos} {ds : List D} (h : Es c σ pos es ds) (hsz : ds.length ≤ sizeLine) : Ev c σ (.Tuple es k pos) (.tup ds) := fun s H Q q =>
  Tuple_ (h s H _ fun vs h1 tk k rs => by
    have hl : vs.length ≤ sizeLine := by rw [rs.length]; exact hsz
    refine wpAny_newObj_type ?_ (by show vs.toArray.size ≤ sizeLine; rw [List.size_toArray]; exact hl)
    exact q _ _ tk (k.trans (keep_push _ _)) (rd_tup.mpr ⟨_, vs, rfl, ⟨_, Heap.get?_push_size _ rfl, rfl, _, rfl⟩, rs.keep (keep_push _ _)⟩))
theorem Ev.list {es : List Expr} {pos : Pos} {ds : List D} (h : Es c σ pos es ds) (hsz : ds.length ≤ sizeLine) : Ev c σ (.List es pos) (.list ds) := fun s H Q q =>
  List_ (h s H _ fun vs h1 tk k rs => by
    have hl : vs.length ≤ sizeLine := by rw [rs.length]; exact hsz
    refine wpAny_newObj_type ?_ (by show vs.toArray.size ≤ sizeLine; rw [List.size_toArray]; exact hl)
    exact q _ _ tk (k.trans (keep_push _ _)) (rd_list.mpr ⟨_, vs, rfl, ⟨_, Heap.get?_push_size _ rfl, rfl, _, rfl⟩, rs.keep (keep_push _ _)⟩))
end
end Mine

namespace Mine

section
variable {c : C} {σ : Store}

/-! operators -/
theorem gv_pure {prog : Program} {w : World} {A : Around} {t : Sem Value} {d : D} {s : Shared}
    (h : ∀ (Q : Value → Shared → Prop), (∀ v tk, Rd s.heap d v → Q v { s with toks := tk }) → wpAny (model prog w) A t Q (fun _ _ => False) s) : Gv prog w A t d s :=
  fun Q k => h Q fun v tk r => k v s.heap tk (Keep.refl _) r

theorem Bin.add_int {a b : Int} : Bin c .Add (.int a) (.int b) (.int (a + b)) := fun s v1 v2 r1 r2 => by
  obtain ⟨t, rfl⟩ := rd_int.mp r1
  obtain ⟨u, rfl⟩ := rd_int.mp r2
  exact gv_pure fun Q k => PySem.P.add_int (k _ _ (rd_int.mpr ⟨_, rfl⟩))
theorem Bin.sub_int {a b : Int} : Bin c .Sub (.int a) (.int b) (.int (a - b)) := fun s v1 v2 r1 r2 => by
  obtain ⟨t, rfl⟩ := rd_int.mp r1
  obtain ⟨u, rfl⟩ := rd_int.mp r2
  exact gv_pure fun Q k => PySem.P.sub_int (k _ _ (rd_int.mpr ⟨_, rfl⟩))
theorem Bin.mul_int {a b : Int} (hm : IntMulOk a b) : Bin c .Mult (.int a) (.int b) (.int (a * b)) := fun s v1 v2 r1 r2 => by
  obtain ⟨t, rfl⟩ := rd_int.mp r1
  obtain ⟨u, rfl⟩ := rd_int.mp r2
  exact gv_pure fun Q k => PySem.P.mul_int (k _ _ (rd_int.mpr ⟨_, rfl⟩)) hm
theorem Bin.mod_int {a b : Int} (hb : b ≠ 0) : Bin c .Mod (.int a) (.int b) (.int (a.fmod b)) := fun s v1 v2 r1 r2 => by
  obtain ⟨t, rfl⟩ := rd_int.mp r1
  obtain ⟨u, rfl⟩ := rd_int.mp r2
  exact gv_pure fun Q k => mod_int' hb (k _ _ (rd_int.mpr ⟨_, rfl⟩))
theorem Bin.div_int {a b : Int} (hb : b ≠ 0) (hp : Builtin.divisionGoesByPylong a b = false) : Bin c .FloorDiv (.int a) (.int b) (.int (a.fdiv b)) := fun s v1 v2 r1 r2 => by
  obtain ⟨t, rfl⟩ := rd_int.mp r1
  obtain ⟨u, rfl⟩ := rd_int.mp r2
  exact gv_pure fun Q k => floordiv_int hb (k _ _ (rd_int.mpr ⟨_, rfl⟩)) (.inl hp)

theorem str_of_len0 {x : Str} (h : (x.length == 0) = true) : x = Str.empty := by
  have h0 : x.cps.size = 0 := by simpa [Str.length] using h
  exact Str.ext' (by rw [Array.size_eq_zero_iff.mp h0]; rfl)
theorem post_add {x y : Str} {t u : Tok} {s : Shared} {Q : Value → Shared → Prop} (hsz : x.length + y.length ≤ sizeLine) (k : ∀ v tk, Rd s.heap (.str (x ++ y)) v → Q v { s with toks := tk }) :
    (if x.length == 0 then Made.val (.str y u) else if y.length == 0 then Made.val (.str x t) else Made.str (x ++ y)).post Q s := by
  by_cases h1 : (x.length == 0) = true
  · rw [if_pos h1]
    have e : x ++ y = y := by rw [str_of_len0 h1]; exact Str.empty_append y
    rw [e] at k
    exact k _ s.toks (rd_str.mpr ⟨u, rfl⟩)
  · rw [if_neg h1]
    by_cases h2 : (y.length == 0) = true
    · rw [if_pos h2]
      have e : x ++ y = x := by rw [str_of_len0 h2]; exact Str.append_empty x
      rw [e] at k
      exact k _ s.toks (rd_str.mpr ⟨t, rfl⟩)
    · rw [if_neg h2]
      exact ⟨by rw [Str.length_append]; exact hsz, k _ (s.toks + 1) (rd_str.mpr ⟨s.toks, rfl⟩)⟩
theorem Bin.add_str {x y : Str} (hsz : x.length + y.length ≤ sizeLine) : Bin c .Add (.str x) (.str y) (.str (x ++ y)) := fun s v1 v2 r1 r2 => by
  obtain ⟨t, rfl⟩ := rd_str.mp r1
  obtain ⟨u, rfl⟩ := rd_str.mp r2
  exact gv_pure fun Q k => PySem.P.add_str (post_add hsz k)
theorem Bin.add_list {ds es : List D} (hsz : ds.length + es.length ≤ sizeLine) : Bin c .Add (.list ds) (.list es) (.list (ds ++ es)) := fun s v1 v2 r1 r2 Q k => by
  obtain ⟨l, vs, rfl, hl, rs⟩ := rd_list.mp r1
  obtain ⟨b, ws, rfl, hb, rs'⟩ := rd_list.mp r2
  have l1 := rs.length
  have l2 := rs'.length
  obtain ⟨⟨cls, dd, data, sl⟩, ho, hc, n, hd⟩ := id hl
  obtain ⟨⟨cls2, dd2, data2, sl2⟩, ho2, hc2, n2, hd2⟩ := id hb
  simp only at hc hd hc2 hd2
  subst hc hd hc2 hd2
  have e : vs.toArray ++ ws.toArray = (vs ++ ws).toArray := by simp
  refine concat_meets ⟨_, ho, rfl⟩ ⟨_, ho2, rfl⟩ noFill_list_add seq_list_add PySem.F.slot_list_add PySem.F.entry_list_add (PySem.F.args_list_add_2 _ _) (list_addW l b vs.toArray ws.toArray n n2 dd dd2 sl sl2 (by simp; omega)) ⟨ho, ho2, ?_⟩
  rw [e]
  exact k _ _ s.toks (keep_push _ _) (rd_list.mpr ⟨_, _, rfl, ⟨_, Heap.get?_push_size _ rfl, rfl, _, rfl⟩, (rs.append rs').keep (keep_push _ _)⟩)

def Inp (c : C) (op : Operator) (d1 d2 d : D) : Prop := ∀ (s : Shared) v1 v2, Rd s.heap d1 v1 → Rd s.heap d2 v2 → Gv c.prog c.w c.A (inplaceOp op v1 v2) d s
theorem Inp.add_str {x y : Str} (hsz : x.length + y.length ≤ sizeLine) : Inp c .Add (.str x) (.str y) (.str (x ++ y)) := fun s v1 v2 r1 r2 => by
  obtain ⟨t, rfl⟩ := rd_str.mp r1
  obtain ⟨u, rfl⟩ := rd_str.mp r2
  exact gv_pure fun Q k => PySem.P.iadd_str (post_add hsz k)
theorem Inp.sub_int {a b : Int} : Inp c .Sub (.int a) (.int b) (.int (a - b)) := fun s v1 v2 r1 r2 => by
  obtain ⟨t, rfl⟩ := rd_int.mp r1
  obtain ⟨u, rfl⟩ := rd_int.mp r2
  exact gv_pure fun Q k => PySem.P.isub_int (k _ _ (rd_int.mpr ⟨_, rfl⟩))
theorem Ex1.aug {x : Str} {px pos : Pos} {op : Operator} {e : Expr} {d0 d1 d : D} {N : Store → Prop} {Rt : D → Prop} (hk : c.env.scope.kind = .function) (hx : c.env.kindOf x = some .local)
    (h0 : σ.lookup x = some d0) (h : Ev c σ e d1) (op' : Inp c op d0 d1 d) (hn : N ((x, d) :: σ)) : Ex1 c σ (.AugAssign (.Name x px) op e pos) N Rt := fun s H Q n _ => by
  obtain ⟨⟨m, F, f⟩, _⟩ := id H
  obtain ⟨v, hv, rd⟩ := f x d0 h0
  refine wpAny_AugAssign_Name (wpAny_loadName_local hk hx F.ns hv ((h s H).then fun v1 h1 tk k r1 => (op' _ v v1 (rd.keep k) r1).then fun v2 h2 tk2 k2 r2 => ?_))
  exact store (s := { s with heap := h2, toks := tk2 }) hk hx (H.keep (k.trans k2)) r2 fun h3 tk3 kb _ H' => n _ h3 tk3 hn ((KeepB.of_keep (k.trans k2)).trans kb) H'

theorem Un.neg_int {a : Int} : Un c .USub (.int a) (.int (-a)) := fun s v1 r1 => by
  obtain ⟨t, rfl⟩ := rd_int.mp r1
  exact gv_pure fun Q k => PySem.P.neg_int (k _ _ (rd_int.mpr ⟨_, rfl⟩))

/-! comparisons -/
mutual
def toPy : D → PyData
  | .none => .none
  | .bool b => .bool b
  | .int i => .int i
  | .str x => .str x
  | .list ds => .list (toPys ds)
  | .tup ds => .tuple (toPys ds)
  | .val _ => .none
def toPys : List D → List PyData
  | [] => []
  | d :: ds => toPy d :: toPys ds
end
mutual
/-- data without opaque values whose texts are made of code points -/
def Pln : D → Bool
  | .none => true
  | .bool _ => true
  | .int _ => true
  | .str x => x.cps.all (· < 0x110000)
  | .list ds => Plns ds
  | .tup ds => Plns ds
  | .val _ => false
def Plns : List D → Bool
  | [] => true
  | d :: ds => Pln d && Plns ds
end
mutual
theorem pln_lay : ∀ d : D, Pln d = true → (toPy d).canLay0 = true
  | .none, _ => rfl
  | .bool _, _ => rfl
  | .int _, _ => rfl
  | .str x, h => by rw [Pln] at h; exact h
  | .list ds, h => by rw [Pln] at h; exact plns_lay ds h
  | .tup ds, h => by rw [Pln] at h; exact plns_lay ds h
  | .val _, h => by rw [Pln] at h; cases h
theorem plns_lay : ∀ ds : List D, Plns ds = true → PyData.canLayAll0 (toPys ds) = true
  | [], _ => rfl
  | d :: ds, h => by
    rw [Plns, Bool.and_eq_true] at h
    rw [toPys, PyData.canLayAll0, pln_lay d h.1, plns_lay ds h.2]; rfl
end
mutual
theorem rd_reads {h : Heap} : ∀ (d : D) (v : Value), Pln d = true → Rd h d v → ∃ as, Reads h v (toPy d) as
  | .none, v, _, r => by rw [rd_none] at r; subst r; exact ⟨[], .none⟩
  | .bool b, v, _, r => by rw [rd_bool] at r; subst r; exact ⟨[], .bool b⟩
  | .int i, v, _, r => by obtain ⟨t, rfl⟩ := rd_int.mp r; exact ⟨[], .int i t⟩
  | .str x, v, _, r => by obtain ⟨t, rfl⟩ := rd_str.mp r; exact ⟨[], .str x t⟩
  | .list ds, v, p, r => by
    obtain ⟨a, vs, rfl, ⟨o, ho, hc, n, hd⟩, rs⟩ := rd_list.mp r
    rw [Pln] at p
    obtain ⟨as, ra⟩ := rdAll_reads ds vs p rs
    exact ⟨a :: as, .list ho hc hd (by simpa using ra)⟩
  | .tup ds, v, p, r => by
    obtain ⟨a, vs, rfl, ⟨o, ho, hc, n, hd⟩, rs⟩ := rd_tup.mp r
    rw [Pln] at p
    obtain ⟨as, ra⟩ := rdAll_reads ds vs p rs
    exact ⟨as, .tuple ho hc hd (by simpa using ra)⟩
  | .val _, _, p, _ => by rw [Pln] at p; cases p
theorem rdAll_reads {h : Heap} : ∀ (ds : List D) (vs : List Value), Plns ds = true → RdAll h ds vs → ∃ as, ReadsAll h vs (toPys ds) as
  | [], vs, _, r => by rw [rdAll_nil] at r; subst r; exact ⟨[], .nil⟩
  | d :: ds, vs, p, r => by
    rw [Plns, Bool.and_eq_true] at p
    obtain ⟨v, r', rfl, x, y⟩ := rdAll_cons.mp r
    obtain ⟨as, ra⟩ := rd_reads d v p.1 x
    obtain ⟨bs, rb⟩ := rdAll_reads ds r' p.2 y
    exact ⟨as ++ bs, .cons ra rb⟩
end
mutual
def dep : D → Nat
  | .list ds => deps ds + 1
  | .tup ds => deps ds + 1
  | .none => 0
  | .bool _ => 0
  | .int _ => 0
  | .str _ => 0
  | .val _ => 0
def deps : List D → Nat
  | [] => 0
  | d :: ds => max (dep d) (deps ds)
end
mutual
theorem dep_le : ∀ d : D, (toPy d).depth ≤ dep d
  | .none => Nat.le_refl _
  | .bool _ => Nat.le_refl _
  | .int _ => Nat.le_refl _
  | .str _ => Nat.le_refl _
  | .val _ => Nat.zero_le _
  | .list ds => by rw [toPy, dep, PyData.depth]; have := deps_le ds; omega
  | .tup ds => by rw [toPy, dep, PyData.depth]; have := deps_le ds; omega
theorem deps_le : ∀ ds : List D, PyData.depthAll (toPys ds) ≤ deps ds
  | [] => Nat.le_refl _
  | d :: ds => by rw [toPys, deps, PyData.depthAll]; have := dep_le d; have := deps_le ds; omega
end
theorem Cmp.eq {d1 d2 : D} {k : Nat} (rm : Rm c.A k) (p1 : Pln d1 = true) (p2 : Pln d2 = true) (hd : dep d1 ≤ 64) : Cmp c .Eq d1 d2 (PyData.eqv (toPy d1) (toPy d2)) := fun s v1 v2 r1 r2 => by
  obtain ⟨as, ra⟩ := rd_reads d1 v1 p1 r1
  obtain ⟨bs, rb⟩ := rd_reads d2 v2 p2 r2
  have := dep_le d1
  have := rm.units
  exact gv_pure fun Q q => SeqAt.compareEq_reads ra rb (pln_lay _ p1) (pln_lay _ p2) (by show _ < 9900; omega) (q _ s.toks (rd_bool.mpr rfl))
theorem Cmp.ne {d1 d2 : D} {k : Nat} (rm : Rm c.A k) (p1 : Pln d1 = true) (p2 : Pln d2 = true) (hd : dep d1 ≤ 64) : Cmp c .NotEq d1 d2 (!PyData.eqv (toPy d1) (toPy d2)) := fun s v1 v2 r1 r2 => by
  obtain ⟨as, ra⟩ := rd_reads d1 v1 p1 r1
  obtain ⟨bs, rb⟩ := rd_reads d2 v2 p2 r2
  have := dep_le d1
  have := rm.units
  exact gv_pure fun Q q => SeqAt.compareNe_reads ra rb (pln_lay _ p1) (pln_lay _ p2) (by show _ < 9900; omega) (q _ s.toks (rd_bool.mpr rfl))
theorem eqv_same {d : D} (p : Pln d = true) : PyData.eqv (toPy d) (toPy d) = true := SeqAt.eqv_refl _ (pln_lay d p)
theorem Cmp.ne_same {d : D} {k : Nat} (rm : Rm c.A k) (p : Pln d = true) (hd : dep d ≤ 64) : Cmp c .NotEq d d false := by
  have h := Cmp.ne (c := c) rm p p hd
  rw [eqv_same p] at h
  exact h
theorem Cmp.eq_same {d : D} {k : Nat} (rm : Rm c.A k) (p : Pln d = true) (hd : dep d ≤ 64) : Cmp c .Eq d d true := by
  have h := Cmp.eq (c := c) rm p p hd
  rw [eqv_same p] at h
  exact h
theorem Cmp.eq_str {x y : Str} : Cmp c .Eq (.str x) (.str y) (decide (x = y)) := fun s v1 v2 r1 r2 => by
  obtain ⟨t, rfl⟩ := rd_str.mp r1
  obtain ⟨u, rfl⟩ := rd_str.mp r2
  refine gv_pure fun Q k => PySem.P.eq_str ?_
  have e : (x.cps.toList == y.cps.toList) = decide (x = y) := by
    rw [SeqAt.str_beq]
    by_cases h : x = y
    · simp [h]
    · simp [h]
  rw [e]
  exact k _ s.toks (rd_bool.mpr rfl)
theorem Cmp.ne_str {x y : Str} : Cmp c .NotEq (.str x) (.str y) (decide (x ≠ y)) := fun s v1 v2 r1 r2 => by
  obtain ⟨t, rfl⟩ := rd_str.mp r1
  obtain ⟨u, rfl⟩ := rd_str.mp r2
  refine gv_pure fun Q k => PySem.P.ne_str ?_
  have e : (x.cps.toList != y.cps.toList) = decide (x ≠ y) := by
    rw [bne, SeqAt.str_beq]
    by_cases h : x = y
    · simp [h]
    · simp [h]
  rw [e]
  exact k _ s.toks (rd_bool.mpr rfl)
theorem Cmp.eq_int {a b : Int} : Cmp c .Eq (.int a) (.int b) (decide (a = b)) := fun s v1 v2 r1 r2 => by
  obtain ⟨t, rfl⟩ := rd_int.mp r1
  obtain ⟨u, rfl⟩ := rd_int.mp r2
  exact gv_pure fun Q k => PySem.P.eq_int (k _ s.toks (rd_bool.mpr rfl))
theorem Cmp.ne_int {a b : Int} : Cmp c .NotEq (.int a) (.int b) (decide (a ≠ b)) := fun s v1 v2 r1 r2 => by
  obtain ⟨t, rfl⟩ := rd_int.mp r1
  obtain ⟨u, rfl⟩ := rd_int.mp r2
  refine gv_pure fun Q k => PySem.P.ne_int (k _ s.toks (rd_bool.mpr ?_))
  by_cases h : a = b <;> simp [h]
theorem Cmp.lt_int {a b : Int} : Cmp c .Lt (.int a) (.int b) (decide (a < b)) := fun s v1 v2 r1 r2 => by
  obtain ⟨t, rfl⟩ := rd_int.mp r1
  obtain ⟨u, rfl⟩ := rd_int.mp r2
  exact gv_pure fun Q k => PySem.P.lt_int (k _ s.toks (rd_bool.mpr rfl))
theorem Cmp.le_int {a b : Int} : Cmp c .LtE (.int a) (.int b) (decide (a ≤ b)) := fun s v1 v2 r1 r2 => by
  obtain ⟨t, rfl⟩ := rd_int.mp r1
  obtain ⟨u, rfl⟩ := rd_int.mp r2
  exact gv_pure fun Q k => PySem.P.le_int (k _ s.toks (rd_bool.mpr rfl))
theorem Cmp.ge_int {a b : Int} : Cmp c .GtE (.int a) (.int b) (decide (b ≤ a)) := fun s v1 v2 r1 r2 => by
  obtain ⟨t, rfl⟩ := rd_int.mp r1
  obtain ⟨u, rfl⟩ := rd_int.mp r2
  exact gv_pure fun Q k => PySem.P.ge_int (k _ s.toks (rd_bool.mpr rfl))
theorem Cmp.gt_int {a b : Int} : Cmp c .Gt (.int a) (.int b) (decide (b < a)) := fun s v1 v2 r1 r2 => by
  obtain ⟨t, rfl⟩ := rd_int.mp r1
  obtain ⟨u, rfl⟩ := rd_int.mp r2
  exact gv_pure fun Q k => PySem.P.gt_int (k _ s.toks (rd_bool.mpr rfl))
def has (x y : Str) : Bool := !(Builtin.Str.occurrences x y 0 x.length 1).isEmpty
theorem Cmp.in_str {x y : Str} : Cmp c .In (.str y) (.str x) (has x y) := fun s v1 v2 r1 r2 => by
  obtain ⟨t, rfl⟩ := rd_str.mp r1
  obtain ⟨u, rfl⟩ := rd_str.mp r2
  exact gv_pure fun Q k => PySem.P.in_str (k _ s.toks (rd_bool.mpr rfl))
theorem Cmp.notin_str {x y : Str} : Cmp c .NotIn (.str y) (.str x) (!has x y) := fun s v1 v2 r1 r2 => by
  obtain ⟨t, rfl⟩ := rd_str.mp r1
  obtain ⟨u, rfl⟩ := rd_str.mp r2
  exact gv_pure fun Q k => PySem.P.notIn_str (k _ s.toks (rd_bool.mpr rfl))

/-! truth -/
theorem Tru.bool {b : Bool} : Tru c (.bool b) b := fun s v r Q q => by
  rw [rd_bool] at r; subst r
  exact wpAny_truthy_bool (q s.heap s.toks (Keep.refl _))
theorem Tru.none : Tru c .none false := fun s v r Q q => by
  rw [rd_none] at r; subst r
  exact truthy_none (q s.heap s.toks (Keep.refl _))
theorem Tru.str {x : Str} (h : x.length < 2 ^ 63) : Tru c (.str x) (decide (x ≠ Str.empty)) := fun s v r Q q => by
  obtain ⟨t, rfl⟩ := rd_str.mp r
  have e : ((x.length : Int) != 0) = decide (x ≠ Str.empty) := by
    by_cases hx : x = Str.empty
    · subst hx; rfl
    · have hl : x.length ≠ 0 := fun h0 => hx (str_of_len0 (by simp [h0]))
      simp only [ne_eq, hx, not_false_eq_true, decide_true, bne_iff_ne]
      omega
  refine PySem.P.truthy_str (by omega) ?_
  rw [e]
  exact q s.heap _ (Keep.refl _)
end
end Mine

namespace Mine

/-! calls of the text's own defs -/
def FnAt (G : Grd) (f : Addr) (fd : FuncData) : Prop := ∀ h : Heap, G.At h → ∃ o, h.get? f = some o ∧ o.data = .func fd ∧ h.CodeRec fd.code fd.qualname
def Fsp (prog : Program) (w : World) (G : Grd) (k : Nat) (f : Value) (ds : List D) (d : D) : Prop :=
  ∀ (A : Around) (s : Shared) (vs : List Value), Rm A k → G.At s.heap → RdAll s.heap ds vs → Gv prog w A (call f vs) d s

section
variable {c : C} {σ : Store}
theorem Rm.mono {A : Around} {k j : Nat} (r : Rm A k) (h : j ≤ k) : Rm A j := ⟨r.handled, by have := r.depth; omega, by have := r.units; omega⟩
theorem Rm.deeper {A : Around} {k : Nat} {env : Env} (r : Rm A (k + 1)) : Rm (A.deeper env) k := ⟨r.handled, by have := r.depth; show A.depth + 1 + k ≤ 900; omega, by have := r.units; show A.units + 3 + 10 * k ≤ 9000; omega⟩

theorem Ev.call {func e : Expr} {es : List Expr} {pos : Pos} {f : Addr} {fd : FuncData} {ds : List D} {d : D} {k : Nat} (ok : c.Ok k) (hf : Ev c σ func (.val (.ref f))) (fa : FnAt c.G f fd) (ha : Es c σ pos (e :: es) ds)
    (sp : Fsp c.prog c.w c.G k (.ref f) ds d)
    (he : starEach (e :: es) c.env = (false, eval e c.env) :: starEach es c.env)
    (hc : eval (.Call func (e :: es) [] pos) c.env = (do PySem.callWith pos (← eval func c.env) [] (backTo pos (starEach (e :: es) c.env)) (backToKw pos (keywordEach [] c.env)))) : Ev c σ (.Call func (e :: es) [] pos) d := fun s H Q q => by
  refine Call_ ((hf s H).then fun v h' tk k' r => ?_) hc
  rw [rd_val] at r; subst r
  have H' := H.keep k'
  obtain ⟨o, ho, hdat, _⟩ := fa _ (H'.grd ok)
  refine callWith_def hdat (ha { s with heap := h', toks := tk } H' _ fun vs h2 tk2 k2 rs => ⟨k2 _ _ ho, ?_⟩) he
  exact sp c.A _ vs ok.rm ((H'.keep k2).grd ok) rs Q fun v h3 tk3 k3 r3 => q v h3 tk3 ((k'.trans k2).trans k3) r3

/-- a def's contract from its body -/
theorem Fsp.of {prog : Program} {w : World} {G : Grd} {k : Nat} {f : Addr} {fd : FuncData} {body : List Stmt} {ds : List D} {d : D} {σ₀ : Store} (fa : FnAt G f fd) (hb : fd.body = .stmts body)
    (hcell : ∀ x ∈ fd.scope.names, x.2 ≠ .cell) (hco : fd.scope.isCoroutine = false) (hgen : fd.scope.isGenerator = false) (hk : fd.scope.kind = .function) (hg : fd.globals = mainGlobals) (hbu : fd.builtins = builtinsNs)
    (bind : ∀ (s : Shared) vs, G.At s.heap → RdAll s.heap ds vs → ∃ binds, BindsTo s fd ⟨vs, []⟩ binds ∧ (∀ x ∈ binds, fd.scope.names.lookup x.1 = some .local) ∧ ∀ x d', σ₀.lookup x = some d' → ∃ v, binds.reverse.lookup x = some v ∧ Rd s.heap d' v)
    (run : ∀ (A : Around) (L : Addr) (h0 : Heap), Rm A k → G.At h0 → Ex ⟨prog, w, G, A, callEnv fd L f, h0, Kf.none⟩ σ₀ body (fun _ => d = .none) (fun d' => d' = d)) : Fsp prog w G (k + 1) (.ref f) ds d := fun A s vs rm g rs Q q => by
  obtain ⟨binds, hbind, hloc, hst⟩ := bind s vs g rs
  obtain ⟨o, ho, hdat, hcr⟩ := fa _ g
  refine wpAny_call (codeAny_call_def (by have := rm.depth; show A.depth < 1000; omega) ho hdat (G.lim g) hcr hb hbind hcell hloc (fun h₁ hns hkp => ?_) hco hgen hk)
  have hL : (callEnv fd s.heap.objs.size f).locals = s.heap.objs.size := rfl
  have F : Fr s.heap s.heap.objs.size h₁ (fun x => binds.reverse.lookup x) := ⟨hns, hkp, Nat.le_refl _⟩
  have H : Hd ⟨prog, w, G, A.deeper (callEnv fd s.heap.objs.size f), callEnv fd s.heap.objs.size f, s.heap, Kf.none⟩ h₁ σ₀ := ⟨⟨_, F, fun x d' e => by
    obtain ⟨v, a, b⟩ := hst x d' e
    exact ⟨v, a, b.keep hkp⟩⟩, trivial, fun hb => nomatch hb⟩
  have fin : ∀ h', KeepB s.heap.objs.size h₁ h' → Keep s.heap h' := fun h' kb b o' e => kb b o' (Nat.ne_of_lt (Heap.lt_size e)) (hkp b o' e)
  refine wpAny_mono (run _ s.heap.objs.size s.heap rm.deeper g { s with heap := h₁, toks := s.toks + binds.length } H
    (fun fl s' => match (Except.ok (Flow.ret (match fl with | .ret v => v | _ => .none)) : Result) with | .ok (.ret v) => Q v s' | .ok _ => False | .error e => False) ?_ ?_) (fun _ _ x => x) (fun _ _ x => x.elim)
  · intro σ' h' tk hd kb _
    exact q .none h' tk (fin h' kb) (by rw [hd]; exact rd_none.mpr rfl)
  · intro d' v h' tk hd kb r
    subst hd
    exact q v h' tk (fin h' kb) r

/-! methods and built-ins -/
def Bsp (c : C) (id : String) (ds : List D) (d : D) : Prop := ∀ (s : Shared) vs, Hd c s.heap [] → RdAll s.heap ds vs → Gv c.prog c.w c.A (PySem.call (.builtin id) vs) d s
def GmAt (d0 : D) (name : Str) (id : String) : Prop := ∀ (M : Model) (A : Around) (E : Value → Shared → Prop) (s : Shared) (v : Value) (pl : Sem Bool) (Q : Value × List Value → Shared → Prop), Rd s.heap d0 v → Q (.builtin id, [v]) s → wpAny M A (getMethod v name pl) Q E s

theorem Hd.none {h : Heap} (H : Hd c h σ) : Hd c h [] := H.sub fun x d e => by cases e
theorem Ev.meth0 {o : Expr} {name : Str} {apos pos : Pos} {pl : Sem Bool} {id : String} {d0 d : D} (ho : Ev c σ o d0) (gm : GmAt d0 name id) (sp : Bsp c id [d0] d)
    (he : eval (.Call (.Attribute o name apos) [] [] pos) c.env = (do
      let ov ← eval o c.env
      standAt apos.atName
      let (f, first) ← holding [ov] (getMethod ov name pl)
      PySem.callWith pos f first (backTo pos (starEach [] c.env)) [])) : Ev c σ (.Call (.Attribute o name apos) [] [] pos) d := fun s H Q q =>
  MethodCall_ ((ho s H).then fun v h' tk k r => gm _ _ _ _ v pl _ r (callWith_method0 ((sp _ [v] (H.keep k).none (RdAll.single r)).then fun v2 h2 tk2 k2 r2 => q v2 h2 tk2 (k.trans k2) r2))) he
theorem Ev.meth {o e : Expr} {es : List Expr} {name : Str} {apos pos : Pos} {pl : Sem Bool} {id : String} {d0 d : D} {ds : List D} (ho : Ev c σ o d0) (gm : GmAt d0 name id) (ha : Es c σ pos (e :: es) ds) (sp : Bsp c id (d0 :: ds) d)
    (he : eval (.Call (.Attribute o name apos) (e :: es) [] pos) c.env = (do
      let ov ← eval o c.env
      standAt apos.atName
      let (f, first) ← holding [ov] (getMethod ov name pl)
      PySem.callWith pos f first (backTo pos (starEach (e :: es) c.env)) []))
    (he' : starEach (e :: es) c.env = (false, eval e c.env) :: starEach es c.env) (hp : (backTo pos (starEach es c.env)).any (·.1) = false) : Ev c σ (.Call (.Attribute o name apos) (e :: es) [] pos) d := fun s H Q q =>
  MethodCall_ ((ho s H).then fun v h' tk k r => gm _ _ _ _ v pl _ r (callWith_method1 (wpAny_mono (ha _ (H.keep k) _ fun vs h2 tk2 k2 rs =>
    (sp _ (v :: vs) ((H.keep k).keep k2).none (rdAll_cons.mpr ⟨v, vs, rfl, r.keep k2, rs⟩)).then fun v3 h3 tk3 k3 r3 => q v3 h3 tk3 ((k.trans k2).trans k3) r3) (fun _ _ x => x) fun _ _ x => x.elim) he' hp)) he

theorem Ev.bltin {func e : Expr} {es : List Expr} {pos : Pos} {id : String} {ds : List D} {d : D} (hf : Ev c σ func (.val (.builtin id))) (ha : Es c σ pos (e :: es) ds) (sp : Bsp c id ds d)
    (he : starEach (e :: es) c.env = (false, eval e c.env) :: starEach es c.env) (hp : (backTo pos (starEach es c.env)).any (·.1) = false)
    (hc : eval (.Call func (e :: es) [] pos) c.env = (do PySem.callWith pos (← eval func c.env) [] (backTo pos (starEach (e :: es) c.env)) (backToKw pos (keywordEach [] c.env)))) : Ev c σ (.Call func (e :: es) [] pos) d := fun s H Q q => by
  refine Call_ ((hf s H).then fun v h' tk k' r => ?_) hc
  rw [rd_val] at r; subst r
  exact callWith_builtin1 (ha { s with heap := h', toks := tk } (H.keep k') _ fun vs h2 tk2 k2 rs => (sp _ vs ((H.keep k').keep k2).none rs).then fun v h3 tk3 k3 r3 => q v h3 tk3 ((k'.trans k2).trans k3) r3) he hp

def Tsp (c : C) (T : String) (ds : List D) (d : D) : Prop := ∀ (s : Shared) vs, Hd c s.heap [] → RdAll s.heap ds vs → Gv c.prog c.w c.A (PySem.call (.type T) vs) d s
theorem Ev.typ {func e : Expr} {es : List Expr} {pos : Pos} {T : String} {ds : List D} {d : D} (hf : Ev c σ func (.val (.type T))) (ha : Es c σ pos (e :: es) ds) (sp : Tsp c T ds d)
    (he : starEach (e :: es) c.env = (false, eval e c.env) :: starEach es c.env) (hp : (backTo pos (starEach es c.env)).any (·.1) = false)
    (hc : eval (.Call func (e :: es) [] pos) c.env = (do PySem.callWith pos (← eval func c.env) [] (backTo pos (starEach (e :: es) c.env)) (backToKw pos (keywordEach [] c.env)))) : Ev c σ (.Call func (e :: es) [] pos) d := fun s H Q q => by
  refine Call_ ((hf s H).then fun v h' tk k' r => ?_) hc
  rw [rd_val] at r; subst r
  exact PyProof.Rows.callWith_type1 (ha { s with heap := h', toks := tk } (H.keep k') _ fun vs h2 tk2 k2 rs => (sp _ vs ((H.keep k').keep k2).none rs).then fun v h3 tk3 k3 r3 => q v h3 tk3 ((k'.trans k2).trans k3) r3) he hp

theorem gm_str {x : Str} {name : Str} {id : String} (slot : Slot "str" name id) (ty : typeOf (.builtin id) = pure (.type "method_descriptor")) : GmAt (.str x) name id := fun M A E s v pl Q r q => by
  obtain ⟨t, rfl⟩ := rd_str.mp r
  with_reducible exact PySem.GM.of (.str x t) (typeIs_str _ _ _) slot ty PySem.GM.noRef q
theorem gm_split {x : Str} : GmAt (.str x) "split" "str.split" := gm_str F.slot_str_split F.type_str_split
theorem gm_partition {x : Str} : GmAt (.str x) "partition" "str.partition" := gm_str F.slot_str_partition F.type_str_partition
theorem gm_rpartition {x : Str} : GmAt (.str x) "rpartition" "str.rpartition" := gm_str F.slot_str_rpartition F.type_str_rpartition
theorem gm_find {x : Str} : GmAt (.str x) "find" "str.find" := gm_str F.slot_str_find F.type_str_find
theorem gm_rfind {x : Str} : GmAt (.str x) "rfind" "str.rfind" := gm_str F.slot_str_rfind F.type_str_rfind
theorem gm_join {x : Str} : GmAt (.str x) "join" "str.join" := gm_str F.slot_str_join F.type_str_join
theorem gm_isdigit {x : Str} : GmAt (.str x) "isdigit" "str.isdigit" := gm_str F.slot_str_isdigit F.type_str_isdigit
theorem gm_isascii {x : Str} : GmAt (.str x) "isascii" "str.isascii" := gm_str F.slot_str_isascii F.type_str_isascii

theorem rdAll_one {h : Heap} {d : D} {vs : List Value} (r : RdAll h [d] vs) : ∃ v, vs = [v] ∧ Rd h d v := by
  obtain ⟨v, r', rfl, x, y⟩ := rdAll_cons.mp r
  rw [rdAll_nil] at y; subst y
  exact ⟨v, rfl, x⟩
theorem rdAll_two {h : Heap} {d e : D} {vs : List Value} (r : RdAll h [d, e] vs) : ∃ v u, vs = [v, u] ∧ Rd h d v ∧ Rd h e u := by
  obtain ⟨v, r', rfl, x, y⟩ := rdAll_cons.mp r
  obtain ⟨u, rfl, z⟩ := rdAll_one y
  exact ⟨v, u, rfl, x, z⟩
theorem rdAll_three {h : Heap} {d e f : D} {vs : List Value} (r : RdAll h [d, e, f] vs) : ∃ v u t, vs = [v, u, t] ∧ Rd h d v ∧ Rd h e u ∧ Rd h f t := by
  obtain ⟨v, r', rfl, x, y⟩ := rdAll_cons.mp r
  obtain ⟨u, t, rfl, z, z'⟩ := rdAll_two y
  exact ⟨v, u, t, rfl, x, z, z'⟩

theorem rdAll_strs {h : Heap} : ∀ (l : List (Str × Tok)), RdAll h (l.map fun p => D.str p.1) (strValues l)
  | [] => rdAll_nil.mpr rfl
  | p :: l => rdAll_cons.mpr ⟨.str p.1 p.2, strValues l, rfl, rd_str.mpr ⟨_, rfl⟩, rdAll_strs l⟩
theorem strs_rdAll {h : Heap} : ∀ (ws : List Str) (vs : List Value), RdAll h (ws.map D.str) vs → ∃ l : List (Str × Tok), vs = strValues l ∧ l.map (·.1) = ws
  | [], vs, r => by rw [List.map_nil, rdAll_nil] at r; subst r; exact ⟨[], rfl, rfl⟩
  | x :: ws, vs, r => by
    obtain ⟨v, r', rfl, a, b⟩ := rdAll_cons.mp r
    obtain ⟨t, rfl⟩ := rd_str.mp a
    obtain ⟨l, rfl, rfl⟩ := strs_rdAll ws r' b
    exact ⟨(x, t) :: l, rfl, rfl⟩

theorem Bsp.split {x y : Str} (hy : (y.length == 0) = false) (hsz : x.length + 2 ≤ sizeLine) : Bsp c "str.split" [.str x, .str y] (.list ((Txt.split x y).map D.str)) := fun s vs _ r Q q => by
  obtain ⟨v, u, rfl, r1, r2⟩ := rdAll_two r
  obtain ⟨t, rfl⟩ := rd_str.mp r1
  obtain ⟨t', rfl⟩ := rd_str.mp r2
  have h2 : (Builtin.Str.partsBetween x (Builtin.Str.occurrences x y 0 x.length (x.length + 1)) y.length).length ≤ sizeLine := by
    have := StrLaws.occ_length_le x y 0 x.length (x.length + 1)
    unfold Builtin.Str.partsBetween
    simp only [List.length_map, List.length_zip, List.length_cons, List.length_append, List.length_nil]
    omega
  refine SCH.split1 (P := fun h => Keep s.heap h) (fun h ob k => k.trans (keep_push _ _)) (Keep.refl _) hy (fun D l h' k ht kp hl => ?_) (by omega) h2
  refine q _ h' k kp (rd_list.mpr ⟨D, _, rfl, hl, ?_⟩)
  have := rdAll_strs (h := h') l
  rw [← ht, List.map_map]
  exact this
theorem Bsp.partition {x y : Str} (hy : (y.length == 0) = false) (hsz : x.length ≤ sizeLine) : Bsp c "str.partition" [.str x, .str y] (.tup [.str (Txt.partition x y).1, .str (Txt.partition x y).2.1, .str (Txt.partition x y).2.2]) := fun s vs _ r Q q => by
  obtain ⟨v, u, rfl, r1, r2⟩ := rdAll_two r
  obtain ⟨t, rfl⟩ := rd_str.mp r1
  obtain ⟨t', rfl⟩ := rd_str.mp r2
  refine call_meets F.slot_str_partition (typeIs_str _ _ _) F.entry_str_partition (F.args_str_partition_2 _ _) (meets_str_partition x y t t' hy hsz) ?_
  have q' : ∀ ta tb tc k, Q (.ref s.heap.objs.size) { s with heap := s.heap.push { cls := .type "tuple", data := .seq [.str (Txt.partition x y).1 ta, .str (Txt.partition x y).2.1 tb, .str (Txt.partition x y).2.2 tc].toArray }, toks := k } := fun ta tb tc k =>
    q _ _ k (keep_push _ _) (rd_tup.mpr ⟨_, _, rfl, ⟨_, Heap.get?_push_size _ rfl, rfl, _, rfl⟩, rdAll_cons.mpr ⟨_, _, rfl, rd_str.mpr ⟨_, rfl⟩, rdAll_cons.mpr ⟨_, _, rfl, rd_str.mpr ⟨_, rfl⟩, RdAll.single (rd_str.mpr ⟨_, rfl⟩)⟩⟩⟩)
  unfold Txt.partition at q'
  revert q'
  cases Builtin.Str.occurrences x y 0 x.length 1 with
  | nil => intro h'; exact h' _ _ _ _
  | cons i r => intro h'; exact h' _ _ _ _
theorem Bsp.rpartition {x y : Str} (hy : (y.length == 0) = false) (hsz : x.length ≤ sizeLine) : Bsp c "str.rpartition" [.str x, .str y] (.tup [.str (Txt.rpartition x y).1, .str (Txt.rpartition x y).2.1, .str (Txt.rpartition x y).2.2]) := fun s vs _ r Q q => by
  obtain ⟨v, u, rfl, r1, r2⟩ := rdAll_two r
  obtain ⟨t, rfl⟩ := rd_str.mp r1
  obtain ⟨t', rfl⟩ := rd_str.mp r2
  refine call_meets F.slot_str_rpartition (typeIs_str _ _ _) F.entry_str_rpartition (F.args_str_rpartition_2 _ _) (meets_str_rpartition x y t t' hy hsz) ?_
  have q' : ∀ ta tb tc k, Q (.ref s.heap.objs.size) { s with heap := s.heap.push { cls := .type "tuple", data := .seq [.str (Txt.rpartition x y).1 ta, .str (Txt.rpartition x y).2.1 tb, .str (Txt.rpartition x y).2.2 tc].toArray }, toks := k } := fun ta tb tc k =>
    q _ _ k (keep_push _ _) (rd_tup.mpr ⟨_, _, rfl, ⟨_, Heap.get?_push_size _ rfl, rfl, _, rfl⟩, rdAll_cons.mpr ⟨_, _, rfl, rd_str.mpr ⟨_, rfl⟩, rdAll_cons.mpr ⟨_, _, rfl, rd_str.mpr ⟨_, rfl⟩, RdAll.single (rd_str.mpr ⟨_, rfl⟩)⟩⟩⟩)
  unfold Txt.rpartition at q'
  revert q'
  cases Builtin.Str.lastOccurrence x y 0 x.length with
  | none => intro h'; exact h' _ _ _ _
  | some i => intro h'; exact h' _ _ _ _
theorem Bsp.find {x y : Str} : Bsp c "str.find" [.str x, .str y] (.int (Txt.find x y)) := fun s vs _ r Q q => by
  obtain ⟨v, u, rfl, r1, r2⟩ := rdAll_two r
  obtain ⟨t, rfl⟩ := rd_str.mp r1
  obtain ⟨t', rfl⟩ := rd_str.mp r2
  exact SC.find (q _ s.heap _ (Keep.refl _) (rd_int.mpr ⟨_, rfl⟩))
theorem Bsp.rfind {x y : Str} : Bsp c "str.rfind" [.str x, .str y] (.int (Txt.rfind x y)) := fun s vs _ r Q q => by
  obtain ⟨v, u, rfl, r1, r2⟩ := rdAll_two r
  obtain ⟨t, rfl⟩ := rd_str.mp r1
  obtain ⟨t', rfl⟩ := rd_str.mp r2
  exact SC.rfind (q _ s.heap _ (Keep.refl _) (rd_int.mpr ⟨_, rfl⟩))
theorem Bsp.find3 {x y : Str} {i : Int} : Bsp c "str.find" [.str x, .str y, .int i] (.int (Txt.find3 x y i)) := fun s vs _ r Q q => by
  obtain ⟨v, u, t0, rfl, r1, r2, r3⟩ := rdAll_three r
  obtain ⟨t, rfl⟩ := rd_str.mp r1
  obtain ⟨t', rfl⟩ := rd_str.mp r2
  obtain ⟨t'', rfl⟩ := rd_int.mp r3
  exact SC.find3 (q _ s.heap _ (Keep.refl _) (rd_int.mpr ⟨_, rfl⟩))
theorem Bsp.isdigit {x : Str} : Bsp c "str.isdigit" [.str x] (.bool (Txt.isdigit x)) := fun s vs _ r Q q => by
  obtain ⟨v, rfl, r1⟩ := rdAll_one r
  obtain ⟨t, rfl⟩ := rd_str.mp r1
  exact SC.isdigit (q _ s.heap s.toks (Keep.refl _) (rd_bool.mpr rfl))
theorem Bsp.isascii {x : Str} : Bsp c "str.isascii" [.str x] (.bool (Txt.isascii x)) := fun s vs _ r Q q => by
  obtain ⟨v, rfl, r1⟩ := rdAll_one r
  obtain ⟨t, rfl⟩ := rd_str.mp r1
  exact SC.isascii (q _ s.heap s.toks (Keep.refl _) (rd_bool.mpr rfl))
theorem Bsp.join {x : Str} {ws : List Str} (hj : JoinOk x ws = true) : Bsp c "str.join" [.str x, .list (ws.map D.str)] (.str (Txt.join x ws)) := fun s vs _ r Q q => by
  obtain ⟨v, u, rfl, r1, r2⟩ := rdAll_two r
  obtain ⟨t, rfl⟩ := rd_str.mp r1
  obtain ⟨a, us, rfl, hl, rs⟩ := rd_list.mp r2
  obtain ⟨l, rfl, hw⟩ := strs_rdAll ws us rs
  exact SC.join hl hw hj fun t' k => q _ s.heap k (Keep.refl _) (rd_str.mpr ⟨_, rfl⟩)
theorem Bsp.chr {i : Int} (h0 : 0 ≤ i) (h1 : i ≤ 1114111) : Bsp c "chr" [.int i] (.str ⟨#[i.toNat]⟩) := fun s vs _ r Q q => by
  obtain ⟨v, rfl, r1⟩ := rdAll_one r
  obtain ⟨t, rfl⟩ := rd_int.mp r1
  exact PySem.P.chr_of_int (by simp; omega) (q _ s.heap _ (Keep.refl _) (rd_str.mpr ⟨_, rfl⟩))
theorem Bsp.ord {k : Nat} : Bsp c "ord" [.str ⟨#[k]⟩] (.int k) := fun s vs _ r Q q => by
  obtain ⟨v, rfl, r1⟩ := rdAll_one r
  obtain ⟨t, rfl⟩ := rd_str.mp r1
  exact PySem.P.ord_of_char (q _ s.heap _ (Keep.refl _) (rd_int.mpr ⟨_, rfl⟩))
theorem Bsp.len_str {x : Str} (h : x.length < 2 ^ 63) : Bsp c "len" [.str x] (.int x.length) := fun s vs _ r Q q => by
  obtain ⟨v, rfl, r1⟩ := rdAll_one r
  obtain ⟨t, rfl⟩ := rd_str.mp r1
  exact PyProof.Rows.len_str (by omega) (q _ s.heap _ (Keep.refl _) (rd_int.mpr ⟨_, rfl⟩))
theorem Bsp.len_list {ds : List D} (h : ds.length < 2 ^ 63) : Bsp c "len" [.list ds] (.int ds.length) := fun s vs _ r Q q => by
  obtain ⟨v, rfl, r1⟩ := rdAll_one r
  obtain ⟨a, us, rfl, hl, rs⟩ := rd_list.mp r1
  have e : us.toArray.size = ds.length := by rw [List.size_toArray, rs.length]
  refine PyProof.Rows.len_list hl (by rw [e]; omega) ?_
  rw [e]
  exact q _ s.heap _ (Keep.refl _) (rd_int.mpr ⟨_, rfl⟩)
theorem Bsp.len_tup {ds : List D} (h : ds.length < 2 ^ 63) : Bsp c "len" [.tup ds] (.int ds.length) := fun s vs _ r Q q => by
  obtain ⟨v, rfl, r1⟩ := rdAll_one r
  obtain ⟨a, us, rfl, hl, rs⟩ := rd_tup.mp r1
  have e : us.toArray.size = ds.length := by rw [List.size_toArray, rs.length]
  refine len_tuple hl (by rw [e]; omega) ?_
  rw [e]
  exact q _ s.heap _ (Keep.refl _) (rd_int.mpr ⟨_, rfl⟩)
theorem Tru.list {ds : List D} (h : ds.length < 2 ^ 63) : Tru c (.list ds) (decide (ds ≠ [])) := fun s v r Q q => by
  obtain ⟨a, us, rfl, hl, rs⟩ := rd_list.mp r
  have e : us.toArray.size = ds.length := by rw [List.size_toArray, rs.length]
  refine wpAny_truthy_list hl (by rw [e]; omega) ?_
  have e' : (!us.toArray.isEmpty) = decide (ds ≠ []) := by
    cases ds with
    | nil => rw [rdAll_nil] at rs; subst rs; rfl
    | cons d ds => obtain ⟨v, r, rfl, _, _⟩ := rdAll_cons.mp rs; simp
  rw [e']
  exact q s.heap _ (Keep.refl _)

/-! items and slices -/
def Itm (c : C) (d0 di d : D) : Prop := ∀ (s : Shared) o i, Rd s.heap d0 o → Rd s.heap di i → ∃ T id, s.TypeIs o T ∧ typeLookup (.type T) "__getitem__" = pure (some (.builtin id)) ∧ Gv c.prog c.w c.A (getItem o i) d s
theorem Ev.item {value slice : Expr} {pos : Pos} {d0 di d : D} (ho : Ev c σ value d0) (hi : Ev c σ slice di) (g : Itm c d0 di d)
    (hs : ∀ o i, Rd c.h0 d0 o ∨ True → subscripted slice false o i = operate [o, i] (getItem o i)) : Ev c σ (.Subscript value slice pos) d := fun s H Q q =>
  Subscript_ ((ho s H).then fun o h1 tk1 k1 r1 => (hi _ (H.keep k1)).then fun i h2 tk2 k2 r2 => by
    obtain ⟨T, id, hT, hl, gv⟩ := g { s with heap := h2, toks := tk2 } o i (r1.keep k2) r2
    exact tail_any hT hl (gv.then fun v h3 tk3 k3 r3 => q v h3 tk3 ((k1.trans k2).trans k3) r3) (hs o i (.inr trivial)))
theorem Itm.str {x : Str} {i : Int} {n : Nat} (h1 : -(2 ^ 63) ≤ i) (h2 : i < 2 ^ 63) (hc : (seqIndex? i x.length).bind (x.cps[·]?) = some n) : Itm c (.str x) (.int i) (.str ⟨#[n]⟩) := fun s o v r1 r2 => by
  obtain ⟨t, rfl⟩ := rd_str.mp r1
  obtain ⟨u, rfl⟩ := rd_int.mp r2
  exact ⟨"str", _, typeIs_str _ _ _, F.slot_str_getitem.lookup, fun Q q => PySem.P.getItem_str (by simp; omega) hc (q _ s.heap _ (Keep.refl _) (rd_str.mpr ⟨_, rfl⟩))⟩
theorem Itm.list {ds : List D} {i : Int} {d : D} (h0 : 0 ≤ i) (h2 : i < 2 ^ 63) (hd : ds[i.toNat]? = some d) : Itm c (.list ds) (.int i) d := fun s o v r1 r2 => by
  obtain ⟨a, us, rfl, hl, rs⟩ := rd_list.mp r1
  obtain ⟨u, rfl⟩ := rd_int.mp r2
  obtain ⟨v, hv, r⟩ := rs.get' hd
  exact ⟨"list", _, hl.typeIs, slot_list_getitem.lookup, fun Q q => wpAny_getItem_list hl h0 h2 (by simpa using hv) (q _ s.heap s.toks (Keep.refl _) r)⟩
theorem Itm.tup {ds : List D} {i : Int} {d : D} (h0 : 0 ≤ i) (h2 : i < 2 ^ 63) (hd : ds[i.toNat]? = some d) : Itm c (.tup ds) (.int i) d := fun s o v r1 r2 => by
  obtain ⟨a, us, rfl, hl, rs⟩ := rd_tup.mp r1
  obtain ⟨u, rfl⟩ := rd_int.mp r2
  obtain ⟨v, hv, r⟩ := rs.get' hd
  have hlen : i.toNat < us.length := (List.getElem?_eq_some_iff.mp hv).1
  exact ⟨"tuple", _, hl.typeIs, slot_tuple_getitem.lookup, fun Q q => getItem_tuple hl (by omega) h2 (by rw [List.size_toArray]; exact StrLaws.seqIndex_nonneg h0 (by omega)) (by simpa using hv) (q _ s.heap s.toks (Keep.refl _) r)⟩

/-- a slice's bound: none, or an int -/
def Pt (c : C) (σ : Store) : Option Expr → Option Int → Prop
  | none, j => j = none
  | some e, j => ∃ i, j = some i ∧ Ev c σ e (.int i)
theorem Pt.then {l : Option Expr} {j : Option Int} (h : Pt c σ l j) {s : Shared} (H : Hd c s.heap σ) {Q : Value → Shared → Prop} {E : Value → Shared → Prop}
    (k : ∀ (p : Option (Int × Tok)) h' tk, p.map (·.1) = j → Keep s.heap h' → Q (partValue p) { s with heap := h', toks := tk }) : wpAny (model c.prog c.w) c.A (evalPart l c.env) Q E s := by
  cases l with
  | none => cases h; exact wpAny_evalPart_none (k none s.heap s.toks rfl (Keep.refl _))
  | some e =>
    obtain ⟨i, rfl, he⟩ := h
    refine wpAny_evalPart_some ((he s H).then fun v h' tk kp r => ?_)
    obtain ⟨t, rfl⟩ := rd_int.mp r
    exact k (some (i, t)) h' tk rfl kp
theorem Ev.slice_str {value : Expr} {lower upper : Option Expr} {p pos : Pos} {x : Str} {l u : Option Int} (ho : Ev c σ value (.str x)) (hl : Pt c σ lower l) (hu : Pt c σ upper u) (hsz : x.length ≤ sizeLine)
    (ht : ∀ o r, letTemporaryGo value o r = pure ()) : Ev c σ (.Subscript value (.Slice lower upper none p) pos) (.str (Txt.slice x l u)) := fun s H Q q =>
  wpAny_Subscript_str_slice ((ho s H).then fun o h1 tk1 k1 r1 => hl.then (s := { s with heap := h1, toks := tk1 }) (H.keep k1) fun pl h2 tk2 e2 k2 => hu.then (s := { s with heap := h2, toks := tk2 }) ((H.keep k1).keep k2) fun pu h3 tk3 e3 k3 => by
    obtain ⟨t, rfl⟩ := rd_str.mp r1
    refine ⟨x, t, pl, pu, rfl, rfl, rfl, ?_⟩
    unfold sliceMade slicePicked
    rw [e2, e3]
    refine post_val_or_str ⟨Nat.le_trans (Txt.slice_le x l u) hsz, fun t' k => ?_⟩
    exact q _ _ k (((k1.trans k2).trans k3).trans (keep_push _ _)) (rd_str.mpr ⟨t', rfl⟩)) ht
theorem isPart_of {p : Option (Int × Tok)} {j : Option Int} (e : p.map (·.1) = j) : IsPart (partValue p) j := by
  subst e
  cases p with
  | none => exact .none
  | some q => exact .int q.1 q.2
def lsl {α : Type} (ds : List α) (l u : Option Int) : List α := (ds.drop (l.elim 0 (clipAt ds.length))).take (u.elim ds.length (clipAt ds.length) - l.elim 0 (clipAt ds.length))
theorem Ev.slice_list {value : Expr} {lower upper : Option Expr} {p pos : Pos} {ds : List D} {l u : Option Int} (ho : Ev c σ value (.list ds)) (hl : Pt c σ lower l) (hu : Pt c σ upper u) (hsz : ds.length ≤ sizeLine)
    (ht : ∀ o r, letTemporaryGo value o r = pure ()) : Ev c σ (.Subscript value (.Slice lower upper none p) pos) (.list (lsl ds l u)) := fun s H Q q =>
  wpAny_Subscript_list_slice ((ho s H).then fun o h1 tk1 k1 r1 => hl.then (s := { s with heap := h1, toks := tk1 }) (H.keep k1) fun pl h2 tk2 e2 k2 => hu.then (s := { s with heap := h2, toks := tk2 }) ((H.keep k1).keep k2) fun pu h3 tk3 e3 k3 => by
    obtain ⟨a, us, rfl, hls, rs⟩ := rd_list.mp (r1.keep (k2.trans k3))
    have e : us.length = ds.length := rs.length
    refine ⟨a, us.toArray, l, u, rfl, hls, by rw [List.size_toArray, e]; exact hsz, isPart_of e2, isPart_of e3, ?_⟩
    have kk := (keep_push h3 { cls := .type "slice", data := .fields #[partValue pl, partValue pu, .none] }).trans (keep_push _ { cls := .type "list", data := .seq (slicePick us.toArray l u none) })
    refine q _ _ tk3 (((k1.trans k2).trans k3).trans kk) (rd_list.mpr ⟨_, _, rfl, ⟨_, by rw [← Heap.size_push h3 { cls := .type "slice", data := .fields #[partValue pl, partValue pu, .none] }]; exact Heap.get?_push_size _ rfl, rfl, _, by rw [slicePick_plain]⟩, ?_⟩)
    have := (((rs.keep kk).drop (l.elim 0 (clipAt ds.length))).take (u.elim ds.length (clipAt ds.length) - l.elim 0 (clipAt ds.length)))
    simpa [lsl, e] using this) ht
end
end Mine

namespace Mine

section
variable {prog : Program} {w : World} {A : Around} {s : Shared}
/-- a for loop, with the target's tuple let go -/
theorem forLoopT {R : Result → Shared → Prop} {target it body orelse env} (I : Nat → Shared → Prop)
    (turn : ∀ n s, I n s → wpAny (model prog w) A (pyNext it) (fun r s₁ => match r with
      | none => wpAny (model prog w) A (execs orelse env) (fun f s₃ => R (.ok f) s₃) (notedBy (model prog w) A env fun e s' => R (.error e) s') s₁
      | some v => wpAny (model prog w) A (letOwnedTupleGo target it v) (fun _ s₀ => wpAny (model prog w) A (assign target env v) (fun _ s₂ => wpAny (model prog w) A (execs body env) (fun f s₃ => match f with
          | .next | .cont => ∃ m, m < n ∧ I m s₃
          | .brk => R (.ok .next) s₃
          | .ret v => R (.ok (.ret v)) s₃) (notedBy (model prog w) A env fun e s' => R (.error e) s') s₂) (notedBy (model prog w) A env fun e s' => R (.error e) s') s₀) (notedBy (model prog w) A env fun e s' => R (.error e) s') s₁) (notedBy (model prog w) A env fun e s' => R (.error e) s') s)
    (n : Nat) (h : I n s) : codeAny (model prog w) A (.forLoop target it body orelse env) R s := by
  refine codeAny_loop' rfl I (fun n s hI => ?_) n h
  show wpAny _ _ ((forTurn target it body orelse env).onRaise (fun x => do noteFrame x env; theTreesLotGoes x)) _ _ s
  refine wpAny_noted ?_
  simp only [forTurn]
  refine wpAny_bind (wpAny_standAt (wpAny_bind (wpAny_onRaise (wpAny_mono (turn n s hI) (fun r s₁ h₁ => ?_) fun _ _ h' => wpAny_standAt h'))))
  cases r with
  | none => exact wpAny_pure (.inr ⟨rfl, codeAny_block h₁⟩)
  | some v =>
    refine wpAny_bind (wpAny_mono h₁ (fun _ s₀ h₀ => ?_) fun _ _ h' => h')
    refine wpAny_bind (wpAny_mono h₀ (fun _ s₂ h₂ => wpAny_bind (wpAny_mono h₂ (fun f s₃ h₃ => ?_) fun _ _ h' => h')) fun _ _ h' => h')
    cases f with
    | next => exact wpAny_pure (.inl ⟨rfl, h₃⟩)
    | cont => exact wpAny_pure (.inl ⟨rfl, h₃⟩)
    | brk => exact wpAny_pure h₃
    | ret v => exact wpAny_pure h₃
end

structure ItrAt (c : C) (ds : List D) (h : Heap) (I : Addr) (fp wr : List Addr) (P : Nat → Value → Prop) (St : Nat → Heap → Prop) (h' : Heap) : Prop where
  keep : Keep h h'
  size : h.objs.size ≤ h'.objs.size
  W : Walks c.prog c.w c.A I fp wr ds.length P St
  new : ∀ b ∈ wr, h.get? b = none
  noseq : ∀ i h'', St i h'' → ∀ b ∈ wr, ∀ o xs n, h''.get? b = some o → o.data ≠ .seq xs n
  fpL : ∀ b ∈ fp, b ≠ c.env.locals
  fplt : ∀ b ∈ fp, b < h'.objs.size
  st : St 0 h'
  rd : ∀ i v h'', P i v → KeepS h h'' → ∃ d, ds[i]? = some d ∧ Rd h'' d v
  go : ∀ i (s : Shared) target v (Q : Unit → Shared → Prop), St i s.heap → Q () s → wpAny (model c.prog c.w) c.A (letOwnedTupleGo target (.ref I) v) Q (fun _ _ => False) s
def Itr (c : C) (d : D) (ds : List D) : Prop := ∀ (s : Shared) v, Rd s.heap d v → Hd c s.heap [] → ∀ (Q : Value → Shared → Prop),
  (∀ I fp wr P St h' tk, ItrAt c ds s.heap I fp wr P St h' → Q (.ref I) { s with heap := h', toks := tk }) → wpAny (model c.prog c.w) c.A (pyIter v) Q (fun _ _ => False) s

section
variable {c : C} {σ : Store}

theorem Hd.ns {h : Heap} (H : Hd c h σ) : ∃ m, h.Ns c.env.locals m := by obtain ⟨⟨m, F, _⟩, _⟩ := H; exact ⟨m, F.ns⟩
theorem Hd.keepS {h h' : Heap} (H : Hd c h σ) (k : KeepB c.env.locals h h') : KeepS h h' := by
  obtain ⟨m, o, es, ep, ho, hd, _⟩ := H.ns
  intro b o' xs n e hd'
  by_cases hb : b = c.env.locals
  · subst hb; rw [e] at ho; cases ho; rw [hd] at hd'; cases hd'
  · exact k b o' hb e
/-- heaps that part at fresh objects which are no sequences -/
theorem Hd.but {h h' : Heap} {wr : List Addr} (H : Hd c h σ) (k : ∀ b o, b ∉ wr → h.get? b = some o → h'.get? b = some o) (h0 : ∀ b ∈ wr, c.h0.get? b = Option.none) (hL : c.env.locals ∉ wr)
    (ns : ∀ b ∈ wr, ∀ o xs n, h.get? b = some o → o.data ≠ .seq xs n) (hK : ∀ b ∈ c.K.fp, b ∉ wr) : Hd c h' σ := by
  obtain ⟨⟨m, F, f⟩, K, nL⟩ := H
  have kS : KeepS h h' := fun b o xs n e hd => k b o (fun hb => ns b hb o xs n e hd) e
  refine ⟨⟨m, ⟨F.ns.at' fun o e => k _ o hL e, fun b o e => k b o (fun hb => by rw [h0 b hb] at e; cases e) (F.keep b o e), F.above⟩, fun x d e => ?_⟩, c.K.frame K fun b hb o e => k b o (hK b hb) e, nL⟩
  obtain ⟨v, a, b⟩ := f x d e
  exact ⟨v, a, Rd.mono kS _ _ b⟩

/-- a target is bound -/
def Asg (c : C) (σ : Store) (target : Expr) (d : D) (σ' : Store) : Prop := ∀ (s : Shared) v, Hd c s.heap σ → Rd s.heap d v → ∀ (Q : Unit → Shared → Prop),
  (∀ h' tk, KeepB c.env.locals s.heap h' → Hd c h' σ' → Q () { s with heap := h', toks := tk }) → wpAny (model c.prog c.w) c.A (assign target c.env v) Q (fun _ _ => False) s
theorem Asg.name {x : Str} {px : Pos} {d : D} (hk : c.env.scope.kind = .function) (hx : c.env.kindOf x = some .local) : Asg c σ (.Name x px) d ((x, d) :: σ) := fun s v H r Q q =>
  wpAny_assign_Name (store hk hx H r fun h' tk kb _ H' => q h' tk kb H')

theorem Ex1.for {γ : Type} {target iter : Expr} {body : List Stmt} {pos : Pos} {d : D} {ds : List D} {k : Nat} {N : Store → Prop} {Rt : D → Prop} (ok : c.Ok k) (hi : Ev c σ iter d) (it : Itr c d ds)
    (σI : γ → Store) (P : Nat → γ → Prop) (g₀ : γ) (h0 : Sub σ (σI g₀)) (p0 : P 0 g₀)
    (step : ∀ i g d', ds[i]? = some d' → P i g → ∃ σ1, Asg c (σI g) target d' σ1 ∧ Ex c σ1 body (fun σ' => ∃ g', Sub σ' (σI g') ∧ P (i + 1) g') Rt)
    (done : ∀ g, P ds.length g → N (σI g)) (hs : ∀ x, foldedSetIterable iter c.env x = pure x) : Ex1 c σ (.For target iter body [] pos) N Rt := fun s H Q n r => by
  refine wpAny_For ((hi s H).then fun v h1 tk1 k1 r1 => ?_) hs
  have H1 := H.keep k1
  refine it { s with heap := h1, toks := tk1 } v r1 H1.none _ fun I fp wr P' St h2 tk2 X => ?_
  have F0 : ∀ b ∈ wr, c.h0.get? b = none := fun b hb => by
    obtain ⟨⟨m, F, _⟩, _⟩ := H1
    cases q : c.h0.get? b with
    | none => rfl
    | some o => have := F.keep b o q; rw [X.new b hb] at this; cases this
  have hLw : c.env.locals ∉ wr := fun hb => X.fpL _ (X.W.sub _ hb) rfl
  have hKw : ∀ b ∈ c.K.fp, b ∉ wr := fun b hb hw => by
    obtain ⟨o, ho⟩ := c.K.there H1.2.1 b hb
    have := X.new b hw
    rw [show ({ s with heap := h1, toks := tk1 } : Shared).heap = h1 from rfl, ho] at this; cases this
  refine forLoopT (fun m s' => ∃ h' tk i g, s' = { s with heap := h', toks := tk } ∧ i ≤ ds.length ∧ m = ds.length + 1 - i ∧ St i h' ∧ Hd c h' (σI g) ∧ P i g ∧ KeepB c.env.locals h1 h') ?_ (ds.length + 1)
    ⟨h2, tk2, 0, g₀, rfl, Nat.zero_le _, rfl, X.st, (H1.keep X.keep).sub h0, p0, KeepB.of_keep X.keep⟩
  rintro m s' ⟨h, tk, i, g, rfl, hi', rfl, hst, Hg, hp, kb⟩
  by_cases hlt : i < ds.length
  · refine X.W.item i _ _ _ hlt hst fun v' h3 tk3 hP hst3 hk3 => ?_
    refine wpAny_mono (X.go (i + 1) _ target v' (fun _ s' => s' = { s with heap := h3, toks := tk3 }) hst3 rfl) (fun _ s4 e4 => ?_) fun _ _ x => x.elim
    subst e4
    have H3 : Hd c h3 (σI g) := Hg.but hk3 F0 hLw (X.noseq i h hst) hKw
    have kb3 : KeepB c.env.locals h1 h3 := fun b o hb e => hk3 b o (fun hw => by have := X.new b hw; rw [show ({ s with heap := h1, toks := tk1 } : Shared).heap = h1 from rfl] at this; rw [e] at this; cases this) (kb b o hb e)
    obtain ⟨d', hd', rd'⟩ := X.rd i v' h3 hP (H1.keepS kb3)
    obtain ⟨σ1, as, ex⟩ := step i g d' hd' hp
    refine wpAny_mono (as { s with heap := h3, toks := tk3 } v' H3 rd' _ fun h4 tk4 kb4 H4 => ?_) (fun _ _ x => x) fun _ _ x => x.elim
    refine wpAny_mono (ex { s with heap := h4, toks := tk4 } H4 _ (fun σ' h5 tk5 hn kb5 H5 => ?_) fun d5 v5 h5 tk5 hr kb5 r5 => ?_) (fun _ _ x => x) fun _ _ x => x.elim
    · obtain ⟨g', hsub, hp'⟩ := hn
      refine ⟨ds.length + 1 - (i + 1), by omega, h5, tk5, i + 1, g', rfl, hlt, rfl, X.W.frame _ _ _ hst3 fun b hb o e => kb5 b o (X.fpL b hb) (kb4 b o (X.fpL b hb) e), H5.sub hsub, hp', (kb3.trans kb4).trans kb5⟩
    · exact r d5 v5 h5 tk5 hr ((KeepB.of_keep k1).trans ((kb3.trans kb4).trans kb5)) r5
  · have e : i = ds.length := by omega
    subst e
    refine X.W.done _ _ _ hst fun h3 tk3 hk3 => wpAny_execs_nil ?_
    have kb3 : KeepB c.env.locals h1 h3 := fun b o hb e => hk3 b o (fun hw => by have := X.new b hw; rw [show ({ s with heap := h1, toks := tk1 } : Shared).heap = h1 from rfl] at this; rw [e] at this; cases this) (kb b o hb e)
    exact n _ h3 tk3 (done g hp) ((KeepB.of_keep k1).trans kb3) (Hg.but hk3 F0 hLw (X.noseq _ h hst) hKw)

theorem go_fields {I : Addr} {T : String} {vs : Array Value} {s : Shared} {target : Expr} {v : Value} {Q : Unit → Shared → Prop} {E : Value → Shared → Prop} {prog : Program} {w : World} {A : Around}
    (hI : ∃ o, s.heap.get? I = some o ∧ o.cls = .type T ∧ o.data = .fields vs) (hT : (["enumerate", "zip", "dict_itemiterator", "dict_reverseitemiterator", "odict_iterator", "itertools.zip_longest", "itertools.pairwise"].contains T) = false)
    (q : Q () s) : wpAny (model prog w) A (letOwnedTupleGo target (.ref I) v) Q E s := by
  obtain ⟨o, ho, hc, hd⟩ := hI
  unfold letOwnedTupleGo
  split
  · split
    · rename_i r a e
      cases e
      refine wpAny_bind (wpAny_load ho ?_)
      rw [hc, hd]
      dsimp only
      rw [hT, Bool.false_and]
      exact wpAny_pure q
    · exact wpAny_pure q
  · split
    · rename_i r a e
      cases e
      refine wpAny_bind (wpAny_load ho ?_)
      rw [hc, hd]
      dsimp only
      rw [hT, Bool.false_and]
      exact wpAny_pure q
    · exact wpAny_pure q
  · exact wpAny_pure q

theorem Itr.list {ds : List D} {k : Nat} (ok : c.Ok k) : Itr c (.list ds) ds := fun s v r H Q q => by
  obtain ⟨a, us, rfl, hl, rs⟩ := rd_list.mp r
  obtain ⟨ol, hol, _, _, hold⟩ := id hl
  have hlt : a < s.heap.objs.size := Heap.lt_size hol
  have hlen : us.toArray.size = ds.length := by rw [List.size_toArray, rs.length]
  have W := Walks.list (prog := c.prog) (w := c.w) ok.rm.handled s.heap.objs.size a (Nat.ne_of_lt hlt) us.toArray
  rw [hlen] at W
  refine wpAny_pyIter_list hl (q _ _ _ _ _ _ _ ⟨keep_push _ _, by rw [Heap.size_push]; exact Nat.le_succ _, W, ?_, ?_, ?_, ?_, ⟨⟨_, Heap.get?_push_size _ rfl, rfl, rfl⟩, hl.push _⟩, ?_, ?_⟩)
  · intro b hb
    rw [List.mem_singleton.mp hb]
    cases e : s.heap.get? s.heap.objs.size with
    | none => rfl
    | some o => exact absurd (Heap.lt_size e) (Nat.lt_irrefl _)
  · rintro i h'' ⟨⟨o, ho, _, hd⟩, _⟩ b hb o' xs n e e'
    rw [List.mem_singleton.mp hb, ho] at e; cases e
    rw [hd] at e'; cases e'
  · intro b hb e
    obtain ⟨m, o, es, ep, ho, hd, _⟩ := H.ns
    rcases List.mem_cons.mp hb with h1 | h1
    · rw [← e, h1] at ho; exact absurd (Heap.lt_size ho) (Nat.lt_irrefl _)
    · have h2 := List.mem_singleton.mp h1
      rw [← e, h2, hol] at ho; cases ho
      rw [hold] at hd; cases hd
  · intro b hb
    rw [Heap.size_push]
    rcases List.mem_cons.mp hb with h1 | h1
    · rw [h1]; exact Nat.lt_succ_self _
    · rw [List.mem_singleton.mp h1]; exact Nat.lt_succ_of_lt hlt
  · intro i v' h'' hP kS
    exact RdAll.get i v' (RdAll.mono kS _ _ rs) (by simpa using hP)
  · rintro i s' target v' Q' ⟨⟨o, ho, hc, hd⟩, _⟩ q'
    exact go_fields ⟨o, ho, hc, hd⟩ (by decide) q'
theorem Itr.tup {ds : List D} {k : Nat} (ok : c.Ok k) : Itr c (.tup ds) ds := fun s v r H Q q => by
  obtain ⟨a, us, rfl, hl, rs⟩ := rd_tup.mp r
  obtain ⟨ol, hol, _, _, hold⟩ := id hl
  have hlt : a < s.heap.objs.size := Heap.lt_size hol
  have hlen : us.toArray.size = ds.length := by rw [List.size_toArray, rs.length]
  have W := Walks.tuple (prog := c.prog) (w := c.w) ok.rm.handled s.heap.objs.size a (Nat.ne_of_lt hlt) us.toArray
  rw [hlen] at W
  refine wpAny_pyIter_tuple hl (q _ _ _ _ _ _ _ ⟨keep_push _ _, by rw [Heap.size_push]; exact Nat.le_succ _, W, ?_, ?_, ?_, ?_, ⟨⟨_, Heap.get?_push_size _ rfl, rfl, rfl⟩, IsTup.push hl _⟩, ?_, ?_⟩)
  · intro b hb
    rw [List.mem_singleton.mp hb]
    cases e : s.heap.get? s.heap.objs.size with
    | none => rfl
    | some o => exact absurd (Heap.lt_size e) (Nat.lt_irrefl _)
  · rintro i h'' ⟨⟨o, ho, _, hd⟩, _⟩ b hb o' xs n e e'
    rw [List.mem_singleton.mp hb, ho] at e; cases e
    rw [hd] at e'; cases e'
  · intro b hb e
    obtain ⟨m, o, es, ep, ho, hd, _⟩ := H.ns
    rcases List.mem_cons.mp hb with h1 | h1
    · rw [← e, h1] at ho; exact absurd (Heap.lt_size ho) (Nat.lt_irrefl _)
    · have h2 := List.mem_singleton.mp h1
      rw [← e, h2, hol] at ho; cases ho
      rw [hold] at hd; cases hd
  · intro b hb
    rw [Heap.size_push]
    rcases List.mem_cons.mp hb with h1 | h1
    · rw [h1]; exact Nat.lt_succ_self _
    · rw [List.mem_singleton.mp h1]; exact Nat.lt_succ_of_lt hlt
  · intro i v' h'' hP kS
    exact RdAll.get i v' (RdAll.mono kS _ _ rs) (by simpa using hP)
  · rintro i s' target v' Q' ⟨⟨o, ho, hc, hd⟩, _⟩ q'
    exact go_fields ⟨o, ho, hc, hd⟩ (by decide) q'
/-- the signs of a text -/
def signs (x : Str) : List D := x.cps.toList.map fun n => D.str ⟨#[n]⟩
theorem Itr.str {x : Str} {k : Nat} (ok : c.Ok k) : Itr c (.str x) (signs x) := fun s v r H Q q => by
  obtain ⟨t, rfl⟩ := rd_str.mp r
  have hlen : (signs x).length = x.cps.size := by simp [signs]
  have new : ∀ b ∈ [s.heap.objs.size], s.heap.get? b = none := fun b hb => by
    rw [List.mem_singleton.mp hb]
    cases e : s.heap.get? s.heap.objs.size with
    | none => rfl
    | some o => exact absurd (Heap.lt_size e) (Nat.lt_irrefl _)
  have fpL : ∀ b ∈ [s.heap.objs.size], b ≠ c.env.locals := fun b hb e => by
    obtain ⟨m, o, es, ep, ho, hd, _⟩ := H.ns
    rw [← e, List.mem_singleton.mp hb] at ho
    exact absurd (Heap.lt_size ho) (Nat.lt_irrefl _)
  have fplt : ∀ (o : Obj), ∀ b ∈ [s.heap.objs.size], b < (s.heap.push o).objs.size := fun o b hb => by rw [Heap.size_push, List.mem_singleton.mp hb]; omega
  have rdx : ∀ i v' h'', SignAt x i v' → KeepS s.heap h'' → ∃ d, (signs x)[i]? = some d ∧ Rd h'' d v' := fun i v' h'' hP _ => by
    obtain ⟨n, u, hn, rfl⟩ := hP
    exact ⟨.str ⟨#[n]⟩, by simp [signs, hn], rd_str.mpr ⟨u, rfl⟩⟩
  cases ha : x.cps.all (· < 128)
  · have W := Walks.strWide (prog := c.prog) (w := c.w) ok.rm.handled s.heap.objs.size x t
    rw [← hlen] at W
    refine wpAny_pyIter_wide ha (q _ _ _ _ _ _ _ ⟨keep_push _ _, by rw [Heap.size_push]; exact Nat.le_succ _, W, new, ?_, fpL, fplt _, ⟨_, Heap.get?_push_size _ rfl, rfl, rfl⟩, rdx, ?_⟩)
    · rintro i h'' ⟨o, ho, _, hd⟩ b hb o' xs n e e'
      rw [List.mem_singleton.mp hb, ho] at e; cases e
      rw [hd] at e'; cases e'
    · rintro i s' target v' Q' ⟨o, ho, hc, hd⟩ q'
      exact go_fields ⟨o, ho, hc, hd⟩ (by decide) q'
  · have W := Walks.strAscii (prog := c.prog) (w := c.w) ok.rm.handled s.heap.objs.size x t
    rw [← hlen] at W
    refine wpAny_pyIter_ascii ha (q _ _ _ _ _ _ _ ⟨keep_push _ _, by rw [Heap.size_push]; exact Nat.le_succ _, W, new, ?_, fpL, fplt _, ⟨_, Heap.get?_push_size _ rfl, rfl, rfl⟩, rdx, ?_⟩)
    · rintro i h'' ⟨o, ho, _, hd⟩ b hb o' xs n e e'
      rw [List.mem_singleton.mp hb, ho] at e; cases e
      rw [hd] at e'; cases e'
    · rintro i s' target v' Q' ⟨o, ho, hc, hd⟩ q'
      exact go_fields ⟨o, ho, hc, hd⟩ (by decide) q'

/-! tuples taken apart -/
def Aso (c : C) : Store → List (Value → Sem Unit) → List D → Store → Prop
  | σ, [], [], σ' => σ' = σ
  | σ, t :: ts, d :: ds, σ' => ∃ x : Str, c.env.kindOf x = some .local ∧ (∃ px : Pos, t = assign (.Name x px) c.env) ∧ Aso c ((x, d) :: σ) ts ds σ'
  | _, _, _, _ => False
theorem Aso.run (hk : c.env.scope.kind = .function) : ∀ (ts : List (Value → Sem Unit)) (ds : List D) (σ σ' : Store) (s : Shared) (vs : List Value), Aso c σ ts ds σ' → Hd c s.heap σ → RdAll s.heap ds vs → ∀ (Q : Unit → Shared → Prop),
    (∀ h' tk, KeepB c.env.locals s.heap h' → Hd c h' σ' → Q () { s with heap := h', toks := tk }) → wpAny (model c.prog c.w) c.A (assignInOrder ts vs) Q (fun _ _ => False) s
  | [], [], σ, σ', s, vs, a, H, r, Q, q => by
    rw [rdAll_nil] at r; subst r
    rw [Aso] at a; subst a
    exact wpAny_assignInOrder_none (q s.heap s.toks (KeepB.of_keep (Keep.refl _)) H)
  | t :: ts, d :: ds, σ, σ', s, vs, a, H, r, Q, q => by
    obtain ⟨v, vs', rfl, r1, r2⟩ := rdAll_cons.mp r
    rw [Aso] at a
    obtain ⟨x, hx, ⟨px, rfl⟩, a'⟩ := a
    refine wpAny_assignInOrder_more (wpAny_assign_Name (store hk hx H r1 fun h' tk kb kS H' => ?_))
    exact Aso.run hk ts ds _ σ' { s with heap := h', toks := tk } vs' a' H' (RdAll.mono kS _ _ r2) Q fun h2 tk2 kb2 H2 => q h2 tk2 (kb.trans kb2) H2
  | [], _ :: _, _, _, _, _, a, _, _, _, _ => by rw [Aso] at a; exact a.elim; all_goals simp
  | _ :: _, [], _, _, _, _, a, _, _, _, _ => by rw [Aso] at a; exact a.elim; all_goals simp
theorem Asg.tup {elts : List Expr} {x1 : Nat} {pos : Pos} {ds : List D} {σ' : Store} {k : Nat} (ok : c.Ok k) (hn : (assignEach elts c.env).length = ds.length) (hstar : (assignEach elts c.env).findIdx? (·.1) = none)
    (a : Aso c σ ((assignEach elts c.env).map (·.2)) ds σ') : Asg c σ (.Tuple elts x1 pos) (.tup ds) σ' := fun s v H r Q q => by
  obtain ⟨t, us, rfl, ht, rs⟩ := rd_tup.mp r
  have hlen : us.toArray.size = ds.length := by rw [List.size_toArray, rs.length]
  refine wpAny_assign_Tuple ok.rm.handled ht (by rw [hlen]; exact hn) hstar fun h' hext => ?_
  have kp : Keep s.heap h' := fun b o e => hext b o (Nat.ne_of_lt (Heap.lt_size e)) e
  exact Aso.run ok.kind _ ds σ σ' { s with heap := h' } us a (H.keep kp) (rs.keep kp) Q fun h2 tk2 kb2 H2 => q h2 tk2 ((KeepB.of_keep kp).trans kb2) H2
theorem Ex1.assignT {elts : List Expr} {x1 : Nat} {tpos pos : Pos} {e : Expr} {ds : List D} {σ' : Store} {N : Store → Prop} {Rt : D → Prop} (h : Ev c σ e (.tup ds)) (a : Asg c σ (.Tuple elts x1 tpos) (.tup ds) σ')
    (hs : swapsWithSole [.Tuple elts x1 tpos] e pos.line c.env = pure false) (hw : swappedStores [.Tuple elts x1 tpos] e c.env = pure none) (hn : N σ') : Ex1 c σ (.Assign [.Tuple elts x1 tpos] e pos) N Rt := fun s H Q n _ =>
  Assign_Tuple ((h s H).then fun v h' tk k rd => wpAny_mono (a { s with heap := h', toks := tk } v (H.keep k) rd _ fun h2 tk2 kb H2 => n σ' h2 tk2 hn ((KeepB.of_keep k).trans kb) H2) (fun _ _ x => x) fun _ _ x => x.elim) hs hw
end
end Mine

namespace Mine

/-! texts as lists of code points -/
abbrev T (l : List Nat) : Str := ⟨l.toArray⟩
abbrev ch (n : Nat) : Str := ⟨#[n]⟩
theorem T_toList (x : Str) : T x.cps.toList = x := by cases x; simp
theorem T_inj {a b : List Nat} (h : T a = T b) : a = b := by
  have := congrArg (fun x => x.cps.toList) h
  simpa using this
theorem T_app (a b : List Nat) : T a ++ T b = T (a ++ b) := Str.ext' (by rw [Str.cps_append]; simp)
theorem T_len (a : List Nat) : (T a).length = a.length := by simp [Str.length]
theorem T_nil : T [] = Str.empty := rfl
theorem T_one (n : Nat) : T [n] = ch n := rfl
theorem empty_T : Str.empty = T [] := rfl
theorem T_ne_empty {l : List Nat} : T l ≠ Str.empty ↔ l ≠ [] := by
  constructor
  · intro h e; subst e; exact h rfl
  · intro h e; exact h (T_inj e)

open StrLaws Builtin.Str

theorem at_T {l : List Nat} {c i : Nat} : At (T l) (ch c) (T l).length i ↔ l[i]? = some c := by
  have := subAt_one (T l) c i
  unfold At
  rw [this]

theorem mem_first {l : List Nat} {c : Nat} (h : c ∈ l) : ∃ a b, l = a ++ c :: b ∧ c ∉ a := by
  induction l with
  | nil => cases h
  | cons x l ih =>
    by_cases e : x = c
    · exact ⟨[], l, by simp [e], by simp⟩
    · have h' : c ∈ l := by
        rcases List.mem_cons.mp h with h1 | h1
        · exact absurd h1.symm e
        · exact h1
      obtain ⟨a, b, rfl, hn⟩ := ih h'
      exact ⟨x :: a, b, rfl, by simp only [List.mem_cons, not_or]; exact ⟨fun q => e q.symm, hn⟩⟩
theorem mem_last {l : List Nat} {c : Nat} (h : c ∈ l) : ∃ a b, l = a ++ c :: b ∧ c ∉ b := by
  obtain ⟨a, b, e, hn⟩ := mem_first (List.mem_reverse.mpr h)
  refine ⟨b.reverse, a.reverse, ?_, by simpa using hn⟩
  have := congrArg List.reverse e
  simpa using this

theorem get_mid {a b : List Nat} {c : Nat} : (a ++ c :: b)[a.length]? = some c := by simp
theorem get_lt {a b : List Nat} {c i : Nat} (ha : c ∉ a) (hi : i < a.length) : (a ++ c :: b)[i]? ≠ some c := by
  rw [List.getElem?_append_left hi]
  intro e
  exact ha (List.mem_of_getElem? e)
theorem get_gt {a b : List Nat} {c i : Nat} (hb : c ∉ b) (hi : a.length < i) : (a ++ c :: b)[i]? ≠ some c := by
  rw [List.getElem?_append_right (by omega)]
  obtain ⟨k, hk⟩ : ∃ k, i - a.length = k + 1 := ⟨i - a.length - 1, by omega⟩
  rw [hk, List.getElem?_cons_succ]
  intro e
  exact hb (List.mem_of_getElem? e)

theorem occ_has {a b : List Nat} {c : Nat} (ha : c ∉ a) : ∃ r, occurrences (T (a ++ c :: b)) (ch c) 0 (T (a ++ c :: b)).length 1 = a.length :: r := by
  rcases occ_head (T (a ++ c :: b)) (ch c) 1 (Nat.le_refl 1) with ⟨_, hn⟩ | ⟨i, r, h0, hi, hn⟩
  · exact absurd (at_T.mpr get_mid) (hn a.length)
  · have hi' := at_T.mp hi
    have : i = a.length := by
      rcases Nat.lt_trichotomy i a.length with h | h | h
      · exact absurd hi' (get_lt ha h)
      · exact h
      · exact absurd (at_T.mpr get_mid) (hn a.length h)
    exact ⟨r, by rw [h0, this]⟩
theorem occ_no {l : List Nat} {c : Nat} (h : c ∉ l) : occurrences (T l) (ch c) 0 (T l).length 1 = [] := by
  rcases occ_head (T l) (ch c) 1 (Nat.le_refl 1) with ⟨h0, _⟩ | ⟨i, r, h0, hi, hn⟩
  · exact h0
  · exact absurd (List.mem_of_getElem? (at_T.mp hi)) h
theorem last_has {a b : List Nat} {c : Nat} (hb : c ∉ b) : lastOccurrence (T (a ++ c :: b)) (ch c) 0 (T (a ++ c :: b)).length = some a.length := by
  rcases last_spec (T (a ++ c :: b)) (ch c) with ⟨_, hn⟩ | ⟨i, h0, hi, hn⟩
  · exact absurd (at_T.mpr get_mid) (hn a.length)
  · have hi' := at_T.mp hi
    have : i = a.length := by
      rcases Nat.lt_trichotomy i a.length with h | h | h
      · exact absurd (at_T.mpr get_mid) (hn a.length h)
      · exact h
      · exact absurd hi' (get_gt hb h)
    rw [h0, this]
theorem last_no {l : List Nat} {c : Nat} (h : c ∉ l) : lastOccurrence (T l) (ch c) 0 (T l).length = none := by
  rcases last_spec (T l) (ch c) with ⟨h0, _⟩ | ⟨i, h0, hi, hn⟩
  · exact h0
  · exact absurd (List.mem_of_getElem? (at_T.mp hi)) h

theorem strSub_T (l : List Nat) (i j : Nat) : strSub (T l) i j = T ((l.drop i).take (j - i)) := by
  have := strSub_toList (T l) i j
  rw [← T_toList (strSub (T l) i j), this]
theorem sub_before (a b : List Nat) (c : Nat) : strSub (T (a ++ c :: b)) 0 a.length = T a := by
  rw [strSub_T]; simp
theorem sub_behind (a b : List Nat) (c : Nat) : strSub (T (a ++ c :: b)) (a.length + (ch c).length) (T (a ++ c :: b)).length = T b := by
  rw [strSub_T, T_len]
  have e : (ch c).length = 1 := rfl
  rw [e]
  have e2 : List.drop (a.length + 1) (a ++ c :: b) = b := by
    rw [show a ++ c :: b = (a ++ [c]) ++ b by simp, show a.length + 1 = (a ++ [c]).length by simp, List.drop_left]
  rw [e2, List.take_of_length_le (by simp; omega)]
theorem part_has {a b : List Nat} {c : Nat} (ha : c ∉ a) : Txt.partition (T (a ++ c :: b)) (ch c) = (T a, ch c, T b) := by
  obtain ⟨r, h⟩ := occ_has (b := b) ha
  unfold Txt.partition
  rw [h]
  dsimp only
  rw [sub_before, sub_behind]
theorem part_no {l : List Nat} {c : Nat} (h : c ∉ l) : Txt.partition (T l) (ch c) = (T l, Str.empty, Str.empty) := by
  unfold Txt.partition
  rw [occ_no h]
theorem rpart_has {a b : List Nat} {c : Nat} (hb : c ∉ b) : Txt.rpartition (T (a ++ c :: b)) (ch c) = (T a, ch c, T b) := by
  unfold Txt.rpartition
  rw [last_has hb]
  dsimp only
  rw [sub_before, sub_behind]
theorem rpart_no {l : List Nat} {c : Nat} (h : c ∉ l) : Txt.rpartition (T l) (ch c) = (Str.empty, Str.empty, T l) := by
  unfold Txt.rpartition
  rw [last_no h]
theorem find_has {a b : List Nat} {c : Nat} (ha : c ∉ a) : Txt.find (T (a ++ c :: b)) (ch c) = a.length := by
  obtain ⟨r, h⟩ := occ_has (b := b) ha
  unfold Txt.find
  rw [h]
theorem find_no {l : List Nat} {c : Nat} (h : c ∉ l) : Txt.find (T l) (ch c) = -1 := by
  unfold Txt.find
  rw [occ_no h]
theorem rfind_has {a b : List Nat} {c : Nat} (hb : c ∉ b) : Txt.rfind (T (a ++ c :: b)) (ch c) = a.length := by
  unfold Txt.rfind
  rw [last_has hb]
theorem rfind_no {l : List Nat} {c : Nat} (h : c ∉ l) : Txt.rfind (T l) (ch c) = -1 := by
  unfold Txt.rfind
  rw [last_no h]
theorem has_T {l : List Nat} {c : Nat} : has (T l) (ch c) = decide (c ∈ l) := by
  have := found_one (T l) c
  unfold has
  rw [this]
theorem find3_has {p a b : List Nat} {c : Nat} {i : Int} (hi : fromIndex (p ++ a ++ c :: b).length i = p.length) (ha : c ∉ a) : Txt.find3 (T (p ++ a ++ c :: b)) (ch c) i = (p ++ a).length := by
  rcases occ_head_from (T (p ++ a ++ c :: b)) (ch c) p.length 1 (Nat.le_refl 1) with ⟨_, hn⟩ | ⟨k, r, h0, hlo, hk, hn⟩
  · exact absurd (at_T.mpr get_mid) (hn (p ++ a).length (by simp))
  · have hk' := at_T.mp hk
    have : k = (p ++ a).length := by
      rcases Nat.lt_trichotomy k (p ++ a).length with h | h | h
      · exfalso
        rw [List.append_assoc, List.getElem?_append_right hlo] at hk'
        exact get_lt ha (by simp at h; omega) hk'
      · exact h
      · exact absurd (at_T.mpr get_mid) (hn (p ++ a).length (by simp) h)
    unfold Txt.find3
    rw [T_len, hi]
    rw [T_len] at h0
    rw [h0, this]
theorem find3_no {p b : List Nat} {c : Nat} {i : Int} (hi : fromIndex (p ++ b).length i = p.length) (hb : c ∉ b) : Txt.find3 (T (p ++ b)) (ch c) i = -1 := by
  rcases occ_head_from (T (p ++ b)) (ch c) p.length 1 (Nat.le_refl 1) with ⟨h0, _⟩ | ⟨k, r, h0, hlo, hk, hn⟩
  · unfold Txt.find3
    rw [T_len, hi]
    rw [T_len] at h0
    rw [h0]
  · have hk' := at_T.mp hk
    rw [List.getElem?_append_right hlo] at hk'
    exact absurd (List.mem_of_getElem? hk') hb

/-! pieces between a sign -/
def jn (c : Nat) : List (List Nat) → List Nat
  | [] => []
  | [a] => a
  | a :: b :: r => a ++ c :: jn c (b :: r)
theorem jn_cons (c : Nat) (a : List Nat) {r : List (List Nat)} (h : r ≠ []) : jn c (a :: r) = a ++ c :: jn c r := by
  cases r with
  | nil => exact absurd rfl h
  | cons b r => rfl
theorem jn_inj {c : Nat} : ∀ {ps qs : List (List Nat)}, ps ≠ [] → qs ≠ [] → (∀ p ∈ ps, c ∉ p) → (∀ q ∈ qs, c ∉ q) → jn c ps = jn c qs → ps = qs
  | [], _, h, _, _, _, _ => absurd rfl h
  | _, [], _, h, _, _, _ => absurd rfl h
  | [a], [b], _, _, _, _, e => by simpa [jn] using e
  | [a], b :: b' :: r, _, _, hp, _, e => by
    rw [jn_cons c b (by simp)] at e
    exact absurd (by show c ∈ a; rw [show a = b ++ c :: jn c (b' :: r) from e]; simp) (hp a (.head _))
  | a :: a' :: r, [b], _, _, _, hq, e => by
    rw [jn_cons c a (by simp)] at e
    exact absurd (by show c ∈ b; rw [show b = a ++ c :: jn c (a' :: r) from e.symm]; simp) (hq b (.head _))
  | a :: a' :: r, b :: b' :: t, _, _, hp, hq, e => by
    rw [jn_cons c a (by simp), jn_cons c b (by simp)] at e
    have key : ∀ (a b u v : List Nat), c ∉ a → c ∉ b → a ++ c :: u = b ++ c :: v → a = b ∧ u = v := by
      intro a
      induction a with
      | nil =>
        intro b u v _ hb e
        cases b with
        | nil => simpa using e
        | cons y b => simp at e; exact absurd (by simp [e.1]) hb
      | cons x a ih =>
        intro b u v ha hb e
        cases b with
        | nil => simp at e; exact absurd (by simp [e.1]) ha
        | cons y b =>
          simp only [List.cons_append, List.cons.injEq] at e
          obtain ⟨h1, h2⟩ := ih b u v (fun h => ha (.tail _ h)) (fun h => hb (.tail _ h)) e.2
          exact ⟨by rw [e.1, h1], h2⟩
    obtain ⟨h1, h2⟩ := key a b _ _ (hp a (.head _)) (hq b (.head _)) e
    have := jn_inj (by simp) (by simp) (fun p hp' => hp p (.tail _ hp')) (fun q hq' => hq q (.tail _ hq')) h2
    rw [h1, this]
theorem join_T (c : Nat) : ∀ ps : List (List Nat), Str.join (ch c) (ps.map T) = T (jn c ps)
  | [] => rfl
  | [a] => rfl
  | a :: b :: r => by
    have := join_T c (b :: r)
    show T a ++ ch c ++ Str.join (ch c) ((b :: r).map T) = _
    rw [this, jn_cons c a (by simp), ← T_one c, T_app, T_app]
    simp
theorem txt_join (c : Nat) (ps : List (List Nat)) : Txt.join (ch c) (ps.map T) = T (jn c ps) := by
  rw [← join_T]; exact glued_eq_join _ _
theorem map_T (xs : List Str) : (xs.map fun x => x.cps.toList).map T = xs := by
  rw [List.map_map]
  exact (List.map_congr_left fun x _ => T_toList x).trans (List.map_id _)
theorem split_ne (x y : Str) : Txt.split x y ≠ [] := by
  unfold Txt.split
  split
  · simp
  · split
    · simp
    · rw [partsBetween_eq]
      obtain ⟨p, r, e⟩ := partsFrom_ne x y.length 0 (occurrences x y 0 x.length (x.length + 1))
      rw [e]; simp
theorem split_T {c : Nat} {ps : List (List Nat)} (hne : ps ≠ []) (hf : ∀ p ∈ ps, c ∉ p) : Txt.split (T (jn c ps)) (ch c) = ps.map T := by
  have h1 := join_split (T (jn c ps)) (ch c)
  have h2 := split_free (T (jn c ps)) c
  have h3 := split_ne (T (jn c ps)) (ch c)
  generalize Txt.split (T (jn c ps)) (ch c) = qs at h1 h2 h3
  rw [← map_T qs, join_T] at h1
  have e := T_inj h1
  have := jn_inj (c := c) (by simpa using h3) hne (by
    intro p hp
    obtain ⟨q, hq, rfl⟩ := List.mem_map.mp hp
    exact h2 q hq) hf e
  rw [← this, map_T]
/-- every text is such a join -/
theorem split_is (l : List Nat) (c : Nat) : ∃ ps, ps ≠ [] ∧ (∀ p ∈ ps, c ∉ p) ∧ l = jn c ps ∧ Txt.split (T l) (ch c) = ps.map T := by
  refine ⟨(Txt.split (T l) (ch c)).map fun x => x.cps.toList, by simpa using split_ne _ _, ?_, ?_, (map_T _).symm⟩
  · intro p hp
    obtain ⟨q, hq, rfl⟩ := List.mem_map.mp hp
    exact split_free (T l) c q hq
  · have h1 := join_split (T l) (ch c)
    generalize Txt.split (T l) (ch c) = qs at h1
    rw [← map_T qs, join_T] at h1
    exact (T_inj h1).symm

/-! slices -/
theorem slice_T (l : List Nat) (a b : Option Int) : Txt.slice (T l) a b = T (lsl l a b) := by
  have hidx : strSliceIndices a b 1 l.length = (List.range (b.elim l.length (clipAt l.length) - a.elim 0 (clipAt l.length))).map (a.elim 0 (clipAt l.length) + ·) := by
    rw [← sliceRange_one]
    unfold strSliceIndices
    cases a <;> cases b <;> simp [clipAt_cast]
  have hpick : (strSliceIndices a b 1 l.length).filterMap ((T l).cps[·]?) = lsl l a b := by
    rw [hidx, pick_run]; rfl
  unfold Txt.slice
  rw [T_len]
  split
  · rename_i h
    have hlen : (strSliceIndices a b 1 l.length).length = l.length := by simpa using h
    have hn : (b.elim l.length (clipAt l.length) - a.elim 0 (clipAt l.length)) = l.length := by rw [hidx] at hlen; simpa using hlen
    have hb : b.elim l.length (clipAt l.length) ≤ l.length := by
      cases b with
      | none => exact Nat.le_refl _
      | some j => show clipAt l.length j ≤ l.length; have := clipAt_cast l.length j; omega
    by_cases h0 : l.length = 0
    · have : l = [] := List.length_eq_zero_iff.mp h0
      subst this
      simp [lsl]
    · have ha : a.elim 0 (clipAt l.length) = 0 := by omega
      have hb' : b.elim l.length (clipAt l.length) = l.length := by omega
      simp [lsl, ha, hb']
  · rw [hpick]
theorem lsl_from {α : Type} (l : List α) (n : Nat) : lsl l (some (n : Int)) none = l.drop n := by
  unfold lsl
  simp only [Option.elim, clipAt_nat]
  rw [List.take_of_length_le (by simp)]
  rcases Nat.le_total n l.length with h | h
  · rw [Nat.min_eq_left h]
  · rw [Nat.min_eq_right h, List.drop_of_length_le (Nat.le_refl _), List.drop_of_length_le h]
theorem lsl_to {α : Type} (l : List α) (n : Nat) : lsl l none (some (n : Int)) = l.take n := by
  unfold lsl
  simp only [Option.elim, clipAt_nat, List.drop_zero, Nat.sub_zero]
  rcases Nat.le_total n l.length with h | h
  · rw [Nat.min_eq_left h]
  · rw [Nat.min_eq_right h, List.take_of_length_le (Nat.le_refl _), List.take_of_length_le h]
theorem lsl_butLast {α : Type} (l : List α) : lsl l none (some (-1)) = l.take (l.length - 1) := by
  unfold lsl
  have := clipAt_neg l.length 1 (Nat.le_refl 1)
  simp only [Option.elim, List.drop_zero, Nat.sub_zero]
  rw [show ((-1 : Int)) = -((1 : Nat) : Int) from rfl, this]
end Mine

namespace Mine
def nth (p : Program) (i : Nat) : Str × Arguments × List Stmt × Scope := match p.main.body[i]? with
  | some (.FunctionDef n a b _ _ _ sc _ _ _) => (n, a, b, sc)
  | _ => (Str.empty, ⟨[], [], none, [], [], none, []⟩, [], { kind := .function, names := [], isGenerator := false, isCoroutine := false, more := [] })
abbrev fdOf (p : Program) (i : Nat) (dV kV doc pm : Value) (an : Option Addr) (cdv ct : Value) : FuncData :=
  fnOf (nth p i).1 (nth p i).1 (nth p i).2.1 (nth p i).2.2.1 (nth p i).2.2.2 dV kV doc pm an cdv ct
/-- what is asked of a def's scope -/
def scopeOk (sc : Scope) : Bool := sc.names.all (fun x => x.2 != .cell) && !sc.isCoroutine && !sc.isGenerator && sc.kind == .function
theorem scopeOk_cell {sc : Scope} (h : scopeOk sc = true) : ∀ x ∈ sc.names, x.2 ≠ .cell := by
  simp only [scopeOk, Bool.and_eq_true, List.all_eq_true] at h
  intro x hx
  simpa using h.1.1.1 x hx
theorem scopeOk_co {sc : Scope} (h : scopeOk sc = true) : sc.isCoroutine = false := by
  simp only [scopeOk, Bool.and_eq_true, Bool.not_eq_true'] at h; exact h.1.1.2
theorem scopeOk_gen {sc : Scope} (h : scopeOk sc = true) : sc.isGenerator = false := by
  simp only [scopeOk, Bool.and_eq_true, Bool.not_eq_true'] at h; exact h.1.2
theorem scopeOk_kind {sc : Scope} (h : scopeOk sc = true) : sc.kind = .function := by
  simp only [scopeOk, Bool.and_eq_true, beq_iff_eq] at h; exact h.2

section
variable {p : Program} {w : World} {G : Grd} {k i : Nat} {f : Addr} {dV kV doc pm : Value} {an : Option Addr} {cdv ct : Value} {d1 d2 d : D} {x y : Str}
theorem Fsp.one (fa : FnAt G f (fdOf p i dV kV doc pm an cdv ct)) (hs : scopeOk (nth p i).2.2.2 = true)
    (hbind : ∀ v, bindArgs (fdOf p i dV kV doc pm an cdv ct) ⟨[v], []⟩ = pure [(x, v)]) (hx : (nth p i).2.2.2.names.lookup x = some .local)
    (run : ∀ (A : Around) (L : Addr) (h0 : Heap), C.Ok ⟨p, w, G, A, callEnv (fdOf p i dV kV doc pm an cdv ct) L f, h0, Kf.none⟩ k →
      Ex ⟨p, w, G, A, callEnv (fdOf p i dV kV doc pm an cdv ct) L f, h0, Kf.none⟩ [(x, d1)] (nth p i).2.2.1 (fun _ => d = .none) (fun d' => d' = d)) : Fsp p w G (k + 1) (.ref f) [d1] d := by
  refine Fsp.of (σ₀ := [(x, d1)]) fa rfl (scopeOk_cell hs) (scopeOk_co hs) (scopeOk_gen hs) (scopeOk_kind hs) rfl rfl ?_ ?_
  · intro s vs g r
    obtain ⟨v, rfl, r1⟩ := rdAll_one r
    refine ⟨[(x, v)], BindsTo.of_eq (hbind v), fun z hz => ?_, fun z d' e => ?_⟩
    · rw [List.mem_singleton.mp hz]; exact hx
    · rw [List.lookup_cons] at e
      show ∃ u, [(x, v)].lookup z = some u ∧ _
      rw [List.lookup_cons]
      cases hz : z == x with
      | true => rw [hz] at e; cases e; exact ⟨v, rfl, r1⟩
      | false => rw [hz] at e; cases e
  · intro A L h0 rm g
    exact run A L h0 ⟨scopeOk_kind hs, rfl, rfl, g, rm⟩
theorem Fsp.two (fa : FnAt G f (fdOf p i dV kV doc pm an cdv ct)) (hs : scopeOk (nth p i).2.2.2 = true)
    (hbind : ∀ v u, bindArgs (fdOf p i dV kV doc pm an cdv ct) ⟨[v, u], []⟩ = pure [(x, v), (y, u)]) (hx : (nth p i).2.2.2.names.lookup x = some .local) (hy : (nth p i).2.2.2.names.lookup y = some .local) (hxy : (y == x) = false)
    (run : ∀ (A : Around) (L : Addr) (h0 : Heap), C.Ok ⟨p, w, G, A, callEnv (fdOf p i dV kV doc pm an cdv ct) L f, h0, Kf.none⟩ k →
      Ex ⟨p, w, G, A, callEnv (fdOf p i dV kV doc pm an cdv ct) L f, h0, Kf.none⟩ [(x, d1), (y, d2)] (nth p i).2.2.1 (fun _ => d = .none) (fun d' => d' = d)) : Fsp p w G (k + 1) (.ref f) [d1, d2] d := by
  refine Fsp.of (σ₀ := [(x, d1), (y, d2)]) fa rfl (scopeOk_cell hs) (scopeOk_co hs) (scopeOk_gen hs) (scopeOk_kind hs) rfl rfl ?_ ?_
  · intro s vs g r
    obtain ⟨v, u, rfl, r1, r2⟩ := rdAll_two r
    refine ⟨[(x, v), (y, u)], BindsTo.of_eq (hbind v u), fun z hz => ?_, fun z d' e => ?_⟩
    · rcases List.mem_cons.mp hz with rfl | hz
      · exact hx
      · rw [List.mem_singleton.mp hz]; exact hy
    · show ∃ t, [(y, u), (x, v)].lookup z = some t ∧ _
      rw [List.lookup_cons, List.lookup_cons] at e
      rw [List.lookup_cons, List.lookup_cons]
      cases hz : z == x with
      | true =>
        rw [hz] at e; cases e
        have : z = x := by simpa using hz
        subst this
        have : (z == y) = false := by
          cases q : z == y with
          | false => rfl
          | true => have : z = y := by simpa using q
                    subst this; simp at hxy
        rw [this]; exact ⟨v, rfl, r1⟩
      | false =>
        rw [hz] at e
        cases hz' : z == y with
        | true => rw [hz'] at e; cases e; exact ⟨u, rfl, r2⟩
        | false => rw [hz'] at e; cases e
  · intro A L h0 rm g
    exact run A L h0 ⟨scopeOk_kind hs, rfl, rfl, g, rm⟩
end

theorem lsl_cut1 {α : Type} (a b : List α) (c : α) : lsl (a ++ c :: b) none (some (a.length : Int)) = a := by rw [lsl_to]; simp
theorem lsl_cut2 {α : Type} (a b : List α) (c : α) : lsl (a ++ c :: b) (some ((a.length : Int) + 1)) none = b := by
  rw [show (a.length : Int) + 1 = ((a.length + 1 : Nat) : Int) by simp, lsl_from]
  rw [show a ++ c :: b = (a ++ [c]) ++ b by simp, show a.length + 1 = (a ++ [c]).length by simp, List.drop_left]
open StrLaws Builtin.Str in
theorem from_nat {n a : Nat} (h : a ≤ n) : fromIndex n (a : Int) = a := by
  unfold fromIndex
  omega
theorem jn_length {c : Nat} : ∀ ps : List (List Nat), ps.length ≤ (jn c ps).length + 1
  | [] => Nat.zero_le _
  | [a] => by simp
  | a :: b :: r => by
    have := jn_length (c := c) (b :: r)
    rw [jn_cons c a (by simp)]
    simp at this ⊢; omega

theorem Sub.nil {σ : Store} : Sub σ [] := fun _ _ e => by cases e
theorem Sub.cons {σ τ : Store} {n : Str} {d : D} (h : σ.lookup n = some d) (s : Sub σ τ) : Sub σ ((n, d) :: τ) := fun x d' e => by
  rw [List.lookup_cons] at e
  cases hx : x == n with
  | true => rw [hx] at e; cases e; rw [show x = n by simpa using hx]; exact h
  | false => rw [hx] at e; exact s x d' e
theorem Ex.cut {c : C} {σ : Store} {st : Stmt} {rest : List Stmt} {N : Store → Prop} {Rt : D → Prop} {γ : Type} (σM : γ → Store) (Pm : γ → Prop) (h : Ex1 c σ st (fun σ' => ∃ g, Pm g ∧ Sub σ' (σM g)) Rt) (k : ∀ g, Pm g → Ex c (σM g) rest N Rt) : Ex c σ (st :: rest) N Rt :=
  Ex.cons (h.mono (fun σ' ⟨g, hp, hs⟩ => (k g hp).sub hs) fun _ x => x)

section
variable {c : C} {σ : Store} {k : Nat}
theorem sz {n : Nat} (h : n ≤ 1000000) : n ≤ sizeLine := by rw [sizeLine_eq]; omega
/-- l op1 r1 op2 r2 -/
theorem Ts.chain {l r1 r2 : Expr} {op1 op2 : CmpOp} {pos : Pos} {d0 d1 d2 : D} {b1 b2 : Bool} (h0 : Ev c σ l d0) (h1 : Ev c σ r1 d1) (h2 : Ev c σ r2 d2) (c1 : Cmp c op1 d0 d1 b1) (c2 : Cmp c op2 d1 d2 b2)
    (hm : lastMarks [op1, op2] [r1, r2] = false) : Ts c σ (.Compare l [op1, op2] [r1, r2] pos) (b1 && b2) := fun s H Q q => by
  refine isTrue_chain ((h0 s H).then fun v0 g0 t0 k0 q0 => test_link ((h1 _ (H.keep k0)).then fun v1 g1 t1 k1 q1 => (c1 _ v0 v1 (q0.keep k1) q1).then fun v2 g2 t2 k2 q2 => ?_)) hm
  rw [rd_bool] at q2; subst q2
  refine wpAny_truthy_bool ?_
  have kk := (k0.trans k1).trans k2
  cases b1 with
  | false => rw [if_neg (by decide)]; exact q g2 t2 kk
  | true =>
    rw [if_pos rfl]
    refine test_last ((h2 _ (H.keep kk)).then fun v3 g3 t3 k3 q3 => (c2 _ v1 v3 (q1.keep (k2.trans k3)) q3).then fun v4 g4 t4 k4 q4 => ?_)
    rw [rd_bool] at q4; subst q4
    exact wpAny_truthy_bool (q g4 t4 ((kk.trans k3).trans k4))
theorem Itm.tab {l : List Nat} {i : Int} (h0 : 0 ≤ i) (h1 : i < l.length) (hl : l.length ≤ 1000) : Itm c (.str (T l)) (.int i) (.str (ch (l.getD i.toNat 0))) := by
  have hj : i.toNat < l.length := by omega
  refine Itm.str (by omega) (by omega) ?_
  rw [T_len, StrLaws.seqIndex_nonneg h0 h1]
  simp [List.getD, hj]
theorem getD_lt {l : List Nat} {i : Int} (h1 : i < l.length) (h0 : 0 ≤ i) {m : Nat} (h : ∀ x ∈ l, x < m) : l.getD i.toNat 0 < m := by
  have hj : i.toNat < l.length := by omega
  rw [List.getD_eq_getElem?_getD, List.getElem?_eq_getElem hj]
  exact h _ (List.getElem_mem hj)
theorem fmod_pos {a b : Int} (hb : 0 < b) : 0 ≤ a.fmod b ∧ a.fmod b < b := by
  rw [Int.fmod_eq_emod_of_nonneg _ (by omega)]
  exact ⟨Int.emod_nonneg _ (by omega), Int.emod_lt_of_pos _ hb⟩
end
end Mine

namespace Mine

/-! statements that change the objects of a context's heap fact -/
abbrev KeepM (L : Addr) (fp : List Addr) (h h' : Heap) : Prop := ∀ b o, b ≠ L → b ∉ fp → h.get? b = some o → h'.get? b = some o
abbrev C.on (c : C) (K : Kf) : C := { c with K := K }
def Em (c : C) (σ : Store) (body : List Stmt) (N : Kf → Store → Prop) (Rt : D → Prop) : Prop := ∀ s : Shared, Hd c s.heap σ → ∀ (Q : Flow → Shared → Prop),
  (∀ K σ' h' tk, K.fp = c.K.fp → N K σ' → KeepM c.env.locals c.K.fp s.heap h' → Hd (c.on K) h' σ' → Q .next { s with heap := h', toks := tk }) →
  (∀ d v h' tk, Rt d → KeepM c.env.locals c.K.fp s.heap h' → Rd h' d v → Q (.ret v) { s with heap := h', toks := tk }) →
  wpAny (model c.prog c.w) c.A (execs body c.env) Q (fun _ _ => False) s
def Em1 (c : C) (σ : Store) (st : Stmt) (N : Kf → Store → Prop) (Rt : D → Prop) : Prop := ∀ s : Shared, Hd c s.heap σ → ∀ (Q : Flow → Shared → Prop),
  (∀ K σ' h' tk, K.fp = c.K.fp → N K σ' → KeepM c.env.locals c.K.fp s.heap h' → Hd (c.on K) h' σ' → Q .next { s with heap := h', toks := tk }) →
  (∀ d v h' tk, Rt d → KeepM c.env.locals c.K.fp s.heap h' → Rd h' d v → Q (.ret v) { s with heap := h', toks := tk }) →
  wpAny (model c.prog c.w) c.A (exec st c.env) Q (fun _ _ => False) s

section
variable {c : C} {σ : Store} {N : Kf → Store → Prop} {Rt : D → Prop}
theorem KeepM.of_b {L : Addr} {fp : List Addr} {h h' : Heap} (k : KeepB L h h') : KeepM L fp h h' := fun b o n _ e => k b o n e
theorem KeepM.trans {L : Addr} {fp : List Addr} {h h' h'' : Heap} (k : KeepM L fp h h') (k' : KeepM L fp h' h'') : KeepM L fp h h'' := fun b o n m e => k' b o n m (k b o n m e)
theorem Em.nil (h : N c.K σ) : Em c σ [] N Rt := fun s H Q n _ => wpAny_execs_nil (n c.K σ s.heap s.toks rfl h (fun _ _ _ _ e => e) H)
theorem Em.cons {st : Stmt} {rest : List Stmt} (h : Em1 c σ st (fun K σ' => Em (c.on K) σ' rest N Rt) Rt) : Em c σ (st :: rest) N Rt := fun s H Q n r =>
  wpAny_execs_cons (h s H _ (fun K σ' h' tk hfp em k H' => em _ H' Q (fun K' σ'' h'' tk' hfp' a b e => n K' σ'' h'' tk' (hfp'.trans hfp) a (k.trans (by rw [← hfp]; exact b)) e)
      fun d v h'' tk' a b e => r d v h'' tk' a (k.trans (by rw [← hfp]; exact b)) e)
    fun d v h' tk a b e => r d v h' tk a b e)
theorem Em1.ofEx {st : Stmt} (h : Ex1 c σ st (fun σ' => N c.K σ') Rt) : Em1 c σ st N Rt := fun s H Q n r =>
  h s H Q (fun σ' h' tk a k H' => n c.K σ' h' tk rfl a (KeepM.of_b k) H') fun d v h' tk a k e => r d v h' tk a (KeepM.of_b k) e
theorem Em1.mono {st : Stmt} {N' : Kf → Store → Prop} (h : Em1 c σ st N Rt) (hn : ∀ K σ, N K σ → N' K σ) : Em1 c σ st N' Rt := fun s H Q n r =>
  h s H Q (fun K σ' h' tk hf a b e => n K σ' h' tk hf (hn _ _ a) b e) r
theorem Em1.if {test : Expr} {body orelse : List Stmt} {pos : Pos} {b : Bool} (ht : Ts c σ test b) (h1 : b = true → Em c σ body N Rt) (h2 : b = false → Em c σ orelse N Rt) :
    Em1 c σ (.If test body orelse pos) N Rt := fun s H Q n r => by
  refine wpAny_If (ht s H _ fun h' tk k => ?_)
  have km : KeepM c.env.locals c.K.fp s.heap h' := fun b o _ _ e => k b o e
  cases b with
  | true => exact h1 rfl _ (H.keep k) Q (fun K σ' h'' tk' hf a b' e => n K σ' h'' tk' hf a (km.trans b') e) fun d v h'' tk' a b' e => r d v h'' tk' a (km.trans b') e
  | false => exact h2 rfl _ (H.keep k) Q (fun K σ' h'' tk' hf a b' e => n K σ' h'' tk' hf a (km.trans b') e) fun d v h'' tk' a b' e => r d v h'' tk' a (km.trans b') e

theorem Em.sub {body : List Stmt} {σ' : Store} (h : Em c σ' body N Rt) (s : Sub σ σ') : Em c σ body N Rt := fun st H Q n r => h st (H.sub s) Q n r
theorem Em.cut {st : Stmt} {rest : List Stmt} {γ : Type} (σM : γ → Store) (Pm : γ → Prop) (h : Ex1 c σ st (fun σ' => ∃ g, Pm g ∧ Sub σ' (σM g)) Rt) (k : ∀ g, Pm g → Em c (σM g) rest N Rt) : Em c σ (st :: rest) N Rt :=
  Em.cons (Em1.ofEx (h.mono (fun σ' ⟨g, hp, hs⟩ => (k g hp).sub hs) fun _ x => x))
theorem Em.ofEx {body : List Stmt} (h : Ex c σ body (fun σ' => N c.K σ') Rt) : Em c σ body N Rt := fun s H Q n r =>
  h s H Q (fun σ' h' tk a k H' => n c.K σ' h' tk rfl a (KeepM.of_b k) H') fun d v h' tk a k e => r d v h' tk a (KeepM.of_b k) e

theorem Em.cutM {st : Stmt} {rest : List Stmt} {γ : Type} (KM : γ → Kf) (σM : γ → Store) (Pm : γ → Prop) (h : Em1 c σ st (fun K σ' => ∃ g, K = KM g ∧ Pm g ∧ Sub σ' (σM g)) Rt) (k : ∀ g, Pm g → Em (c.on (KM g)) (σM g) rest N Rt) : Em c σ (st :: rest) N Rt :=
  Em.cons (h.mono fun K σ' ⟨g, hK, hp, hs⟩ => by subst hK; exact (k g hp).sub hs)

def Flat : D → Prop
  | .list _ => False
  | .tup _ => False
  | _ => True
theorem Flat.rd {h h' : Heap} : ∀ {d : D} {v : Value}, Flat d → Rd h d v → Rd h' d v
  | .none, _, _, r => by rw [rd_none] at r ⊢; exact r
  | .bool _, _, _, r => by rw [rd_bool] at r ⊢; exact r
  | .int _, _, _, r => by rw [rd_int] at r ⊢; exact r
  | .str _, _, _, r => by rw [rd_str] at r ⊢; exact r
  | .val _, _, _, r => by rw [rd_val] at r ⊢; exact r
  | .list _, _, f, _ => by unfold Flat at f; exact f.elim
  | .tup _, _, f, _ => by unfold Flat at f; exact f.elim

/-- a loop over a list of flat data whose turns change what K tells -/
theorem Em1.for {γ : Type} {target iter : Expr} {body : List Stmt} {pos : Pos} {ds : List D} {k : Nat} (ok : c.Ok k) (hi : Ev c σ iter (.list ds)) (hfl : ∀ d ∈ ds, Flat d)
    (KI : γ → Kf) (hfp : ∀ g, (KI g).fp = c.K.fp) (σI : γ → Store) (P : Nat → γ → Prop) (g₀ : γ) (hK0 : KI g₀ = c.K) (h0 : Sub σ (σI g₀)) (p0 : P 0 g₀)
    (hdis : ∀ (h : Heap) l vs, c.K.P h → h.IsList l (List.toArray vs) → RdAll h ds vs → l ∉ c.K.fp)
    (step : ∀ i g d', ds[i]? = some d' → P i g → ∃ σ1, Asg (c.on (KI g)) (σI g) target d' σ1 ∧ Em (c.on (KI g)) σ1 body (fun K σ' => ∃ g', K = KI g' ∧ Sub σ' (σI g') ∧ P (i + 1) g') Rt)
    (done : ∀ g, P ds.length g → N (KI g) (σI g)) (hs : ∀ x, foldedSetIterable iter c.env x = pure x) : Em1 c σ (.For target iter body [] pos) N Rt := fun s H Q n r => by
  refine wpAny_For ((hi s H).then fun v h1 tk1 k1 r1 => ?_) hs
  have H1 := H.keep k1
  obtain ⟨a, us, rfl, hl, rs⟩ := rd_list.mp r1
  obtain ⟨ol, hol, _, _, hold⟩ := id hl
  have hlt : a < h1.objs.size := Heap.lt_size hol
  have hlen : us.toArray.size = ds.length := by rw [List.size_toArray, rs.length]
  have haf : a ∉ c.K.fp := hdis h1 a us H1.2.1 hl rs
  have W := Walks.list (prog := c.prog) (w := c.w) ok.rm.handled h1.objs.size a (Nat.ne_of_lt hlt) us.toArray
  rw [hlen] at W
  refine wpAny_pyIter_list (s := { s with heap := h1, toks := tk1 }) hl ?_
  have Inone : h1.get? h1.objs.size = none := by
    cases e : h1.get? h1.objs.size with
    | none => rfl
    | some o => exact absurd (Heap.lt_size e) (Nat.lt_irrefl _)
  have IL : h1.objs.size ≠ c.env.locals := fun e => by
    obtain ⟨m, o, es, ep, ho, hd, _⟩ := H1.ns
    rw [← e] at ho
    exact absurd (Heap.lt_size ho) (Nat.lt_irrefl _)
  have aL : a ≠ c.env.locals := fun e => by
    obtain ⟨m, o, es, ep, ho, hd, _⟩ := H1.ns
    rw [← e, hol] at ho; cases ho
    rw [hold] at hd; cases hd
  have If : h1.objs.size ∉ c.K.fp := fun hb => by
    obtain ⟨o, ho⟩ := c.K.there H1.2.1 _ hb
    rw [Inone] at ho; cases ho
  have F0 : c.h0.get? h1.objs.size = none := by
    obtain ⟨⟨m, F, _⟩, _⟩ := H1
    cases q : c.h0.get? h1.objs.size with
    | none => rfl
    | some o => have := F.keep _ o q; rw [Inone] at this; cases this
  refine forLoopT (fun m s' => ∃ h' tk i g, s' = { s with heap := h', toks := tk } ∧ i ≤ ds.length ∧ m = ds.length + 1 - i ∧ (h'.IsListIter h1.objs.size a i ∧ h'.IsList a us.toArray) ∧ Hd (c.on (KI g)) h' (σI g) ∧ P i g ∧ KeepM c.env.locals c.K.fp h1 h') ?_ (ds.length + 1)
    ⟨_, tk1, 0, g₀, rfl, Nat.zero_le _, rfl, ⟨⟨_, Heap.get?_push_size _ rfl, rfl, rfl⟩, hl.push _⟩, by rw [hK0]; exact (H1.keep (keep_push _ _)).sub h0, p0, fun b o _ _ e => keep_push _ _ b o e⟩
  rintro m s' ⟨h, tk, i, g, rfl, hi', rfl, hst, Hg, hp, kb⟩
  have but : ∀ h3, (∀ b o, b ∉ [h1.objs.size] → h.get? b = some o → h3.get? b = some o) → Hd (c.on (KI g)) h3 (σI g) ∧ KeepM c.env.locals c.K.fp h1 h3 := fun h3 hk3 => by
    refine ⟨Hg.but hk3 ?_ ?_ ?_ ?_, fun b o hb hb' e => hk3 b o (fun hw => by rw [List.mem_singleton.mp hw, Inone] at e; cases e) (kb b o hb hb' e)⟩
    · intro b hb; rw [List.mem_singleton.mp hb]; exact F0
    · intro hb; exact IL (List.mem_singleton.mp hb).symm
    · intro b hb o xs n e e'
      obtain ⟨o2, ho2, _, hd2⟩ := hst.1
      rw [List.mem_singleton.mp hb, ho2] at e; cases e
      rw [hd2] at e'; cases e'
    · intro b hb hw
      have hb' : b ∈ (KI g).fp := hb
      rw [hfp g] at hb'
      rw [List.mem_singleton.mp hw] at hb'
      exact If hb'
  by_cases hlt' : i < ds.length
  · refine W.item i _ _ _ hlt' hst fun v' h3 tk3 hP hst3 hk3 => ?_
    obtain ⟨H3, kb3⟩ := but h3 hk3
    refine wpAny_mono (go_fields (s := { s with heap := h3, toks := tk3 }) (target := target) (v := v') (Q := fun _ s' => s' = { s with heap := h3, toks := tk3 }) (E := fun _ _ => False) (by obtain ⟨o, ho, hc, hd⟩ := hst3.1; exact ⟨o, ho, hc, hd⟩) (by decide) rfl) (fun _ s4 e4 => ?_) fun _ _ x => x.elim
    subst e4
    obtain ⟨d', hd', rd'⟩ := RdAll.get i v' rs (by simpa using hP)
    have rd3 : Rd h3 d' v' := Flat.rd (hfl d' (List.mem_of_getElem? hd')) rd'
    obtain ⟨σ1, as, em⟩ := step i g d' hd' hp
    refine wpAny_mono (as { s with heap := h3, toks := tk3 } v' H3 rd3 _ fun h4 tk4 kb4 H4 => ?_) (fun _ _ x => x) fun _ _ x => x.elim
    refine wpAny_mono (em { s with heap := h4, toks := tk4 } H4 _ (fun K σ' h5 tk5 hf5 hn kb5 H5 => ?_) fun d5 v5 h5 tk5 hr kb5 r5 => ?_) (fun _ _ x => x) fun _ _ x => x.elim
    · obtain ⟨g', rfl, hsub, hp'⟩ := hn
      have kb5' : KeepM c.env.locals c.K.fp h4 h5 := by rw [← hfp g]; exact kb5
      have kb35 : KeepM c.env.locals c.K.fp h3 h5 := (KeepM.of_b kb4).trans kb5'
      refine ⟨ds.length + 1 - (i + 1), by omega, h5, tk5, i + 1, g', rfl, hlt', rfl, W.frame _ _ _ hst3 fun b hb o e => ?_, H5.sub hsub, hp', kb3.trans kb35⟩
      rcases List.mem_cons.mp hb with h6 | h6
      · rw [h6] at e ⊢; exact kb35 _ o IL If e
      · rw [List.mem_singleton.mp h6] at e ⊢; exact kb35 _ o aL haf e
    · have kb5' : KeepM c.env.locals c.K.fp h4 h5 := by rw [← hfp g]; exact kb5
      exact r d5 v5 h5 tk5 hr (fun b o n1 n2 e => ((kb3.trans (KeepM.of_b kb4)).trans kb5') b o n1 n2 (k1 b o e)) r5
  · have e : i = ds.length := by omega
    subst e
    refine W.done _ _ _ hst fun h3 tk3 hk3 => wpAny_execs_nil ?_
    obtain ⟨H3, kb3⟩ := but h3 hk3
    exact n (KI g) _ h3 tk3 (hfp g) (done g hp) (fun b o n1 n2 e => kb3 b o n1 n2 (k1 b o e)) H3

/-! a list of texts of the frame's own -/
def cellK (a : Addr) (ws : List Str) : Kf where
  P h := ∃ l n, h.get? a = some { cls := .type "list", data := .seq (strValues l).toArray n } ∧ l.map (·.1) = ws
  fp := [a]
  frame := fun ⟨l, n, e, hw⟩ k => ⟨l, n, k a (.head _) _ e, hw⟩
  there := fun ⟨l, n, e, _⟩ b hb => by rw [List.mem_singleton.mp hb]; exact ⟨_, e⟩
theorem Ev.asCell {a : Addr} {ws : List Str} {e : Expr} (hK : c.K = cellK a ws) (h : Ev c σ e (.val (.ref a))) : Ev c σ e (.list (ws.map D.str)) := fun s H Q q =>
  (h s H).then fun v h' tk k r => by
    rw [rd_val] at r; subst r
    refine q _ h' tk k (rd_list.mpr ?_)
    have hp := (H.keep k).2.1
    rw [hK] at hp
    obtain ⟨l, n, e, rfl⟩ := hp
    refine ⟨a, strValues l, rfl, ⟨_, e, rfl, n, rfl⟩, ?_⟩
    rw [List.map_map]
    exact rdAll_strs l

/-- the object is changed -/
theorem Hd.change {a : Addr} {ws ws' : List Str} {h h' : Heap} (H : Hd (c.on (cellK a ws)) h σ) (hfl : ∀ y d, σ.lookup y = some d → Flat d) (h0 : c.h0.get? a = Option.none) (hs : Heap.SameBut a h h') (hP : (cellK a ws').P h') :
    Hd (c.on (cellK a ws')) h' σ := by
  obtain ⟨⟨m, F, f⟩, K, nL⟩ := H
  have hL : c.env.locals ≠ a := fun e => nL (by rw [show (c.on (cellK a ws)).env.locals = c.env.locals from rfl, e]; exact .head _)
  refine ⟨⟨m, ⟨F.ns.at' fun o e => (hs.2 _ hL).trans e, fun b o e => (hs.2 b fun q => by have e' : c.h0.get? b = some o := e; rw [q, h0] at e'; cases e').trans (F.keep b o e), F.above⟩, fun x d e => ?_⟩, hP, nL⟩
  obtain ⟨v, x1, x2⟩ := f x d e
  exact ⟨v, x1, Flat.rd (hfl x d e) x2⟩
theorem keepM_sameBut {a L : Addr} {h h' : Heap} (hs : Heap.SameBut a h h') : KeepM L [a] h h' := fun b o _ n e => (hs.2 b fun q => n (by rw [q]; exact .head _)).trans e
theorem Em1.append {a : Addr} {ws : List Str} {x : Str} {e : Expr} {y : Str} {px ap pos pos' : Pos} {pl : Sem Bool} (hk : c.env.scope.kind = .function) (hx : c.env.kindOf x = some .local) (hd : (x == ("__debug__" : Str)) = false)
    (hl : σ.lookup x = some (.val (.ref a))) (hfl : ∀ y d, σ.lookup y = some d → Flat d) (he : Ev (c.on (cellK a ws)) σ e (.str y)) (h0 : c.h0.get? a = none) (hsz : ws.length ≤ 1000000)
    (hc : eval (.Call (.Attribute (.Name x px) "append" ap) [e] [] pos) c.env = (do
      let ov ← eval (.Name x px) c.env
      standAt ap.atName
      let (f, first) ← holding [ov] (getMethod ov "append" pl)
      PySem.callWith pos f first (backTo pos (starEach [e] c.env)) []))
    (he' : starEach [e] c.env = (false, eval e c.env) :: starEach [] c.env) (hi : interactive c.env = false) (hsw : swapsWith (.Call (.Attribute (.Name x px) "append" ap) [e] [] pos) none pos'.line c.env = Pure.pure false)
    (hn : N (cellK a (ws ++ [y])) σ) : Em1 (c.on (cellK a ws)) σ (.Expr (.Call (.Attribute (.Name x px) "append" ap) [e] [] pos) pos') N Rt := fun s H Q n r => by
  refine wpAny_Expr_any ?_ hi hsw
  refine MethodCall_ (pl := pl) ((Ev.name (c := c.on (cellK a ws)) hk hx hl hd s H).then fun v h1 tk1 k1 r1 => ?_) hc
  rw [rd_val] at r1; subst r1
  have H1 := H.keep k1
  obtain ⟨l, ep, ho, hw⟩ := id H1.2.1
  refine getMethod_builtin (T := "list") (id := "list.append") ⟨_, ho, rfl⟩ F.plainAttrs_list PySem.F.slot_list_append PySem.F.type_list_append (fun b hb => by cases hb; exact ⟨_, ho, rfl⟩) ?_
  refine callWith_method1 (spliced_more ((he { s with heap := h1, toks := tk1 } H1).then fun v h2 tk2 k2 r2 => spliced_none ?_) he') he' (by rfl)
  obtain ⟨t, rfl⟩ := rd_str.mp r2
  have H2 := H1.keep k2
  have ho2 := k2 _ _ ho
  refine append_at (s := { s with heap := h2, toks := tk2 }) ho2 (fun h3 hs3 ho3 => ?_) ?_
  · have hP : (cellK a (ws ++ [y])).P h3 := ⟨l ++ [(y, t)], ep + 1, by rw [ho3]; simp [strValues], by simp [hw]⟩
    exact n (cellK a (ws ++ [y])) σ h3 tk2 rfl hn (fun b o n1 n2 e => keepM_sameBut hs3 b o n1 n2 (k2 _ _ (k1 _ _ e))) (H2.change hfl h0 hs3 hP)
  · rw [List.size_toArray]
    have : l.length = ws.length := by rw [← hw, List.length_map]
    refine sz ?_
    simp [strValues]; omega

/-- the last place of a list is stored -/
theorem setLast_at {prog : Program} {w : World} {A : Around} {E : Value → Shared → Prop} {s : Shared} {a : Addr} {items : Array Value} {ep : Nat} {t : Tok} {v : Value} {Q : Unit → Shared → Prop} (ho : s.heap.get? a = some { cls := .type "list", data := .seq items ep })
    (hn : 0 < items.size) (hQ : ∀ h', h'.get? a = some { cls := .type "list", data := .seq (items.setIfInBounds (items.size - 1) v) ep } → Heap.SameBut a s.heap h' → Q () { s with heap := h' }) :
    wpAny (model prog w) A (setItem (.ref a) (.int (-1) t) v) Q E s := by
  have hl : s.heap.IsList a items := ⟨_, ho, rfl, ep, rfl⟩
  unfold setItem
  try with_reducible refine wpAny_holding ?_
  first | refine wpAny_bind (wpAny_pure ?_) | skip
  refine wpAny_bind (wpAny_sequenceKey hl.typeIs (by decide) ?_)
  refine wpAny_bind (wpAny_callSpecial?_slot (name := Str.ofString "__setitem__") hl.typeIs slot_list_setitem
    (wpAny_call_entry slot_list_setitem hl.typeIs entry_list_setitem ?_ (args_list_setitem _ _ _)))
  show wpAny _ _ (Builtin.List.listSubscript? (.int (-1) t) >>= _) _ _ s
  refine wpAny_bind (wpAny_listSubscript_int (fitsIndex_neg (by decide) (by decide)) ?_)
  have hidx : seqIndex? (-1) items.size = some (items.size - 1) := by
    rw [seqIndex_neg (by decide) (by omega)]; congr 1; omega
  have hx : items[items.size - 1]? = some items[items.size - 1] := Array.getElem?_eq_getElem (by omega)
  show wpAny _ _ ((Builtin.List.listItems (.ref a) >>= fun xs => pure ((seqIndex? (-1) xs.size).bind fun i => xs[i]?.map (i, ·))) >>= _) _ _ s
  refine wpAny_bind (wpAny_bind ?_)
  show wpAny _ _ (seqItems? (.ref a) >>= _) _ _ s
  refine wpAny_bind (wpAny_seqItems ho rfl (wpAny_pure (wpAny_pure ?_)))
  rw [hidx]
  simp only [Option.bind_some, hx, Option.map_some]
  show wpAny _ _ (setSeqItemAt a (items.size - 1) v >>= _) _ _ s
  have hfin : (s.heap.update a (Obj.mapSeq (·.setIfInBounds (items.size - 1) v))).get? a = some { cls := .type "list", data := .seq (items.setIfInBounds (items.size - 1) v) ep } := by
    have e : Obj.mapSeq (·.setIfInBounds (items.size - 1) v) { cls := .type "list", data := .seq items ep } = { cls := .type "list", data := .seq (items.setIfInBounds (items.size - 1) v) ep } := by
      unfold Obj.mapSeq
      simp
    rw [Heap.get?_update_self _ ho (by rw [e]; rfl), e]
  refine wpAny_bind (wpAny_setSeqItemAt ho rfl ?_)
  first
    | exact wpAny_bind (wpAny_pure (wpAny_pure ⟨.none, rfl, wpAny_pure (hQ _ hfin (Heap.SameBut.update ..))⟩))
    | exact wpAny_pure ⟨.none, rfl, wpAny_pure (hQ _ hfin (Heap.SameBut.update ..))⟩

/-- x[-1] += e -/
theorem Em1.augLast {a : Addr} {ws : List Str} {last : Str} {x : Str} {i e : Expr} {y : Str} {px tpos pos : Pos} (hk : c.env.scope.kind = .function) (hx : c.env.kindOf x = some .local) (hd : (x == ("__debug__" : Str)) = false)
    (hl : σ.lookup x = some (.val (.ref a))) (hfl : ∀ y d, σ.lookup y = some d → Flat d) (hi : Ev (c.on (cellK a (ws ++ [last]))) σ i (.int (-1))) (he : Ev (c.on (cellK a (ws ++ [last]))) σ e (.str y)) (h0 : c.h0.get? a = none) (hsz : last.length + y.length ≤ 1000000)
    (hst : ∀ ov iv new, augStore i ov iv new = (do holding [new, ov, iv] (setItem ov iv new); release [new, ov, iv] []; Pure.pure .next))
    (hn : N (cellK a (ws ++ [last ++ y])) σ) : Em1 (c.on (cellK a (ws ++ [last]))) σ (.AugAssign (.Subscript (.Name x px) i tpos) .Add e pos) N Rt := fun s H Q n r => by
  refine wpAny_AugAssign_SubscriptAny ((Ev.name (c := c.on (cellK a (ws ++ [last]))) hk hx hl hd s H).then fun v h1 tk1 k1 r1 => ?_) hst
  rw [rd_val] at r1; subst r1
  have H1 := H.keep k1
  refine (hi { s with heap := h1, toks := tk1 } H1).then fun v h2 tk2 k2 r2 => ?_
  obtain ⟨t, rfl⟩ := rd_int.mp r2
  have H2 := H1.keep k2
  obtain ⟨l, ep, ho, hw⟩ := id H2.2.1
  obtain ⟨l', q, rfl, hl', hq⟩ : ∃ l' q, l = l' ++ [q] ∧ l'.map (·.1) = ws ∧ q.1 = last := by
    have hne : l ≠ [] := by intro e; subst e; simp at hw
    refine ⟨l.dropLast, l.getLast hne, (List.dropLast_concat_getLast hne).symm, ?_, ?_⟩
    · have e : l.dropLast.map (·.1) = (l.map (·.1)).dropLast := (List.map_dropLast ..)
      rw [e, hw]; simp
    · have := congrArg List.getLast? hw
      rw [List.getLast?_map, List.getLast?_eq_some_getLast hne] at this
      simpa using this
  subst hl' hq
  have sz1 : (strValues (l' ++ [q])).toArray.size = l'.length + 1 := by simp [strValues]
  refine wpAny_getItem_list_neg (s := { s with heap := h2, toks := tk2 }) (x := .str q.1 q.2) ⟨_, ho, rfl, ep, rfl⟩ (by decide) (by rw [sz1]; omega) (by decide) (by rw [sz1, show ((-1 : Int) + ((l'.length + 1 : Nat) : Int)).toNat = l'.length by omega]; simp [strValues]) ?_
  refine (he { s with heap := h2, toks := tk2 } H2).then fun v h3 tk3 k3 r3 => ?_
  refine (Inp.add_str (c := c) (x := q.1) (y := y) (sz hsz) { s with heap := h3, toks := tk3 } (.str q.1 q.2) v (rd_str.mpr ⟨_, rfl⟩) r3).then fun v' h4 tk4 k4 r4 => ?_
  obtain ⟨t', rfl⟩ := rd_str.mp r4
  have H4 := (H2.keep k3).keep k4
  refine setLast_at (s := { s with heap := h4, toks := tk4 }) (k4 _ _ (k3 _ _ ho)) (by rw [sz1]; omega) fun h5 ho5 hs5 => ?_
  have hP : (cellK a (l'.map (·.1) ++ [q.1 ++ y])).P h5 := ⟨l' ++ [(q.1 ++ y, t')], ep, by
    rw [ho5, sz1]
    congr 3
    simp [strValues], by simp⟩
  exact n (cellK a (l'.map (·.1) ++ [q.1 ++ y])) σ h5 tk4 rfl hn (fun b o n1 n2 e => keepM_sameBut hs5 b o n1 n2 (k4 _ _ (k3 _ _ (k2 _ _ (k1 _ _ e))))) (H4.change hfl h0 hs5 hP)

/-- a display of texts is bound to a name: from here on the list is the frame's own -/
theorem Ex.newcell {x : Str} {es : List Expr} {px pos' pos : Pos} {rest : List Stmt} {ws : List Str} {N' : Store → Prop} {k : Nat} (ok : c.Ok k) (hx : c.env.kindOf x = some .local) (he : Es c σ pos' es (ws.map D.str)) (hsz : ws.length ≤ 1000000) (hK : c.K = Kf.none)
    (hs : swapsWith (.List es pos') (some (.Name x px)) pos.line c.env = Pure.pure false)
    (h : ∀ a, c.h0.get? a = none → Em (c.on (cellK a ws)) ((x, .val (.ref a)) :: σ) rest (fun _ _ => False) Rt) : Ex c σ (.Assign [.Name x px] (.List es pos') pos :: rest) N' Rt := fun s H Q n r => by
  refine wpAny_execs_cons (wpAny_Assign_Name (hs := hs) (List_ (he s H _ fun vs h1 tk1 k1 rs => ?_)))
  obtain ⟨l, rfl, hw⟩ := strs_rdAll ws vs rs
  have H1 := H.keep k1
  refine wpAny_newObj_type ?_ (by show (strValues l).toArray.size ≤ sizeLine; rw [List.size_toArray]; exact sz (by rw [rs.length]; simpa using hsz))
  have Anone : h1.get? h1.objs.size = none := by
    cases e : h1.get? h1.objs.size with
    | none => rfl
    | some o => exact absurd (Heap.lt_size e) (Nat.lt_irrefl _)
  have H2 : Hd c (h1.push { cls := .type "list", data := .seq (strValues l).toArray }) σ := H1.keep (keep_push _ _)
  have AL : c.env.locals ≠ h1.objs.size := fun e => by
    obtain ⟨m, o, es, ep, ho, hd, _⟩ := H1.ns
    rw [e, Anone] at ho; cases ho
  have F0 : c.h0.get? h1.objs.size = none := by
    obtain ⟨⟨m, F, _⟩, _⟩ := H1
    cases q : c.h0.get? h1.objs.size with
    | none => rfl
    | some o => have := F.keep _ o q; rw [Anone] at this; cases this
  have H3 : Hd (c.on (cellK h1.objs.size ws)) (h1.push { cls := .type "list", data := .seq (strValues l).toArray }) σ := ⟨H2.1, ⟨l, 0, Heap.get?_push_size _ rfl, hw⟩, fun hb => AL (List.mem_singleton.mp hb)⟩
  refine store (c := c.on (cellK h1.objs.size ws)) (s := { s with heap := h1.push { cls := .type "list", data := .seq (strValues l).toArray }, toks := tk1 }) ok.kind hx H3 (rd_val.mpr rfl) fun h4 tk4 kb4 _ H4 => ?_
  have fin : ∀ h', KeepM c.env.locals [h1.objs.size] h4 h' → KeepB c.env.locals s.heap h' := fun h' km b o n1 e => km b o n1 (fun hb => by
    have e1 := k1 _ _ e
    rw [List.mem_singleton.mp hb, Anone] at e1; cases e1) (kb4 b o n1 (keep_push _ _ _ _ (k1 _ _ e)))
  exact h h1.objs.size F0 { s with heap := h4, toks := tk4 } H4 Q (fun K σ' h' tk hf a b e => a.elim) fun d v h' tk a b e => r d v h' tk a (fin h' b) e
end
end Mine

namespace Mine

/-! what may be gone through, as an expression -/
def Its (c : C) (σ : Store) (iter : Expr) (ds : List D) : Prop := ∀ s : Shared, Hd c s.heap σ → ∀ (Q : Value → Shared → Prop),
  (∀ I fp wr P St h1 h' tk, Keep s.heap h1 → ItrAt c ds h1 I fp wr P St h' → Q (.ref I) { s with heap := h', toks := tk }) →
  wpAny (model c.prog c.w) c.A (eval iter c.env) (fun x s₁ => wpAny (model c.prog c.w) c.A (pyIter x) Q (fun _ _ => False) s₁) (fun _ _ => False) s
section
variable {c : C} {σ : Store}
theorem Its.of {iter : Expr} {d : D} {ds : List D} (hi : Ev c σ iter d) (it : Itr c d ds) : Its c σ iter ds := fun s H Q q =>
  (hi s H).then fun v h1 tk1 k1 r1 => it { s with heap := h1, toks := tk1 } v r1 (H.keep k1).none Q fun I fp wr P St h' tk X => q I fp wr P St h1 h' tk k1 X

def rngD (a b : Int) : List D := (List.range (b - a).toNat).map fun i : Nat => D.int (a + (i : Int))
/-- a range object is gone through -/
theorem range_itr {s : Shared} {a b : Int} {t u v : Tok} {k : Nat} {r : Addr} (ok : c.Ok k) (hr : IsRange s.heap r a b 1 t u v) (H : Hd c s.heap []) (ha : -1000000 ≤ a ∧ a ≤ 1000000) (hb : -1000000 ≤ b ∧ b ≤ 1000000) {Q : Value → Shared → Prop}
    (q : ∀ I fp wr P St h' tk, ItrAt c (rngD a b) s.heap I fp wr P St h' → Q (.ref I) { s with heap := h', toks := tk }) : wpAny (model c.prog c.w) c.A (pyIter (.ref r)) Q (fun _ _ => False) s := by
  have hn : Builtin.Range.rangeSize a b 1 = ((b - a).toNat : Int) := rangeSize_nat a b
  have W := Walks.range (prog := c.prog) (w := c.w) (A := c.A) ok.rm.handled s.heap.objs.size a 1 (b - a).toNat
  have hlen : (rngD a b).length = (b - a).toNat := by simp [rngD]
  rw [← hlen] at W
  refine wpAny_pyIter_range hr (small_one (by omega) (by omega) (by omega) (by omega)) (q _ _ _ _ _ _ _ ⟨keep_push _ _, by rw [Heap.size_push]; exact Nat.le_succ _, W.bound, ?_, ?_, ?_, ?_, ?_, ?_, ?_⟩)
  · intro b hb
    rw [List.mem_singleton.mp hb]
    cases e : s.heap.get? s.heap.objs.size with
    | none => rfl
    | some o => exact absurd (Heap.lt_size e) (Nat.lt_irrefl _)
  · intro i h'' hst b hb o' xs n e e'
    have hst' : IsRangeIter h'' s.heap.objs.size _ _ _ := hst
    rw [List.mem_singleton.mp hb, hst'] at e; cases e
    cases e'
  · intro b hb e
    obtain ⟨m, o, es, ep, ho, hd, _⟩ := H.ns
    rw [← e, List.mem_singleton.mp hb] at ho; exact absurd (Heap.lt_size ho) (Nat.lt_irrefl _)
  · intro b hb
    rw [Heap.size_push, List.mem_singleton.mp hb]; exact Nat.lt_succ_self _
  · show IsRangeIter _ _ _ _ _
    rw [hn, hlen]
    simpa using Heap.get?_push_size _ rfl
  · rintro i v' h'' ⟨hi, t', rfl⟩ _
    refine ⟨.int (a + i * 1), ?_, rd_int.mpr ⟨t', rfl⟩⟩
    rw [hlen] at hi
    simp [rngD, hi]
  · intro i s' target v' Q' hst q'
    have hst' : IsRangeIter s'.heap s.heap.objs.size _ _ _ := hst
    exact go_fields ⟨_, hst', rfl, rfl⟩ (by decide) q'

/-- range(a, b) -/
theorem Its.range2 {e1 e2 : Expr} {np pos : Pos} {a b : Int} {k : Nat} (ok : c.Ok k) (hr : Ev c σ (.Name "range" np) (.val (.type "range"))) (h1 : Ev c σ e1 (.int a)) (h2 : Ev c σ e2 (.int b)) (ha : -1000000 ≤ a ∧ a ≤ 1000000) (hb : -1000000 ≤ b ∧ b ≤ 1000000)
    (he : starEach [e1, e2] c.env = (false, eval e1 c.env) :: starEach [e2] c.env) (he2 : starEach [e2] c.env = (false, eval e2 c.env) :: starEach [] c.env) (hp : (backTo pos (starEach [e2] c.env)).any (·.1) = false)
    (hc : eval (.Call (.Name "range" np) [e1, e2] [] pos) c.env = (do PySem.callWith pos (← eval (.Name "range" np) c.env) [] (backTo pos (starEach [e1, e2] c.env)) (backToKw pos (keywordEach [] c.env)))) :
    Its c σ (.Call (.Name "range" np) [e1, e2] [] pos) (rngD a b) := fun s H Q q => by
  refine Call_ ((hr s H).then fun v g1 t1 k1 r1 => ?_) hc
  rw [rd_val] at r1; subst r1
  refine PyProof.Rows.callWith_type1 (spliced_more ((h1 _ (H.keep k1)).then fun v2 g2 t2 k2 r2 => spliced_more ((h2 _ ((H.keep k1).keep k2)).then fun v3 g3 t3 k3 r3 => spliced_none ?_) he2) he) he hp
  obtain ⟨ta, rfl⟩ := rd_int.mp r2
  obtain ⟨tb, rfl⟩ := rd_int.mp r3
  have kk := (k1.trans k2).trans k3
  refine call_range_2 (s := { s with heap := g3, toks := t3 }) ?_
  exact range_itr (s := { s with heap := g3.push _, toks := t3 + 1 }) ok (IsRange.new ..) ((H.keep kk).keep (keep_push _ _)).none ha hb fun I fp wr P St h' tk X => q I fp wr P St _ h' tk (kk.trans (keep_push _ _)) X
/-- range(b) -/
theorem Its.range1 {e2 : Expr} {np pos : Pos} {b : Int} {k : Nat} (ok : c.Ok k) (hr : Ev c σ (.Name "range" np) (.val (.type "range"))) (h2 : Ev c σ e2 (.int b)) (hb : -1000000 ≤ b ∧ b ≤ 1000000)
    (he2 : starEach [e2] c.env = (false, eval e2 c.env) :: starEach [] c.env)
    (hc : eval (.Call (.Name "range" np) [e2] [] pos) c.env = (do PySem.callWith pos (← eval (.Name "range" np) c.env) [] (backTo pos (starEach [e2] c.env)) (backToKw pos (keywordEach [] c.env)))) :
    Its c σ (.Call (.Name "range" np) [e2] [] pos) (rngD 0 b) := fun s H Q q => by
  refine Call_ ((hr s H).then fun v g1 t1 k1 r1 => ?_) hc
  rw [rd_val] at r1; subst r1
  refine PyProof.Rows.callWith_type1 (spliced_more ((h2 _ (H.keep k1)).then fun v3 g3 t3 k3 r3 => spliced_none ?_) he2) he2 (by rfl)
  obtain ⟨tb, rfl⟩ := rd_int.mp r3
  have kk := k1.trans k3
  refine call_range_1 (s := { s with heap := g3, toks := t3 }) ?_
  exact range_itr (s := { s with heap := g3.push _, toks := t3 + 1 + 1 }) ok (IsRange.new ..) ((H.keep kk).keep (keep_push _ _)).none (by omega) hb fun I fp wr P St h' tk X => q I fp wr P St _ h' tk (kk.trans (keep_push _ _)) X

/-- a loop, by what may be gone through -/
theorem Ex1.forI {γ : Type} {target iter : Expr} {body : List Stmt} {pos : Pos} {ds : List D} {k : Nat} {N : Store → Prop} {Rt : D → Prop} (ok : c.Ok k) (its : Its c σ iter ds)
    (σI : γ → Store) (P : Nat → γ → Prop) (g₀ : γ) (h0 : Sub σ (σI g₀)) (p0 : P 0 g₀)
    (step : ∀ i g d', ds[i]? = some d' → P i g → ∃ σ1, Asg c (σI g) target d' σ1 ∧ Ex c σ1 body (fun σ' => ∃ g', Sub σ' (σI g') ∧ P (i + 1) g') Rt)
    (done : ∀ g, P ds.length g → N (σI g)) (hs : ∀ x, foldedSetIterable iter c.env x = pure x) : Ex1 c σ (.For target iter body [] pos) N Rt := fun s H Q n r => by
  refine wpAny_For (its s H _ fun I fp wr P' St h1 h2 tk2 k1 X => ?_) hs
  have H1 := H.keep k1
  have F0 : ∀ b ∈ wr, c.h0.get? b = none := fun b hb => by
    obtain ⟨⟨m, F, _⟩, _⟩ := H1
    cases q : c.h0.get? b with
    | none => rfl
    | some o => have := F.keep b o q; rw [X.new b hb] at this; cases this
  have hLw : c.env.locals ∉ wr := fun hb => X.fpL _ (X.W.sub _ hb) rfl
  have hKw : ∀ b ∈ c.K.fp, b ∉ wr := fun b hb hw => by
    obtain ⟨o, ho⟩ := c.K.there H1.2.1 b hb
    have := X.new b hw
    rw [ho] at this; cases this
  refine forLoopT (fun m s' => ∃ h' tk i g, s' = { s with heap := h', toks := tk } ∧ i ≤ ds.length ∧ m = ds.length + 1 - i ∧ St i h' ∧ Hd c h' (σI g) ∧ P i g ∧ KeepB c.env.locals h1 h') ?_ (ds.length + 1)
    ⟨h2, tk2, 0, g₀, rfl, Nat.zero_le _, rfl, X.st, (H1.keep X.keep).sub h0, p0, KeepB.of_keep X.keep⟩
  rintro m s' ⟨h, tk, i, g, rfl, hi', rfl, hst, Hg, hp, kb⟩
  have kb' : ∀ h3, (∀ b o, b ∉ wr → h.get? b = some o → h3.get? b = some o) → KeepB c.env.locals h1 h3 := fun h3 hk3 b o hb e => hk3 b o (fun hw => by have := X.new b hw; rw [e] at this; cases this) (kb b o hb e)
  by_cases hlt : i < ds.length
  · refine X.W.item i _ _ _ hlt hst fun v' h3 tk3 hP hst3 hk3 => ?_
    refine wpAny_mono (X.go (i + 1) _ target v' (fun _ s' => s' = { s with heap := h3, toks := tk3 }) hst3 rfl) (fun _ s4 e4 => ?_) fun _ _ x => x.elim
    subst e4
    have H3 : Hd c h3 (σI g) := Hg.but hk3 F0 hLw (X.noseq i h hst) hKw
    have kb3 := kb' h3 hk3
    obtain ⟨d', hd', rd'⟩ := X.rd i v' h3 hP (H1.keepS kb3)
    obtain ⟨σ1, as, ex⟩ := step i g d' hd' hp
    refine wpAny_mono (as { s with heap := h3, toks := tk3 } v' H3 rd' _ fun h4 tk4 kb4 H4 => ?_) (fun _ _ x => x) fun _ _ x => x.elim
    refine wpAny_mono (ex { s with heap := h4, toks := tk4 } H4 _ (fun σ' h5 tk5 hn kb5 H5 => ?_) fun d5 v5 h5 tk5 hr kb5 r5 => ?_) (fun _ _ x => x) fun _ _ x => x.elim
    · obtain ⟨g', hsub, hp'⟩ := hn
      refine ⟨ds.length + 1 - (i + 1), by omega, h5, tk5, i + 1, g', rfl, hlt, rfl, X.W.frame _ _ _ hst3 fun b hb o e => kb5 b o (X.fpL b hb) (kb4 b o (X.fpL b hb) e), H5.sub hsub, hp', (kb3.trans kb4).trans kb5⟩
    · exact r d5 v5 h5 tk5 hr ((KeepB.of_keep k1).trans ((kb3.trans kb4).trans kb5)) r5
  · have e : i = ds.length := by omega
    subst e
    refine X.W.done _ _ _ hst fun h3 tk3 hk3 => wpAny_execs_nil ?_
    exact n _ h3 tk3 (done g hp) ((KeepB.of_keep k1).trans (kb' h3 hk3)) (Hg.but hk3 F0 hLw (X.noseq _ h hst) hKw)
end

/-! comprehensions -/
mutual
/-- data that goes through no list -/
def NoL : D → Prop
  | .list _ => False
  | .tup ds => NoLs ds
  | .none => True
  | .bool _ => True
  | .int _ => True
  | .str _ => True
  | .val _ => True
def NoLs : List D → Prop
  | [] => True
  | d :: ds => NoL d ∧ NoLs ds
end
def KeepT (h h' : Heap) : Prop := ∀ b o, h.get? b = some o → o.cls = .type "tuple" → h'.get? b = some o
mutual
theorem NoL.rd {h h' : Heap} (k : KeepT h h') : ∀ (d : D) (v : Value), NoL d → Rd h d v → Rd h' d v
  | .none, _, _, r => by rw [rd_none] at r ⊢; exact r
  | .bool _, _, _, r => by rw [rd_bool] at r ⊢; exact r
  | .int _, _, _, r => by rw [rd_int] at r ⊢; exact r
  | .str _, _, _, r => by rw [rd_str] at r ⊢; exact r
  | .val _, _, _, r => by rw [rd_val] at r ⊢; exact r
  | .list _, _, f, _ => by rw [NoL] at f; exact f.elim
  | .tup ds, v, f, r => by
    rw [NoL] at f
    obtain ⟨a, vs, rfl, ⟨o, ho, hc, hd⟩, rs⟩ := rd_tup.mp r
    exact rd_tup.mpr ⟨a, vs, rfl, ⟨o, k a o ho hc, hc, hd⟩, NoLs.rd k ds vs f rs⟩
theorem NoLs.rd {h h' : Heap} (k : KeepT h h') : ∀ (ds : List D) (vs : List Value), NoLs ds → RdAll h ds vs → RdAll h' ds vs
  | [], _, _, r => by rw [rdAll_nil] at r ⊢; exact r
  | d :: ds, vs, f, r => by
    rw [NoLs] at f
    obtain ⟨v, r', rfl, x, y⟩ := rdAll_cons.mp r
    exact rdAll_cons.mpr ⟨v, r', rfl, NoL.rd k d v f.1 x, NoLs.rd k ds r' f.2 y⟩
end
theorem NoLs.append : ∀ {ds es : List D}, NoLs ds → NoLs es → NoLs (ds ++ es)
  | [], _, _, h => h
  | d :: ds, es, h, h' => by rw [NoLs] at h; rw [List.cons_append, NoLs]; exact ⟨h.1, NoLs.append h.2 h'⟩

section
variable {prog : Program} {w : World} {A : Around} {R : Result → Shared → Prop} {s : Shared}
/-- a comprehension's loop, with the target's tuple let go -/
theorem compLoopT {elt target iter : Expr} {ifs : List Expr} {scope : Scope} {pos : Pos} {it acc : Value} {env : Env} (I : Nat → Shared → Prop)
    (turn : ∀ n s, I n s → wpAny (model prog w) A (pyNext it) (fun r s₁ => match r with
      | none => R (.ok .next) s₁
      | some v => wpAny (model prog w) A (letOwnedTupleGo target it v) (fun _ s₀ => wpAny (model prog w) A (assign target env v) (fun _ s₂ =>
          wpAny (model prog w) A (forIn ifs true fun c r => if r = true then do let ok ← isTrue c env (eval c env); pure (ForInStep.yield ok) else pure (ForInStep.yield r)) (fun ok s₃ =>
            if ok = true then wpAny (model prog w) A (eval elt env) (fun x s₄ =>
              wpAny (model prog w) A (call (.builtin "list.append") [acc, x]) (fun _ s₅ => ∃ m, m < n ∧ I m s₅) (fun _ _ => False) s₄) (fun _ _ => False) s₃
            else ∃ m, m < n ∧ I m s₃) (fun _ _ => False) s₂) (fun _ _ => False) s₀) (fun _ _ => False) s₁) (fun _ _ => False) s)
    (n : Nat) (h : I n s) :
    codeAny (model prog w) A (.compLoop (.ListComp elt [⟨target, iter, ifs, 0⟩] scope pos) 0 it acc env) R s := by
  refine codeAny_loop rfl I (fun n s hI => ?_) n h
  show wpAny _ A ((compTurn (.ListComp elt [⟨target, iter, ifs, 0⟩] scope pos) 0 it acc env).onRaise (fun x => do noteFrame x env; theTreesLotGoes x)) _ _ s
  refine wpAny_noted ?_
  rw [compTurn_list]
  refine wpAny_bind (wpAny_standAt (wpAny_bind (wpAny_mono (turn n s hI) (fun r s₁ h₁ => ?_) fun _ _ h' => h'.elim)))
  cases r with
  | none => exact wpAny_pure h₁
  | some v =>
    refine wpAny_bind (wpAny_mono h₁ (fun _ s₀ h₀ => ?_) fun _ _ h' => h'.elim)
    refine wpAny_bind (wpAny_mono h₀ (fun _ s₂ h₂ => wpAny_bind (wpAny_mono h₂ (fun ok s₃ h₃ => ?_) fun _ _ h' => h'.elim)) fun _ _ h' => h'.elim)
    cases ok with
    | false => exact wpAny_pure ⟨rfl, h₃⟩
    | true =>
      exact wpAny_bind (wpAny_bind (wpAny_mono h₃ (fun x s₄ h₄ => wpAny_bind (wpAny_mono h₄ (fun _ s₅ h₅ => wpAny_pure (wpAny_pure ⟨rfl, h₅⟩)) fun _ _ h' => h'.elim)) fun _ _ h' => h'.elim))
end

/-- the comprehension's tests -/
def Tst (c : C) (σ : Store) (ifs : List Expr) (b : Bool) : Prop := ∀ s : Shared, Hd c s.heap σ →
  Gb c.prog c.w c.A (forIn ifs true fun e r => if r = true then do let ok ← isTrue e c.env (eval e c.env); pure (ForInStep.yield ok) else pure (ForInStep.yield r)) b s
theorem Tst.nil {c : C} {σ : Store} : Tst c σ [] true := fun s H Q q => wpAny_tests_nil (q s.heap s.toks (Keep.refl _))
theorem Tst.one {c : C} {σ : Store} {e : Expr} {b : Bool} (h : Ts c σ e b) : Tst c σ [e] b := fun s H Q q => wpAny_tests_one (h s H Q q)

/-- the context inside a comprehension -/
abbrev C.comp (c : C) (scope : Scope) (L : Addr) (h : Heap) : C := ⟨c.prog, c.w, c.G, c.A, compEnv scope L c.env, h, Kf.none⟩

section
variable {c : C} {σ : Store}
theorem comp_run {elt target iter : Expr} {ifs : List Expr} {scope : Scope} {pos : Pos} {ds : List D} {g : D → Option D} {k : Nat} (ok : c.Ok k) (hkind : scope.kind = .function) (hsz : ds.length ≤ sizeLine)
    {s : Shared} {h1 h2 h4 : Heap} {tk : Nat} {I : Addr} {fp wr : List Addr} {P : Nat → Value → Prop} {St : Nat → Heap → Prop} (X : ItrAt c ds h1 I fp wr P St h2) (G1 : c.G.At h1)
    (hns : h4.Ns (h2.objs.size + 1) (fun _ => none)) (k4 : Keep h2 h4) (hD : h4.get? h2.objs.size = some { cls := .type "list", data := .seq #[] 0 })
    (step : ∀ (L : Addr) (h : Heap) d, d ∈ ds → (c.comp scope L h).Ok k → ∃ σ1, Asg (c.comp scope L h) [] target d σ1 ∧
      match g d with
      | some e => Tst (c.comp scope L h) σ1 ifs true ∧ Ev (c.comp scope L h) σ1 elt e ∧ NoL e
      | none => Tst (c.comp scope L h) σ1 ifs false)
    {R : Result → Shared → Prop} (hR : ∀ h' tk' m', h'.Ns (h2.objs.size + 1) m' → Keep h1 h' → Rd h' (.list (ds.filterMap g)) (.ref h2.objs.size) → R (.ok .next) { s with heap := h', toks := tk' }) :
    codeAny (model c.prog c.w) c.A (.compStart (.ListComp elt [⟨target, iter, ifs, 0⟩] scope pos) 0 (.ref I) (.ref h2.objs.size) (compEnv scope (h2.objs.size + 1) c.env)) R { s with heap := h4, toks := tk } := by
  have okc : (c.comp scope (h2.objs.size + 1) h1).Ok k := ⟨hkind, ok.glob, ok.blt, G1, ok.rm⟩
  have hle : h1.objs.size ≤ h2.objs.size + 1 := Nat.le_succ_of_le X.size
  have fpD : ∀ b ∈ fp, b ≠ h2.objs.size := fun b hb => Nat.ne_of_lt (X.fplt b hb)
  have fpC : ∀ b ∈ fp, b ≠ h2.objs.size + 1 := fun b hb => Nat.ne_of_lt (Nat.lt_succ_of_lt (X.fplt b hb))
  have h1D : h1.get? h2.objs.size = none := by
    cases e : h1.get? h2.objs.size with
    | none => rfl
    | some o => exact absurd (Heap.lt_size (X.keep _ _ e)) (Nat.lt_irrefl _)
  have h1C : h1.get? (h2.objs.size + 1) = none := by
    cases e : h1.get? (h2.objs.size + 1) with
    | none => rfl
    | some o => exact absurd (Heap.lt_size (X.keep _ _ e)) (Nat.not_lt.mpr (Nat.le_succ _))
  have CD : h2.objs.size ≠ h2.objs.size + 1 := Nat.ne_of_lt (Nat.lt_succ_self _)
  have loop : codeAny (model c.prog c.w) c.A (.compLoop (.ListComp elt [⟨target, iter, ifs, 0⟩] scope pos) 0 (.ref I) (.ref h2.objs.size) (compEnv scope (h2.objs.size + 1) c.env)) R { s with heap := h4, toks := tk } := by
    refine compLoopT (fun m s' => ∃ h' tk' i ys ep, s' = { s with heap := h', toks := tk' } ∧ i ≤ ds.length ∧ m = ds.length + 1 - i ∧ St i h' ∧ Hd (c.comp scope (h2.objs.size + 1) h1) h' [] ∧
      h'.get? h2.objs.size = some { cls := .type "list", data := .seq (List.toArray ys) ep } ∧ RdAll h' ((ds.take i).filterMap g) ys ∧ NoLs ((ds.take i).filterMap g)) ?_ (ds.length + 1)
      ⟨h4, tk, 0, [], 0, rfl, Nat.zero_le _, rfl, X.W.frame _ _ _ X.st fun b _ o e => k4 b o e, ⟨⟨_, ⟨hns, fun b o e => k4 b o (X.keep b o e), hle⟩, fun x d e => by cases e⟩, trivial, fun hb => nomatch hb⟩, hD, by simp [rdAll_nil], by simp [NoLs]⟩
    rintro m s' ⟨h, tk', i, ys, ep, rfl, hi', rfl, hst, Hg, hDh, rs, nl⟩
    have hwrD : h2.objs.size ∉ wr := fun hb => fpD _ (X.W.sub _ hb) rfl
    have hwrC : h2.objs.size + 1 ∉ wr := fun hb => fpC _ (X.W.sub _ hb) rfl
    have but : ∀ h3, (∀ b o, b ∉ wr → h.get? b = some o → h3.get? b = some o) → Hd (c.comp scope (h2.objs.size + 1) h1) h3 [] ∧ KeepS h h3 := fun h3 hk3 =>
      ⟨Hg.but hk3 X.new hwrC (X.noseq i h hst) (fun b hb => nomatch hb), fun b o xs n e hd => hk3 b o (fun hb => X.noseq i h hst b hb o xs n e hd) e⟩
    by_cases hlt : i < ds.length
    · refine X.W.item i _ _ _ hlt hst fun v' h3 tk3 hP hst3 hk3 => ?_
      refine wpAny_mono (X.go (i + 1) _ target v' (fun _ s' => s' = { s with heap := h3, toks := tk3 }) hst3 rfl) (fun _ s4 e4 => ?_) fun _ _ x => x.elim
      subst e4
      obtain ⟨H3, kS3⟩ := but h3 hk3
      obtain ⟨⟨m3, F3, _⟩, _⟩ := id H3
      obtain ⟨d', hd', rd'⟩ := X.rd i v' h3 hP (fun b o xs n e hd => F3.keep b o e)
      obtain ⟨σ1, as, hb⟩ := step (h2.objs.size + 1) h1 d' (List.mem_of_getElem? hd') okc
      refine as { s with heap := h3, toks := tk3 } v' H3 rd' _ fun h5 tk5 kb5 H5 => ?_
      have kS5 : KeepS h3 h5 := H3.keepS kb5
      have e' : (ds.take (i + 1)).filterMap g = (ds.take i).filterMap g ++ (g d').toList := by
        rw [List.take_add_one, hd', List.filterMap_append]
        cases hgd : g d' <;> simp [hgd]
      have st5 : St (i + 1) h5 := X.W.frame _ _ _ hst3 fun b hb o e => kb5 b o (fpC b hb) e
      have D5 : h5.get? h2.objs.size = some { cls := .type "list", data := .seq (List.toArray ys) ep } := kb5 _ _ CD (hk3 _ _ hwrD hDh)
      have rs5 : RdAll h5 ((ds.take i).filterMap g) ys := RdAll.mono kS5 _ _ (RdAll.mono kS3 _ _ rs)
      cases hgd : g d' with
      | none =>
        rw [hgd] at hb
        refine hb { s with heap := h5, toks := tk5 } H5 _ fun h6 tk6 k6 => ?_
        rw [if_neg (by decide)]
        refine ⟨ds.length + 1 - (i + 1), by omega, h6, tk6, i + 1, ys, ep, rfl, hlt, rfl, X.W.frame _ _ _ st5 fun b _ o e => k6 b o e, (H5.keep k6).none, k6 _ _ D5, ?_, ?_⟩
        · rw [e', hgd]; simpa using rs5.keep k6
        · rw [e', hgd]; simpa using nl
      | some e =>
        rw [hgd] at hb
        obtain ⟨ht, hel, hnl⟩ := hb
        refine ht { s with heap := h5, toks := tk5 } H5 _ fun h6 tk6 k6 => ?_
        rw [if_pos rfl]
        have H6 := H5.keep k6
        refine (hel { s with heap := h6, toks := tk6 } H6).then fun y h7 tk7 k7 r7 => ?_
        have H7 := H6.keep k7
        have D7 := k7 _ _ (k6 _ _ D5)
        have hys : ys.length ≤ sizeLine := by
          have h1 := rs.length
          have h2 := List.length_filterMap_le g (ds.take i)
          have h3 := List.length_take_le i ds
          omega
        refine append_at (s := { s with heap := h7, toks := tk7 }) (n := ep) D7 (fun h8 hs8 D8 => ?_) (by rw [List.size_toArray]; exact hys)
        have kT : KeepT h7 h8 := fun b o e hc => by
          by_cases hb : b = h2.objs.size
          · subst hb; rw [D7] at e; cases e; exact absurd (show Value.type "list" = Value.type "tuple" from hc) (by decide)
          · exact (hs8.2 b hb).trans e
        refine ⟨ds.length + 1 - (i + 1), by omega, h8, tk7, i + 1, ys ++ [y], ep + 1, rfl, hlt, rfl, X.W.frame _ _ _ st5 fun b hb o e => (hs8.2 b (fpD b hb)).trans (k7 _ _ (k6 _ _ e)), ?_, by rw [D8]; simp, ?_, ?_⟩
        · obtain ⟨⟨m7, F7, _⟩, _⟩ := H7
          exact ⟨⟨m7, ⟨F7.ns.at' fun o e => (hs8.2 _ (Ne.symm CD)).trans e, fun b o e => (hs8.2 b fun q => by have e2 : h1.get? b = some o := e; rw [q, h1D] at e2; cases e2).trans (F7.keep b o e), F7.above⟩, fun x d e => by cases e⟩, trivial, fun hb => nomatch hb⟩
        · rw [e', hgd]
          exact NoLs.rd kT _ _ (nl.append (by rw [show (some e).toList = [e] from rfl, NoLs, NoLs]; exact ⟨hnl, trivial⟩)) ((rs5.keep (k6.trans k7)).append (RdAll.single r7))
        · rw [e', hgd]
          exact nl.append (by rw [show (some e).toList = [e] from rfl, NoLs, NoLs]; exact ⟨hnl, trivial⟩)
    · have e : i = ds.length := by omega
      subst e
      refine X.W.done _ _ _ hst fun h3 tk3 hk3 => ?_
      obtain ⟨H3, kS3⟩ := but h3 hk3
      obtain ⟨⟨m3, F3, _⟩, _⟩ := id H3
      rw [List.take_length] at rs
      exact hR h3 tk3 m3 F3.ns F3.keep (rd_list.mpr ⟨_, ys, rfl, ⟨_, hk3 _ _ hwrD hDh, rfl, ep, rfl⟩, RdAll.mono kS3 _ _ rs⟩)
  refine codeAny_compStart_list loop ?_
  exact X.W.self 0 _ _ _ (X.W.frame _ _ _ X.st fun b _ o e => k4 b o e) loop

/-- what is asked of a comprehension's scope -/
def compOk (sc : Scope) : Bool := sc.names.all (fun x => x.2 != .free && x.2 != .cell && (x.2 != .local || sc.names.lookup x.1 == some .local)) && sc.kind == .function
theorem compOk_all {sc : Scope} (h : compOk sc = true) : (∀ x ∈ sc.names, x.2 ≠ .free) ∧ (∀ x ∈ sc.names, x.2 ≠ .cell) ∧ (∀ x ∈ sc.names, x.2 = .local → sc.names.lookup x.1 = some .local) ∧ sc.kind = .function := by
  simp only [compOk, Bool.and_eq_true, List.all_eq_true, beq_iff_eq, Bool.or_eq_true, bne_iff_ne] at h
  refine ⟨fun x hx => (h.1 x hx).1.1, fun x hx => (h.1 x hx).1.2, fun x hx hl => ?_, h.2⟩
  rcases (h.1 x hx).2 with h' | h'
  · exact absurd hl h'
  · exact h'

/-- the list and the frame of a comprehension are made -/
theorem comp_made {scope : Scope} {s : Shared} {h2 : Heap} {tk : Nat} (hc : compOk scope = true) {Q : Value → Env → Shared → Prop}
    (q : ∀ h4 tk4, h4.Ns (h2.objs.size + 1) (fun _ => none) → Keep h2 h4 → h4.get? h2.objs.size = some { cls := .type "list", data := .seq #[] 0 } → Q (.ref h2.objs.size) (compEnv scope (h2.objs.size + 1) c.env) { s with heap := h4, toks := tk4 }) :
    wpAny (model c.prog c.w) c.A (newList []) (fun acc s₃ => wpAny (model c.prog c.w) c.A (newFunctionEnv scope c.env.globals [] [] c.env.qual none .none (some c.env)) (fun cenv s₄ => Q acc { cenv with scope := scope } s₄) (fun _ _ => False) s₃) (fun _ _ => False) { s with heap := h2, toks := tk } := by
  obtain ⟨_, hcell, _, hk⟩ := compOk_all hc
  refine wpAny_newObj_type (hd := by size_fits) (wpAny_newFunctionEnv hcell (by intro y hy; simp at hy) (fun h4 hns hsb => ?_) hk)
  dsimp only at hns hsb ⊢
  have hC : (h2.push { cls := .type "list", dict := none, data := .seq ([] : List Value).toArray }).objs.size = h2.objs.size + 1 := Heap.size_push _ _
  rw [hC] at hns hsb
  have kp : Keep h2 h4 := fun b o e => hsb.extBut b o (Nat.ne_of_lt (Nat.lt_succ_of_lt (Heap.lt_size e))) (Heap.get?_push_of_some _ (Heap.get?_push_of_some _ e))
  have hD0 : (h2.push { cls := .type "list", dict := none, data := .seq ([] : List Value).toArray }).get? h2.objs.size = some { cls := .type "list", dict := none, data := .seq ([] : List Value).toArray } := Heap.get?_push_size _ rfl
  have hD := hsb.extBut h2.objs.size _ (Nat.ne_of_lt (Nat.lt_succ_self _)) (Heap.get?_push_of_some _ hD0)
  have := q h4 (tk + ([] : List (Str × Value)).length) hns kp hD
  rw [← hC] at this
  exact this

theorem Ev.comp {elt target iter : Expr} {ifs : List Expr} {scope : Scope} {pos : Pos} {ds : List D} (g : D → Option D) {k : Nat} (ok : c.Ok k) (hc : compOk scope = true) (hsz : ds.length ≤ sizeLine) (its : Its c σ iter ds)
    (step : ∀ (L : Addr) (h : Heap) d, d ∈ ds → (c.comp scope L h).Ok k → ∃ σ1, Asg (c.comp scope L h) [] target d σ1 ∧
      match g d with
      | some e => Tst (c.comp scope L h) σ1 ifs true ∧ Ev (c.comp scope L h) σ1 elt e ∧ NoL e
      | none => Tst (c.comp scope L h) σ1 ifs false)
    (hs : ∀ x, foldedSetIterable iter c.env x = pure x) : Ev c σ (.ListComp elt [⟨target, iter, ifs, 0⟩] scope pos) (.list (ds.filterMap g)) := fun s H Q q => by
  obtain ⟨hfree, hcell, hnames, hk⟩ := compOk_all hc
  refine wpAny_ListComp hfree hk hnames (its s H _ fun I fp wr P St h1 h2 tk2 k1 X => ?_) hs
  refine comp_made (c := c) (s := s) (h2 := h2) (tk := tk2) hc (Q := fun acc cenv s₄ => codeAny (model c.prog c.w) c.A (.compStart (.ListComp elt [⟨target, iter, ifs, 0⟩] scope pos) 0 (.ref I) acc cenv) (fun r s' => ∃ m, s'.heap.Ns cenv.locals m ∧ ∀ h', Heap.SameBut cenv.locals s'.heap h' →
            match r with | .ok _ => Q acc { s' with heap := h' } | .error x => wpAny (model c.prog c.w) c.A (passOn "comprehension.variables-let-go" x cenv) Q (fun _ _ => False) { s' with heap := h' }) s₄) fun h4 tk4 hns k4 hD => ?_
  refine comp_run (s := s) ok hk hsz X ((H.keep k1).grd ok) hns k4 hD step fun h' tk' m' hm kp rd => ⟨m', hm, fun h5 hs5 => ?_⟩
  have h1C : h1.get? (h2.objs.size + 1) = none := by
    cases e : h1.get? (h2.objs.size + 1) with
    | none => rfl
    | some o => exact absurd (Heap.lt_size (X.keep _ _ e)) (Nat.not_lt.mpr (Nat.le_succ _))
  exact q _ h5 tk' (fun b o e => (hs5.2 b fun q => by have e1 := k1 _ _ e; rw [q] at e1; have e2 : h1.get? (h2.objs.size + 1) = some o := e1; rw [h1C] at e2; cases e2).trans (kp b o (k1 b o e))) (Rd.mono (keepS_of_sameBut hm hs5) _ _ rd)

/-- x = [.. for ..] -/
theorem Ex1.assignComp {x : Str} {px spos : Pos} {elt target iter : Expr} {ifs : List Expr} {scope : Scope} {pos : Pos} {ds : List D} {N : Store → Prop} {Rt : D → Prop} (g : D → Option D) {k : Nat} (ok : c.Ok k) (hx : c.env.kindOf x = some .local) (hc : compOk scope = true) (hsz : ds.length ≤ sizeLine) (its : Its c σ iter ds)
    (step : ∀ (L : Addr) (h : Heap) d, d ∈ ds → (c.comp scope L h).Ok k → ∃ σ1, Asg (c.comp scope L h) [] target d σ1 ∧
      match g d with
      | some e => Tst (c.comp scope L h) σ1 ifs true ∧ Ev (c.comp scope L h) σ1 elt e ∧ NoL e
      | none => Tst (c.comp scope L h) σ1 ifs false)
    (hsw : swapsWith (.ListComp elt [⟨target, iter, ifs, 0⟩] scope pos) (some (.Name x px)) spos.line c.env = pure true)
    (hs : ∀ x, foldedSetIterable iter c.env x = pure x) (hn : N ((x, .list (ds.filterMap g)) :: σ)) : Ex1 c σ (.Assign [.Name x px] (.ListComp elt [⟨target, iter, ifs, 0⟩] scope pos) spos) N Rt := fun s H Q n r => by
  obtain ⟨hfree, hcell, hnames, hk⟩ := compOk_all hc
  rw [exec_Assign_Name_used _ _ _ _ hsw]
  refine wpAny_bind (wpAny_standAt (wpAny_bind ?_))
  show wpAny _ c.A (do let _ ← comprehension (.ListComp elt [⟨target, iter, ifs, 0⟩] scope pos) scope c.env _ (newList []) false (eval iter c.env) (some (PySem.assign (.Name x px) c.env))) _ _ s
  refine wpAny_bind (wpAny_mono (wpAny_comprehension_use (Q := fun _ s' => Q .next s') (E := fun _ _ => False) rfl hs hfree hk hnames (its s H _ fun I fp wr P St h1 h2 tk2 k1 X => ?_))
    (fun _ s' hq => wpAny_pure (wpAny_pure hq)) fun _ _ e => e)
  refine comp_made (c := c) (s := s) (h2 := h2) (tk := tk2) hc (Q := fun acc cenv s₄ => codeAny (model c.prog c.w) c.A (.compStart (.ListComp elt [⟨target, iter, ifs, 0⟩] scope pos) 0 (.ref I) acc cenv) (fun r s' => match r with
          | .ok _ => wpAny (model c.prog c.w) c.A (PySem.assign (.Name x px) c.env acc) (fun _ s'' => ∃ m, s''.heap.Ns cenv.locals m ∧ ∀ h', Heap.SameBut cenv.locals s''.heap h' → Q .next { s'' with heap := h' }) (fun _ _ => False) s'
          | .error x => ∃ m, s'.heap.Ns cenv.locals m ∧ ∀ h', Heap.SameBut cenv.locals s'.heap h' → wpAny (model c.prog c.w) c.A (passOn "comprehension.variables-let-go" x cenv) (fun _ s' => Q .next s') (fun _ _ => False) { s' with heap := h' }) s₄) fun h4 tk4 hns k4 hD => ?_
  have H1 := H.keep k1
  have h1C : h1.get? (h2.objs.size + 1) = none := by
    cases e : h1.get? (h2.objs.size + 1) with
    | none => rfl
    | some o => exact absurd (Heap.lt_size (X.keep _ _ e)) (Nat.not_lt.mpr (Nat.le_succ _))
  have LC : c.env.locals ≠ h2.objs.size + 1 := fun e => by
    obtain ⟨m, o, es, ep, ho, _⟩ := H1.ns
    rw [e, h1C] at ho; cases ho
  refine comp_run (s := s) ok hk hsz X (H1.grd ok) hns k4 hD step fun h' tk' m' hm kp rd => ?_
  refine wpAny_assign_Name (store (s := { s with heap := h', toks := tk' }) ok.kind hx (H1.keep kp) rd fun h5 tk5 kb5 kS5 H5 => ?_)
  have hm5 : h5.Ns (h2.objs.size + 1) m' := hm.at' fun o e => kb5 _ o (Ne.symm LC) e
  refine ⟨m', hm5, fun h6 hs6 => ?_⟩
  have F0 : c.h0.get? (h2.objs.size + 1) = none := by
    obtain ⟨⟨m, F, _⟩, _⟩ := H1
    cases q : c.h0.get? (h2.objs.size + 1) with
    | none => rfl
    | some o => have := F.keep _ o q; rw [h1C] at this; cases this
  refine n _ h6 tk5 hn (fun b o hb e => (hs6.2 b fun q => by have e1 := k1 _ _ e; rw [q] at e1; have e2 : h1.get? (h2.objs.size + 1) = some o := e1; rw [h1C] at e2; cases e2).trans (kb5 b o hb (kp b o (k1 b o e)))) ?_
  refine H5.but (wr := [h2.objs.size + 1]) (fun b o hb e => (hs6.2 b fun q => hb (by rw [q]; exact .head _)).trans e) (fun b hb => by rw [List.mem_singleton.mp hb]; exact F0) (fun hb => LC (List.mem_singleton.mp hb)) (fun b hb o xs n e e' => ?_) (fun b hb hw => ?_)
  · obtain ⟨o2, es, ep, ho2, hd2, _⟩ := hm5
    rw [List.mem_singleton.mp hb, ho2] at e; cases e
    rw [hd2] at e'; cases e'
  · obtain ⟨o, ho⟩ := c.K.there H1.2.1 b hb
    rw [List.mem_singleton.mp hw, h1C] at ho; cases ho
end
end Mine

namespace Mine
/-! cuts at the first and at the last sign -/
def fcut (c : Nat) (l : List Nat) : Option (List Nat × List Nat) := if c ∈ l then some (l.takeWhile (· != c), (l.dropWhile (· != c)).tail) else none
def rcut (c : Nat) (l : List Nat) : Option (List Nat × List Nat) := (fcut c l.reverse).map fun p => (p.2.reverse, p.1.reverse)
theorem fcut_has {c : Nat} {a b : List Nat} (h : c ∉ a) : fcut c (a ++ c :: b) = some (a, b) := by
  have hp : ∀ x ∈ a, (x != c) = true := fun x hx => by simp; rintro rfl; exact h hx
  unfold fcut
  rw [if_pos (by simp), List.takeWhile_append_of_pos hp, List.dropWhile_append_of_pos hp]
  simp
theorem fcut_no {c : Nat} {l : List Nat} (h : c ∉ l) : fcut c l = none := if_neg h
theorem rcut_has {c : Nat} {a b : List Nat} (h : c ∉ b) : rcut c (a ++ c :: b) = some (a, b) := by
  unfold rcut
  rw [show (a ++ c :: b).reverse = b.reverse ++ c :: a.reverse by simp, fcut_has (by simpa using h)]
  simp
theorem rcut_no {c : Nat} {l : List Nat} (h : c ∉ l) : rcut c l = none := by
  unfold rcut
  rw [fcut_no (by simpa using h)]; rfl
theorem fcut_cases (c : Nat) (l : List Nat) : (c ∉ l ∧ fcut c l = none) ∨ ∃ a b, l = a ++ c :: b ∧ c ∉ a ∧ fcut c l = some (a, b) := by
  by_cases h : c ∈ l
  · obtain ⟨a, b, rfl, hn⟩ := mem_first h
    exact .inr ⟨a, b, rfl, hn, fcut_has hn⟩
  · exact .inl ⟨h, fcut_no h⟩
theorem rcut_cases (c : Nat) (l : List Nat) : (c ∉ l ∧ rcut c l = none) ∨ ∃ a b, l = a ++ c :: b ∧ c ∉ b ∧ rcut c l = some (a, b) := by
  by_cases h : c ∈ l
  · obtain ⟨a, b, rfl, hn⟩ := mem_last h
    exact .inr ⟨a, b, rfl, hn, rcut_has hn⟩
  · exact .inl ⟨h, rcut_no h⟩

/-- what the two-part cutters give: both parts where it cuts -/
def cutR (c : Nat) (l : List Nat) : D := match rcut c l with | some (a, b) => .tup [.str (T a), .str (T b)] | none => .tup [.str (T l), .none]
def cutL (c : Nat) (l : List Nat) : D := match fcut c l with | some (a, b) => .tup [.str (T a), .str (T b)] | none => .tup [.str (T l), .none]
def cutU (c : Nat) (l : List Nat) : D := match rcut c l with | some (a, b) => .tup [.str (T a), .str (T b)] | none => .tup [.none, .str (T l)]

/-! the first of some signs, from a place on -/
open StrLaws Builtin.Str in
theorem find3_eq (l : List Nat) (c : Nat) (i : Int) : Txt.find3 (T l) (ch c) i =
    if c ∈ l.drop (fromIndex l.length i) then ((fromIndex l.length i + ((l.drop (fromIndex l.length i)).takeWhile (· != c)).length : Nat) : Int) else -1 := by
  generalize hlo : fromIndex l.length i = lo
  by_cases hle : lo ≤ l.length
  · have e : l = l.take lo ++ l.drop lo := (List.take_append_drop lo l).symm
    have hp : (l.take lo).length = lo := by rw [List.length_take]; omega
    by_cases h : c ∈ l.drop lo
    · rw [if_pos h]
      obtain ⟨a, b, hab, hn⟩ := mem_first h
      have hw : (l.drop lo).takeWhile (· != c) = a := by
        have hp : ∀ x ∈ a, (x != c) = true := fun x hx => by simp; rintro rfl; exact hn hx
        rw [hab, List.takeWhile_append_of_pos hp]; simp
      rw [hw]
      have := find3_has (p := l.take lo) (a := a) (b := b) (c := c) (i := i) (by rw [hp, List.append_assoc, ← hab, List.take_append_drop]; exact hlo) hn
      rw [List.append_assoc, ← hab, List.take_append_drop] at this
      rw [this]; simp [hp]
    · rw [if_neg h]
      have := find3_no (p := l.take lo) (b := l.drop lo) (c := c) (i := i) (by rw [hp, List.take_append_drop]; exact hlo) h
      rwa [List.take_append_drop] at this
  · rw [List.drop_of_length_le (by omega), if_neg (by simp)]
    unfold Txt.find3
    rw [T_len, hlo]
    rcases occ_head_from (T l) (ch c) lo 1 (Nat.le_refl 1) with ⟨h0, _⟩ | ⟨k, r, h0, h1, h2, _⟩
    · rw [T_len] at h0; rw [h0]
    · have := (List.getElem?_eq_some_iff.mp (at_T.mp h2)).1; omega
theorem takeWhile_and {α : Type} (p q : α → Bool) : ∀ l : List α, (l.takeWhile fun x => p x && q x).length = min (l.takeWhile p).length (l.takeWhile q).length
  | [] => by simp
  | x :: l => by
    have := takeWhile_and p q l
    simp only [List.takeWhile_cons]
    cases p x <;> cases q x <;> simp [this]
theorem takeWhile_all {α : Type} {p : α → Bool} {l : List α} (h : ∀ x ∈ l, p x = true) : l.takeWhile p = l := by
  have := List.takeWhile_append_of_pos (p := p) (l₂ := []) h
  simpa using this
/-- the place where the netloc ends -/
def nlAt (S : List Nat) (l : List Nat) (lo : Nat) : Nat := if lo ≤ l.length then lo + ((l.drop lo).takeWhile fun x => !S.contains x).length else l.length
theorem nlAt_nil (l : List Nat) (lo : Nat) : nlAt [] l lo = l.length := by
  unfold nlAt
  split
  · rw [takeWhile_all (by simp)]; simp; omega
  · rfl
theorem nlAt_cons (S : List Nat) (c : Nat) (l : List Nat) (lo : Nat) : nlAt (S ++ [c]) l lo = if c ∈ l.drop lo then min (nlAt S l lo) (lo + ((l.drop lo).takeWhile (· != c)).length) else nlAt S l lo := by
  unfold nlAt
  have e : (fun x => !(S ++ [c]).contains x) = fun x => (!S.contains x) && (x != c) := by
    funext x
    by_cases h : x = c
    · subst h; simp
    · simp [h]
  rw [e]
  by_cases h1 : lo ≤ l.length
  · rw [if_pos h1, if_pos h1, takeWhile_and]
    split
    · omega
    · rename_i h
      have : (l.drop lo).takeWhile (· != c) = l.drop lo := takeWhile_all fun x hx => by simp; rintro rfl; exact h hx
      rw [this]
      have := (List.takeWhile_sublist (l := l.drop lo) (fun x => !S.contains x)).length_le
      rw [Nat.min_eq_left this]
  · rw [if_neg h1, if_neg h1, List.drop_of_length_le (by omega)]
    simp

theorem Aso.nil {c : C} {σ : Store} : Aso c σ [] [] σ := by rw [Aso]
theorem Aso.cons {c : C} {σ σ' : Store} {x : Str} {px : Pos} {ts : List (Value → Sem Unit)} {d : D} {ds : List D} (hx : c.env.kindOf x = some .local) (h : Aso c ((x, d) :: σ) ts ds σ') : Aso c σ (assign (.Name x px) c.env :: ts) (d :: ds) σ' := by
  rw [Aso]; exact ⟨x, hx, ⟨px, rfl⟩, h⟩
theorem rpart_cut (c : Nat) (l : List Nat) : Txt.rpartition (T l) (ch c) = match rcut c l with | some (a, b) => (T a, ch c, T b) | none => (Str.empty, Str.empty, T l) := by
  rcases rcut_cases c l with ⟨h, e⟩ | ⟨a, b, rfl, h, e⟩
  · rw [e, rpart_no h]
  · rw [e, rpart_has h]
theorem part_cut (c : Nat) (l : List Nat) : Txt.partition (T l) (ch c) = match fcut c l with | some (a, b) => (T a, ch c, T b) | none => (T l, Str.empty, Str.empty) := by
  rcases fcut_cases c l with ⟨h, e⟩ | ⟨a, b, rfl, h, e⟩
  · rw [e, part_no h]
  · rw [e, part_has h]
theorem tru_ch {c : C} {n : Nat} : Tru c (.str (ch n)) true := by
  have := Tru.str (c := c) (x := ch n) (by show 1 < 2 ^ 63; decide)
  rwa [show decide (ch n ≠ Str.empty) = true from decide_eq_true (T_ne_empty (l := [n]) |>.mpr (by simp))] at this
theorem tru_empty {c : C} : Tru c (.str Str.empty) false := by
  have := Tru.str (c := c) (x := Str.empty) (by decide)
  rwa [show decide (Str.empty ≠ Str.empty) = false by simp] at this

theorem Bsp.min2 {c : C} {k : Nat} (ok : c.Ok k) {a b : Int} : Bsp c "min" [.int a, .int b] (.int (min a b)) := fun s vs _ r Q q => by
  obtain ⟨v, u, rfl, r1, r2⟩ := rdAll_two r
  obtain ⟨t, rfl⟩ := rd_int.mp r1
  obtain ⟨t', rfl⟩ := rd_int.mp r2
  refine min_two_ints ok.rm.handled fun h' tk hk => q _ h' tk hk ?_
  by_cases h : b < a
  · rw [if_pos h, Int.min_eq_right (by omega)]; exact rd_int.mpr ⟨_, rfl⟩
  · rw [if_neg h, Int.min_eq_left (by omega)]; exact rd_int.mpr ⟨_, rfl⟩
/-- a tuple of defaults stands in the ground -/
def DfAt (G : Grd) (T : Addr) (items : List Value) : Prop := ∀ h : Heap, G.At h → ∃ o n, h.get? T = some o ∧ o.data = .seq (List.toArray items) n
theorem Fsp.dflt {p : Program} {w : World} {G : Grd} {k i : Nat} {f dT : Addr} {kV doc pm : Value} {an : Option Addr} {cdv ct : Value} {d1 d2 d : D} {x y : Str} {dv : Value} (fa : FnAt G f (fdOf p i (.ref dT) kV doc pm an cdv ct)) (hs : scopeOk (nth p i).2.2.2 = true) (df : DfAt G dT [dv]) (hdv : ∀ h, Rd h d2 dv)
    {kb : Value → Option (Array Value) → Sem (List (Str × Value))} (hbind : ∀ v, bindArgs (fdOf p i (.ref dT) kV doc pm an cdv ct) ⟨[v], []⟩ = seqItems? (.ref dT) >>= kb v) (hkb : ∀ v, kb v (some #[dv]) = pure [(x, v), (y, dv)])
    (hx : (nth p i).2.2.2.names.lookup x = some .local) (hy : (nth p i).2.2.2.names.lookup y = some .local) (hxy : (y == x) = false)
    (run : ∀ (A : Around) (L : Addr) (h0 : Heap), C.Ok ⟨p, w, G, A, callEnv (fdOf p i (.ref dT) kV doc pm an cdv ct) L f, h0, Kf.none⟩ k →
      Ex ⟨p, w, G, A, callEnv (fdOf p i (.ref dT) kV doc pm an cdv ct) L f, h0, Kf.none⟩ [(x, d1), (y, d2)] (nth p i).2.2.1 (fun _ => d = .none) (fun d' => d' = d)) : Fsp p w G (k + 1) (.ref f) [d1] d := by
  refine Fsp.of (σ₀ := [(x, d1), (y, d2)]) fa rfl (scopeOk_cell hs) (scopeOk_co hs) (scopeOk_gen hs) (scopeOk_kind hs) rfl rfl ?_ ?_
  · intro s vs g r
    obtain ⟨v, rfl, r1⟩ := rdAll_one r
    obtain ⟨o, n, ho, hd⟩ := df _ g
    refine ⟨[(x, v), (y, dv)], BindsTo.of_defaults rfl ho hd (hbind v) (hkb v), fun z hz => ?_, fun z d' e => ?_⟩
    · rcases List.mem_cons.mp hz with rfl | hz
      · exact hx
      · rw [List.mem_singleton.mp hz]; exact hy
    · show ∃ t, [(y, dv), (x, v)].lookup z = some t ∧ _
      rw [List.lookup_cons, List.lookup_cons] at e
      rw [List.lookup_cons, List.lookup_cons]
      cases hz : z == x with
      | true =>
        rw [hz] at e; cases e
        have : z = x := by simpa using hz
        subst this
        have : (z == y) = false := by
          cases q : z == y with
          | false => rfl
          | true => have : z = y := by simpa using q
                    subst this; simp at hxy
        rw [this]; exact ⟨v, rfl, r1⟩
      | false =>
        rw [hz] at e
        cases hz' : z == y with
        | true => rw [hz'] at e; cases e; exact ⟨dv, rfl, hdv _⟩
        | false => rw [hz'] at e; cases e
  · intro A L h0 rm g
    exact run A L h0 ⟨scopeOk_kind hs, rfl, rfl, g, rm⟩
/-- the default is there, but both arguments are given -/
theorem Fsp.dflt2 {p : Program} {w : World} {G : Grd} {k i : Nat} {f dT : Addr} {kV doc pm : Value} {an : Option Addr} {cdv ct : Value} {d1 d2 d : D} {x y : Str} {dv : Value} (fa : FnAt G f (fdOf p i (.ref dT) kV doc pm an cdv ct)) (hs : scopeOk (nth p i).2.2.2 = true) (df : DfAt G dT [dv])
    {kb : Value → Value → Option (Array Value) → Sem (List (Str × Value))} (hbind : ∀ v u, bindArgs (fdOf p i (.ref dT) kV doc pm an cdv ct) ⟨[v, u], []⟩ = seqItems? (.ref dT) >>= kb v u) (hkb : ∀ v u, kb v u (some #[dv]) = pure [(x, v), (y, u)])
    (hx : (nth p i).2.2.2.names.lookup x = some .local) (hy : (nth p i).2.2.2.names.lookup y = some .local) (hxy : (y == x) = false)
    (run : ∀ (A : Around) (L : Addr) (h0 : Heap), C.Ok ⟨p, w, G, A, callEnv (fdOf p i (.ref dT) kV doc pm an cdv ct) L f, h0, Kf.none⟩ k →
      Ex ⟨p, w, G, A, callEnv (fdOf p i (.ref dT) kV doc pm an cdv ct) L f, h0, Kf.none⟩ [(x, d1), (y, d2)] (nth p i).2.2.1 (fun _ => d = .none) (fun d' => d' = d)) : Fsp p w G (k + 1) (.ref f) [d1, d2] d := by
  refine Fsp.of (σ₀ := [(x, d1), (y, d2)]) fa rfl (scopeOk_cell hs) (scopeOk_co hs) (scopeOk_gen hs) (scopeOk_kind hs) rfl rfl ?_ ?_
  · intro s vs g r
    obtain ⟨v, u, rfl, r1, r2⟩ := rdAll_two r
    obtain ⟨o, n, ho, hd⟩ := df _ g
    refine ⟨[(x, v), (y, u)], BindsTo.of_defaults rfl ho hd (hbind v u) (hkb v u), fun z hz => ?_, fun z d' e => ?_⟩
    · rcases List.mem_cons.mp hz with rfl | hz
      · exact hx
      · rw [List.mem_singleton.mp hz]; exact hy
    · show ∃ t, [(y, u), (x, v)].lookup z = some t ∧ _
      rw [List.lookup_cons, List.lookup_cons] at e
      rw [List.lookup_cons, List.lookup_cons]
      cases hz : z == x with
      | true =>
        rw [hz] at e; cases e
        have : z = x := by simpa using hz
        subst this
        have : (z == y) = false := by
          cases q : z == y with
          | false => rfl
          | true => have : z = y := by simpa using q
                    subst this; simp at hxy
        rw [this]; exact ⟨v, rfl, r1⟩
      | false =>
        rw [hz] at e
        cases hz' : z == y with
        | true => rw [hz'] at e; cases e; exact ⟨u, rfl, r2⟩
        | false => rw [hz'] at e; cases e
  · intro A L h0 rm g
    exact run A L h0 ⟨scopeOk_kind hs, rfl, rfl, g, rm⟩
end Mine

namespace Mine
section
variable {c : C} {σ : Store}
/-- int(x) of a text of figures -/
theorem Tsp.int {x : Str} {n : Int} (hn : PySem.intText? x = some n) (hl : x.length ≤ 640) : Tsp c "int" [.str x] (.int n) := fun s vs _ r Q q => by
  obtain ⟨v, rfl, r1⟩ := rdAll_one r
  obtain ⟨t, rfl⟩ := rd_str.mp r1
  exact KIN.call_text hn hl (q _ s.heap _ (Keep.refl _) (rd_int.mpr ⟨_, rfl⟩))
theorem Tsp.tuple {ds : List D} (h : ds.length ≤ sizeLine) : Tsp c "tuple" [.list ds] (.tup ds) := fun s vs _ r Q q => by
  obtain ⟨v, rfl, r1⟩ := rdAll_one r
  obtain ⟨a, us, rfl, hl, rs⟩ := rd_list.mp r1
  refine call_tuple_list hl (fun h' hk => q (.ref h'.objs.size) _ s.toks ?_ ?_) (by rw [List.size_toArray, rs.length]; exact h)
  · exact Keep.trans (h' := h') (fun b o e => hk b o e) (keep_push _ _)
  · exact rd_tup.mpr ⟨_, us, rfl, ⟨_, Heap.get?_push_size _ rfl, rfl, 0, rfl⟩, (rs.keep fun b o e => hk b o e).keep (keep_push _ _)⟩
theorem Bsp.isTuple {ds : List D} : Bsp c "isinstance" [.tup ds, .val (.type "tuple")] (.bool true) := fun s vs _ r Q q => by
  obtain ⟨v, u, rfl, r1, r2⟩ := rdAll_two r
  obtain ⟨a, us, rfl, ⟨o, ho, hc, hd⟩, rs⟩ := rd_tup.mp r1
  rw [rd_val] at r2; subst r2
  exact call_isinstance_yes (⟨o, ho, hc⟩) rfl F.sub_tuple_tuple (q _ s.heap s.toks (Keep.refl _) (rd_bool.mpr rfl))
def isNone : D → Bool
  | .none => true
  | _ => false
theorem Cmp.is_none {d : D} (hd : ∀ v, d ≠ .val v) : Cmp c .Is d .none (isNone d) := fun s v1 v2 r1 r2 => by
  rw [rd_none] at r2; subst r2
  refine gv_pure fun Q k => ?_
  cases d with
  | none => rw [rd_none] at r1; subst r1; exact wpAny_is_plain rfl (k _ s.toks (rd_bool.mpr rfl))
  | bool b => rw [rd_bool] at r1; subst r1; exact wpAny_is_plain rfl (k _ s.toks (rd_bool.mpr rfl))
  | int b => obtain ⟨t, rfl⟩ := rd_int.mp r1; exact wpAny_is_plain rfl (k _ s.toks (rd_bool.mpr rfl))
  | str b => obtain ⟨t, rfl⟩ := rd_str.mp r1; exact wpAny_is_plain rfl (k _ s.toks (rd_bool.mpr rfl))
  | list b => obtain ⟨t, _, rfl, _⟩ := rd_list.mp r1; exact wpAny_is_plain rfl (k _ s.toks (rd_bool.mpr rfl))
  | tup b => obtain ⟨t, _, rfl, _⟩ := rd_tup.mp r1; exact wpAny_is_plain rfl (k _ s.toks (rd_bool.mpr rfl))
  | val v => exact absurd rfl (hd v)
theorem Cmp.isnot_none {d : D} (hd : ∀ v, d ≠ .val v) : Cmp c .IsNot d .none (!isNone d) := fun s v1 v2 r1 r2 => by
  rw [rd_none] at r2; subst r2
  refine gv_pure fun Q k => ?_
  cases d with
  | none => rw [rd_none] at r1; subst r1; exact wpAny_isNot_plain rfl (k _ s.toks (rd_bool.mpr rfl))
  | bool b => rw [rd_bool] at r1; subst r1; exact wpAny_isNot_plain rfl (k _ s.toks (rd_bool.mpr rfl))
  | int b => obtain ⟨t, rfl⟩ := rd_int.mp r1; exact wpAny_isNot_plain rfl (k _ s.toks (rd_bool.mpr rfl))
  | str b => obtain ⟨t, rfl⟩ := rd_str.mp r1; exact wpAny_isNot_plain rfl (k _ s.toks (rd_bool.mpr rfl))
  | list b => obtain ⟨t, _, rfl, _⟩ := rd_list.mp r1; exact wpAny_isNot_plain rfl (k _ s.toks (rd_bool.mpr rfl))
  | tup b => obtain ⟨t, _, rfl, _⟩ := rd_tup.mp r1; exact wpAny_isNot_plain rfl (k _ s.toks (rd_bool.mpr rfl))
  | val v => exact absurd rfl (hd v)
theorem Bin.pow_int {a n : Int} (hn : 0 ≤ n) (hn2 : n ≤ 1000000) (ha : a.natAbs < 2 ^ 64) : Bin c .Pow (.int a) (.int n) (.int (a ^ n.toNat)) := fun s v1 v2 r1 r2 => by
  obtain ⟨t, rfl⟩ := rd_int.mp r1
  obtain ⟨u, rfl⟩ := rd_int.mp r2
  exact gv_pure fun Q k => pow_int_small hn hn2 ha (k _ _ (rd_int.mpr ⟨_, rfl⟩))
end

/-! a text of figures -/
def dgs (l : List Nat) : Bool := l.all fun c => decide (48 ≤ c) && decide (c ≤ 57)
theorem dgs_all {l : List Nat} (h : dgs l = true) : NumText.AllDigits l := fun c hc => by
  have := List.all_eq_true.mp h c hc
  simpa using this
theorem dig128 : ∀ c, c < 128 → Unicode.isDigit c = (decide (48 ≤ c) && decide (c ≤ 57)) := by decide +kernel
theorem dig_ascii {l : List Nat} (hne : l ≠ []) : (Txt.isdigit (T l) && (Txt.isascii (T l) && true)) = dgs l := by
  have e1 : Txt.isdigit (T l) = l.all Unicode.isDigit := by
    unfold Txt.isdigit
    have : (T l).length > 0 := by rw [T_len]; exact List.length_pos_iff.mpr hne
    rw [decide_eq_true this]; simp
  have e2 : Txt.isascii (T l) = l.all fun c => decide (c < 128) := by
    unfold Txt.isascii; simp
  rw [e1, e2, Bool.and_true]
  unfold dgs
  rw [Bool.eq_iff_iff]
  simp only [Bool.and_eq_true, List.all_eq_true, decide_eq_true_eq]
  constructor
  · rintro ⟨h1, h2⟩ c hc
    have := h1 c hc
    rw [dig128 c (h2 c hc)] at this
    simpa using this
  · intro h
    refine ⟨fun c hc => ?_, fun c hc => by have := h c hc; omega⟩
    have := h c hc
    rw [dig128 c (by omega)]; simpa using this
def portD (l : List Nat) : D := if dgs l then .int (NumText.digitsVal l : Nat) else .none
theorem int_T {l : List Nat} (h : dgs l = true) (hne : l ≠ []) (hl : l.length ≤ 640) : PySem.intText? (T l) = some ((NumText.digitsVal l : Nat) : Int) :=
  intText_digits (x := T l) (dgs_all h) hne (by rw [T_len]; omega)
/-- what _splitnport gives -/
def nportD (l : List Nat) (df : D) : D := match rcut 58 l with
  | none => .tup [.str (T l), df]
  | some (a, b) => .tup [.str (T a), if b = [] then df else portD b]
end Mine

namespace Mine
theorem join_nil : ∀ ps : List (List Nat), Txt.join Str.empty (ps.map T) = T ps.flatten := by
  intro ps
  unfold Txt.join
  rw [StrLaws.glued_eq_join]
  induction ps with
  | nil => rfl
  | cons a r ih =>
    cases r with
    | nil => show T a = _; simp
    | cons b r =>
      show T a ++ Str.empty ++ Str.join Str.empty ((b :: r).map T) = _
      rw [ih, Str.append_empty, T_app]
      simp
theorem joinOk0 {X : List Str} (h1 : X.length ≤ 1001) (h2 : ∀ q ∈ X, q.length ≤ 1000) : JoinOk Str.empty X = true := by
  unfold JoinOk
  rw [StrLaws.joinFits (B := 1000)]
  · rfl
  · exact h2
  · rw [show Str.empty.length = 0 from rfl]; omega
theorem has_one (S : List Nat) (n : Nat) : has (T S) (ch n) = decide (n ∈ S) := has_T
theorem rngD_get {a b : Int} {i : Nat} {d : D} (h : (rngD a b)[i]? = some d) : (i : Int) < b - a ∧ d = .int (a + i) := by
  unfold rngD at h
  rw [List.getElem?_map] at h
  cases e : (List.range (b - a).toNat)[i]? with
  | none => rw [e] at h; cases h
  | some j =>
    rw [e] at h
    obtain ⟨h1, h2⟩ := List.getElem?_eq_some_iff.mp e
    simp at h1 h2
    subst h2
    cases h
    exact ⟨by omega, rfl⟩
theorem rngD_len (a b : Int) : (rngD a b).length = (b - a).toNat := by simp [rngD]
def blk (l : List Stmt) (i : Nat) (b : Bool) : List Stmt := match l[i]? with
  | some (.If _ x y _) => if b then x else y
  | some (.For _ _ x _ _) => x
  | _ => []
/-- data of one piece -/
structure Atm (d : D) : Prop where
  p : Pln d = true
  z : dep d = 0
theorem Atm.str {l : List Nat} (h : ∀ n ∈ l, n < 1114112) : Atm (.str (T l)) := ⟨by rw [Pln]; simpa using h, rfl⟩
theorem Atm.none : Atm .none := ⟨rfl, rfl⟩
theorem Atm.int {n : Int} : Atm (.int n) := ⟨rfl, rfl⟩
theorem pln_pair {a b : D} (ha : Atm a) (hb : Atm b) : Pln (.tup [a, b]) = true ∧ dep (.tup [a, b]) ≤ 64 := by
  simp only [Pln, Plns, dep, deps, ha.p, hb.p, ha.z, hb.z]; decide
section
variable {c : C} {k : Nat}
theorem Cmp.ne_pair {a b : D} (rm : Rm c.A k) (ha : Atm a) (hb : Atm b) : Cmp c .NotEq (.tup [a, b]) (.tup [a, b]) false := Cmp.ne_same rm (pln_pair ha hb).1 (pln_pair ha hb).2
theorem Cmp.eq_pair {a b : D} (rm : Rm c.A k) (ha : Atm a) (hb : Atm b) : Cmp c .Eq (.tup [a, b]) (.tup [a, b]) true := Cmp.eq_same rm (pln_pair ha hb).1 (pln_pair ha hb).2
end
theorem sub_cp {l x : List Nat} (h : ∀ n ∈ l, n < 1114112) (hs : ∀ n ∈ x, n ∈ l) : ∀ n ∈ x, n < 1114112 := fun n hn => h n (hs n hn)
theorem cutL_has {c : Nat} {a b : List Nat} (h : c ∉ a) : cutL c (a ++ c :: b) = .tup [.str (T a), .str (T b)] := by unfold cutL; rw [fcut_has h]
theorem cutL_no {c : Nat} {l : List Nat} (h : c ∉ l) : cutL c l = .tup [.str (T l), .none] := by unfold cutL; rw [fcut_no h]
theorem cutU_has {c : Nat} {a b : List Nat} (h : c ∉ b) : cutU c (a ++ c :: b) = .tup [.str (T a), .str (T b)] := by unfold cutU; rw [rcut_has h]
theorem cutU_no {c : Nat} {l : List Nat} (h : c ∉ l) : cutU c l = .tup [.none, .str (T l)] := by unfold cutU; rw [rcut_no h]
theorem cutR_has {c : Nat} {a b : List Nat} (h : c ∉ b) : cutR c (a ++ c :: b) = .tup [.str (T a), .str (T b)] := by unfold cutR; rw [rcut_has h]
theorem cutR_no {c : Nat} {l : List Nat} (h : c ∉ l) : cutR c l = .tup [.str (T l), .none] := by unfold cutR; rw [rcut_no h]
theorem nport_has {a b : List Nat} {df : D} (h : 58 ∉ b) : nportD (a ++ 58 :: b) df = .tup [.str (T a), if b = [] then df else portD b] := by unfold nportD; rw [rcut_has h]
theorem nport_no {l : List Nat} {df : D} (h : 58 ∉ l) : nportD l df = .tup [.str (T l), df] := by unfold nportD; rw [rcut_no h]
theorem Atm.port (l : List Nat) : Atm (portD l) := by
  unfold portD; split
  · exact Atm.int
  · exact Atm.none
theorem bits_le {n : Int} {k : Nat} (h : n.natAbs < 2 ^ k) : Builtin.Int.intBits n ≤ k := by
  unfold Builtin.Int.intBits
  split
  · exact Nat.zero_le _
  · rename_i h0
    have hp : n.natAbs ≠ 0 := by simp at h0; omega
    have : n.natAbs.log2 < k := (Nat.log2_lt hp).mpr h
    omega
theorem dv_foldl : ∀ (l : List Nat) (a : Nat), l.foldl (fun acc c => acc * 10 + (c - 48)) a = a * 10 ^ l.length + NumText.digitsVal l
  | [], a => by simp [NumText.digitsVal]
  | c :: l, a => by
    show l.foldl _ (a * 10 + (c - 48)) = _
    have e : NumText.digitsVal (c :: l) = l.foldl (fun acc c => acc * 10 + (c - 48)) (0 * 10 + (c - 48)) := rfl
    rw [dv_foldl l, e, dv_foldl l, List.length_cons, Nat.pow_succ]
    simp only [Nat.add_mul, Nat.zero_mul, Nat.zero_add]
    rw [Nat.mul_assoc, Nat.mul_comm 10, Nat.add_assoc]
theorem dv_app (a b : List Nat) : NumText.digitsVal (a ++ b) = NumText.digitsVal a * 10 ^ b.length + NumText.digitsVal b := by
  unfold NumText.digitsVal
  rw [List.foldl_append, dv_foldl b]; rfl
theorem dv_lt : ∀ {l : List Nat}, dgs l = true → NumText.digitsVal l < 10 ^ l.length
  | [], _ => by decide
  | c :: l, h => by
    have hh := dgs_all h
    have h' : dgs l = true := by
      unfold dgs at h ⊢; simp only [List.all_cons, Bool.and_eq_true] at h; exact h.2
    have := dv_lt h'
    have hc := hh c (.head _)
    rw [show c :: l = [c] ++ l from rfl, dv_app]
    have e : NumText.digitsVal [c] = c - 48 := by simp [NumText.digitsVal]
    rw [e, List.length_append, List.length_singleton, Nat.pow_add, Nat.pow_one]
    have : (c - 48) * 10 ^ l.length ≤ 9 * 10 ^ l.length := Nat.mul_le_mul_right _ (by omega)
    omega
theorem dgs_app (a b : List Nat) : dgs (a ++ b) = (dgs a && dgs b) := by simp [dgs]
end Mine

namespace Mine
/-! a dict of the frame's own: texts as keys, flat data as values -/
abbrev Ent := List (Str × D)
def DR : Ent → List (Str × Value) → Prop
  | [], [] => True
  | (k, d) :: E, (k', v) :: kvs => k' = k ∧ Flat d ∧ (∀ h, Rd h d v) ∧ DR E kvs
  | _, _ => False
theorem DR.len : ∀ {E : Ent} {kvs : List (Str × Value)}, DR E kvs → kvs.length = E.length
  | [], [], _ => rfl
  | _ :: _, _ :: _, h => by simp [DR.len h.2.2.2]
  | [], _ :: _, h => h.elim
  | _ :: _, [], h => h.elim
def stE (E : Ent) (k : Str) (d : D) : Ent := if E.any (fun p => decide (p.1 = k)) then E.map (fun p => if p.1 = k then (p.1, d) else p) else E ++ [(k, d)]
def woE (E : Ent) (k : Str) : Ent := E.filter fun p => decide (p.1 ≠ k)
def atE (E : Ent) (k : Str) : Option D := (E.find? fun p => decide (p.1 = k)).map (·.2)
theorem DR.any : ∀ {E : Ent} {kvs : List (Str × Value)} (k : Str), DR E kvs → kvs.any (fun p => decide (p.1 = k)) = E.any fun p => decide (p.1 = k)
  | [], [], _, _ => rfl
  | (a, d) :: E, (b, v) :: kvs, k, h => by
    have := DR.any k h.2.2.2
    obtain ⟨rfl, _⟩ := h
    simp only [List.any_cons, this]
  | [], _ :: _, _, h => h.elim
  | _ :: _, [], _, h => h.elim
theorem DR.map : ∀ {E : Ent} {kvs : List (Str × Value)} {k : Str} {d : D} {v : Value}, DR E kvs → Flat d → (∀ h, Rd h d v) → DR (E.map fun p => if p.1 = k then (p.1, d) else p) (kvs.map fun p => if p.1 = k then (p.1, v) else p)
  | [], [], _, _, _, _, _, _ => trivial
  | (a, d) :: E, (b, v) :: kvs, k, d', v', h, f, r => by
    have ih := DR.map (k := k) h.2.2.2 f r
    obtain ⟨rfl, f1, r1, _⟩ := h
    simp only [List.map_cons]
    by_cases e : b = k
    · rw [if_pos e, if_pos e]; exact ⟨rfl, f, r, ih⟩
    · rw [if_neg e, if_neg e]; exact ⟨rfl, f1, r1, ih⟩
  | [], _ :: _, _, _, _, h, _, _ => h.elim
  | _ :: _, [], _, _, _, h, _, _ => h.elim
theorem DR.snoc : ∀ {E : Ent} {kvs : List (Str × Value)} {k : Str} {d : D} {v : Value}, DR E kvs → Flat d → (∀ h, Rd h d v) → DR (E ++ [(k, d)]) (kvs ++ [(k, v)])
  | [], [], _, _, _, _, f, r => ⟨rfl, f, r, trivial⟩
  | (a, d) :: E, (b, v) :: kvs, k, d', v', h, f, r => ⟨h.1, h.2.1, h.2.2.1, DR.snoc h.2.2.2 f r⟩
  | [], _ :: _, _, _, _, h, _, _ => h.elim
  | _ :: _, [], _, _, _, h, _, _ => h.elim
theorem DR.stored {E : Ent} {kvs : List (Str × Value)} {k : Str} {d : D} {v : Value} (h : DR E kvs) (f : Flat d) (r : ∀ h, Rd h d v) : DR (stE E k d) (PySem.stored kvs k v) := by
  unfold stE PySem.stored
  rw [h.any k]
  split
  · exact h.map f r
  · exact h.snoc f r
theorem DR.without : ∀ {E : Ent} {kvs : List (Str × Value)} (k : Str), DR E kvs → DR (woE E k) (PySem.without kvs k)
  | [], [], _, _ => trivial
  | (a, d) :: E, (b, v) :: kvs, k, h => by
    have ih := DR.without k h.2.2.2
    obtain ⟨rfl, f1, r1, _⟩ := h
    unfold woE PySem.without at ih ⊢
    simp only [List.filter_cons]
    by_cases e : b = k
    · rw [decide_eq_false (by simpa using e)]; exact ih
    · rw [decide_eq_true e]; exact ⟨rfl, f1, r1, ih⟩
  | [], _ :: _, _, h => h.elim
  | _ :: _, [], _, h => h.elim
theorem DR.at : ∀ {E : Ent} {kvs : List (Str × Value)} (k : Str), DR E kvs → (valueAt kvs k = none ∧ atE E k = none) ∨ ∃ v d, valueAt kvs k = some v ∧ atE E k = some d ∧ Flat d ∧ ∀ h, Rd h d v
  | [], [], _, _ => .inl ⟨rfl, rfl⟩
  | (a, d) :: E, (b, v) :: kvs, k, h => by
    have ih := DR.at k h.2.2.2
    obtain ⟨rfl, f1, r1, _⟩ := h
    unfold valueAt atE at ih ⊢
    simp only [List.find?_cons]
    by_cases e : b = k
    · rw [decide_eq_true e]; exact .inr ⟨v, d, rfl, rfl, f1, r1⟩
    · rw [decide_eq_false e]; exact ih
  | [], _ :: _, _, h => h.elim
  | _ :: _, [], _, h => h.elim
def dictK (prog : Program) (w : World) (a : Addr) (E : Ent) : Kf where
  P h := (a == sysModules) = false ∧ ∃ kvs, h.DictOf (PySem.strKind prog w) a kvs ∧ DR E kvs
  fp := [a]
  frame := fun ⟨lo, kvs, hd, r⟩ k => ⟨lo, kvs, hd.at fun o e => k a (.head _) o e, r⟩
  there := fun ⟨_, kvs, ⟨o, _, _, ho, _⟩, _⟩ b hb => by rw [List.mem_singleton.mp hb]; exact ⟨o, ho⟩
section
variable {c : C} {σ : Store} {N : Kf → Store → Prop} {Rt : D → Prop} {a : Addr} {E : Ent}
theorem Hd.changeD {E' : Ent} {h h' : Heap} (H : Hd (c.on (dictK c.prog c.w a E)) h σ) (h0 : c.h0.get? a = Option.none) (hs : Heap.SameBut a h h') (hP : (dictK c.prog c.w a E').P h') :
    Hd (c.on (dictK c.prog c.w a E')) h' σ := by
  obtain ⟨_, kvs, ⟨o', es, ep, ho', _, hdat, _⟩, _⟩ := id H.2.1
  obtain ⟨⟨m, F, f⟩, K, nL⟩ := H
  have hL : c.env.locals ≠ a := fun e => nL (by rw [show (c.on (dictK c.prog c.w a E)).env.locals = c.env.locals from rfl, e]; exact .head _)
  have kS : KeepS h h' := fun b o xs n e hd => (hs.2 b fun q => by rw [q, ho'] at e; cases e; rw [hdat] at hd; cases hd).trans e
  refine ⟨⟨m, ⟨F.ns.at' fun o e => (hs.2 _ hL).trans e, fun b o e => (hs.2 b fun q => by have e' : c.h0.get? b = some o := e; rw [q, h0] at e'; cases e').trans (F.keep b o e), F.above⟩, fun x d e => ?_⟩, hP, nL⟩
  obtain ⟨v, x1, x2⟩ := f x d e
  exact ⟨v, x1, Rd.mono kS d v x2⟩
theorem flat_all {h : Heap} {d : D} {v : Value} (f : Flat d) (r : Rd h d v) : ∀ h', Rd h' d v := fun h' => Flat.rd f r
/-- x[i] = e -/
theorem Em1.setD {x : Str} {i e : Expr} {k : Str} {d : D} {px tpos pos : Pos} (hk : c.env.scope.kind = .function) (hx : c.env.kindOf x = some .local) (hd : (x == ("__debug__" : Str)) = false)
    (hl : σ.lookup x = some (.val (.ref a))) (hf : Flat d) (he : Ev (c.on (dictK c.prog c.w a E)) σ e d) (hi : Ev (c.on (dictK c.prog c.w a E)) σ i (.str k)) (h0 : c.h0.get? a = none) (hsz : E.length ≤ 1000)
    (hs : swapsWith e (some (.Subscript (.Name x px) i tpos)) pos.line c.env = Pure.pure false)
    (hn : N (dictK c.prog c.w a (stE E k d)) σ) : Em1 (c.on (dictK c.prog c.w a E)) σ (.Assign [.Subscript (.Name x px) i tpos] e pos) N Rt := fun s H Q n r => by
  refine wpAny_Assign_Subscript ((he s H).then fun v h1 tk1 k1 r1 => ?_) hs
  have H1 := H.keep k1
  refine (Ev.name (c := c.on (dictK c.prog c.w a E)) hk hx hl hd { s with heap := h1, toks := tk1 } H1).then fun u h2 tk2 k2 r2 => ?_
  rw [rd_val] at r2; subst r2
  have H2 := H1.keep k2
  refine (hi { s with heap := h2, toks := tk2 } H2).then fun iv h3 tk3 k3 r3 => ?_
  obtain ⟨t, rfl⟩ := rd_str.mp r3
  have H3 := H2.keep k3
  obtain ⟨lo, kvs, hD, hR⟩ := id H3.2.1
  refine wpAny_setItem_pairs (s := { s with heap := h3, toks := tk3 }) (PySem.strKind_is c.prog c.w k t) hD (fun h4 hD4 hs4 => ?_) (by rw [hR.len]; exact sz (by omega))
  have hP : (dictK c.prog c.w a (stE E k d)).P h4 := ⟨lo, _, hD4, hR.stored hf (flat_all hf r1)⟩
  exact n (dictK c.prog c.w a (stE E k d)) σ h4 _ rfl hn (fun b o n1 n2 e => keepM_sameBut hs4 b o n1 n2 (k3 _ _ (k2 _ _ (k1 _ _ e)))) (H3.changeD h0 hs4 hP)
/-- x.pop(i, None) -/
theorem Em1.popD {x : Str} {i e2 : Expr} {k : Str} {px ap pos pos' : Pos} {pl : Sem Bool} (hk : c.env.scope.kind = .function) (hx : c.env.kindOf x = some .local) (hd : (x == ("__debug__" : Str)) = false)
    (hl : σ.lookup x = some (.val (.ref a))) (hi : Ev (c.on (dictK c.prog c.w a E)) σ i (.str k)) (h2 : Ev (c.on (dictK c.prog c.w a E)) σ e2 .none) (h0 : c.h0.get? a = none) (hsz : E.length ≤ 1000)
    (hc : eval (.Call (.Attribute (.Name x px) "pop" ap) [i, e2] [] pos) c.env = (do
      let ov ← eval (.Name x px) c.env
      standAt ap.atName
      let (f, first) ← holding [ov] (getMethod ov "pop" pl)
      PySem.callWith pos f first (backTo pos (starEach [i, e2] c.env)) []))
    (he' : starEach [i, e2] c.env = (false, eval i c.env) :: starEach [e2] c.env) (he2 : starEach [e2] c.env = (false, eval e2 c.env) :: starEach [] c.env) (hp : (backTo pos (starEach [e2] c.env)).any (·.1) = false)
    (hi' : interactive c.env = false) (hsw : swapsWith (.Call (.Attribute (.Name x px) "pop" ap) [i, e2] [] pos) none pos'.line c.env = Pure.pure false)
    (hn : N (dictK c.prog c.w a (woE E k)) σ) : Em1 (c.on (dictK c.prog c.w a E)) σ (.Expr (.Call (.Attribute (.Name x px) "pop" ap) [i, e2] [] pos) pos') N Rt := fun s H Q n r => by
  refine wpAny_Expr_any ?_ hi' hsw
  refine MethodCall_ (pl := pl) ((Ev.name (c := c.on (dictK c.prog c.w a E)) hk hx hl hd s H).then fun v h1 tk1 k1 r1 => ?_) hc
  rw [rd_val] at r1; subst r1
  have H1 := H.keep k1
  obtain ⟨lo, kvs, hD, hR⟩ := id H1.2.1
  refine getMethod_builtin (T := "dict") (id := "dict.pop") (s := { s with heap := h1, toks := tk1 }) hD.typeIs PySem.F.plainAttrs_dict PySem.F.slot_dict_pop PySem.F.type_dict_pop hD.mapOf.noDict ?_
  refine callWith_method1 (spliced_more ((hi { s with heap := h1, toks := tk1 } H1).then fun iv g2 tk2 k2 r2 => spliced_more ((h2 { s with heap := g2, toks := tk2 } (H1.keep k2)).then fun dv g3 tk3 k3 r3 => spliced_none ?_) he2) he') he' hp
  obtain ⟨t, rfl⟩ := rd_str.mp r2
  rw [rd_none] at r3; subst r3
  have H3 := (H1.keep k2).keep k3
  obtain ⟨_, kvs, hD, hR⟩ := id H3.2.1
  have km : ∀ h4, Heap.SameBut a g3 h4 → KeepM c.env.locals [a] s.heap h4 := fun h4 hs4 b o n1 n2 e => keepM_sameBut hs4 b o n1 n2 (k3 _ _ (k2 _ _ (k1 _ _ e)))
  rcases hR.at k with ⟨e1, e2⟩ | ⟨v, d, e1, e2, _, _⟩
  · refine call_meetsIn (s := { s with heap := g3, toks := tk3 }) PySem.F.slot_dict_pop hD.typeIs PySem.F.entry_dict_pop (PySem.F.args_dict_pop_3 _ _ _) (meets_dict_pop_default (PySem.strKind c.prog c.w) a (PySem.strKind_is c.prog c.w k t) lo rfl .none) ⟨kvs, hD, e1, ?_⟩
    have ew : woE E k = E := by
      unfold atE at e2
      have : E.find? (fun p => decide (p.1 = k)) = none := by
        cases q : E.find? (fun p => decide (p.1 = k)) with
        | none => rfl
        | some y => rw [q] at e2; cases e2
      rw [List.find?_eq_none] at this
      unfold woE
      rw [List.filter_eq_self]
      intro p hp
      have := this p hp
      simpa using this
    rw [ew] at hn
    exact n (dictK c.prog c.w a E) σ g3 _ rfl hn (fun b o n1 n2 e => k3 _ _ (k2 _ _ (k1 _ _ e))) H3
  · refine call_meetsIn (s := { s with heap := g3, toks := tk3 }) PySem.F.slot_dict_pop hD.typeIs PySem.F.entry_dict_pop (PySem.F.args_dict_pop_3 _ _ _) (meets_dict_pop_there (PySem.strKind c.prog c.w) a (PySem.strKind_is c.prog c.w k t) [.none] (.inr ⟨_, rfl⟩) rfl) ⟨kvs, v, hD, by rw [hR.len]; exact sz (by omega), e1, fun h4 hD4 hs4 => ?_⟩
    have hP : (dictK c.prog c.w a (woE E k)).P h4 := ⟨lo, _, hD4, hR.without k⟩
    exact n (dictK c.prog c.w a (woE E k)) σ h4 _ rfl hn (km h4 hs4) (H3.changeD h0 hs4 hP)
/-- x.get(i) -/
theorem Ev.getD {x : Str} {i : Expr} {k : Str} {px ap pos : Pos} {pl : Sem Bool} (hK : c.K = dictK c.prog c.w a E) (hx : Ev c σ (.Name x px) (.val (.ref a))) (hi : Ev c σ i (.str k))
    (hc : eval (.Call (.Attribute (.Name x px) "get" ap) [i] [] pos) c.env = (do
      let ov ← eval (.Name x px) c.env
      standAt ap.atName
      let (f, first) ← holding [ov] (getMethod ov "get" pl)
      PySem.callWith pos f first (backTo pos (starEach [i] c.env)) []))
    (he' : starEach [i] c.env = (false, eval i c.env) :: starEach [] c.env) : Ev c σ (.Call (.Attribute (.Name x px) "get" ap) [i] [] pos) ((atE E k).getD .none) := fun s H Q q => by
  refine MethodCall_ (pl := pl) ((hx s H).then fun v h1 tk1 k1 r1 => ?_) hc
  rw [rd_val] at r1; subst r1
  have H1 := H.keep k1
  have hP := id H1.2.1
  rw [hK] at hP
  obtain ⟨lo, kvs, hD, hR⟩ := hP
  refine getMethod_builtin (T := "dict") (id := "dict.get") (s := { s with heap := h1, toks := tk1 }) hD.typeIs PySem.F.plainAttrs_dict PySem.F.slot_dict_get PySem.F.type_dict_get hD.mapOf.noDict ?_
  refine callWith_method1 (spliced_more ((hi { s with heap := h1, toks := tk1 } H1).then fun iv g2 tk2 k2 r2 => spliced_none ?_) he') he' (by rfl)
  obtain ⟨t, rfl⟩ := rd_str.mp r2
  have hD2 := hD.keep k2
  refine call_meetsIn (s := { s with heap := g2, toks := tk2 }) PySem.F.slot_dict_get hD2.typeIs PySem.F.entry_dict_get (PySem.F.args_dict_get_2 _ _) (meets_dict_get (PySem.strKind c.prog c.w) a (PySem.strKind_is c.prog c.w k t) lo) ⟨_, hD2.mapOf, ?_⟩
  refine q _ g2 _ (k1.trans k2) ?_
  rcases hR.at k with ⟨e1, e2⟩ | ⟨v, d, e1, e2, _, r⟩
  · rw [e1, e2]; exact rd_none.mpr rfl
  · rw [e1, e2]; exact r g2
/-- list(x.items()) -/
theorem Ev.itemsD {x : Str} {np px ap pos pos' : Pos} {k : Nat} (ok : c.Ok k) (hK : c.K = dictK c.prog c.w a E) (hL : Ev c σ (.Name "list" np) (.val (.type "list"))) (hx : ∀ s, Hd c s.heap σ → ∀ Q : Value → Shared → Prop, Q (.ref a) s → wpAny (model c.prog c.w) c.A (eval (.Name x px) c.env) Q (fun _ _ => False) s) (hsz : E.length ≤ 1000)
    (hb : attributeBase (.Name x px) "items" c.env (eval (.Name x px) c.env) = eval (.Name x px) c.env) (hline : (ap.endLine == pos.line) = true)
    (he : starEach [.Call (.Attribute (.Name x px) "items" ap) [] [] pos] c.env = (false, eval (.Call (.Attribute (.Name x px) "items" ap) [] [] pos) c.env) :: starEach [] c.env)
    (hc : eval (.Call (.Name "list" np) [.Call (.Attribute (.Name x px) "items" ap) [] [] pos] [] pos') c.env = (do PySem.callWith pos' (← eval (.Name "list" np) c.env) [] (backTo pos' (starEach [.Call (.Attribute (.Name x px) "items" ap) [] [] pos] c.env)) (backToKw pos' (keywordEach [] c.env)))) :
    Ev c σ (.Call (.Name "list" np) [.Call (.Attribute (.Name x px) "items" ap) [] [] pos] [] pos') (.list (E.map fun p => .tup [.str p.1, p.2])) := fun s H Q q => by
  refine Call_ ((hL s H).then fun v g1 t1 k1 r1 => ?_) hc
  rw [rd_val] at r1; subst r1
  have H1 := H.keep k1
  have hP := id H1.2.1
  rw [hK] at hP
  obtain ⟨lo, kvs, hD, hR⟩ := hP
  refine PyProof.Rows.callWith_type1 (spliced_more (wpAny_Call_items (s := { s with heap := g1, toks := t1 }) (knd := PySem.strKind c.prog c.w) lo hD hb hline (fun Q' q' => hx _ H1 Q' q') (spliced_none ?_)) he) he (by rfl)
  have hD2 : (g1.push { cls := .type "dict_items", data := .fields #[.ref a] }).DictOf (PySem.strKind c.prog c.w) a kvs := hD.push _
  obtain ⟨ep, hat⟩ := hD2.dictAt
  refine kdx_call (s := { s with heap := g1.push { cls := .type "dict_items", data := .fields #[.ref a] }, toks := t1 }) (r := g1.objs.size) ok.rm.handled ⟨_, Heap.get?_push_size _ rfl, rfl, rfl⟩ hat (by rw [hR.len]; exact sz (by omega)) fun h' tk acc cc as hk hS hl hG hacc => ?_
  refine q _ h' tk ((k1.trans (keep_push _ _)).trans fun b o e => hk b o e) (rd_list.mpr ⟨_, as.map Value.ref, rfl, ⟨_, hS, rfl, cc, ?_⟩, ?_⟩)
  · show Data.seq acc cc = _
    rw [← hacc]
  · clear hacc hS hk
    have hlen := hR.len
    suffices ∀ (E : Ent) (kvs : List (Str × Value)) (as : List Addr), DR E kvs → as.length = kvs.length → (∀ j b, as[j]? = some b → ∃ key k x, kvs[j]? = some (k, x) ∧ (PySem.strKind c.prog c.w).is k key = true ∧ h'.get? b = some { cls := .type "tuple", data := .seq #[key, x] }) → RdAll h' (E.map fun p => .tup [.str p.1, p.2]) (as.map Value.ref) from this E kvs as hR hl hG.pairs
    intro E
    induction E with
    | nil =>
      intro kvs as r l _
      have := r.len
      have : as = [] := List.length_eq_zero_iff.mp (by rw [l, this]; rfl)
      subst this
      exact rdAll_nil.mpr rfl
    | cons p E ih =>
      intro kvs as r l P
      obtain ⟨k, d⟩ := p
      cases kvs with
      | nil => exact r.elim
      | cons y kvs =>
        obtain ⟨k', v⟩ := y
        cases as with
        | nil => cases l
        | cons b as =>
          obtain ⟨rfl, f1, r1, r2⟩ := r
          refine rdAll_cons.mpr ⟨.ref b, as.map Value.ref, rfl, ?_, ih kvs as r2 (by simpa using l) fun j b' e => by have := P (j + 1) b' (by simpa using e); simpa using this⟩
          obtain ⟨key, k2, x2, e1, e2, e3⟩ := P 0 b rfl
          cases e1
          obtain ⟨t, rfl⟩ := Value.isStrOf_shape e2
          exact rd_tup.mpr ⟨b, [.str _ t, _], rfl, ⟨_, e3, rfl, 0, rfl⟩, rdAll_cons.mpr ⟨_, _, rfl, rd_str.mpr ⟨t, rfl⟩, rdAll_cons.mpr ⟨_, _, rfl, r1 h', rdAll_nil.mpr rfl⟩⟩⟩
/-- x = {} -/
theorem Ex.newdict {x : Str} {px pos' pos : Pos} {rest : List Stmt} {N' : Store → Prop} {k : Nat} (ok : c.Ok k) (hx : c.env.kindOf x = some .local) (hK : c.K = Kf.none)
    (big : ∀ h, c.G.At h → (h.objs.size == sysModules) = false)
    (hs : swapsWith (.Dict [] [] pos') (some (.Name x px)) pos.line c.env = Pure.pure false)
    (h : ∀ a, c.h0.get? a = none → Em (c.on (dictK c.prog c.w a [])) ((x, .val (.ref a)) :: σ) rest (fun _ _ => False) Rt) : Ex c σ (.Assign [.Name x px] (.Dict [] [] pos') pos :: rest) N' Rt := fun s H Q n r => by
  refine wpAny_execs_cons (wpAny_Assign_Name (hs := hs) (wpAny_Dict_empty ?_))
  have Anone : s.heap.get? s.heap.objs.size = none := by
    cases e : s.heap.get? s.heap.objs.size with
    | none => rfl
    | some o => exact absurd (Heap.lt_size e) (Nat.lt_irrefl _)
  have H2 : Hd c (s.heap.push { cls := .type "dict", data := .dict #[] }) σ := H.keep (keep_push _ _)
  have AL : c.env.locals ≠ s.heap.objs.size := fun e => by
    obtain ⟨m, o, es, ep, ho, hd, _⟩ := H.ns
    rw [e, Anone] at ho; cases ho
  have F0 : c.h0.get? s.heap.objs.size = none := by
    obtain ⟨⟨m, F, _⟩, _⟩ := H
    cases q : c.h0.get? s.heap.objs.size with
    | none => rfl
    | some o => have := F.keep _ o q; rw [Anone] at this; cases this
  have H3 : Hd (c.on (dictK c.prog c.w s.heap.objs.size [])) (s.heap.push { cls := .type "dict", data := .dict #[] }) σ := ⟨H2.1, ⟨big s.heap (H.grd ok), [], Heap.DictOf.new s.heap, trivial⟩, fun hb => AL (List.mem_singleton.mp hb)⟩
  refine store (c := c.on (dictK c.prog c.w s.heap.objs.size [])) (s := { s with heap := s.heap.push { cls := .type "dict", data := .dict #[] } }) ok.kind hx H3 (rd_val.mpr rfl) fun h4 tk4 kb4 _ H4 => ?_
  have fin : ∀ h', KeepM c.env.locals [s.heap.objs.size] h4 h' → KeepB c.env.locals s.heap h' := fun h' km b o n1 e => km b o n1 (fun hb => by
    rw [List.mem_singleton.mp hb, Anone] at e; cases e) (kb4 b o n1 (keep_push _ _ _ _ e))
  exact h s.heap.objs.size F0 { s with heap := h4, toks := tk4 } H4 Q (fun K σ' h' tk hf a b e => a.elim) fun d v h' tk a b e => r d v h' tk a (fin h' b) e
/-- a or b -/
theorem Ev.orT {e1 e2 : Expr} {rest : List Expr} {pos : Pos} {d1 : D} (h1 : Ev c σ e1 d1) (t : Tru c d1 true) : Ev c σ (.BoolOp .Or (e1 :: e2 :: rest) pos) d1 := fun s H Q q =>
  BoolOp_or ((h1 s H).then fun v g1 t1 k1 r1 => (t _ v r1).then fun g2 t2 k2 => by
    rw [if_pos rfl]; exact q v g2 t2 (k1.trans k2) (r1.keep k2))
theorem Ev.orF {e1 e2 : Expr} {rest : List Expr} {pos : Pos} {d1 d : D} (h1 : Ev c σ e1 d1) (t : Tru c d1 false) (h : Ev c σ (.BoolOp .Or (e2 :: rest) pos) d) : Ev c σ (.BoolOp .Or (e1 :: e2 :: rest) pos) d := fun s H Q q =>
  BoolOp_or ((h1 s H).then fun v g1 t1 k1 r1 => (t _ v r1).then fun g2 t2 k2 => by
    rw [if_neg (by decide)]; exact (h _ ((H.keep k1).keep k2)).then fun v' g3 t3 k3 r3 => q v' g3 t3 ((k1.trans k2).trans k3) r3)
theorem Ev.or1 {op : BoolOp} {e : Expr} {pos : Pos} {d : D} (h : Ev c σ e d) : Ev c σ (.BoolOp op [e] pos) d := fun s H Q q => BoolOp_one (h s H Q q)
/-- type of a tuple -/
theorem Tsp.typeTup {ds : List D} : Tsp c "type" [.tup ds] (.val (.type "tuple")) := fun s vs _ r Q q => by
  obtain ⟨v, rfl, r1⟩ := rdAll_one r
  obtain ⟨a, us, rfl, ⟨o, ho, hc, hd⟩, rs⟩ := rd_tup.mp r1
  exact kto_cont (s := s) ⟨o, ho, hc⟩ (by decide) (q _ s.heap s.toks (Keep.refl _) (rd_val.mpr rfl))
theorem Cmp.isnot_type {T : String} : Cmp c .IsNot (.val (.type T)) (.val (.type T)) false := fun s v1 v2 r1 r2 => by
  rw [rd_val] at r1 r2; subst r1; subst r2
  exact gv_pure fun Q k => isnot_type_same (k _ s.toks (rd_bool.mpr rfl))
end
end Mine

namespace Mine
abbrev P1 := PySem.Challenge.pw_dn0235_01
theorem s_semi : Str.ofString ";" = ch 59 := by decide +kernel
theorem s_slash : Str.ofString "/" = ch 47 := by decide +kernel
theorem s_hash : Str.ofString "#" = ch 35 := by decide +kernel
theorem s_quest : Str.ofString "?" = ch 63 := by decide +kernel
theorem s_at : Str.ofString "@" = ch 64 := by decide +kernel
theorem s_colon : Str.ofString ":" = ch 58 := by decide +kernel
theorem s_equal : Str.ofString "=" = ch 61 := by decide +kernel
theorem s_empty : Str.ofString "" = T [] := by decide +kernel
theorem s_cuts : Str.ofString "/?#" = T [47, 63, 35] := by decide +kernel

local macro_rules | `(tactic| walk_at "ev") => `(tactic| first
  | exact Ev.cint | exact Ev.cnone | exact Ev.cbool | exact Ev.cstr
  | exact Ev.name (by rfl) (by rfl) (by rfl) (by decide))
local macro_rules | `(tactic| walk_at "nm") => `(tactic| exact Ev.name (by rfl) (by rfl) (by rfl) (by decide))
local macro_rules | `(tactic| walk_at "sub") => `(tactic| repeat' (first | exact Sub.nil | refine Sub.cons (by rfl) ?_))
local macro_rules | `(tactic| walk_at "ev2") => `(tactic| refine Ev.tup (ds := [_, _]) (Es.cons ?_ (Es.cons ?_ Es.nil (by rfl)) (by rfl)) (sz (Nat.le_of_ble_eq_true rfl)))

set_option maxHeartbeats 4000000 in
theorem splitattr_sp {w : World} {G : Grd} {f : Addr} {kV doc pm : Value} {an : Option Addr} {cdv ct : Value} (fa : FnAt G f (fdOf P1 1 .none kV doc pm an cdv ct)) {ps : List (List Nat)} (hne : ps ≠ []) (hf : ∀ p ∈ ps, 59 ∉ p) (hsz : (jn 59 ps).length ≤ 100000) :
    Fsp P1 w G 1 (.ref f) [.str (T (jn 59 ps))] (.tup [.str (T (ps.headD [])), .list (ps.tail.map fun p => D.str (T p))]) := by
  refine Fsp.one (x := "url") fa (by decide +kernel) (fun v => rfl) (by decide +kernel) fun A L h0 ok => ?_
  refine Ex.cons (Ex1.assign (d := .list (ps.map fun p => D.str (T p))) ok.kind (by rfl) ?_ (by rfl) ?_)
  · refine Ev.meth (d0 := .str (T (jn 59 ps))) (ds := [.str (ch 59)]) (by walk_at "ev") gm_split (Es.cons (by rw [← s_semi]; exact Ev.cstr) Es.nil (by rfl)) ?_ (by rfl) (by rfl) (by rfl)
    have := Bsp.split (c := ⟨P1, w, G, A, callEnv (fdOf P1 1 .none kV doc pm an cdv ct) L f, h0, Kf.none⟩) (x := T (jn 59 ps)) (y := ch 59) rfl (sz (by rw [T_len]; omega))
    rw [split_T hne hf, List.map_map] at this
    exact this
  refine Ex.cons (Ex1.ret (d := (.tup [.str (T (ps.headD [])), .list (ps.tail.map fun p => D.str (T p))])) ?_ rfl)
  walk_at "ev2"
  · refine Ev.item (d0 := .list (ps.map fun p => D.str (T p))) (by walk_at "ev") (by walk_at "ev") (Itm.list (by decide) (by decide) ?_) ?_
    · cases ps with
      | nil => exact absurd rfl hne
      | cons p r => rfl
    · intro o i _; with_unfolding_all rfl
  · have e : ps.tail.map (fun p => D.str (T p)) = lsl (ps.map fun p => D.str (T p)) (some ((1 : Nat) : Int)) none := by
      rw [lsl_from, ← List.map_drop]; cases ps <;> rfl
    rw [e]
    refine Ev.slice_list (by walk_at "ev") ⟨1, rfl, by walk_at "ev"⟩ rfl (sz ?_) ?_
    · rw [List.length_map]; have := jn_length (c := 59) ps; omega
    · intro o r; with_unfolding_all rfl

set_option maxHeartbeats 4000000 in
theorem splitvalue_sp {w : World} {G : Grd} {f : Addr} {kV doc pm : Value} {an : Option Addr} {cdv ct : Value} (fa : FnAt G f (fdOf P1 2 .none kV doc pm an cdv ct)) {l : List Nat} (hsz : l.length ≤ 1000) : Fsp P1 w G 1 (.ref f) [.str (T l)] (cutL 61 l) := by
  refine Fsp.one (x := "attr") fa (by decide +kernel) (fun v => rfl) (by decide +kernel) fun A L h0 ok => ?_
  have hb := Bsp.partition (c := ⟨P1, w, G, A, callEnv (fdOf P1 2 .none kV doc pm an cdv ct) L f, h0, Kf.none⟩) (x := T l) (y := ch 61) rfl (sz (by rw [T_len]; omega))
  rw [part_cut] at hb
  unfold cutL
  cases hc : fcut 61 l with
  | none =>
    rw [hc] at hb
    refine Ex.cons (Ex1.assignT (Ev.meth (d0 := .str (T l)) (ds := [.str (ch 61)]) (by walk_at "nm") gm_partition (Es.cons (by rw [← s_equal]; walk_at "ev") Es.nil (by rfl)) hb (by rfl) (by rfl) (by rfl)) (Asg.tup ok (by rfl) (by rfl) (Aso.cons (by rfl) (Aso.cons (by rfl) (Aso.cons (by rfl) Aso.nil)))) (by rfl) (by rfl) ?_)
    refine Ex.cons (Ex1.ret ?_ rfl)
    walk_at "ev2"
    · walk_at "nm"
    · exact Ev.ifexp (b := false) (Ts.of (by walk_at "nm") tru_empty (by rfl)) (fun h => by cases h) (fun h => by walk_at "ev")
  | some p =>
    rw [hc] at hb
    refine Ex.cons (Ex1.assignT (Ev.meth (d0 := .str (T l)) (ds := [.str (ch 61)]) (by walk_at "nm") gm_partition (Es.cons (by rw [← s_equal]; walk_at "ev") Es.nil (by rfl)) hb (by rfl) (by rfl) (by rfl)) (Asg.tup ok (by rfl) (by rfl) (Aso.cons (by rfl) (Aso.cons (by rfl) (Aso.cons (by rfl) Aso.nil)))) (by rfl) (by rfl) ?_)
    refine Ex.cons (Ex1.ret ?_ rfl)
    walk_at "ev2"
    · walk_at "nm"
    · exact Ev.ifexp (b := true) (Ts.of (by walk_at "nm") tru_ch (by rfl)) (fun h => by walk_at "nm") (fun h => by cases h)

end Mine

namespace Mine

local macro_rules | `(tactic| walk_at "ev") => `(tactic| first
  | exact Ev.cint | exact Ev.cnone | exact Ev.cbool | exact Ev.cstr
  | exact Ev.name (by rfl) (by rfl) (by rfl) (by decide))
local macro_rules | `(tactic| walk_at "nm") => `(tactic| exact Ev.name (by rfl) (by rfl) (by rfl) (by decide))
local macro_rules | `(tactic| walk_at "sub") => `(tactic| repeat' (first | exact Sub.nil | refine Sub.cons (by rfl) ?_))
local macro_rules | `(tactic| walk_at "ev2") => `(tactic| refine Ev.tup (ds := [_, _]) (Es.cons ?_ (Es.cons ?_ Es.nil (by rfl)) (by rfl)) (sz (Nat.le_of_ble_eq_true rfl)))
local macro_rules | `(tactic| walk_at "ev3") => `(tactic| refine Ev.tup (ds := [_, _, _]) (Es.cons ?_ (Es.cons ?_ (Es.cons ?_ Es.nil (by rfl)) (by rfl)) (by rfl)) (sz (Nat.le_of_ble_eq_true rfl)))
local macro_rules | `(tactic| walk_at "sl") => `(tactic| (intro o r; with_unfolding_all rfl))
local macro_rules | `(tactic| walk_at "it") => `(tactic| (intro o i _; with_unfolding_all rfl))
abbrev tab1 : List Nat := [61, 61, 59, 58, 64, 47, 63, 35, 38, 32, 37, 97, 48, 10]
theorem s_tab1 : Str.ofString "==;:@/?#& %a0\n" = T tab1 := by decide +kernel
theorem py2 (n : Int) : Builtin.divisionGoesByPylong n 2 = false := by unfold Builtin.divisionGoesByPylong; rfl
theorem py6 (n : Int) : Builtin.divisionGoesByPylong n 6 = false := by unfold Builtin.divisionGoesByPylong; rfl
theorem py30 (n : Int) : Builtin.divisionGoesByPylong n 30 = false := by unfold Builtin.divisionGoesByPylong; rfl
def sgn1 (n : Int) : Nat := if n.fmod 2 = 0 then tab1.getD ((n.fdiv 2).fmod 14).toNat 0 else if (n.fdiv 2).fmod 1112064 < 55296 then ((n.fdiv 2).fmod 1112064).toNat else ((n.fdiv 2).fmod 1112064 + 2048).toNat
theorem sgn1_lt (n : Int) : sgn1 n < 1114112 := by
  unfold sgn1
  have h1 := fmod_pos (a := n.fdiv 2) (b := 14) (by decide)
  have h2 := fmod_pos (a := n.fdiv 2) (b := 1112064) (by decide)
  split
  · exact getD_lt (by simp; omega) h1.1 (by decide)
  · split <;> omega
set_option maxHeartbeats 4000000 in
theorem sign1_sp {w : World} {G : Grd} {f : Addr} {kV doc pm : Value} {an : Option Addr} {cdv ct : Value} (fa : FnAt G f (fdOf P1 4 .none kV doc pm an cdv ct)) (gc : G.mg "chr" = none) (bc : G.mb "chr" = some (.builtin "chr")) (n : Int) : Fsp P1 w G 1 (.ref f) [.int n] (.str (ch (sgn1 n))) := by
  refine Fsp.one (x := "quotient") fa (by decide +kernel) (fun v => rfl) (by decide +kernel) fun A L h0 ok => ?_
  have h1 := fmod_pos (a := n.fdiv 2) (b := 14) (by decide)
  have h2 := fmod_pos (a := n.fdiv 2) (b := 1112064) (by decide)
  refine Ex.cons (Ex1.assign (d := .int (n.fdiv 2)) (by rfl) (by rfl) (Ev.bin (d1 := .int n) (d2 := .int 2) (by walk_at "nm") (by walk_at "ev") (Bin.div_int (by decide) (py2 n))) (by rfl) ?_)
  refine Ex.cons (Ex1.if (b := decide (n.fmod 2 = 0)) (Ts.cmp (d1 := .int (n.fmod 2)) (d2 := .int 0) (Ev.bin (d1 := .int n) (d2 := .int 2) (by walk_at "nm") (by walk_at "ev") (Bin.mod_int (by decide))) (by walk_at "ev") Cmp.eq_int (by with_unfolding_all rfl)) (fun h => ?_) (fun h => ?_))
  · refine Ex.cons (Ex1.ret (d := .str (ch (sgn1 n))) ?_ rfl)
    rw [show sgn1 n = _ from if_pos (of_decide_eq_true h)]
    exact Ev.item (d0 := .str (T tab1)) (di := .int ((n.fdiv 2).fmod 14)) (by rw [← s_tab1]; walk_at "ev") (Ev.bin (d1 := .int (n.fdiv 2)) (d2 := .int 14) (by walk_at "nm") (by walk_at "ev") (Bin.mod_int (by decide))) (Itm.tab h1.1 (by simp; omega) (by decide)) (by walk_at "it")
  · refine Ex.nil (Ex.cons (Ex1.assign (d := .int ((n.fdiv 2).fmod 1112064)) (by rfl) (by rfl) (Ev.bin (d1 := .int (n.fdiv 2)) (d2 := .int 1112064) (by walk_at "nm") (by walk_at "ev") (Bin.mod_int (by decide))) (by rfl) ?_))
    refine Ex.cons (Ex1.ret (d := .str (ch (sgn1 n))) ?_ rfl)
    rw [show sgn1 n = _ from if_neg (of_decide_eq_false h)]
    generalize hq : (n.fdiv 2).fmod 1112064 = q at h2 ⊢
    by_cases hlt : q < 55296
    · rw [if_pos hlt]
      refine Ev.bltin (Ev.blt ok (by rfl) gc bc (by decide)) (Es.cons (d := .int q) (Ev.ifexp (b := decide (q < 55296)) (Ts.cmp (d1 := .int q) (d2 := .int 55296) (by walk_at "nm") (by walk_at "ev") Cmp.lt_int (by with_unfolding_all rfl)) (fun _ => by walk_at "nm") (fun h => absurd hlt (of_decide_eq_false h))) Es.nil (by rfl)) (Bsp.chr h2.1 (by omega)) (by rfl) (by rfl) (by rfl)
    · rw [if_neg hlt]
      refine Ev.bltin (Ev.blt ok (by rfl) gc bc (by decide)) (Es.cons (d := .int (q + 2048)) (Ev.ifexp (b := decide (q < 55296)) (Ts.cmp (d1 := .int q) (d2 := .int 55296) (by walk_at "nm") (by walk_at "ev") Cmp.lt_int (by with_unfolding_all rfl)) (fun h => absurd (of_decide_eq_true h) hlt) (fun _ => Ev.bin (d1 := .int q) (d2 := .int 2048) (by walk_at "nm") (by walk_at "ev") Bin.add_int)) Es.nil (by rfl)) (Bsp.chr (by omega) (by omega)) (by rfl) (by rfl) (by rfl)
theorem ev_add {c : C} {σ : Store} {e1 e2 : Expr} {pos : Pos} {x y : List Nat} (h1 : Ev c σ e1 (.str (T x))) (h2 : Ev c σ e2 (.str (T y))) (hl : x.length + y.length ≤ 100000) : Ev c σ (.BinOp e1 .Add e2 pos) (.str (T (x ++ y))) := by
  have := Bin.add_str (c := c) (x := T x) (y := T y) (sz (by rw [T_len, T_len]; omega))
  rw [T_app] at this
  exact Ev.bin h1 h2 this
/-! what is written -/
abbrev A1 := List Nat × Option (List Nat)
def oD : Option (List Nat) → D
  | none => .none
  | some v => .str (T v)
def wd (q : A1) : List Nat := q.1 ++ match q.2 with | none => [] | some v => 61 :: v
abbrev pD1 (q : A1) : D := .tup [.str (T q.1), oD q.2]
def wrt (p : List Nat) (G : List A1) : List Nat := p ++ (G.map fun q => 59 :: wd q).flatten
theorem wrt_jn : ∀ (G : List A1) (p : List Nat), wrt p G = jn 59 (p :: G.map wd)
  | [], p => by simp [wrt, jn]
  | q :: G, p => by
    rw [List.map_cons, jn_cons 59 p (by simp), ← wrt_jn G (wd q)]
    simp [wrt]
theorem wrt_snoc (p : List Nat) (G : List A1) (q : A1) : wrt p (G ++ [q]) = wrt p G ++ 59 :: wd q := by simp [wrt]
theorem wrt_len {p : List Nat} {G : List A1} {m : Nat} (h : ∀ q ∈ G, (wd q).length ≤ m) : (wrt p G).length ≤ p.length + G.length * (m + 1) := by
  unfold wrt
  rw [List.length_append]
  induction G with
  | nil => simp
  | cons q G ih =>
    have h1 := h q (.head _)
    have h2 := ih fun q hq => h q (.tail _ hq)
    simp only [List.map_cons, List.flatten_cons, List.length_append, List.length_cons, Nat.add_mul, Nat.one_mul] at h2 ⊢
    omega
set_option maxHeartbeats 4000000 in
theorem written_sp {w : World} {G : Grd} {f : Addr} {kV doc pm : Value} {an : Option Addr} {cdv ct : Value} (fa : FnAt G f (fdOf P1 5 .none kV doc pm an cdv ct)) {p : List Nat} {g : List A1} (hp : p.length ≤ 100) (hg : g.length ≤ 100) (hw : ∀ q ∈ g, (wd q).length ≤ 100) : Fsp P1 w G 1 (.ref f) [.str (T p), .list (g.map pD1)] (.str (T (wrt p g))) := by
  refine Fsp.two (x := "path") (y := "pairs") fa (by decide +kernel) (fun v u => rfl) (by decide +kernel) (by decide +kernel) (by decide +kernel) fun A L h0 ok => ?_
  refine Ex.cons (Ex1.assign (d := .str (T p)) (by rfl) (by rfl) (by walk_at "nm") (by rfl) ?_)
  refine Ex.cut (fun _ : Unit => [("text", .str (T (wrt p g)))]) (fun _ => True) ?_ fun _ _ => Ex.cons (Ex1.ret (by walk_at "nm") rfl)
  refine Ex1.forI (ds := g.map pD1) ok (Its.of (by walk_at "nm") (Itr.list ok)) (fun l : List Nat => [("text", .str (T l))]) (fun i l => l = wrt p (g.take i)) p (by walk_at "sub") (by simp [wrt]) ?_ ?_ (by intro x; rfl)
  · intro i l d hd hl
    rw [List.getElem?_map] at hd
    cases e : g[i]? with
    | none => rw [e] at hd; cases hd
    | some q =>
      rw [e] at hd; cases hd
      have et : g.take (i + 1) = g.take i ++ [q] := by rw [List.take_add_one, e]; rfl
      have hwq := hw q (List.mem_of_getElem? e)
      have hll : l.length ≤ 100 + 100 * 101 := by
        rw [hl]
        have h1 := wrt_len (p := p) (G := g.take i) (m := 100) fun q hq => hw q (List.mem_of_mem_take hq)
        have h2 : (g.take i).length ≤ 100 := by rw [List.length_take]; omega
        have := Nat.mul_le_mul_right 101 h2
        omega
      refine ⟨_, Asg.tup ok (by rfl) (by rfl) (Aso.cons (by rfl) (Aso.cons (by rfl) Aso.nil)), ?_⟩
      have hq1 : q.1.length ≤ 100 := by unfold wd at hwq; rw [List.length_append] at hwq; omega
      refine Ex.cons (Ex1.assign (d := .str (T ((l ++ [59]) ++ q.1))) (by rfl) (by rfl) (ev_add (ev_add (by walk_at "nm") (by show Ev _ _ _ (.str (ch 59)); rw [← s_semi]; walk_at "ev") (by simp; omega)) (by walk_at "nm") (by simp; omega)) (by rfl) ?_)
      obtain ⟨k, o⟩ := q
      cases o with
      | none =>
        refine Ex.cons (Ex1.if (b := !isNone .none) (Ts.cmp (d1 := .none) (d2 := .none) (by walk_at "nm") (by walk_at "ev") (Cmp.isnot_none (by simp)) (by with_unfolding_all rfl)) (fun h => by cases h) (fun _ => Ex.nil (Ex.nil ⟨_, by walk_at "sub", ?_⟩)))
        rw [et, wrt_snoc, ← hl]; simp [wd]
      | some v =>
        have hv : k.length + (1 + v.length) ≤ 100 := by simpa [wd, Nat.add_comm] using hwq
        refine Ex.cons (Ex1.if (b := !isNone (.str (T v))) (Ts.cmp (d1 := .str (T v)) (d2 := .none) (by walk_at "nm") (by walk_at "ev") (Cmp.isnot_none (by simp)) (by with_unfolding_all rfl)) (fun _ => ?_) (fun h => by cases h))
        refine Ex.cons (Ex1.assign (d := .str (T ((((l ++ [59]) ++ k) ++ [61]) ++ v))) (by rfl) (by rfl) (ev_add (ev_add (by walk_at "nm") (by show Ev _ _ _ (.str (ch 61)); rw [← s_equal]; walk_at "ev") (by simp at hq1 ⊢; omega)) (by walk_at "nm") (by simp at hq1 ⊢; omega)) (by rfl) (Ex.nil (Ex.nil ⟨_, by walk_at "sub", ?_⟩)))
        rw [et, wrt_snoc, ← hl]; simp [wd]
  · intro l hl
    rw [List.length_map, List.take_of_length_le (Nat.le_refl _)] at hl
    subst hl
    exact ⟨(), trivial, by walk_at "sub"⟩
end Mine

namespace Mine

local macro_rules | `(tactic| walk_at "ev") => `(tactic| first
  | exact Ev.cint | exact Ev.cnone | exact Ev.cbool | exact Ev.cstr
  | exact Ev.name (by rfl) (by rfl) (by rfl) (by decide))
local macro_rules | `(tactic| walk_at "nm") => `(tactic| exact Ev.name (by rfl) (by rfl) (by rfl) (by decide))
local macro_rules | `(tactic| walk_at "sub") => `(tactic| repeat' (first | exact Sub.nil | refine Sub.cons (by rfl) ?_))
local macro_rules | `(tactic| walk_at "ev2") => `(tactic| refine Ev.tup (ds := [_, _]) (Es.cons ?_ (Es.cons ?_ Es.nil (by rfl)) (by rfl)) (sz (Nat.le_of_ble_eq_true rfl)))
local macro_rules | `(tactic| walk_at "ev3") => `(tactic| refine Ev.tup (ds := [_, _, _]) (Es.cons ?_ (Es.cons ?_ (Es.cons ?_ Es.nil (by rfl)) (by rfl)) (by rfl)) (sz (Nat.le_of_ble_eq_true rfl)))
local macro_rules | `(tactic| walk_at "sl") => `(tactic| (intro o r; with_unfolding_all rfl))
local macro_rules | `(tactic| walk_at "it") => `(tactic| (intro o i _; with_unfolding_all rfl))
structure Top1 (G : Grd) (fA fV fS fW : Addr) : Prop where
  big : 1 ≤ fA
  gA : G.mg "_splitattr" = some (.ref fA)
  gV : G.mg "_splitvalue" = some (.ref fV)
  gS : G.mg "_law_sign" = some (.ref fS)
  gW : G.mg "_law_written" = some (.ref fW)
  fA : ∃ kV doc pm an cdv ct, FnAt G fA (fdOf P1 1 .none kV doc pm an cdv ct)
  fV : ∃ kV doc pm an cdv ct, FnAt G fV (fdOf P1 2 .none kV doc pm an cdv ct)
  fS : ∃ kV doc pm an cdv ct, FnAt G fS (fdOf P1 4 .none kV doc pm an cdv ct)
  fW : ∃ kV doc pm an cdv ct, FnAt G fW (fdOf P1 5 .none kV doc pm an cdv ct)
  gl : G.mg "len" = none
  bl : G.mb "len" = some (.builtin "len")
  gc : G.mg "chr" = none
  bc : G.mb "chr" = some (.builtin "chr")
  gi : G.mg "list" = none
  bi : G.mb "list" = some (.type "list")
  gy : G.mg "type" = none
  by' : G.mb "type" = some (.type "type")
  gt : G.mg "tuple" = none
  bt : G.mb "tuple" = some (.type "tuple")
abbrev c1 (w : World) (G : Grd) (A : Around) (L a : Addr) (cd : Value) (h0 : Heap) (K : Kf) : C := ⟨P1, w, G, A, envOf (nth P1 6).1 (nth P1 6).2.2.2 L a cd, h0, K⟩
abbrev B6 := (nth P1 6).2.2.1
theorem ok1 {w : World} {G : Grd} {A : Around} {L a : Addr} {cd : Value} {h0 : Heap} {K K' : Kf} (ok : (c1 w G A L a cd h0 K).Ok 1) : (c1 w G A L a cd h0 K').Ok 1 := ⟨ok.kind, ok.glob, ok.blt, ok.at0, ok.rm⟩
abbrev names5 : List (List Nat) := [[], [116, 121, 112, 101], [97], [120, 32, 121], [233]]
theorem n5 : ∀ k ∈ names5, 59 ∉ k ∧ 61 ∉ k ∧ k.length ≤ 4 ∧ ∀ n ∈ k, n < 1114112 := by decide
def VlOk (i : Nat) (o : Option (List Nat)) : Prop := ∀ v, o = some v → v.length ≤ i ∧ 59 ∉ v ∧ ∀ n ∈ v, n < 1114112
theorem VlOk.le {i j : Nat} {o : Option (List Nat)} (h : VlOk i o) (hij : i ≤ j) : VlOk j o := fun v e => ⟨Nat.le_trans (h v e).1 hij, (h v e).2⟩
def PE (i : Nat) (e : Str × D) : Prop := ∃ k o, e = (T k, oD o) ∧ k ∈ names5 ∧ VlOk i o
abbrev G1 := List Nat × Ent
structure PI (i : Nat) (g : G1) : Prop where
  pl : g.1.length ≤ i
  p59 : 59 ∉ g.1
  pcp : ∀ n ∈ g.1, n < 1114112
  el : g.2.length ≤ i
  ent : ∀ e ∈ g.2, PE i e
theorem PI.le {i j : Nat} {g : G1} (h : PI i g) (hij : i ≤ j) : PI j g := ⟨Nat.le_trans h.pl hij, h.p59, h.pcp, Nat.le_trans h.el hij, fun e he => by obtain ⟨k, o, a, b, c⟩ := h.ent e he; exact ⟨k, o, a, b, c.le hij⟩⟩
theorem mem_stE {E : Ent} {k : Str} {d : D} {e : Str × D} (h : e ∈ stE E k d) : e ∈ E ∨ e = (k, d) := by
  unfold stE at h
  split at h
  · obtain ⟨q, hq, rfl⟩ := List.mem_map.mp h
    split
    · rename_i e; exact .inr (by rw [e])
    · exact .inl hq
  · rcases List.mem_append.mp h with h | h
    · exact .inl h
    · exact .inr (List.mem_singleton.mp h)
theorem len_stE (E : Ent) (k : Str) (d : D) : (stE E k d).length ≤ E.length + 1 := by
  unfold stE; split <;> simp
theorem PI.st {i : Nat} {g : G1} (h : PI i g) {k : List Nat} {o : Option (List Nat)} (hk : k ∈ names5) (ho : VlOk (i + 1) o) : PI (i + 1) (g.1, stE g.2 (T k) (oD o)) := by
  have h' := h.le (Nat.le_succ i)
  refine ⟨h'.pl, h.p59, h.pcp, Nat.le_trans (len_stE _ _ _) (Nat.succ_le_succ h.el), fun e he => ?_⟩
  rcases mem_stE he with he | rfl
  · exact h'.ent e he
  · exact ⟨k, o, rfl, hk, ho⟩
theorem PI.wo {i : Nat} {g : G1} (h : PI i g) (k : Str) : PI (i + 1) (g.1, woE g.2 k) := by
  have h' := h.le (Nat.le_succ i)
  refine ⟨h'.pl, h.p59, h.pcp, Nat.le_trans (List.length_filter_le _ _) h'.el, fun e he => h'.ent e ((List.mem_filter.mp he).1)⟩
theorem ent_list {i : Nat} : ∀ {E : Ent}, (∀ e ∈ E, PE i e) → ∃ g : List A1, E = g.map (fun q => (T q.1, oD q.2)) ∧ ∀ q ∈ g, q.1 ∈ names5 ∧ VlOk i q.2
  | [], _ => ⟨[], rfl, by simp⟩
  | e :: E, h => by
    obtain ⟨g, e1, h1⟩ := ent_list fun e he => h e (.tail _ he)
    obtain ⟨k, o, rfl, hk, ho⟩ := h e (.head _)
    refine ⟨(k, o) :: g, by rw [e1]; rfl, fun q hq => ?_⟩
    rcases List.mem_cons.mp hq with rfl | hq
    · exact ⟨hk, ho⟩
    · exact h1 q hq
theorem at_mem {E : Ent} {k : Str} {d : D} (h : atE E k = some d) : (k, d) ∈ E := by
  unfold atE at h
  cases q : E.find? (fun p => decide (p.1 = k)) with
  | none => rw [q] at h; cases h
  | some y =>
    rw [q] at h; cases h
    have h1 := List.find?_some q
    have h2 := List.mem_of_find?_eq_some q
    have : y.1 = k := by simpa using h1
    rw [← this]; exact h2
abbrev nmD : D := .tup [.str (T []), .str (T [116, 121, 112, 101]), .str (T [97]), .str (T [120, 32, 121]), .str (T [233])]
abbrev σ1 (b : Addr) (g : G1) : Store := [("names", nmD), ("path", .str (T g.1)), ("ledger", .val (.ref b))]
abbrev BL := blk B6 4 true
def cutD : D → Option D
  | .str x => some (cutL 61 x.cps.toList)
  | _ => none
theorem cut_wd {q : A1} (h : 61 ∉ q.1) : cutL 61 (wd q) = pD1 q := by
  obtain ⟨k, o⟩ := q
  cases o with
  | none => simp only [wd, List.append_nil]; exact cutL_no h
  | some v => exact cutL_has h
theorem cutD_map : ∀ {g : List A1}, (∀ q ∈ g, 61 ∉ q.1) → (g.map fun q => D.str (T (wd q))).filterMap cutD = g.map pD1
  | [], _ => rfl
  | q :: g, h => by
    rw [List.map_cons, List.filterMap_cons, cutD_map fun q hq => h q (.tail _ hq)]
    show cutL 61 (wd q) :: _ = _
    rw [cut_wd (h q (.head _))]; rfl
theorem atm_oD {i : Nat} {o : Option (List Nat)} (h : VlOk i o) : Atm (oD o) := by
  cases o with
  | none => exact Atm.none
  | some v => exact Atm.str (h v rfl).2.2
theorem pln_list {i : Nat} : ∀ {g : List A1}, (∀ q ∈ g, q.1 ∈ names5 ∧ VlOk i q.2) → Plns (g.map pD1) = true ∧ deps (g.map pD1) ≤ 1
  | [], _ => ⟨rfl, Nat.zero_le _⟩
  | q :: g, h => by
    have ih := pln_list fun q hq => h q (.tail _ hq)
    have ⟨h1, h2⟩ := h q (.head _)
    have a1 := Atm.str (n5 q.1 h1).2.2.2
    have a2 := atm_oD h2
    rw [List.map_cons, Plns, deps, ih.1, Bool.and_true]
    refine ⟨(pln_pair a1 a2).1, ?_⟩
    have : dep (pD1 q) = 1 := by simp only [dep, deps, a2.z]; decide
    omega
theorem name_here {c : C} {σ : Store} {x : Str} {px : Pos} {a : Addr} (hk : c.env.scope.kind = .function) (hl : c.env.kindOf x = some .local) (e : σ.lookup x = some (.val (.ref a))) (hd : (x == ("__debug__" : Str)) = false) :
    ∀ s : Shared, Hd c s.heap σ → ∀ Q : Value → Shared → Prop, Q (.ref a) s → wpAny (model c.prog c.w) c.A (eval (.Name x px) c.env) Q (fun _ _ => False) s := fun s H Q q => by
  obtain ⟨⟨m, F, f⟩, _⟩ := H
  obtain ⟨v, hv, rd⟩ := f x _ e
  rw [rd_val] at rd; subst rd
  exact wpAny_Name (wpAny_loadName_local hk hl F.ns hv q) hd
section
variable {w : World} {G : Grd} {fA fV fS fW : Addr} (T1 : Top1 G fA fV fS fW) {A : Around} {L a b : Addr} {cd : Value} {h0 : Heap}
include T1
set_option maxHeartbeats 8000000 in
theorem check1 {g : G1} (ok : (c1 w G A L a cd h0 (dictK P1 w b g.2)).Ok 1) {i : Nat} (p : PI i g) (hi : i ≤ 50) {Rt : D → Prop} :
    Ex (c1 w G A L a cd h0 (dictK P1 w b g.2)) (σ1 b g) (BL.drop 1) (fun σ' => Sub σ' (σ1 b g)) Rt := by
  obtain ⟨kV', doc', pm', an', cdv', ct', fA'⟩ := id T1.fA
  obtain ⟨kV', doc', pm', an', cdv', ct', fV'⟩ := id T1.fV
  obtain ⟨kV', doc', pm', an', cdv', ct', fW'⟩ := id T1.fW
  obtain ⟨q, eq, hq⟩ := ent_list p.ent
  have hpl := p.pl
  have hel := p.el
  have hql : q.length ≤ 50 := by rw [eq, List.length_map] at hel; omega
  have hwd : ∀ x ∈ q, (wd x).length ≤ 100 ∧ 59 ∉ wd x := by
    intro x hx
    obtain ⟨h1, h2⟩ := hq x hx
    obtain ⟨n1, n2, n3, n4⟩ := n5 x.1 h1
    obtain ⟨k, o⟩ := x
    cases o with
    | none => simp [wd]; exact ⟨by simp at n3; omega, n1⟩
    | some v =>
      obtain ⟨v1, v2, v3⟩ := h2 v rfl
      refine ⟨by simp [wd]; simp at n3; omega, ?_⟩
      simp [wd]; exact ⟨n1, v2⟩
  have h61 : ∀ x ∈ q, 61 ∉ x.1 := fun x hx => (n5 x.1 (hq x hx).1).2.1
  have hwl : (wrt g.1 q).length ≤ 50 + 50 * 101 := by
    have h1 := wrt_len (p := g.1) (G := q) (m := 100) fun x hx => (hwd x hx).1
    have := Nat.mul_le_mul_right 101 hql
    omega
  have sw := written_sp (w := w) fW' (p := g.1) (g := q) (by omega) (by omega) fun x hx => (hwd x hx).1
  refine Ex.cons (Ex1.assign (d := .list (q.map pD1)) (by rfl) (by rfl) ?_ (by rfl) ?_)
  · have e : q.map pD1 = g.2.map fun p => .tup [.str p.1, p.2] := by rw [eq, List.map_map]; rfl
    rw [e]
    exact Ev.itemsD ok rfl (Ev.blt ok (by rfl) T1.gi T1.bi (by decide)) (name_here (by rfl) (by rfl) (by rfl) (by decide)) (by omega) (by rfl) (by rfl) (by rfl) (by rfl)
  refine Ex.cons (Ex1.assign (d := .str (T (wrt g.1 q))) (by rfl) (by rfl) (Ev.call ok (Ev.glob ok (by rfl) T1.gW (by decide)) fW' (Es.cons (by walk_at "nm") (Es.cons (by walk_at "nm") Es.nil (by rfl)) (by rfl)) sw (by rfl) (by rfl)) (by rfl) ?_)
  have sa := splitattr_sp (w := w) fA' (ps := g.1 :: q.map wd) (by simp) (by
    intro x hx
    rcases List.mem_cons.mp hx with rfl | hx
    · exact p.p59
    · obtain ⟨y, hy, rfl⟩ := List.mem_map.mp hx
      exact (hwd y hy).2) (by rw [← wrt_jn]; omega)
  rw [← wrt_jn] at sa
  have eg : ((g.1 :: q.map wd).tail.map fun p => D.str (T p)) = q.map fun x => D.str (T (wd x)) := by rw [List.tail_cons, List.map_map]; rfl
  rw [eg] at sa
  refine Ex.cons (Ex1.assign (d := .tup [.str (T g.1), .list (q.map fun x => D.str (T (wd x)))]) (by rfl) (by rfl) (Ev.call ok (Ev.glob ok (by rfl) T1.gA (by decide)) fA' (Es.cons (by walk_at "nm") Es.nil (by rfl)) sa (by rfl) (by rfl)) (by rfl) ?_)
  refine Ex.cons (Ex1.if (b := false || (false || (decide (T g.1 ≠ T g.1) || false))) (Ts.or (Ts.cmp (Ev.typ (Ev.blt ok (by rfl) T1.gy T1.by' (by decide)) (Es.cons (d := .tup [.str (T g.1), .list (q.map fun x => D.str (T (wd x)))]) (by walk_at "nm") Es.nil (by rfl)) Tsp.typeTup (by rfl) (by rfl) (by rfl)) (Ev.blt ok (by rfl) T1.gt T1.bt (by decide)) Cmp.isnot_type (by with_unfolding_all rfl)) fun _ => Ts.or (Ts.cmp (d1 := .int ((2 : Nat) : Int)) (d2 := .int 2) (Ev.bltin (Ev.blt ok (by rfl) T1.gl T1.bl (by decide)) (Es.cons (d := .tup [.str (T g.1), .list (q.map fun x => D.str (T (wd x)))]) (by walk_at "nm") Es.nil (by rfl)) (Bsp.len_tup (by simp)) (by rfl) (by rfl) (by rfl)) (by walk_at "ev") Cmp.ne_int (by with_unfolding_all rfl)) fun _ => Ts.or (Ts.cmp (d1 := .str (T g.1)) (d2 := .str (T g.1)) (Ev.item (d0 := .tup [.str (T g.1), .list (q.map fun x => D.str (T (wd x)))]) (di := .int 0) (by walk_at "nm") (by walk_at "ev") (Itm.tup (by decide) (by decide) rfl) (by walk_at "it")) (by walk_at "nm") Cmp.ne_str (by with_unfolding_all rfl)) fun _ => Ts.or0) (fun h => by simp at h) (fun _ => Ex.nil ?_))
  refine Ex.cons (Ex1.assignComp (ds := q.map fun x => D.str (T (wd x))) cutD ok (by rfl) (by decide +kernel) (sz (by rw [List.length_map]; omega)) (Its.of (d := .list (q.map fun x => D.str (T (wd x)))) (Ev.item (d0 := .tup [.str (T g.1), .list (q.map fun x => D.str (T (wd x)))]) (di := .int 1) (by walk_at "nm") (by walk_at "ev") (Itm.tup (by decide) (by decide) rfl) (by walk_at "it")) (Itr.list ok)) (fun L' h' d hd ok' => ?_) (by rfl) (by intro x; rfl) ?_)
  · obtain ⟨x, hx, rfl⟩ := List.mem_map.mp hd
    refine ⟨_, Asg.name (by rfl) (by rfl), Tst.nil, Ev.call ok' (Ev.glob ok' (by rfl) T1.gV (by decide)) fV' (Es.cons (by walk_at "nm") Es.nil (by rfl)) (splitvalue_sp fV' (l := wd x) (by have := (hwd x hx).1; omega)) (by rfl) (by rfl), ?_⟩
    show NoL (cutL 61 (wd x))
    rw [cut_wd (h61 x hx)]
    obtain ⟨k, o⟩ := x
    cases o <;> simp [NoL, NoLs, oD]
  rw [cutD_map h61]
  have hpln := pln_list hq
  refine Ex.cons (Ex1.if (b := false || (decide (T (wrt g.1 q) ≠ T (wrt g.1 q)) || false)) (Ts.or (Ts.cmp (d1 := .list (q.map pD1)) (d2 := .list (q.map pD1)) (by walk_at "nm") (by walk_at "nm") (Cmp.ne_same ok.rm (by rw [Pln]; exact hpln.1) (by rw [dep]; omega)) (by with_unfolding_all rfl)) fun _ => Ts.or (Ts.cmp (d1 := .str (T (wrt g.1 q))) (d2 := .str (T (wrt g.1 q))) (Ev.call ok (Ev.glob ok (by rfl) T1.gW (by decide)) fW' (Es.cons (Ev.item (d0 := .tup [.str (T g.1), .list (q.map fun x => D.str (T (wd x)))]) (di := .int 0) (by walk_at "nm") (by walk_at "ev") (Itm.tup (by decide) (by decide) rfl) (by walk_at "it")) (Es.cons (by walk_at "nm") Es.nil (by rfl)) (by rfl)) sw (by rfl) (by rfl)) (by walk_at "nm") Cmp.ne_str (by with_unfolding_all rfl)) fun _ => Ts.or0) (fun h => by simp at h) (fun _ => Ex.nil (Ex.nil ?_)))
  walk_at "sub"
end
end Mine

namespace Mine

local macro_rules | `(tactic| walk_at "ev") => `(tactic| first
  | exact Ev.cint | exact Ev.cnone | exact Ev.cbool | exact Ev.cstr
  | exact Ev.name (by rfl) (by rfl) (by rfl) (by decide))
local macro_rules | `(tactic| walk_at "nm") => `(tactic| exact Ev.name (by rfl) (by rfl) (by rfl) (by decide))
local macro_rules | `(tactic| walk_at "sub") => `(tactic| repeat' (first | exact Sub.nil | refine Sub.cons (by rfl) ?_))
local macro_rules | `(tactic| walk_at "ev2") => `(tactic| refine Ev.tup (ds := [_, _]) (Es.cons ?_ (Es.cons ?_ Es.nil (by rfl)) (by rfl)) (sz (Nat.le_of_ble_eq_true rfl)))
local macro_rules | `(tactic| walk_at "ev3") => `(tactic| refine Ev.tup (ds := [_, _, _]) (Es.cons ?_ (Es.cons ?_ (Es.cons ?_ Es.nil (by rfl)) (by rfl)) (by rfl)) (sz (Nat.le_of_ble_eq_true rfl)))
local macro_rules | `(tactic| walk_at "sl") => `(tactic| (intro o r; with_unfolding_all rfl))
local macro_rules | `(tactic| walk_at "it") => `(tactic| (intro o i _; with_unfolding_all rfl))
theorem s_nm1 : Str.ofString "type" = T [116, 121, 112, 101] := by decide +kernel
theorem s_nm2 : Str.ofString "a" = T [97] := by decide +kernel
theorem s_nm3 : Str.ofString "x y" = T [120, 32, 121] := by decide +kernel
theorem s_nm4 : Str.ofString "é" = T [233] := by decide +kernel
theorem nm_at {j : Int} (h0 : 0 ≤ j) (h5 : j < 5) : ∃ k ∈ names5, ([.str (T []), .str (T [116, 121, 112, 101]), .str (T [97]), .str (T [120, 32, 121]), .str (T [233])] : List D)[j.toNat]? = some (.str (T k)) := by
  have : j = 0 ∨ j = 1 ∨ j = 2 ∨ j = 3 ∨ j = 4 := by omega
  rcases this with rfl | rfl | rfl | rfl | rfl
  · exact ⟨[], by decide, rfl⟩
  · exact ⟨[116, 121, 112, 101], by decide, rfl⟩
  · exact ⟨[97], by decide, rfl⟩
  · exact ⟨[120, 32, 121], by decide, rfl⟩
  · exact ⟨[233], by decide, rfl⟩
theorem flat_oD (o : Option (List Nat)) : Flat (oD o) := by cases o <;> trivial
section
variable {w : World} {G : Grd} {fA fV fS fW : Addr} (T1 : Top1 G fA fV fS fW) {A : Around} {L a b : Addr} {cd : Value} {h0 : Heap}
include T1
set_option maxHeartbeats 8000000 in
/-- what a number does to the path and the ledger -/
theorem act1 {g : G1} (ok : (c1 w G A L a cd h0 (dictK P1 w b g.2)).Ok 1) (hb0 : h0.get? b = none) {i : Nat} (p : PI i g) (hi : i ≤ 50) (n : Int) {Rt : D → Prop} :
    Em (c1 w G A L a cd h0 (dictK P1 w b g.2)) (("number", .int n) :: σ1 b g) (blk BL 0 true) (fun K σ' => ∃ g', K = dictK P1 w b g'.2 ∧ PI (i + 1) g' ∧ Sub σ' (σ1 b g')) Rt := by
  obtain ⟨kV', doc', pm', an', cdv', ct', fS'⟩ := id T1.fS
  have hpl := p.pl
  have hel := p.el
  have h5 := fmod_pos (a := n.fdiv 6) (b := 5) (by decide)
  obtain ⟨nm, hnm, enm⟩ := nm_at h5.1 h5.2
  have hel' : g.2.length ≤ 1000 := by omega
  refine Em.cons (Em1.ofEx (Ex1.assign (d := .str (T nm)) (by rfl) (by rfl) (Ev.item (d0 := nmD) (di := .int ((n.fdiv 6).fmod 5)) (by walk_at "nm") (Ev.bin (d1 := .int (n.fdiv 6)) (d2 := .int 5) (Ev.bin (d1 := .int n) (d2 := .int 6) (by walk_at "nm") (by walk_at "ev") (Bin.div_int (by decide) (py6 n))) (by walk_at "ev") (Bin.mod_int (by decide))) (Itm.tup h5.1 (by omega) enm) (by walk_at "it")) (by rfl) ?_))
  refine Em.cons (Em1.ofEx (Ex1.assign (d := .str (ch (sgn1 (n.fdiv 30)))) (by rfl) (by rfl) (Ev.call ok (Ev.glob ok (by rfl) T1.gS (by decide)) fS' (Es.cons (Ev.bin (d1 := .int n) (d2 := .int 30) (by walk_at "nm") (by walk_at "ev") (Bin.div_int (by decide) (py30 n))) Es.nil (by rfl)) (sign1_sp fS' T1.gc T1.bc _) (by rfl) (by rfl)) (by rfl) ?_))
  refine Em.cut (fun sg : List Nat => ("sign", .str (T sg)) :: ("name", .str (T nm)) :: ("number", .int n) :: σ1 b g) (fun sg => sg.length ≤ 1 ∧ 59 ∉ sg ∧ ∀ n ∈ sg, n < 1114112) ?_ ?_
  · refine Ex1.if (b := decide (ch (sgn1 (n.fdiv 30)) = ch 59)) (Ts.cmp (d1 := .str (ch (sgn1 (n.fdiv 30)))) (d2 := .str (ch 59)) (by walk_at "nm") (by rw [← s_semi]; walk_at "ev") Cmp.eq_str (by with_unfolding_all rfl)) (fun h => ?_) (fun h => ?_)
    · exact Ex.cons (Ex1.assign (d := .str (T [])) (by rfl) (by rfl) (by rw [← s_empty]; walk_at "ev") (by rfl) (Ex.nil ⟨[], ⟨by simp, by simp, by simp⟩, by walk_at "sub"⟩))
    · refine Ex.nil ⟨[sgn1 (n.fdiv 30)], ⟨by simp, ?_, ?_⟩, by walk_at "sub"⟩
      · intro hm
        have : 59 = sgn1 (n.fdiv 30) := List.mem_singleton.mp hm
        rw [← this] at h; simp at h
      · intro m hm; rw [List.mem_singleton.mp hm]; exact sgn1_lt _
  rintro sg ⟨s1, s2, s3⟩
  refine Em.cons (Em1.ofEx (Ex1.assign (d := .int (n.fmod 6)) (by rfl) (by rfl) (Ev.bin (d1 := .int n) (d2 := .int 6) (by walk_at "nm") (by walk_at "ev") (Bin.mod_int (by decide))) (by rfl) ?_))
  generalize n.fmod 6 = tn
  have sgo : VlOk (i + 1) (some sg) := fun v e => by cases e; exact ⟨by omega, s2, s3⟩
  refine Em.cons (Em1.if (b := decide (tn = 0)) (Ts.cmp (d1 := .int tn) (d2 := .int 0) (by walk_at "nm") (by walk_at "ev") Cmp.eq_int (by with_unfolding_all rfl)) (fun _ => ?_) (fun _ => ?_))
  · exact Em.cons (Em1.setD (c := c1 w G A L a cd h0 Kf.none) (k := T nm) (d := oD (some sg)) (by rfl) (by rfl) (by decide) (by rfl) (flat_oD _) (by walk_at "nm") (by walk_at "nm") hb0 hel' (by rfl) (Em.nil (Em.nil ⟨(g.1, stE g.2 (T nm) (oD (some sg))), rfl, p.st hnm sgo, by walk_at "sub"⟩)))
  refine Em.cons (Em1.if (b := decide (tn = 1)) (Ts.cmp (d1 := .int tn) (d2 := .int 1) (by walk_at "nm") (by walk_at "ev") Cmp.eq_int (by with_unfolding_all rfl)) (fun _ => ?_) (fun _ => ?_))
  · have old : ∃ old : List Nat, (old.length ≤ i ∧ 59 ∉ old ∧ ∀ n ∈ old, n < 1114112) ∧ (((atE g.2 (T nm)).getD .none = .none ∧ old = []) ∨ (atE g.2 (T nm)).getD .none = .str (T old)) := by
      cases e : atE g.2 (T nm) with
      | none => exact ⟨[], ⟨by simp, by simp, by simp⟩, .inl ⟨rfl, rfl⟩⟩
      | some d =>
        obtain ⟨k, o, e1, _, ho⟩ := p.ent _ (at_mem e)
        cases o with
        | none => cases e1; exact ⟨[], ⟨by simp, by simp, by simp⟩, .inl ⟨rfl, rfl⟩⟩
        | some v => cases e1; exact ⟨v, ho v rfl, .inr rfl⟩
    obtain ⟨old, ⟨o1, o2, o3⟩, ho⟩ := old
    have ns : VlOk (i + 1) (some (old ++ sg)) := fun v e => by
      cases e
      refine ⟨by simp; omega, by simp [o2, s2], fun m hm => ?_⟩
      rcases List.mem_append.mp hm with h | h
      · exact o3 m h
      · exact s3 m h
    refine Em.cons (Em1.setD (c := c1 w G A L a cd h0 Kf.none) (k := T nm) (d := oD (some (old ++ sg))) (by rfl) (by rfl) (by decide) (by rfl) (flat_oD _) (ev_add ?_ (by walk_at "nm") (by omega)) (by walk_at "nm") hb0 hel' (by rfl) (Em.nil (Em.nil (Em.nil ⟨(g.1, stE g.2 (T nm) (oD (some (old ++ sg)))), rfl, p.st hnm ns, by walk_at "sub"⟩))))
    have hget := fun (σ : Store) (px ap pos : Pos) (i : Expr) (pl : Sem Bool) hx hi hc he => Ev.getD (c := c1 w G A L a cd h0 (dictK P1 w b g.2)) (σ := σ) (a := b) (E := g.2) (x := "ledger") (i := i) (k := T nm) (px := px) (ap := ap) (pos := pos) (pl := pl) rfl hx hi hc he
    rcases ho with ⟨e1, rfl⟩ | e1
    · rw [e1] at hget
      exact Ev.orF (hget _ _ _ _ _ _ (by walk_at "nm") (by walk_at "nm") (by rfl) (by rfl)) Tru.none (Ev.or1 (by rw [← s_empty]; walk_at "ev"))
    · rw [e1] at hget
      by_cases hv : old = []
      · subst hv
        exact Ev.orF (hget _ _ _ _ _ _ (by walk_at "nm") (by walk_at "nm") (by rfl) (by rfl)) tru_empty (Ev.or1 (by rw [← s_empty]; walk_at "ev"))
      · refine Ev.orT (hget _ _ _ _ _ _ (by walk_at "nm") (by walk_at "nm") (by rfl) (by rfl)) ?_
        have := Tru.str (c := c1 w G A L a cd h0 (dictK P1 w b g.2)) (x := T old) (by rw [T_len]; omega)
        rwa [decide_eq_true (T_ne_empty.mpr hv)] at this
  have vn : VlOk (i + 1) none := fun v e => by cases e
  have ve : VlOk (i + 1) (some []) := fun v e => by cases e; exact ⟨by simp, by simp, by simp⟩
  refine Em.cons (Em1.if (b := decide (tn = 2)) (Ts.cmp (d1 := .int tn) (d2 := .int 2) (by walk_at "nm") (by walk_at "ev") Cmp.eq_int (by with_unfolding_all rfl)) (fun _ => ?_) (fun _ => ?_))
  · exact Em.cons (Em1.setD (c := c1 w G A L a cd h0 Kf.none) (k := T nm) (d := oD none) (by rfl) (by rfl) (by decide) (by rfl) (flat_oD _) (by show Ev _ _ _ .none; walk_at "ev") (by walk_at "nm") hb0 hel' (by rfl) (Em.nil (Em.nil (Em.nil (Em.nil ⟨(g.1, stE g.2 (T nm) (oD none)), rfl, p.st hnm vn, by walk_at "sub"⟩)))))
  refine Em.cons (Em1.if (b := decide (tn = 3)) (Ts.cmp (d1 := .int tn) (d2 := .int 3) (by walk_at "nm") (by walk_at "ev") Cmp.eq_int (by with_unfolding_all rfl)) (fun _ => ?_) (fun _ => ?_))
  · exact Em.cons (Em1.popD (c := c1 w G A L a cd h0 Kf.none) (k := T nm) (by rfl) (by rfl) (by decide) (by rfl) (by walk_at "nm") (by walk_at "ev") hb0 hel' (by rfl) (by rfl) (by rfl) (by rfl) (by rfl) (by rfl) (Em.nil (Em.nil (Em.nil (Em.nil (Em.nil ⟨(g.1, woE g.2 (T nm)), rfl, p.wo _, by walk_at "sub"⟩))))))
  refine Em.cons (Em1.if (b := decide (tn = 4)) (Ts.cmp (d1 := .int tn) (d2 := .int 4) (by walk_at "nm") (by walk_at "ev") Cmp.eq_int (by with_unfolding_all rfl)) (fun _ => ?_) (fun _ => ?_))
  · exact Em.cons (Em1.setD (c := c1 w G A L a cd h0 Kf.none) (k := T nm) (d := oD (some [])) (by rfl) (by rfl) (by decide) (by rfl) (flat_oD _) (by show Ev _ _ _ (.str (T [])); rw [← s_empty]; walk_at "ev") (by walk_at "nm") hb0 hel' (by rfl) (Em.nil (Em.nil (Em.nil (Em.nil (Em.nil (Em.nil ⟨(g.1, stE g.2 (T nm) (oD (some []))), rfl, p.st hnm ve, by walk_at "sub"⟩)))))))
  · refine Em.cons (Em1.ofEx (Ex1.assign (d := .str (T (g.1 ++ sg))) (by rfl) (by rfl) (ev_add (by walk_at "nm") (by walk_at "nm") (by omega)) (by rfl) (Em.nil (Em.nil (Em.nil (Em.nil (Em.nil (Em.nil ⟨(g.1 ++ sg, g.2), rfl, ?_, by walk_at "sub"⟩))))))))
    have h' := p.le (Nat.le_succ i)
    refine ⟨by simp; omega, by simp [p.p59, s2], fun m hm => ?_, h'.el, h'.ent⟩
    rcases List.mem_append.mp hm with h | h
    · exact p.pcp m h
    · exact s3 m h
end
end Mine

namespace Mine

local macro_rules | `(tactic| walk_at "ev") => `(tactic| first
  | exact Ev.cint | exact Ev.cnone | exact Ev.cbool | exact Ev.cstr
  | exact Ev.name (by rfl) (by rfl) (by rfl) (by decide))
local macro_rules | `(tactic| walk_at "nm") => `(tactic| exact Ev.name (by rfl) (by rfl) (by rfl) (by decide))
local macro_rules | `(tactic| walk_at "sub") => `(tactic| repeat' (first | exact Sub.nil | refine Sub.cons (by rfl) ?_))
local macro_rules | `(tactic| walk_at "ev2") => `(tactic| refine Ev.tup (ds := [_, _]) (Es.cons ?_ (Es.cons ?_ Es.nil (by rfl)) (by rfl)) (sz (Nat.le_of_ble_eq_true rfl)))
local macro_rules | `(tactic| walk_at "ev3") => `(tactic| refine Ev.tup (ds := [_, _, _]) (Es.cons ?_ (Es.cons ?_ (Es.cons ?_ Es.nil (by rfl)) (by rfl)) (by rfl)) (sz (Nat.le_of_ble_eq_true rfl)))
local macro_rules | `(tactic| walk_at "sl") => `(tactic| (intro o r; with_unfolding_all rfl))
local macro_rules | `(tactic| walk_at "it") => `(tactic| (intro o i _; with_unfolding_all rfl))
section
variable {w : World} {G : Grd} {fA fV fS fW : Addr} (T1 : Top1 G fA fV fS fW) {A : Around} {L a b : Addr} {cd : Value} {h0 : Heap}
include T1
set_option maxHeartbeats 8000000 in
theorem law1_run (ok : (c1 w G A L a cd h0 Kf.none).Ok 1) (ns : List Int) (hn : ns.length ≤ 63) :
    Ex (c1 w G A L a cd h0 Kf.none) [("script", .list (ns.map D.int))] B6 (fun _ => False) (fun d => d = .bool true) := by
  refine Ex.cons (Ex1.assign (d := .list ((ns.take 40).map D.int)) (by rfl) (by rfl) ?_ (by rfl) ?_)
  · rw [List.map_take, ← lsl_to]
    exact Ev.slice_list (by walk_at "nm") rfl ⟨40, rfl, by walk_at "ev"⟩ (sz (by rw [List.length_map]; omega)) (by walk_at "sl")
  have hln : (ns.take 40).length ≤ 40 := by rw [List.length_take]; omega
  generalize ns.take 40 = ms at hln
  refine Ex.cons (Ex1.assign (d := nmD) (by rfl) (by rfl) ?_ (by rfl) ?_)
  · refine Ev.tup (ds := [_, _, _, _, _]) (Es.cons ?_ (Es.cons ?_ (Es.cons ?_ (Es.cons ?_ (Es.cons ?_ Es.nil (by rfl)) (by rfl)) (by rfl)) (by rfl)) (by rfl)) (sz (Nat.le_of_ble_eq_true rfl))
    · rw [← s_empty]; walk_at "ev"
    · rw [← s_nm1]; walk_at "ev"
    · rw [← s_nm2]; walk_at "ev"
    · rw [← s_nm3]; walk_at "ev"
    · rw [← s_nm4]; walk_at "ev"
  refine Ex.cons (Ex1.assign (d := .str (T [])) (by rfl) (by rfl) (by rw [← s_empty]; walk_at "ev") (by rfl) ?_)
  refine Ex.newdict ok (by rfl) rfl ?_ (by rfl) fun b hb0 => ?_
  · intro h hA
    obtain ⟨kV', doc', pm', an', cdv', ct', fA'⟩ := id T1.fA
    obtain ⟨o, ho, _⟩ := fA' h hA
    have hlt := Heap.lt_size ho
    have hb := T1.big
    have hne : h.objs.size ≠ 1 := fun e => by
      rw [e] at hlt
      exact absurd hlt (Nat.not_lt.mpr hb)
    exact beq_false_of_ne hne
  have ok' : ∀ g : G1, (c1 w G A L a cd h0 (dictK P1 w b g.2)).Ok 1 := fun g => ok1 ok
  refine Em.cons (Em1.for (c := c1 w G A L a cd h0 (dictK P1 w b [])) (ds := [.none, .int 667] ++ ms.map D.int) (γ := G1) (ok' ([], [])) ?_ ?_ (fun g => dictK P1 w b g.2) (fun g => rfl) (σ1 b) PI ([], []) rfl ?_ ?_ ?_ ?_ ?_ (by intro x; rfl))
  · refine Ev.bin (d1 := .list [.none, .int 667]) (d2 := .list (ms.map D.int)) (Ev.list (Es.cons (by walk_at "ev") (Es.cons ?_ Es.nil (by rfl)) (by rfl)) (sz (Nat.le_of_ble_eq_true rfl))) (by walk_at "nm") (Bin.add_list (sz (by rw [List.length_map]; simp; omega)))
    exact Ev.bin (d1 := .int 7) (d2 := .int (30 * 22)) (by walk_at "ev") (Ev.bin (d1 := .int 30) (d2 := .int 22) (by walk_at "ev") (by walk_at "ev") (Bin.mul_int (IntMulOk.of_left (intBits_le_64 (by decide) (by decide))))) Bin.add_int
  · intro d hd
    rcases List.mem_append.mp hd with h | h
    · rcases List.mem_cons.mp h with rfl | h
      · exact trivial
      · rw [List.mem_singleton.mp h]; exact trivial
    · obtain ⟨n, _, rfl⟩ := List.mem_map.mp h
      exact trivial
  · walk_at "sub"
  · exact ⟨by simp, by simp, by simp, by simp, by simp⟩
  · rintro h l vs ⟨_, kvs, ⟨o, es, ep, ho, _, hdat, _⟩, _⟩ ⟨o', ho', hc, m, hd⟩ rs hb
    rw [List.mem_singleton.mp hb, ho] at ho'
    cases ho'
    rw [hdat] at hd; cases hd
  · intro i g d hd p
    have hi : i ≤ 41 := by
      have h1 := (List.getElem?_eq_some_iff.mp hd).1
      have h2 : ([.none, .int 667] ++ ms.map D.int : List D).length = 2 + ms.length := by rw [List.length_append, List.length_map]; rfl
      have h3 : i < 2 + ms.length := by rw [← h2]; exact h1
      omega
    have hfl : d = .none ∨ ∃ n, d = .int n := by
      rcases List.mem_append.mp (List.mem_of_getElem? hd) with h | h
      · rcases List.mem_cons.mp h with rfl | h
        · exact .inl rfl
        · exact .inr ⟨_, List.mem_singleton.mp h⟩
      · obtain ⟨n, _, rfl⟩ := List.mem_map.mp h
        exact .inr ⟨n, rfl⟩
    refine ⟨("number", d) :: σ1 b g, Asg.name (by rfl) (by rfl), ?_⟩
    refine Em.cutM (fun g' : G1 => dictK P1 w b g'.2) (σ1 b) (fun g' => PI (i + 1) g') ?_ fun g' p' => Em.ofEx ((check1 T1 (ok' g') p' (by omega)).mono (fun σ' hs => ⟨g', rfl, hs, p'⟩) fun _ x => x)
    rcases hfl with rfl | ⟨n, rfl⟩
    · exact Em1.if (b := !isNone .none) (Ts.cmp (d1 := .none) (d2 := .none) (by walk_at "nm") (by walk_at "ev") (Cmp.isnot_none (by simp)) (by with_unfolding_all rfl)) (fun h => by cases h) (fun _ => Em.nil ⟨g, rfl, p.le (Nat.le_succ i), by walk_at "sub"⟩)
    · exact Em1.if (b := !isNone (.int n)) (Ts.cmp (d1 := .int n) (d2 := .none) (by walk_at "nm") (by walk_at "ev") (Cmp.isnot_none (by simp)) (by with_unfolding_all rfl)) (fun _ => act1 T1 (ok' g) hb0 p (by omega) n) (fun h => by cases h)
  · intro g p
    exact Em.cons (Em1.ofEx (Ex1.ret (by walk_at "ev") rfl))
end
end Mine

namespace Mine
/-! the head handed on -/
def grd (K : Frag) (p : Program) (loose : List Str) (mean : ExcName → Option Value) (mg mb : Str → Option Value) : Grd where
  mg := mg
  mb := mb
  At h := K.In h ∧ Top p loose mean mg mb h
  keep := fun k a => ⟨a.1.keeps k, a.2.keeps k⟩
  g := fun a => a.2.g
  b := fun a => a.2.b
  lim := fun a => a.2.nolimit
theorem rd_ints {h : Heap} : ∀ {vs : List Value} {ns : List Int}, IntsAre vs ns → RdAll h (ns.map D.int) vs
  | _, _, .nil => rdAll_nil.mpr rfl
  | _, _, .cons n t r => rdAll_cons.mpr ⟨_, _, rfl, rd_int.mpr ⟨_, rfl⟩, rd_ints r⟩
theorem law_top {c : C} {s₁ : Shared} {h₁ : Heap} {tk : Nat} {la : Addr} {vs : List Value} {ns : List Int} {body : List Stmt} {m : Str → Option Value} {Q : Flow → Shared → Prop} {E : Value → Shared → Prop} (h0 : c.h0 = s₁.heap) (hK : c.K = Kf.none)
    (F : Fr s₁.heap c.env.locals h₁ m) (hm : m "script" = some (.ref la)) (hL : s₁.heap.IsList la vs.toArray) (hI : IntsAre vs ns)
    (run : Ex c [("script", .list (ns.map D.int))] body (fun _ => False) (fun d => d = .bool true))
    (q : ∀ h' tk, (∀ b o, s₁.heap.get? b = some o → h'.get? b = some o) → Q (.ret (.bool true)) { s₁ with heap := h', toks := tk }) : wpAny (model c.prog c.w) c.A (execs body c.env) Q E { s₁ with heap := h₁, toks := tk } := by
  have H : Hd c h₁ [("script", .list (ns.map D.int))] := by
    refine ⟨⟨m, by rw [h0]; exact F, fun x d e => ?_⟩, by rw [hK]; trivial, by rw [hK]; exact fun hb => nomatch hb⟩
    rw [List.lookup_cons] at e
    cases hx : x == ("script" : Str) with
    | true =>
      rw [hx] at e; cases e
      refine ⟨.ref la, by rw [show x = ("script" : Str) by simpa using hx]; exact hm, rd_list.mpr ⟨la, vs, rfl, hL.at fun o e => F.keep la o e, rd_ints hI⟩⟩
    | false => rw [hx] at e; cases e
  refine wpAny_mono (run { s₁ with heap := h₁, toks := tk } H Q (fun _ _ _ hf _ _ => hf.elim) fun d v h' tk' hd kb r => ?_) (fun _ _ x => x) (fun _ _ x => x.elim)
  subst hd
  rw [rd_bool] at r; subst r
  exact q h' tk' fun b o e => kb b o (fun hb => absurd (Heap.lt_size e) (by rw [hb]; exact Nat.not_lt.mpr F.above)) (F.keep b o e)
theorem rm_caller {env : Env} {k : Nat} (h : k ≤ 20) : Rm (callerA.deeper env) k := ⟨rfl, by show 1 + 300 + 1 + k ≤ 900; omega, by show 4 + 3 + 10 * k ≤ 9000; omega⟩
theorem fnAt_K {K : Frag} {p : Program} {loose : List Str} {mean : ExcName → Option Value} {mg mb : Str → Option Value} {f : Addr} {oc : Value} {od : Option Addr} {osl : Array (Option Value)} {fd : FuncData} {h₀ : Heap} (_X : K.In h₀) (_T : Top p loose mean mg mb h₀)
    (ho : K.lookup f = some ⟨oc, od, .func fd, osl⟩) (hc : codeIn K fd.code fd.qualname = true) : FnAt (grd K p loose mean mg mb) f fd := fun h a => ⟨_, a.1 _ _ ho, rfl, codeRec_of a.1 hc⟩
end Mine

set_option maxHeartbeats 8000000 in
theorem PySem.Challenge.cw_dn0235_01_holds : PySem.Challenge.rw_dn0235_01.Holds := by
  w_on
  o_law
  k_head
  case hw => w_witness2
  w_strict (
    k_go0
    (with_reducible rename Frag.In _ _ => KX)
    (with_reducible rename Top _ _ _ _ _ _ => TT)
    (with_reducible rename IntsAre _ _ => hI)
    (with_reducible rename Heap.IsList _ _ _ => hL)
    (with_reducible rename Fr _ _ _ _ => F)
    (with_reducible rename ¬ ((_ : Int) < _) => hn)
    (with_reducible rename _ = #[] => hg)
    have g1 := mg_of KX TT.g (n := "_splitattr") (by k_is)
    have T1 : Mine.Top1 (Mine.grd _ _ _ _ _ _) _ _ _ _ := ⟨by decide, g1, mg_of KX TT.g (by k_is), mg_of KX TT.g (by k_is), mg_of KX TT.g (by k_is),
      ⟨_, _, _, _, _, _, Mine.fnAt_K KX TT (by k_is) (by k_is)⟩, ⟨_, _, _, _, _, _, Mine.fnAt_K KX TT (by k_is) (by k_is)⟩, ⟨_, _, _, _, _, _, Mine.fnAt_K KX TT (by k_is) (by k_is)⟩, ⟨_, _, _, _, _, _, Mine.fnAt_K KX TT (by k_is) (by k_is)⟩,
      mg_none_of KX TT.g (by k_is), (TT.builtins _ (by decide)).trans (by boot_by_name), mg_none_of KX TT.g (by k_is), (TT.builtins _ (by decide)).trans (by boot_by_name), mg_none_of KX TT.g (by k_is), (TT.builtins _ (by decide)).trans (by boot_by_name), mg_none_of KX TT.g (by k_is), (TT.builtins _ (by decide)).trans (by boot_by_name), mg_none_of KX TT.g (by k_is), (TT.builtins _ (by decide)).trans (by boot_by_name)⟩
    refine Mine.law_top (c := Mine.c1 _ (Mine.grd _ _ _ _ _ _) _ _ _ _ _ Mine.Kf.none) rfl rfl F rfl hL hI (Mine.law1_run T1 ?ok _ ?len) ?fin
    case ok => exact ⟨rfl, rfl, rfl, ⟨KX, TT⟩, Mine.rm_caller (by decide)⟩
    case len => omega
    case fin =>
      intro h' tk k
      exact ⟨.inl ⟨.bool true, .bool true, [], rfl, fun cls => rfl, .bool true, postW_of rfl (w_eq_bool (w_res rfl) w_lit) rfl, fun _ => ⟨.nil, fun _ h => nomatch h⟩⟩, k, rfl, hg⟩)

