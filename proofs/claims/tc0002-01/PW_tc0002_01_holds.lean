import PyProof.Rows.All
import Wide.All
import OpenK.AllK
import Wide.FinOn
import Lean
import PySem.Challenge.RW_tc0002_01
set_option Elab.async false
set_option maxRecDepth 100000
set_option linter.unusedVariables false
namespace Mine
open PySem PySem.W PyProof.Rows
set_option maxRecDepth 100000 in
set_option maxHeartbeats 8000000 in
open_top hd for PySem.Challenge.rw_tc0002_01
end Mine

namespace Mine
open PySem PySem.W

abbrev prg : Program := PySem.Challenge.pw_tc0002_01
abbrev NoE : Value → Shared → Prop := fun _ _ => False

inductive PV where
  | none
  | bool (b : Bool)
  | int (i : Int)
  | str (s : Str)
  | tup (l : List PV)
  | list (l : List PV)
  | olist (l : List PV)
  | raw (R : World → Obj → Prop)
  | lat (a : Addr) (l : List PV)

abbrev tupObj (vs : List Value) (n : Nat) : Obj := { cls := .type "tuple", data := .seq vs.toArray n }
abbrev lstObj (vs : List Value) (n : Nat) : Obj := { cls := .type "list", data := .seq vs.toArray n }

mutual
def RV (w : World) (h : Heap) (F : List Addr) : PV → Value → Prop
  | .none, v => v = .none
  | .bool b, v => v = .bool b
  | .int i, v => ∃ t, v = .int i t
  | .str s, v => ∃ t, v = .str s t
  | .tup l, v => ∃ a vs n, v = .ref a ∧ a ∉ F ∧ h.get? a = some (tupObj vs n) ∧ RVs w h F l vs
  | .list l, v => ∃ a vs n, v = .ref a ∧ a ∉ F ∧ h.get? a = some (lstObj vs n) ∧ RVs w h F l vs
  | .olist l, v => ∃ a vs n, v = .ref a ∧ h.get? a = some (lstObj vs n) ∧ RVs w h F l vs
  | .raw R, v => ∃ a o, v = .ref a ∧ a ∉ F ∧ h.get? a = some o ∧ R w o ∧ (a == sysModules) = false ∧ o.cls = .type "dict"
  | .lat a l, v => v = .ref a ∧ a ∉ F ∧ ∃ vs n, h.get? a = some (lstObj vs n) ∧ RVs w h F l vs
def RVs (w : World) (h : Heap) (F : List Addr) : List PV → List Value → Prop
  | [], vs => vs = []
  | p :: ps, vs => ∃ v r, vs = v :: r ∧ RV w h F p v ∧ RVs w h F ps r
end
mutual
def PV.frozen : PV → Bool
  | .none | .bool _ | .int _ | .str _ | .raw _ => true
  | .tup l | .list l | .lat _ l => PV.frozens l
  | .olist _ => false
def PV.frozens : List PV → Bool
  | [] => true
  | p :: ps => PV.frozen p && PV.frozens ps
end

/-- lists, tuples, dicts -/
def DC (o : Obj) : Prop := o.cls = .type "list" ∨ o.cls = .type "tuple" ∨ o.cls = .type "dict"

abbrev Up (h h' : Heap) : Prop := ∀ b o, h.get? b = some o → h'.get? b = some o

mutual
theorem RV.up {h h' : Heap} {F : List Addr} (k : Up h h') : ∀ (p : PV) {v : Value}, RV w h F p v → RV w h' F p v
  | .none, _, x => x
  | .bool _, _, x => x
  | .int _, _, x => x
  | .str _, _, x => x
  | .tup l, _, ⟨a, vs, n, e, hF, ho, r⟩ => ⟨a, vs, n, e, hF, k _ _ ho, RVs.up k l r⟩
  | .list l, _, ⟨a, vs, n, e, hF, ho, r⟩ => ⟨a, vs, n, e, hF, k _ _ ho, RVs.up k l r⟩
  | .olist l, _, ⟨a, vs, n, e, ho, r⟩ => ⟨a, vs, n, e, k _ _ ho, RVs.up k l r⟩
  | .raw R, _, ⟨a, o, e, hF, ho, r⟩ => ⟨a, o, e, hF, k _ _ ho, r⟩
  | .lat a l, _, ⟨e, hF, vs, n, ho, r⟩ => ⟨e, hF, vs, n, k _ _ ho, RVs.up k l r⟩
theorem RVs.up {h h' : Heap} {F : List Addr} (k : Up h h') : ∀ (ps : List PV) {vs : List Value}, RVs w h F ps vs → RVs w h' F ps vs
  | [], _, x => x
  | p :: ps, _, ⟨v, r, e, x, y⟩ => ⟨v, r, e, RV.up k p x, RVs.up k ps y⟩
end
mutual
theorem RV.mono {h h' : Heap} {F F' : List Addr} (k : ∀ b o, b ∉ F → h.get? b = some o → h'.get? b = some o ∧ b ∉ F') : ∀ (p : PV) {v : Value}, p.frozen = true → RV w h F p v → RV w h' F' p v
  | .none, _, _, x => x
  | .bool _, _, _, x => x
  | .int _, _, _, x => x
  | .str _, _, _, x => x
  | .tup l, _, f, ⟨a, vs, n, e, hF, ho, r⟩ => ⟨a, vs, n, e, (k _ _ hF ho).2, (k _ _ hF ho).1, RVs.mono k l f r⟩
  | .list l, _, f, ⟨a, vs, n, e, hF, ho, r⟩ => ⟨a, vs, n, e, (k _ _ hF ho).2, (k _ _ hF ho).1, RVs.mono k l f r⟩
  | .olist _, _, f, _ => nomatch f
  | .raw R, _, _, ⟨a, o, e, hF, ho, r⟩ => ⟨a, o, e, (k _ _ hF ho).2, (k _ _ hF ho).1, r⟩
  | .lat a l, _, f, ⟨e, hF, vs, n, ho, r⟩ => ⟨e, (k _ _ hF ho).2, vs, n, (k _ _ hF ho).1, RVs.mono k l f r⟩
theorem RVs.mono {h h' : Heap} {F F' : List Addr} (k : ∀ b o, b ∉ F → h.get? b = some o → h'.get? b = some o ∧ b ∉ F') : ∀ (ps : List PV) {vs : List Value}, PV.frozens ps = true → RVs w h F ps vs → RVs w h' F' ps vs
  | [], _, _, x => x
  | p :: ps, _, f, ⟨v, r, e, x, y⟩ => by
    have f' : (PV.frozen p && PV.frozens ps) = true := f
    rw [Bool.and_eq_true] at f'
    exact ⟨v, r, e, RV.mono k p f'.1 x, RVs.mono k ps f'.2 y⟩
end

theorem RVs.length {h : Heap} {F : List Addr} : ∀ {ps : List PV} {vs : List Value}, RVs w h F ps vs → vs.length = ps.length
  | [], _, x => by rw [show _ = [] from x]; rfl
  | _ :: ps, _, ⟨v, r, e, _, y⟩ => by rw [e, List.length_cons, List.length_cons, RVs.length y]
theorem RVs.get {h : Heap} {F : List Addr} : ∀ {ps : List PV} {vs : List Value}, RVs w h F ps vs → ∀ {i : Nat} {p : PV}, ps[i]? = some p → ∃ v, vs[i]? = some v ∧ RV w h F p v
  | [], _, _, i, _, e => by simp at e
  | p :: ps, _, ⟨v, r, e, x, y⟩, i, q, hq => by
    subst e
    cases i with
    | zero => simp at hq; subst hq; exact ⟨v, rfl, x⟩
    | succ i => simp at hq ⊢; exact RVs.get y hq
theorem RVs.append {h : Heap} {F : List Addr} : ∀ {ps qs : List PV} {vs ws : List Value}, RVs w h F ps vs → RVs w h F qs ws → RVs w h F (ps ++ qs) (vs ++ ws)
  | [], _, _, _, x, y => by rw [show _ = [] from x]; exact y
  | _ :: ps, _, _, _, ⟨v, r, e, x, y⟩, z => ⟨v, r ++ _, by rw [e]; rfl, x, RVs.append y z⟩
theorem RVs.one {h : Heap} {F : List Addr} {p : PV} {v : Value} (x : RV w h F p v) : RVs w h F [p] [v] := ⟨v, [], rfl, x, rfl⟩
/-- lists: frozen or owned -/
def RVl (w : World) (h : Heap) (F : List Addr) (l : List PV) (v : Value) : Prop := ∃ a vs n, v = .ref a ∧ h.get? a = some (lstObj vs n) ∧ RVs w h F l vs
theorem RVl.of_list {h : Heap} {F : List Addr} {l : List PV} {v : Value} (x : RV w h F (.list l) v) : RVl w h F l v := let ⟨a, vs, n, e, _, ho, r⟩ := x; ⟨a, vs, n, e, ho, r⟩
theorem RVl.of_olist {h : Heap} {F : List Addr} {l : List PV} {v : Value} (x : RV w h F (.olist l) v) : RVl w h F l v := x

inductive VE where
  | val (p : PV)
  | own (l : List PV)
  | ownR (R : World → Obj → Prop)
abbrev Vars := List (Str × VE)

noncomputable abbrev K (w : World) : Frag := Mine.hd.heap_39 w.params
noncomputable abbrev view : Program := Mine.hd.view_39
noncomputable abbrev loose : List Str := looseW view [Str.ofString "COMPILER_FLAG_NAMES", Str.ofString "_twin_re_1", Str.ofString "_twin_re_2"]

def Base (w : World) (h : Heap) : Prop := (K w).In h ∧ ∃ mean mg mb, PyProof.Rows.Top view loose mean mg mb h
end Mine

namespace Mine
open PySem PySem.W

theorem Base.up {w : World} {h h' : Heap} (b : Base w h) (k : Up h h') : Base w h' :=
  let ⟨x, mean, mg, mb, T⟩ := b; ⟨x.keeps k, mean, mg, mb, T.keeps k⟩

def Room (k : Nat) (A : Around) : Prop := A.handled = none ∧ A.depth + (20 * k + 20) < recursionLimit ∧ A.units + (20 * k + 20) < cLine
theorem Room.hd {k : Nat} {A : Around} (r : Room k A) : A.handled = none := r.1
theorem Room.depth {k : Nat} {A : Around} (r : Room k A) : A.depth < recursionLimit := by have := r.2.1; omega
theorem Room.units {k : Nat} {A : Around} (r : Room k A) : A.units < cLine := by have := r.2.2; omega
theorem Room.deeper {k : Nat} {A : Around} (r : Room (k + 1) A) (env : Env) : Room k (A.deeper env) := by
  refine ⟨r.1, ?_, ?_⟩
  · have := r.2.1; show A.depth + 1 + _ < _; omega
  · have := r.2.2; show A.units + 3 + _ < _; omega
theorem Room.le {k : Nat} {A : Around} (r : Room (k + 1) A) : Room k A := ⟨r.1, by have := r.2.1; omega, by have := r.2.2; omega⟩
def muts (env : Env) (own : List (Str × Addr)) : List Addr := env.locals :: (env.cells.map (·.2) ++ own.map (·.2))
abbrev Fof (env : Env) (F₀ : List Addr) (own : List (Str × Addr)) : List Addr := F₀ ++ muts env own

def SlotIs (env : Env) (h : Heap) (x : Str) (v : Value) : Prop :=
  (env.kindOf x = some .local ∧ ∃ m, h.Ns env.locals m ∧ m x = some v) ∨
  ((env.kindOf x = some .cell ∨ (env.kindOf x = some .free ∧ (x == ("__classdict__" : Str)) = false)) ∧ ∃ c, env.cells.lookup x = some c ∧ h.IsCell c (some v))

def VarIs (w : World) (env : Env) (F : List Addr) (own : List (Str × Addr)) (h : Heap) (x : Str) : VE → Prop
  | .val p => p.frozen = true ∧ ∃ v, SlotIs env h x v ∧ RV w h F p v
  | .own l => ∃ a vs n, SlotIs env h x (.ref a) ∧ (x, a) ∈ own ∧ h.get? a = some (lstObj vs n) ∧ PV.frozens l = true ∧ RVs w h F l vs
  | .ownR R => ∃ a o, SlotIs env h x (.ref a) ∧ (x, a) ∈ own ∧ h.get? a = some o ∧ R w o ∧ (a == sysModules) = false ∧ o.cls = .type "dict"

structure EnvOK (sc : Scope) (env : Env) : Prop where
  scope : env.scope = sc
  kind : sc.kind = .function
  globals : env.globals = mainGlobals
  builtins : env.builtins = builtinsNs

structure St (w : World) (env : Env) (h₀ : Heap) (F₀ : List Addr) (own : List (Str × Addr)) (ρ : Vars) (h : Heap) : Prop where
  base : Base w h₀
  keep : Up h₀ h
  alive : ∀ a ∈ F₀, ∃ o, h.get? a = some o
  ns : ∃ m, h.Ns env.locals m
  cells : ∀ p ∈ env.cells, ∃ v, h.IsCell p.2 v
  ownlive : ∀ p ∈ own, ∃ o, h.get? p.2 = some o ∧ DC o
  fresh : ∀ a ∈ muts env own, h₀.get? a = none
  apart : ∀ a ∈ own.map (·.2), a ∉ F₀
  nodup : (muts env own).Nodup
  vars : ∀ x e, ρ.lookup x = some e → VarIs w env (Fof env F₀ own) own h x e

theorem SlotIs.up {env : Env} {h h' : Heap} {x : Str} {v : Value} (y : SlotIs env h x v) (k : Up h h') : SlotIs env h' x v := by
  rcases y with ⟨a, m, n, e⟩ | ⟨a, c, e, hc⟩
  · exact .inl ⟨a, m, n.keeps k, e⟩
  · exact .inr ⟨a, c, e, hc.keeps k⟩
theorem VarIs.up {env : Env} {F : List Addr} {own : List (Str × Addr)} {h h' : Heap} {x : Str} (k : Up h h') : ∀ {e : VE}, VarIs w env F own h x e → VarIs w env F own h' x e
  | .val p, ⟨f, v, y, r⟩ => ⟨f, v, y.up k, RV.up k p r⟩
  | .own l, ⟨a, vs, n, y, m, ho, f, r⟩ => ⟨a, vs, n, y.up k, m, k _ _ ho, f, RVs.up k l r⟩
  | .ownR R, ⟨a, o, y, m, ho, r⟩ => ⟨a, o, y.up k, m, k _ _ ho, r⟩
theorem St.up {w : World} {env : Env} {h₀ : Heap} {F₀ : List Addr} {own : List (Str × Addr)} {ρ : Vars} {h h' : Heap} (S : St w env h₀ F₀ own ρ h) (k : Up h h') : St w env h₀ F₀ own ρ h' where
  base := S.base
  keep := fun b o e => k b o (S.keep b o e)
  alive := fun a ha => let ⟨o, e⟩ := S.alive a ha; ⟨o, k _ _ e⟩
  ns := let ⟨m, n⟩ := S.ns; ⟨m, n.keeps k⟩
  cells := fun p hp => let ⟨v, c⟩ := S.cells p hp; ⟨v, c.keeps k⟩
  ownlive := fun p hp => let ⟨o, e, d⟩ := S.ownlive p hp; ⟨o, k _ _ e, d⟩
  fresh := S.fresh
  apart := S.apart
  nodup := S.nodup
  vars := fun x e hx => (S.vars x e hx).up k
theorem St.here {w : World} {env : Env} {h₀ : Heap} {F₀ : List Addr} {own : List (Str × Addr)} {ρ : Vars} {h : Heap} (S : St w env h₀ F₀ own ρ h) : Base w h := S.base.up S.keep
theorem St.live {w : World} {env : Env} {h₀ : Heap} {F₀ : List Addr} {own : List (Str × Addr)} {ρ : Vars} {h : Heap} (S : St w env h₀ F₀ own ρ h) : ∀ a ∈ Fof env F₀ own, ∃ o, h.get? a = some o := fun a ha => by
  rcases List.mem_append.mp ha with ha | ha
  · exact S.alive a ha
  · rcases List.mem_cons.mp ha with rfl | ha
    · obtain ⟨m, o, _, _, ho, _⟩ := S.ns; exact ⟨o, ho⟩
    · rcases List.mem_append.mp ha with ha | ha
      · obtain ⟨p, hp, rfl⟩ := List.mem_map.mp ha
        obtain ⟨v, o, ho, _⟩ := S.cells p hp; exact ⟨o, ho⟩
      · obtain ⟨p, hp, rfl⟩ := List.mem_map.mp ha
        exact let ⟨o, e, _⟩ := S.ownlive p hp; ⟨o, e⟩

abbrev Live (F : List Addr) (h : Heap) : Prop := ∀ a ∈ F, ∃ o, h.get? a = some o
theorem Live.up {F : List Addr} {h h' : Heap} (x : Live F h) (k : Up h h') : Live F h' := fun a ha => let ⟨o, e⟩ := x a ha; ⟨o, k _ _ e⟩
theorem Live.new {F : List Addr} {h : Heap} (x : Live F h) : h.objs.size ∉ F := fun hm => let ⟨_, e⟩ := x _ hm; Nat.lt_irrefl _ (Heap.lt_size e)
theorem Live.none {F : List Addr} {h : Heap} (x : Live F h) {a : Addr} (e : h.get? a = none) : a ∉ F := fun hm => by obtain ⟨o, e'⟩ := x _ hm; rw [e] at e'; cases e'

def Kp (s s' : Shared) : Prop := Keeps s s'
theorem Kp.refl (s : Shared) : Kp s s := ⟨s.heap, s.toks, rfl, fun _ _ e => e⟩
theorem Kp.trans {a b c : Shared} (x : Kp a b) (y : Kp b c) : Kp a c := by
  obtain ⟨h, t, rfl, k⟩ := x
  obtain ⟨h', t', rfl, k'⟩ := y
  exact ⟨h', t', rfl, fun p o e => k' p o (k p o e)⟩
theorem Kp.up {a b : Shared} (x : Kp a b) : Up a.heap b.heap := by
  obtain ⟨h, t, rfl, k⟩ := x
  exact k
theorem Kp.tok (s : Shared) (n : Nat) : Kp s { s with toks := n } := ⟨s.heap, n, rfl, fun _ _ e => e⟩
theorem Kp.heap (s : Shared) {h : Heap} (k : Up s.heap h) : Kp s { s with heap := h } := ⟨h, s.toks, rfl, k⟩
theorem Kp.both (s : Shared) {h : Heap} {n : Nat} (k : Up s.heap h) : Kp s { s with heap := h, toks := n } := ⟨h, n, rfl, k⟩

/-- a tree gives a value that means p -/
def Gives (A : Around) (w : World) (F : List Addr) (t : Sem Value) (p : PV) (s : Shared) : Prop :=
  wpAny (model prg w) A t (fun v s' => Kp s s' ∧ RV w s'.heap F p v) NoE s

def Ev (k : Nat) (sc : Scope) (ρ : Vars) (e : PySem.Expr) (p : PV) : Prop :=
  ∀ {w : World} {A : Around} {env : Env} {h₀ : Heap} {F₀ : List Addr} {own : List (Str × Addr)} {s : Shared}, Room k A → EnvOK sc env → St w env h₀ F₀ own ρ s.heap →
    Gives A w (Fof env F₀ own) (eval e env) p s

def Tst (k : Nat) (sc : Scope) (ρ : Vars) (e : PySem.Expr) (b : Bool) : Prop :=
  ∀ {w : World} {A : Around} {env : Env} {h₀ : Heap} {F₀ : List Addr} {own : List (Str × Addr)} {s : Shared}, Room k A → EnvOK sc env → St w env h₀ F₀ own ρ s.heap →
    wpAny (model prg w) A (isTrue e env (eval e env)) (fun c s' => c = b ∧ Kp s s') NoE s

/-- operations on values -/
def Op1 (k : Nat) (p : PV) (f : Value → Sem Value) (q : PV) : Prop :=
  ∀ {w : World} {A : Around} {F : List Addr} {s : Shared} {a : Value}, Room k A → Base w s.heap → Live F s.heap → RV w s.heap F p a → Gives A w F (f a) q s
def Op2 (k : Nat) (p q : PV) (f : Value → Value → Sem Value) (r : PV) : Prop :=
  ∀ {w : World} {A : Around} {F : List Addr} {s : Shared} {a b : Value}, Room k A → Base w s.heap → Live F s.heap → RV w s.heap F p a → RV w s.heap F q b → Gives A w F (f a b) r s
def Tru (k : Nat) (p : PV) (b : Bool) : Prop :=
  ∀ {w : World} {A : Around} {F : List Addr} {s : Shared} {a : Value}, Room k A → Base w s.heap → Live F s.heap → RV w s.heap F p a →
    wpAny (model prg w) A (truthy a) (fun c s' => c = b ∧ Kp s s') NoE s

theorem Gives.bind {A : Around} {w : World} {F : List Addr} {t : Sem Value} {p : PV} {s : Shared} {Q : Value → Shared → Prop} (h : Gives A w F t p s)
    (g : ∀ v s', Kp s s' → RV w s'.heap F p v → Q v s') : wpAny (model prg w) A t Q NoE s := wpAny_mono h (fun v s' x => g v s' x.1 x.2) fun _ _ x => x

section
variable {k : Nat} {sc : Scope} {ρ : Vars}

theorem SlotIs.load {w : World} {A : Around} {env : Env} {s : Shared} {x : Str} {v : Value} {Q : Value → Shared → Prop} (E : EnvOK sc env) (y : SlotIs env s.heap x v) (h : Q v s) : wpAny (model prg w) A (loadName env x) Q NoE s := by
  have hk : env.scope.kind = .function := by rw [E.scope]; exact E.kind
  rcases y with ⟨a, m, n, e⟩ | ⟨a | ⟨a, ac⟩, c, e, hc⟩
  · exact wpAny_loadName_local hk a n e h
  · exact wpAny_loadName_cell hk a e hc h
  · exact wpAny_loadName_free hk a e hc h ac
theorem Ev.name {x : Str} {pos : Pos} {p : PV} (hx : ρ.lookup x = some (.val p)) (hd : (x == ("__debug__" : Str)) = false) : Ev k sc ρ (.Name x pos) p := fun {w A env h₀ F₀ own s} _ E S => by
  obtain ⟨_, v, y, r⟩ := S.vars x _ hx
  exact wpAny_Name (y.load E ⟨Kp.refl s, r⟩) hd
theorem Ev.nameO {x : Str} {pos : Pos} {l : List PV} (hx : ρ.lookup x = some (.own l)) (hd : (x == ("__debug__" : Str)) = false) : Ev k sc ρ (.Name x pos) (.olist l) := fun {w A env h₀ F₀ own s} _ E S => by
  obtain ⟨a, vs, n, y, _, ho, _, r⟩ := S.vars x _ hx
  exact wpAny_Name (y.load E ⟨Kp.refl s, a, vs, n, rfl, ho, r⟩) hd
theorem Ev.int {i : Int} {kd : Nat} {pos : Pos} : Ev k sc ρ (.Constant (.int i) kd pos) (.int i) := fun {_ _ _ _ _ _ s} _ _ _ => wpAny_Constant_int ⟨Kp.tok s _, s.toks, rfl⟩
theorem Ev.str {x : Str} {kd : Nat} {pos : Pos} : Ev k sc ρ (.Constant (.str x) kd pos) (.str x) := fun {_ _ _ _ _ _ s} _ _ _ => Calls.Constant_str ⟨Kp.tok s _, s.toks, rfl⟩
theorem Ev.bool {b : Bool} {kd : Nat} {pos : Pos} : Ev k sc ρ (.Constant (.bool b) kd pos) (.bool b) := fun {_ _ _ _ _ _ s} _ _ _ => PyProof.Rows.Constant_bool ⟨Kp.refl s, rfl⟩
theorem Ev.none {kd : Nat} {pos : Pos} : Ev k sc ρ (.Constant .none kd pos) .none := fun {_ _ _ _ _ _ s} _ _ _ => PyProof.Rows.Constant_none ⟨Kp.refl s, rfl⟩

theorem Ev.bin {l r : PySem.Expr} {op : Operator} {pos : Pos} {p q t : PV} (hl : Ev k sc ρ l p) (hr : Ev k sc ρ r q) (ho : Op2 k p q (binaryOp op) t) : Ev k sc ρ (.BinOp l op r pos) t := fun {w A env h₀ F₀ own s} R E S => by
  refine wpAny_BinOp ((hl R E S).bind fun a s₁ k₁ ra => ?_)
  refine (hr R E (S.up k₁.up)).bind fun b s₂ k₂ rb => ?_
  have S₂ := S.up (k₁.trans k₂).up
  exact (ho R S₂.here S₂.live (RV.up k₂.up _ ra) rb).bind fun v s₃ k₃ rv => ⟨(k₁.trans k₂).trans k₃, rv⟩
theorem Ev.unary {x : PySem.Expr} {op : UnaryOp} {pos : Pos} {p t : PV} (hx : Ev k sc ρ x p) (ho : Op1 k p (unaryOp op) t) : Ev k sc ρ (.UnaryOp op x pos) t := fun {w A env h₀ F₀ own s} R E S => by
  refine PyProof.Rows.UnaryOp_ ((hx R E S).bind fun a s₁ k₁ ra => ?_)
  have S₁ := S.up k₁.up
  exact (ho R S₁.here S₁.live ra).bind fun v s₂ k₂ rv => ⟨k₁.trans k₂, rv⟩
theorem Ev.cmp {l r : PySem.Expr} {op : CmpOp} {pos : Pos} {p q t : PV} (hl : Ev k sc ρ l p) (hr : Ev k sc ρ r q) (ho : Op2 k p q (compareOp op) t) (hm : behindInMarks op r = false) : Ev k sc ρ (.Compare l [op] [r] pos) t := fun {w A env h₀ F₀ own s} R E S => by
  refine wpAny_Compare1 ((hl R E S).bind fun a s₁ k₁ ra => ?_) hm
  refine (hr R E (S.up k₁.up)).bind fun b s₂ k₂ rb => ?_
  have S₂ := S.up (k₁.trans k₂).up
  exact (ho R S₂.here S₂.live (RV.up k₂.up _ ra) rb).bind fun v s₃ k₃ rv => ⟨(k₁.trans k₂).trans k₃, rv⟩
theorem Tst.cmp {l r : PySem.Expr} {op : CmpOp} {pos : Pos} {p q : PV} {b : Bool} (hl : Ev k sc ρ l p) (hr : Ev k sc ρ r q) (ho : Op2 k p q (compareOp op) (.bool b)) (hm : behindInMarks op r = false) : Tst k sc ρ (.Compare l [op] [r] pos) b := fun {w A env h₀ F₀ own s} R E S => by
  refine wpAny_isTrue_Compare1 ((hl R E S).bind fun a s₁ k₁ ra => ?_) hm
  refine (hr R E (S.up k₁.up)).bind fun b s₂ k₂ rb => ?_
  have S₂ := S.up (k₁.trans k₂).up
  refine (ho R S₂.here S₂.live (RV.up k₂.up _ ra) rb).bind fun v s₃ k₃ rv => ?_
  rw [show v = .bool _ from rv]
  exact wpAny_truthy_bool ⟨rfl, (k₁.trans k₂).trans k₃⟩
theorem Tst.not {x : PySem.Expr} {pos : Pos} {b : Bool} (hx : Tst k sc ρ x b) : Tst k sc ρ (.UnaryOp .Not x pos) (!b) := fun {w A env h₀ F₀ own s} R E S =>
  PyProof.Rows.isTrue_not (wpAny_mono (hx R E S) (fun c s' h => ⟨by rw [h.1], h.2⟩) fun _ _ x => x)
theorem Tst.and_nil {pos : Pos} : Tst k sc ρ (.BoolOp .And [] pos) true := fun {w A env h₀ F₀ own s} _ _ _ => PyProof.Rows.isTrue_and_nil ⟨rfl, Kp.refl s⟩
theorem Tst.and_t {x : PySem.Expr} {r : List PySem.Expr} {pos : Pos} {b : Bool} (hx : Tst k sc ρ x true) (hr : Tst k sc ρ (.BoolOp .And r pos) b) : Tst k sc ρ (.BoolOp .And (x :: r) pos) b := fun {w A env h₀ F₀ own s} R E S =>
  PyProof.Rows.isTrue_and (wpAny_mono (hx R E S) (fun c s' h => by
    rw [h.1, if_pos rfl]
    exact wpAny_mono (hr R E (S.up h.2.up)) (fun c' s'' h' => ⟨h'.1, h.2.trans h'.2⟩) fun _ _ x => x) fun _ _ x => x)
theorem Tst.and_f {x : PySem.Expr} {r : List PySem.Expr} {pos : Pos} (hx : Tst k sc ρ x false) : Tst k sc ρ (.BoolOp .And (x :: r) pos) false := fun {w A env h₀ F₀ own s} R E S =>
  PyProof.Rows.isTrue_and (wpAny_mono (hx R E S) (fun c s' h => by
    rw [h.1, if_neg Bool.false_ne_true]
    exact ⟨rfl, h.2⟩) fun _ _ x => x)
theorem Tst.plain {e : PySem.Expr} {p : PV} {b : Bool} (he : ∀ env whole, isTrue e env whole = (do let v ← whole; standAt e.pos; holding [v] (truthy v))) (hx : Ev k sc ρ e p) (ht : Tru k p b) : Tst k sc ρ e b := fun {w A env h₀ F₀ own s} R E S =>
  PyProof.Rows.isTrue_plain ((hx R E S).bind fun a s₁ k₁ ra => by
    have S₁ := S.up k₁.up
    exact wpAny_mono (ht R S₁.here S₁.live ra) (fun c s₂ h => ⟨h.1, k₁.trans h.2⟩) fun _ _ x => x) (he _ _)
theorem Ev.ifT {t b o : PySem.Expr} {pos : Pos} {p : PV} (ht : Tst k sc ρ t true) (hb : Ev k sc ρ b p) : Ev k sc ρ (.IfExp t b o pos) p := fun {w A env h₀ F₀ own s} R E S =>
  PyProof.Rows.IfExp_ (wpAny_mono (ht R E S) (fun c s' h => by
    rw [h.1, if_pos rfl]
    exact (hb R E (S.up h.2.up)).bind fun v s'' k' r => ⟨h.2.trans k', r⟩) fun _ _ x => x)
theorem Ev.ifF {t b o : PySem.Expr} {pos : Pos} {p : PV} (ht : Tst k sc ρ t false) (hb : Ev k sc ρ o p) : Ev k sc ρ (.IfExp t b o pos) p := fun {w A env h₀ F₀ own s} R E S =>
  PyProof.Rows.IfExp_ (wpAny_mono (ht R E S) (fun c s' h => by
    rw [h.1, if_neg Bool.false_ne_true]
    exact (hb R E (S.up h.2.up)).bind fun v s'' k' r => ⟨h.2.trans k', r⟩) fun _ _ x => x)
end
end Mine

namespace Mine
open PySem PySem.W

section
variable {k : Nat} {a b : Int} {x y : Str} {c d : Bool}

-- ints
theorem Op2.addI : Op2 k (.int a) (.int b) (binaryOp .Add) (.int (a + b)) := fun {w A F s u v} _ _ _ hu hv => by
  obtain ⟨t, rfl⟩ := hu; obtain ⟨t', rfl⟩ := hv
  exact PyProof.Rows.add_int ⟨Kp.tok s _, _, rfl⟩
theorem Op2.subI : Op2 k (.int a) (.int b) (binaryOp .Sub) (.int (a - b)) := fun {w A F s u v} _ _ _ hu hv => by
  obtain ⟨t, rfl⟩ := hu; obtain ⟨t', rfl⟩ := hv
  exact PyProof.Rows.sub_int' ⟨Kp.tok s _, _, rfl⟩
theorem Op2.iaddI : Op2 k (.int a) (.int b) (inplaceOp .Add) (.int (a + b)) := fun {w A F s u v} _ _ _ hu hv => by
  obtain ⟨t, rfl⟩ := hu; obtain ⟨t', rfl⟩ := hv
  exact wpAny_iadd_int ⟨Kp.tok s _, _, rfl⟩
theorem Op2.isubI : Op2 k (.int a) (.int b) (inplaceOp .Sub) (.int (a - b)) := fun {w A F s u v} _ _ _ hu hv => by
  obtain ⟨t, rfl⟩ := hu; obtain ⟨t', rfl⟩ := hv
  exact PyProof.Rows.isub_int ⟨Kp.tok s _, _, rfl⟩
theorem Op2.ixorI : Op2 k (.int a) (.int b) (inplaceOp .BitXor) (.int (Builtin.bitXor a b)) := fun {w A F s u v} _ _ _ hu hv => by
  obtain ⟨t, rfl⟩ := hu; obtain ⟨t', rfl⟩ := hv
  exact PyProof.Rows.ixor_int ⟨Kp.tok s _, _, rfl⟩
theorem Op2.modI (hb : b ≠ 0) : Op2 k (.int a) (.int b) (binaryOp .Mod) (.int (a.fmod b)) := fun {w A F s u v} _ _ _ hu hv => by
  obtain ⟨t, rfl⟩ := hu; obtain ⟨t', rfl⟩ := hv
  exact PyProof.Rows.mod_int' hb ⟨Kp.tok s _, _, rfl⟩
theorem Op2.divI (hb : b ≠ 0) (hp : Builtin.divisionGoesByPylong a b = false) : Op2 k (.int a) (.int b) (binaryOp .FloorDiv) (.int (a.fdiv b)) := fun {w A F s u v} _ _ _ hu hv => by
  obtain ⟨t, rfl⟩ := hu; obtain ⟨t', rfl⟩ := hv
  exact PyProof.Rows.floordiv_int hb ⟨Kp.tok s _, _, rfl⟩ (.inl hp)
theorem Op2.powI (hn : 0 ≤ b) (hn2 : b ≤ 1000000) (ha : a.natAbs < 2 ^ 64) : Op2 k (.int a) (.int b) (binaryOp .Pow) (.int (a ^ b.toNat)) := fun {w A F s u v} _ _ _ hu hv => by
  obtain ⟨t, rfl⟩ := hu; obtain ⟨t', rfl⟩ := hv
  exact PyProof.Rows.pow_int_small hn hn2 ha ⟨Kp.tok s _, _, rfl⟩
theorem Op2.shlI (hn : 0 ≤ b) (hn2 : b ≤ 1000000) (ha : a.natAbs < 2 ^ 64) : Op2 k (.int a) (.int b) (binaryOp .LShift) (.int (a * 2 ^ b.toNat)) := fun {w A F s u v} _ _ _ hu hv => by
  obtain ⟨t, rfl⟩ := hu; obtain ⟨t', rfl⟩ := hv
  exact PyProof.Rows.lshift_int_small hn hn2 ha ⟨Kp.tok s _, _, rfl⟩
theorem Op2.andI : Op2 k (.int a) (.int b) (binaryOp .BitAnd) (.int (Builtin.bitAnd a b)) := fun {w A F s u v} _ _ _ hu hv => by
  obtain ⟨t, rfl⟩ := hu; obtain ⟨t', rfl⟩ := hv
  exact PyProof.Rows.and_int ⟨Kp.tok s _, _, rfl⟩
theorem Op1.negI : Op1 k (.int a) (unaryOp .USub) (.int (-a)) := fun {w A F s u} _ _ _ hu => by
  obtain ⟨t, rfl⟩ := hu
  exact PyProof.Rows.neg_int ⟨Kp.tok s _, _, rfl⟩
theorem Op2.subB : Op2 k (.bool c) (.bool d) (binaryOp .Sub) (.int (PyProof.Rows.b2i c - PyProof.Rows.b2i d)) := fun {w A F s u v} _ _ _ hu hv => by
  rw [show u = .bool c from hu, show v = .bool d from hv]
  exact PyProof.Rows.sub_bool ⟨Kp.tok s _, _, rfl⟩
theorem Op2.ltI : Op2 k (.int a) (.int b) (compareOp .Lt) (.bool (decide (a < b))) := fun {w A F s u v} _ _ _ hu hv => by
  obtain ⟨t, rfl⟩ := hu; obtain ⟨t', rfl⟩ := hv
  exact wpAny_lt_int ⟨Kp.refl s, rfl⟩
theorem Op2.gtI : Op2 k (.int a) (.int b) (compareOp .Gt) (.bool (decide (b < a))) := fun {w A F s u v} _ _ _ hu hv => by
  obtain ⟨t, rfl⟩ := hu; obtain ⟨t', rfl⟩ := hv
  exact PyProof.Rows.gt_int ⟨Kp.refl s, rfl⟩
theorem Op2.geI : Op2 k (.int a) (.int b) (compareOp .GtE) (.bool (decide (b ≤ a))) := fun {w A F s u v} _ _ _ hu hv => by
  obtain ⟨t, rfl⟩ := hu; obtain ⟨t', rfl⟩ := hv
  exact PyProof.Rows.ge_int ⟨Kp.refl s, rfl⟩
theorem Op2.eqI : Op2 k (.int a) (.int b) (compareOp .Eq) (.bool (a == b)) := fun {w A F s u v} _ _ _ hu hv => by
  obtain ⟨t, rfl⟩ := hu; obtain ⟨t', rfl⟩ := hv
  exact PyProof.Rows.eq_int ⟨Kp.refl s, rfl⟩
-- strs
theorem Op2.addS (hsz : x.length + y.length ≤ sizeLine) : Op2 k (.str x) (.str y) (binaryOp .Add) (.str (x ++ y)) := fun {w A F s u v} _ _ _ hu hv => by
  obtain ⟨t, rfl⟩ := hu; obtain ⟨t', rfl⟩ := hv
  exact PyProof.Rows.add_str (fun t' tk => ⟨Kp.tok s _, _, rfl⟩) hsz
theorem Op2.iaddS (hsz : x.length + y.length ≤ sizeLine) : Op2 k (.str x) (.str y) (inplaceOp .Add) (.str (x ++ y)) := fun {w A F s u v} _ _ _ hu hv => by
  obtain ⟨t, rfl⟩ := hu; obtain ⟨t', rfl⟩ := hv
  exact PyProof.Rows.iadd_str (fun t' tk => ⟨Kp.tok s _, _, rfl⟩) hsz
theorem Op2.mulS (hok : MulOk x a) : Op2 k (.str x) (.int a) (binaryOp .Mult) (.str (Txt.mul x a)) := fun {w A F s u v} _ _ _ hu hv => by
  obtain ⟨t, rfl⟩ := hu; obtain ⟨t', rfl⟩ := hv
  exact SB.mul hok fun t' tk => ⟨Kp.tok s _, _, rfl⟩
theorem Op2.eqS : Op2 k (.str x) (.str y) (compareOp .Eq) (.bool (x == y)) := fun {w A F s u v} _ _ _ hu hv => by
  obtain ⟨t, rfl⟩ := hu; obtain ⟨t', rfl⟩ := hv
  exact PyProof.Rows.eq_str ⟨Kp.refl s, rfl⟩
theorem Op2.neS : Op2 k (.str x) (.str y) (compareOp .NotEq) (.bool (x != y)) := fun {w A F s u v} _ _ _ hu hv => by
  obtain ⟨t, rfl⟩ := hu; obtain ⟨t', rfl⟩ := hv
  exact PyProof.Rows.ne_str ⟨Kp.refl s, rfl⟩
theorem Op2.ltS : Op2 k (.str x) (.str y) (compareOp .Lt) (.bool (decide (x.cps.toList < y.cps.toList))) := fun {w A F s u v} _ _ _ hu hv => by
  obtain ⟨t, rfl⟩ := hu; obtain ⟨t', rfl⟩ := hv
  exact PyProof.Rows.lt_str ⟨Kp.refl s, rfl⟩
theorem Op2.gtS : Op2 k (.str x) (.str y) (compareOp .Gt) (.bool (decide (y.cps.toList < x.cps.toList))) := fun {w A F s u v} _ _ _ hu hv => by
  obtain ⟨t, rfl⟩ := hu; obtain ⟨t', rfl⟩ := hv
  exact P.gt_str ⟨Kp.refl s, rfl⟩
theorem Op2.notinS : Op2 k (.str y) (.str x) (compareOp .NotIn) (.bool (!Txt.contains x y)) := fun {w A F s u v} _ _ _ hu hv => by
  obtain ⟨t, rfl⟩ := hu; obtain ⟨t', rfl⟩ := hv
  exact SB.notContains ⟨Kp.refl s, rfl⟩
-- is
theorem Op2.isIN : Op2 k (.int a) .none (compareOp .Is) (.bool false) := fun {w A F s u v} _ _ _ hu hv => by
  obtain ⟨t, rfl⟩ := hu
  rw [show v = .none from hv]
  exact wpAny_is_plain rfl ⟨Kp.refl s, rfl⟩
theorem Op2.isNotB : Op2 k (.bool c) (.bool d) (compareOp .IsNot) (.bool (c != d)) := fun {w A F s u v} _ _ _ hu hv => by
  rw [show u = .bool c from hu, show v = .bool d from hv]
  exact wpAny_isNot_plain rfl ⟨Kp.refl s, by cases c <;> cases d <;> rfl⟩
-- truth
theorem Tru.bool : Tru k (.bool c) c := fun {w A F s u} _ _ _ hu => by
  rw [show u = .bool c from hu]
  exact wpAny_truthy_bool ⟨rfl, Kp.refl s⟩
theorem Tru.int : Tru k (.int a) (a != 0) := fun {w A F s u} _ _ _ hu => by
  obtain ⟨t, rfl⟩ := hu
  exact PyProof.Rows.truthy_int ⟨rfl, Kp.refl s⟩
end
end Mine

namespace Mine
open PySem PySem.W

def GlobIs (x : Str) (v : Value) : Prop := (∀ w : World, nsIn (K w) mainGlobals x = some (some v)) ∨ ((∀ w : World, nsIn (K w) mainGlobals x = some none) ∧ PySem.bootBuiltins x = some v ∧ x ≠ "__name__")

theorem GlobIs.load {w : World} {A : Around} {sc : Scope} {env : Env} {s : Shared} {x : Str} {v : Value} {pos : Pos} {Q : Value → Shared → Prop} (G : GlobIs x v) (E : EnvOK sc env) (hx : sc.names.lookup x = some .globalImplicit) (hd : (x == ("__debug__" : Str)) = false)
    (B : Base w s.heap) (h : Q v s) : wpAny (model prg w) A (eval (.Name x pos) env) Q NoE s := by
  obtain ⟨X, mean, mg, mb, T⟩ := B
  have hk : env.scope.kind = .function := by rw [E.scope]; exact E.kind
  have hx' : env.kindOf x = some .globalImplicit := by show env.scope.names.lookup x = _; rw [E.scope]; exact hx
  have hg : s.heap.Ns env.globals mg := by rw [E.globals]; exact T.g
  have hb : s.heap.Ns env.builtins mb := by rw [E.builtins]; exact T.b
  rcases G with e | ⟨e, e2, e3⟩
  · exact Calls.Name_function_global hk hx' (Calls.loadGlobal_global hg (mg_of X T.g (e w)) h) hd
  · exact Calls.Name_function_global hk hx' (Calls.loadGlobal_builtin hg (mg_none_of X T.g (e w)) hb ((T.builtins x e3).trans e2) h) hd

inductive EvL (k : Nat) (sc : Scope) (ρ : Vars) : List PySem.Expr → List PV → Prop
  | nil : EvL k sc ρ [] []
  | cons {e es p ps} : Ev k sc ρ e p → EvL k sc ρ es ps → EvL k sc ρ (e :: es) (p :: ps)

def OpN (k : Nat) (ps : List PV) (f : List Value → Sem Value) (q : PV) : Prop :=
  ∀ {w : World} {A : Around} {F : List Addr} {s : Shared} {vs : List Value}, Room k A → Base w s.heap → Live F s.heap → RVs w s.heap F ps vs → Gives A w F (f vs) q s
theorem OpN.of1 {k : Nat} {p q : PV} {f : List Value → Sem Value} (h : Op1 k p (fun v => f [v]) q) : OpN k [p] f q := fun {w A F s vs} R B L r => by
  obtain ⟨v, r', rfl, x, y⟩ := r
  rw [show r' = [] from y]
  exact h R B L x
theorem OpN.of2 {k : Nat} {p q r : PV} {f : List Value → Sem Value} (h : Op2 k p q (fun u v => f [u, v]) r) : OpN k [p, q] f r := fun {w A F s vs} R B L x => by
  obtain ⟨v, r', rfl, x, v2, r2, rfl, y, z⟩ := x
  rw [show r2 = [] from z]
  exact h R B L x y

section
variable {k : Nat} {sc : Scope} {ρ : Vars}
theorem EvL.spl {es : List PySem.Expr} {ps : List PV} (h : EvL k sc ρ es ps) : ∀ {w : World} {A : Around} {env : Env} {h₀ : Heap} {F₀ : List Addr} {own : List (Str × Addr)} {s : Shared}, Room k A → EnvOK sc env → St w env h₀ F₀ own ρ s.heap →
    wpAny (model prg w) A (spliced (es.map fun e => (false, eval e env))) (fun vs s' => Kp s s' ∧ RVs w s'.heap (Fof env F₀ own) ps vs) NoE s := by
  induction h with
  | nil => intro w A env h₀ F₀ own s R E S; exact Calls.spliced_nil ⟨Kp.refl s, rfl⟩
  | @cons e es p ps he _ ih =>
    intro w A env h₀ F₀ own s R E S
    refine Calls.spliced_cons ((he R E S).bind fun v s₁ k₁ r => ?_)
    refine wpAny_mono (ih R E (S.up k₁.up)) (fun vs s₂ h₂ => ?_) fun _ _ x => x
    exact ⟨k₁.trans h₂.1, v, vs, rfl, RV.up h₂.1.up _ r, h₂.2⟩

/-- starEach of plain arguments -/
def Plain (es : List PySem.Expr) : Prop := ∀ env pos, backTo pos (starEach es env) = es.map fun e => (false, eval e env)
theorem any_plain (es : List PySem.Expr) (env : Env) : (es.map fun e => (false, eval e env)).any (·.1) = false := by
  induction es with
  | nil => rfl
  | cons e es ih => rw [List.map_cons, List.any_cons, ih]; rfl

theorem EvL.args {es : List PySem.Expr} {ps : List PV} (h : EvL k sc ρ es ps) {f : Value} {w : World} {A : Around} {env : Env} {h₀ : Heap} {F₀ : List Addr} {own : List (Str × Addr)} {s : Shared} (R : Room k A) (E : EnvOK sc env) (S : St w env h₀ F₀ own ρ s.heap) :
    wpAny (model prg w) A (evalArgs f true (es.map fun e => (false, eval e env)) []) (fun a s' => a.kw = [] ∧ Kp s s' ∧ RVs w s'.heap (Fof env F₀ own) ps a.pos) NoE s := by
  cases h with
  | nil => exact PyProof.Rows.evalArgs_nil3 ⟨rfl, Kp.refl s, rfl⟩
  | @cons e es p ps he hr =>
    rw [List.map_cons]
    refine Calls.evalArgs_plain ?_
    rw [← List.map_cons (f := fun e => (false, eval e env))]
    exact wpAny_mono ((EvL.cons he hr).spl R E S) (fun vs s' h' => ⟨rfl, h'⟩) fun _ _ x => x

theorem keeper_builtin {M : Model} {h : Heap} {id : String} : ∃ k, (k = Keeper.frame ∨ k = Keeper.machine ∨ k = Keeper.boundFrame) ∧ Looks M h (keeperOf (.builtin id)) k := ⟨.machine, .inr (.inl rfl), Looks.of_pure rfl⟩
theorem keeper_type {M : Model} {h : Heap} {id : String} : ∃ k, (k = Keeper.frame ∨ k = Keeper.machine ∨ k = Keeper.boundFrame) ∧ Looks M h (keeperOf (.type id)) k := ⟨.machine, .inr (.inl rfl), Looks.of_pure rfl⟩

/-- values that may be called: a built-in, a type, a def of the top -/
def Callee (f : Value) : Prop := (∃ id, f = .builtin id) ∨ (∃ id, f = .type id) ∨ (∀ w : World, keepIn (K w) f = true)
theorem Callee.keeper {w : World} {f : Value} (c : Callee f) : ∀ h, (K w).In h → ∃ k, (k = Keeper.frame ∨ k = Keeper.machine ∨ k = Keeper.boundFrame) ∧ Looks (model prg w) h (keeperOf f) k := fun h X => by
  rcases c with ⟨id, rfl⟩ | ⟨id, rfl⟩ | hk
  · exact keeper_builtin
  · exact keeper_type
  · exact keeps_K (hk w) h X

theorem EvL.call {es : List PySem.Expr} {ps : List PV} (h : EvL k sc ρ es ps) {f : Value} {pos : Pos} {first : List Value} {w : World} {A : Around} {env : Env} {h₀ : Heap} {F₀ : List Addr} {own : List (Str × Addr)} {s : Shared} {Q : Value → Shared → Prop}
    (R : Room k A) (E : EnvOK sc env) (S : St w env h₀ F₀ own ρ s.heap) (c : Callee f)
    (hq : ∀ vs s', Kp s s' → RVs w s'.heap (Fof env F₀ own) ps vs → wpAny (model prg w) A (call f (first ++ vs)) Q NoE s') :
    wpAny (model prg w) A (callWith pos f first (es.map fun e => (false, eval e env)) []) Q NoE s := by
  refine callWith_of (P := (K w).In) (by rw [any_plain]; rfl) c.keeper (wpAny_mono (h.args R E S) (fun a s₁ h₁ => ?_) fun _ _ x => x)
  refine ⟨(S.up h₁.2.1.up).here.1, ?_⟩
  rw [h₁.1]
  exact hq _ _ h₁.2.1 h₁.2.2

theorem Ev.call {f : Str} {v : Value} {fp pos : Pos} {es : List PySem.Expr} {ps : List PV} {q : PV} (G : GlobIs f v) (hx : sc.names.lookup f = some .globalImplicit) (hd : (f == ("__debug__" : Str)) = false) (c : Callee v) (hpl : Plain es) (h : EvL k sc ρ es ps)
    (ho : OpN k ps (fun vs => PySem.call v vs) q) : Ev k sc ρ (.Call (.Name f fp) es [] pos) q := fun {w A env h₀ F₀ own s} R E S => by
  show wpAny (model prg w) A (do callWith pos (← eval (.Name f fp) env) [] (backTo pos (starEach es env)) (backToKw pos (keywordEach [] env))) _ _ s
  rw [hpl]
  refine wpAny_bind (G.load E hx hd S.here ?_)
  refine h.call R E S c fun vs s₁ k₁ r => ?_
  have S₁ := S.up k₁.up
  exact (ho R S₁.here S₁.live r).bind fun v s₂ k₂ rv => ⟨k₁.trans k₂, rv⟩

/-- a method of a built-in type -/
structure Meth (T : String) (name : Str) (id : String) : Prop where
  attrs : PlainAttrs T
  slot : Slot T name id
  ty : typeOf (.builtin id) = pure (.type "method_descriptor")

def tyP : PV → Option String
  | .str _ => some "str"
  | .list _ | .olist _ => some "list"
  | .tup _ => some "tuple"
  | .int _ => some "int"
  | .bool _ => some "bool"
  | .none => Option.none
  | .raw _ => Option.none
  | .lat _ _ => Option.none
theorem RV.typeIs {s : Shared} {F : List Addr} {v : Value} {T : String} : ∀ {p : PV}, tyP p = some T → RV w s.heap F p v → s.TypeIs v T ∧ (∀ a, v = .ref a → ∃ ob, s.heap.get? a = some ob ∧ ob.dict = none)
  | .str x, e, ⟨t, h⟩ => by cases e; subst h; exact ⟨typeIs_str _ _ _, fun _ e => nomatch e⟩
  | .int x, e, ⟨t, h⟩ => by cases e; subst h; exact ⟨typeIs_int _ _ _, fun _ e => nomatch e⟩
  | .bool x, e, h => by cases e; rw [show v = .bool x from h]; exact ⟨rfl, fun _ e => nomatch e⟩
  | .list l, e, ⟨a, vs, n, h, _, ho, _⟩ => by cases e; subst h; exact ⟨⟨_, ho, rfl⟩, fun b e => by cases e; exact ⟨_, ho, rfl⟩⟩
  | .olist l, e, ⟨a, vs, n, h, ho, _⟩ => by cases e; subst h; exact ⟨⟨_, ho, rfl⟩, fun b e => by cases e; exact ⟨_, ho, rfl⟩⟩
  | .tup l, e, ⟨a, vs, n, h, _, ho, _⟩ => by cases e; subst h; exact ⟨⟨_, ho, rfl⟩, fun b e => by cases e; exact ⟨_, ho, rfl⟩⟩
  | .none, e, _ => by cases e
  | .raw _, e, _ => by cases e
  | .lat _ _, e, _ => by cases e

theorem Ev.meth {o : PySem.Expr} {T : String} {name : Str} {id : String} {apos pos : Pos} {es : List PySem.Expr} {p : PV} {ps : List PV} {q : PV} (m : Meth T name id) (hT : tyP p = some T) (hb : ∀ env, attributeBase o name env (eval o env) = eval o env) (hline : (apos.endLine == pos.line) = true)
    (hlen : es.length < 30) (hpl : Plain es) (ho : Ev k sc ρ o p) (h : EvL k sc ρ es ps) (hop : OpN k (p :: ps) (fun vs => PySem.call (.builtin id) vs) q) : Ev k sc ρ (.Call (.Attribute o name apos) es [] pos) q := fun {w A env h₀ F₀ own s} R E S => by
  refine wpAny_Call_method_late (hb env) ?_ hline (hpl env pos) ((ho R E S).bind fun ov s₁ k₁ r => ?_)
  · rw [hpl]
    have e1 : (es.map fun e => ((false, eval e env) : Bool × Sem Value)).all (fun x => !x.1) = true := by
      rw [List.all_eq_true]; intro x hx
      obtain ⟨e, _, rfl⟩ := List.mem_map.mp hx; rfl
    rw [e1]
    show (decide (es.length + 0 + 0 < 30)) = true
    exact decide_eq_true (by omega)
  · have S₁ := S.up k₁.up
    refine ⟨T, id, m.attrs, m.slot, m.ty, (RV.typeIs hT r).1, (RV.typeIs hT r).2, ?_⟩
    refine h.call R E S₁ (.inl ⟨id, rfl⟩) fun vs s₂ k₂ r₂ => ?_
    have S₂ := S₁.up k₂.up
    exact (hop R S₂.here S₂.live ⟨ov, vs, rfl, RV.up k₂.up _ r, r₂⟩).bind fun v s₃ k₃ rv => ⟨(k₁.trans k₂).trans k₃, rv⟩
end
end Mine

namespace Mine
open PySem PySem.W PySem.Builtin PySem.Builtin.Str

theorem RVs.pick {h : Heap} {F : List Addr} {ps : List PV} {vs : List Value} (r : RVs w h F ps vs) (ix : List Nat) : RVs w h F (ix.filterMap (ps[·]?)) (ix.filterMap (vs[·]?)) := by
  induction ix with
  | nil => rfl
  | cons i ix ih =>
    cases e : ps[i]? with
    | none =>
      have e' : vs[i]? = none := by
        rw [List.getElem?_eq_none_iff] at e ⊢
        rw [r.length]; exact e
      rw [List.filterMap_cons_none e, List.filterMap_cons_none e']
      exact ih
    | some p =>
      obtain ⟨v, e', x⟩ := r.get e
      rw [List.filterMap_cons_some e, List.filterMap_cons_some e']
      exact ⟨v, _, rfl, x, ih⟩

/-- a part of a slice -/
inductive EvP (k : Nat) (sc : Scope) (ρ : Vars) : Option PySem.Expr → Option Int → Prop
  | none : EvP k sc ρ none none
  | some {e i} : Ev k sc ρ e (.int i) → EvP k sc ρ (some e) (some i)
theorem EvP.part {k : Nat} {sc : Scope} {ρ : Vars} {e : Option PySem.Expr} {i : Option Int} (h : EvP k sc ρ e i) {w : World} {A : Around} {env : Env} {h₀ : Heap} {F₀ : List Addr} {own : List (Str × Addr)} {s : Shared} (R : Room k A) (E : EnvOK sc env) (S : St w env h₀ F₀ own ρ s.heap) :
    wpAny (model prg w) A (evalPart e env) (fun v s' => Kp s s' ∧ IsPart v i ∧ ∃ t : Tok, v = partValue (i.map fun j => (j, t))) NoE s := by
  cases h with
  | none => exact wpAny_pure ⟨Kp.refl s, .none, 0, rfl⟩
  | some he =>
    refine (he R E S).bind fun v s₁ k₁ r => ?_
    obtain ⟨t, rfl⟩ := r
    exact ⟨k₁, .int _ _, t, rfl⟩

def slP (l : List PV) (lo hi st : Option Int) : List PV := (sliceRange (sliceBounds lo hi st l.length).1 (sliceBounds lo hi st l.length).2.1 (sliceBounds lo hi st l.length).2.2).filterMap (l[·]?)
def slS (x : Str) (lo hi st : Option Int) : Str :=
  if (st.getD 1 == 1 && (strSliceIndices lo hi (st.getD 1) x.length).length == x.length) = true then x else ⟨((strSliceIndices lo hi (st.getD 1) x.length).filterMap (x.cps[·]?)).toArray⟩

theorem tail_gives {w : World} {A : Around} {s : Shared} {value slice : PySem.Expr} {o i : Value} {T id : String} {Q : Value → Shared → Prop} (hT : s.TypeIs o T)
    (hl : typeLookup (.type T) "__getitem__" = pure (some (.builtin id))) (h : wpAny (model prg w) A (getItem o i) Q NoE s)
    (hs : ∃ ops, subscripted slice false o i = operate ops (getItem o i)) : wpAny (model prg w) A (PyProof.Rows.subscriptTail value slice o i) Q NoE s := by
  obtain ⟨ops, hs⟩ := hs
  unfold PyProof.Rows.subscriptTail
  refine wpAny_bind ?_
  rw [getitemInPython_of_ne hT.not_modules]
  refine wpAny_bind (wpAny_specialOf hT hl ?_)
  refine wpAny_pure (wpAny_bind ?_)
  rw [hs]
  exact wpAny_operating (wpAny_mono h (fun r s₃ h₃ => wpAny_bind (wpAny_letTemporaryGo (wpAny_pure h₃))) fun _ _ x => x)

structure GetT (T : String) : Prop where
  lk : ∃ id, typeLookup (.type T) "__getitem__" = pure (some (.builtin id))
theorem getT_list : GetT "list" := ⟨_, slot_list_getitem.lookup⟩
theorem getT_tuple : GetT "tuple" := ⟨_, F.slot_tuple_getitem.lookup⟩
theorem getT_str : GetT "str" := ⟨_, F.slot_str_getitem.lookup⟩

section
variable {k : Nat} {sc : Scope} {ρ : Vars}
theorem Ev.sub {value slice : PySem.Expr} {pos : Pos} {p q r : PV} {T : String} (g : GetT T) (hT : tyP p = some T) (hv : Ev k sc ρ value p) (hi : Ev k sc ρ slice q) (ho : Op2 k p q getItem r) (hs : ∀ o i, ∃ ops, subscripted slice false o i = operate ops (getItem o i)) :
    Ev k sc ρ (.Subscript value slice pos) r := fun {w A env h₀ F₀ own s} R E S => by
  refine PyProof.Rows.Subscript_ ((hv R E S).bind fun a s₁ k₁ ra => ?_)
  refine (hi R E (S.up k₁.up)).bind fun b s₂ k₂ rb => ?_
  have S₂ := S.up (k₁.trans k₂).up
  have ra' := RV.up k₂.up _ ra
  obtain ⟨id, lk⟩ := g.lk
  exact tail_gives (RV.typeIs hT ra').1 lk ((ho R S₂.here S₂.live ra' rb).bind fun v s₃ k₃ rv => ⟨(k₁.trans k₂).trans k₃, rv⟩) (hs _ _)

theorem RVl.isList {s : Shared} {F : List Addr} {l : List PV} {v : Value} (x : RVl w s.heap F l v) : ∃ a vs, v = .ref a ∧ s.heap.IsList a vs.toArray ∧ RVs w s.heap F l vs := let ⟨a, vs, n, e, ho, r⟩ := x; ⟨a, vs, e, ⟨_, ho, rfl, n, rfl⟩, r⟩

theorem get_list {w : World} {A : Around} {F : List Addr} {s : Shared} {l : List PV} {v b : Value} {i : Int} {p : PV} (hl : RVl w s.heap F l v) (hb : RV w s.heap F (.int i) b) (h0 : 0 ≤ i) (hfit : i < 2 ^ 63) (hx : l[i.toNat]? = some p) : Gives A w F (getItem v b) p s := by
  obtain ⟨a, vs, rfl, hl, r⟩ := hl.isList
  obtain ⟨t, rfl⟩ := hb
  obtain ⟨x, e, rx⟩ := r.get hx
  exact wpAny_getItem_list hl h0 hfit (by simpa using e) ⟨Kp.refl s, rx⟩
theorem get_list_neg {w : World} {A : Around} {F : List Addr} {s : Shared} {l : List PV} {v b : Value} {i : Int} {p : PV} (hl : RVl w s.heap F l v) (hb : RV w s.heap F (.int i) b) (h0 : i < 0) (h1 : -(l.length : Int) ≤ i) (hfit : -(2 ^ 63) ≤ i) (hx : l[(i + l.length).toNat]? = some p) : Gives A w F (getItem v b) p s := by
  obtain ⟨a, vs, rfl, hl, r⟩ := hl.isList
  obtain ⟨t, rfl⟩ := hb
  obtain ⟨x, e, rx⟩ := r.get hx
  have hsz : vs.toArray.size = l.length := by simp [r.length]
  exact wpAny_getItem_list_neg hl h0 (by rw [hsz]; exact h1) hfit (by rw [hsz]; simpa using e) ⟨Kp.refl s, rx⟩
theorem Op2.getL {l : List PV} {i : Int} {p : PV} (h0 : 0 ≤ i) (hfit : i < 2 ^ 63) (hx : l[i.toNat]? = some p) : Op2 k (.list l) (.int i) getItem p := fun {w A F s u v} _ _ _ hu hv => get_list (RVl.of_list hu) hv h0 hfit hx
theorem Op2.getOn {l : List PV} {i : Int} {p : PV} (h0 : i < 0) (h1 : -(l.length : Int) ≤ i) (hfit : -(2 ^ 63) ≤ i) (hx : l[(i + l.length).toNat]? = some p) : Op2 k (.olist l) (.int i) getItem p := fun {w A F s u v} _ _ _ hu hv => get_list_neg (RVl.of_olist hu) hv h0 h1 hfit hx
theorem Op2.getT {l : List PV} {i : Int} {j : Nat} {p : PV} (hlo : -(2 ^ 63) ≤ i) (hhi : i < 2 ^ 63) (hj : seqIndex? i l.length = some j) (hx : l[j]? = some p) : Op2 k (.tup l) (.int i) getItem p := fun {w A F s u v} _ _ _ hu hv => by
  obtain ⟨a, vs, n, rfl, _, ho, r⟩ := hu
  obtain ⟨t, rfl⟩ := hv
  obtain ⟨x, e, rx⟩ := r.get hx
  exact PyProof.Rows.getItem_tuple ⟨_, ho, rfl, n, rfl⟩ hlo hhi (by simpa [r.length] using hj) (by simpa using e) ⟨Kp.refl s, rx⟩
theorem Op2.getS {x : Str} {i : Int} (hr : fitsSsize i = true) (hin : (Txt.charAt x i).isSome = true) : Op2 k (.str x) (.int i) getItem (.str (Txt.item x i)) := fun {w A F s u v} _ _ _ hu hv => by
  obtain ⟨t, rfl⟩ := hu
  obtain ⟨t', rfl⟩ := hv
  exact SB.getItem hr hin ⟨Kp.tok s _, _, rfl⟩

theorem Ev.sliceL {value : PySem.Expr} {lower upper step : Option PySem.Expr} {lo hi st : Option Int} {sp pos : Pos} {p : PV} {l : List PV} (hl : ∀ {w h F v}, RV w h F p v → RVl w h F l v) (hv : Ev k sc ρ value p) (h1 : EvP k sc ρ lower lo) (h2 : EvP k sc ρ upper hi) (h3 : EvP k sc ρ step st) (h0 : st ≠ some 0)
    (hsz : l.length ≤ sizeLine) (hs : ∀ o i, ∃ ops, subscripted (.Slice lower upper step sp) false o i = operate ops (getItem o i)) : Ev k sc ρ (.Subscript value (.Slice lower upper step sp) pos) (.list (slP l lo hi st)) := fun {w A env h₀ F₀ own s} R E S => by
  refine PyProof.Rows.Subscript_ ((hv R E S).bind fun a s₁ k₁ ra => ?_)
  have S₁ := S.up k₁.up
  refine wpAny_Slice (wpAny_mono (h1.part R E S₁) (fun v1 s₂ x2 => wpAny_mono (h2.part R E (S₁.up x2.1.up)) (fun v2 s₃ x3 => wpAny_mono (h3.part R E ((S₁.up x2.1.up).up x3.1.up)) (fun v3 s₄ x4 => ?_) fun _ _ x => x) fun _ _ x => x) fun _ _ x => x)
  have k4 := ((k₁.trans x2.1).trans x3.1).trans x4.1
  have ra' : RVl w s₄.heap (Fof env F₀ own) l a := hl (RV.up ((x2.1.trans x3.1).trans x4.1).up _ ra)
  obtain ⟨b, vs, rfl, hb, r⟩ := ra'.isList
  have hb' : (s₄.heap.push { cls := .type "slice", data := .fields #[v1, v2, v3] }).IsList b vs.toArray := hb.push _
  refine tail_gives (s := { s₄ with heap := s₄.heap.push { cls := .type "slice", data := .fields #[v1, v2, v3] } }) (Heap.IsList.typeIs hb') slot_list_getitem.lookup ?_ (hs _ _)
  refine wpAny_getItem_list_slice hb' (Heap.IsSliceOf.new ..) x2.2.1 x3.2.1 x4.2.1 h0 ?_ (by rw [List.size_toArray, r.length]; exact hsz)
  have u1 : Up s₄.heap (s₄.heap.push { cls := .type "slice", data := .fields #[v1, v2, v3] }) := fun _ _ e => Heap.get?_push_of_some _ e
  have u2 : Up s₄.heap ((s₄.heap.push { cls := .type "slice", data := .fields #[v1, v2, v3] }).push { cls := .type "list", data := .seq (slicePick vs.toArray lo hi st) }) := fun _ _ e => Heap.get?_push_of_some _ (u1 _ _ e)
  refine ⟨k4.trans (Kp.heap s₄ u2), _, (slicePick vs.toArray lo hi st).toList, 0, rfl, ?_, ?_, ?_⟩
  · exact Live.new (Live.up (S.up k4.up).live u1)
  · exact Heap.get?_push_size _ rfl
  · refine RVs.up u2 _ ?_
    have e : (slicePick vs.toArray lo hi st).toList = (sliceRange (sliceBounds lo hi st l.length).1 (sliceBounds lo hi st l.length).2.1 (sliceBounds lo hi st l.length).2.2).filterMap (vs[·]?) := by
      unfold slicePick
      rw [List.size_toArray, r.length]
      simp
    rw [e]
    exact r.pick _

theorem Ev.sliceS {value : PySem.Expr} {lower upper step : Option PySem.Expr} {lo hi st : Option Int} {sp pos : Pos} {x : Str} (hv : Ev k sc ρ value (.str x)) (h1 : EvP k sc ρ lower lo) (h2 : EvP k sc ρ upper hi) (h3 : EvP k sc ρ step st) (h0 : (st.getD 1 == 0) = false)
    (hsz : x.length ≤ sizeLine) (hsz2 : (slS x lo hi st).length ≤ sizeLine) (hs : ∀ o i, ∃ ops, subscripted (.Slice lower upper step sp) false o i = operate ops (getItem o i)) : Ev k sc ρ (.Subscript value (.Slice lower upper step sp) pos) (.str (slS x lo hi st)) := fun {w A env h₀ F₀ own s} R E S => by
  refine PyProof.Rows.Subscript_ ((hv R E S).bind fun a s₁ k₁ ra => ?_)
  have S₁ := S.up k₁.up
  refine wpAny_Slice (wpAny_mono (h1.part R E S₁) (fun v1 s₂ x2 => wpAny_mono (h2.part R E (S₁.up x2.1.up)) (fun v2 s₃ x3 => wpAny_mono (h3.part R E ((S₁.up x2.1.up).up x3.1.up)) (fun v3 s₄ x4 => ?_) fun _ _ x => x) fun _ _ x => x) fun _ _ x => x)
  have k4 := ((k₁.trans x2.1).trans x3.1).trans x4.1
  obtain ⟨t, rfl⟩ := ra
  obtain ⟨t1, e1⟩ := x2.2.2
  obtain ⟨t2, e2⟩ := x3.2.2
  obtain ⟨t3, e3⟩ := x4.2.2
  subst e1 e2 e3
  refine tail_gives (s := { s₄ with heap := s₄.heap.push { cls := .type "slice", data := .fields #[partValue (lo.map fun j => (j, t1)), partValue (hi.map fun j => (j, t2)), partValue (st.map fun j => (j, t3))] } }) (typeIs_str _ _ _) F.slot_str_getitem.lookup ?_ (hs _ _)
  have em : ∀ (o : Option Int) (t : Tok), (o.map fun j => (j, t)).map (·.1) = o := fun o t => by cases o <;> rfl
  have u1 : Up s₄.heap (s₄.heap.push { cls := .type "slice", data := .fields #[partValue (lo.map fun j => (j, t1)), partValue (hi.map fun j => (j, t2)), partValue (st.map fun j => (j, t3))] }) := fun _ _ e => Heap.get?_push_of_some _ e
  refine wpAny_getItem_str_slice (l := lo.map fun j => (j, t1)) (u := hi.map fun j => (j, t2)) (st := st.map fun j => (j, t3)) ⟨_, Heap.get?_push_size _ rfl, rfl, rfl⟩ (by rw [em]; exact h0) ?_
  unfold sliceMade slicePicked
  simp only [em]
  by_cases hc : (st.getD 1 == 1 && (strSliceIndices lo hi (st.getD 1) x.length).length == x.length) = true
  · rw [if_pos hc]
    have e : slS x lo hi st = x := if_pos hc
    rw [e]
    exact ⟨k4.trans (Kp.heap s₄ u1), t, rfl⟩
  · rw [if_neg hc]
    have e : slS x lo hi st = ⟨((strSliceIndices lo hi (st.getD 1) x.length).filterMap (x.cps[·]?)).toArray⟩ := if_neg hc
    rw [e] at hsz2 ⊢
    exact ⟨hsz2, k4.trans (Kp.both s₄ u1), _, rfl⟩

-- displays
theorem Ev.list {es : List PySem.Expr} {ps : List PV} {pos : Pos} (hpl : Plain es) (h : EvL k sc ρ es ps) (hsz : ps.length ≤ sizeLine) : Ev k sc ρ (.List es pos) (.list ps) := fun {w A env h₀ F₀ own s} R E S => by
  refine PyProof.Rows.List_ ?_
  rw [hpl]
  refine wpAny_mono (h.spl R E S) (fun vs s₁ h₁ => ?_) fun _ _ x => x
  have S₁ := S.up h₁.1.up
  have u1 : Up s₁.heap (s₁.heap.push { cls := .type "list", data := .seq vs.toArray }) := fun _ _ e => Heap.get?_push_of_some _ e
  exact wpAny_newObj_type ⟨h₁.1.trans (Kp.heap s₁ u1), _, vs, 0, rfl, Live.new S₁.live, Heap.get?_push_size _ rfl, RVs.up u1 _ h₁.2⟩ (by show vs.toArray.size ≤ sizeLine; rw [List.size_toArray, h₁.2.length]; exact hsz)
theorem Ev.tuple {es : List PySem.Expr} {ps : List PV} {kd : Nat} {pos : Pos} (hpl : Plain es) (h : EvL k sc ρ es ps) (hsz : ps.length ≤ sizeLine) : Ev k sc ρ (.Tuple es kd pos) (.tup ps) := fun {w A env h₀ F₀ own s} R E S => by
  refine PyProof.Rows.Tuple_ ?_
  rw [hpl]
  refine wpAny_mono (h.spl R E S) (fun vs s₁ h₁ => ?_) fun _ _ x => x
  have S₁ := S.up h₁.1.up
  have u1 : Up s₁.heap (s₁.heap.push { cls := .type "tuple", data := .seq vs.toArray }) := fun _ _ e => Heap.get?_push_of_some _ e
  exact wpAny_newObj_type ⟨h₁.1.trans (Kp.heap s₁ u1), _, vs, 0, rfl, Live.new S₁.live, Heap.get?_push_size _ rfl, RVs.up u1 _ h₁.2⟩ (by show vs.toArray.size ≤ sizeLine; rw [List.size_toArray, h₁.2.length]; exact hsz)
end
end Mine

namespace Mine
open PySem PySem.W PySem.Builtin PySem.Builtin.Str

theorem nsUnique {h : Heap} {a : Addr} {m m' : Str → Option Value} (x : h.Ns a m) (y : h.Ns a m') : m = m' := by
  obtain ⟨o, es, ep, ho, hd, _, hm⟩ := x
  obtain ⟨o', es', ep', ho', hd', _, hm'⟩ := y
  rw [ho] at ho'
  cases ho'
  rw [hd] at hd'
  cases hd'
  funext n
  rw [← hm, ← hm']

def Sub (ρ₂ ρ : Vars) : Prop := ∀ x e, ρ₂.lookup x = some e → ρ.lookup x = some e
theorem Sub.nil {ρ : Vars} : Sub [] ρ := fun _ _ h => by cases h
theorem Sub.cons {ρ₂ ρ : Vars} {x : Str} {e : VE} (h : ρ.lookup x = some e) (r : Sub ρ₂ ρ) : Sub ((x, e) :: ρ₂) ρ := fun y e' hy => by
  rw [List.lookup_cons] at hy
  by_cases q : (y == x) = true
  · rw [q] at hy
    cases hy
    rw [beq_iff_eq.mp q]; exact h
  · simp only [q] at hy
    exact r y e' hy
section
variable {w : World} {env : Env} {h₀ : Heap} {F₀ : List Addr} {own : List (Str × Addr)} {ρ ρ₂ : Vars} {h h' : Heap} {sc : Scope}
theorem St.sub (S : St w env h₀ F₀ own ρ h) (r : Sub ρ₂ ρ) : St w env h₀ F₀ own ρ₂ h := ⟨S.base, S.keep, S.alive, S.ns, S.cells, S.ownlive, S.fresh, S.apart, S.nodup, fun x e hx => S.vars x e (r x e hx)⟩

theorem mem_locals : env.locals ∈ muts env own := List.mem_cons_self
theorem mem_cell {p : Str × Addr} (hp : p ∈ env.cells) : p.2 ∈ muts env own := List.mem_cons_of_mem _ (List.mem_append_left _ (List.mem_map_of_mem hp))
theorem mem_own {p : Str × Addr} (hp : p ∈ own) : p.2 ∈ muts env own := List.mem_cons_of_mem _ (List.mem_append_right _ (List.mem_map_of_mem hp))
theorem St.cellNe (S : St w env h₀ F₀ own ρ h) {p : Str × Addr} (hp : p ∈ env.cells) : p.2 ≠ env.locals := fun e => by
  have := (List.nodup_cons.mp S.nodup).1
  rw [← e] at this
  exact this (List.mem_append_left _ (List.mem_map_of_mem hp))
theorem St.ownNe (S : St w env h₀ F₀ own ρ h) {p : Str × Addr} (hp : p ∈ own) : p.2 ≠ env.locals := fun e => by
  have := (List.nodup_cons.mp S.nodup).1
  rw [← e] at this
  exact this (List.mem_append_right _ (List.mem_map_of_mem hp))
theorem St.ownCell (S : St w env h₀ F₀ own ρ h) {p q : Str × Addr} (hp : p ∈ own) (hq : q ∈ env.cells) : p.2 ≠ q.2 := fun e => by
  have := (List.nodup_append.mp (List.nodup_cons.mp S.nodup).2).2.2
  exact this _ (List.mem_map_of_mem hq) _ (List.mem_map_of_mem hp) e.symm
theorem pw_of_nodup {α : Type} {l : List (α × Addr)} (h : (l.map (·.2)).Nodup) : l.Pairwise fun x y => x.2 ≠ y.2 := List.pairwise_map.mp h
theorem St.cellName (S : St w env h₀ F₀ own ρ h) {x y : Str} {c : Addr} (hx : (x, c) ∈ env.cells) (hy : (y, c) ∈ env.cells) : x = y :=
  name_of_addr (pw_of_nodup (List.nodup_append.mp (List.nodup_cons.mp S.nodup).2).1) hx hy
theorem St.ownName (S : St w env h₀ F₀ own ρ h) {x y : Str} {c : Addr} (hx : (x, c) ∈ own) (hy : (y, c) ∈ own) : x = y :=
  name_of_addr (pw_of_nodup (List.nodup_append.mp (List.nodup_cons.mp S.nodup).2).2.1) hx hy

/-- a change at one mutable address: what stays -/
theorem St.keep' (S : St w env h₀ F₀ own ρ h) {a : Addr} (ha : a ∈ muts env own) (hs : ∀ b o, b ≠ a → h.get? b = some o → h'.get? b = some o) : Up h₀ h' := fun b o e => hs b o (fun q => by rw [q, S.fresh a ha] at e; cases e) (S.keep b o e)
theorem St.alive' (S : St w env h₀ F₀ own ρ h) {a : Addr} {oa : Obj} (hs : ∀ b o, b ≠ a → h.get? b = some o → h'.get? b = some o) (ho : h'.get? a = some oa) : ∀ b ∈ F₀, ∃ o, h'.get? b = some o := fun b hb => by
  by_cases q : b = a
  · exact ⟨oa, q ▸ ho⟩
  · obtain ⟨o, e⟩ := S.alive b hb
    exact ⟨o, hs b o q e⟩
theorem frozenKeep {a : Addr} (ha : a ∈ muts env own) (hs : ∀ b o, b ≠ a → h.get? b = some o → h'.get? b = some o) : ∀ b o, b ∉ Fof env F₀ own → h.get? b = some o → h'.get? b = some o ∧ b ∉ Fof env F₀ own := fun b o hb e => ⟨hs b o (fun q => hb (q ▸ List.mem_append_right _ ha)) e, hb⟩

theorem lookup_filter {x y : Str} (hyx : y ≠ x) : ∀ {ρ : Vars}, (ρ.filter fun p => p.1 != x).lookup y = ρ.lookup y
  | [] => rfl
  | (z, e) :: ρ => by
    rw [List.filter_cons]
    by_cases hz : z = x
    · subst hz
      have : (y == z) = false := beq_eq_false_iff_ne.mpr hyx
      simp only [bne_self_eq_false, Bool.false_eq_true, if_false, List.lookup_cons, this]
      exact lookup_filter hyx
    · have : (z != x) = true := by simpa using hz
      simp only [this, if_true, List.lookup_cons]
      rw [lookup_filter hyx]
theorem lookup_filter_self {x : Str} : ∀ {ρ : Vars}, (ρ.filter fun p => p.1 != x).lookup x = none
  | [] => rfl
  | (z, e) :: ρ => by
    rw [List.filter_cons]
    by_cases hz : z = x
    · subst hz
      simp only [bne_self_eq_false, Bool.false_eq_true, if_false]
      exact lookup_filter_self
    · have h1 : (z != x) = true := by simpa using hz
      have h2 : (x == z) = false := beq_eq_false_iff_ne.mpr (Ne.symm hz)
      simp only [h1, if_true, List.lookup_cons, h2]
      exact lookup_filter_self
theorem sub_filter {x : Str} {e : VE} : Sub ((x, e) :: ρ) ((x, e) :: ρ.filter fun p => p.1 != x) := fun y e' hy => by
  rw [List.lookup_cons] at hy ⊢
  by_cases q : (y == x) = true
  · rw [q] at hy ⊢; exact hy
  · simp only [q] at hy ⊢
    rw [lookup_filter (fun e => q (by rw [e]; exact beq_self_eq_true x))]
    exact hy

/-- a name is bound anew, its value not yet told -/
theorem St.rawLocal (S : St w env h₀ F₀ own ρ h) {x : Str} {v : Value} {m : Str → Option Value} (hk : env.kindOf x = some .local) (hm : h.Ns env.locals m) (hn : h'.Ns env.locals (fun y => if y = x then some v else m y)) (hs : Heap.SameBut env.locals h h') :
    St w env h₀ F₀ own (ρ.filter fun p => p.1 != x) h' ∧ SlotIs env h' x v := by
  have hs' : ∀ b o, b ≠ env.locals → h.get? b = some o → h'.get? b = some o := fun b o hb e => hs.extBut b o hb e
  have fk := frozenKeep (env := env) (own := own) (F₀ := F₀) (mem_locals) hs'
  obtain ⟨oL, _, _, hoL, _⟩ := id hn
  refine ⟨⟨S.base, S.keep' mem_locals hs', S.alive' hs' hoL, ⟨_, hn⟩, fun p hp => ?_, fun p hp => ?_, S.fresh, S.apart, S.nodup, fun y e hy => ?_⟩, .inl ⟨hk, _, hn, by simp⟩⟩
  · obtain ⟨v, o, ho, r⟩ := S.cells p hp
    exact ⟨v, o, hs' _ _ (S.cellNe hp) ho, r⟩
  · obtain ⟨o, ho, hdc⟩ := S.ownlive p hp
    exact ⟨o, hs' _ _ (S.ownNe hp) ho, hdc⟩
  · have hyx : y ≠ x := fun e' => by rw [e', lookup_filter_self] at hy; cases hy
    rw [lookup_filter hyx] at hy
    have slot : ∀ u, SlotIs env h y u → SlotIs env h' y u := fun u hu => by
      rcases hu with ⟨a, m₀, n, e⟩ | ⟨a, c, e, o, ho, r⟩
      · refine .inl ⟨a, _, hn, ?_⟩
        rw [nsUnique n hm] at e
        simpa [hyx] using e
      · exact .inr ⟨a, c, e, o, hs' _ _ (S.cellNe (mem_of_lookup e)) ho, r⟩
    have old := S.vars y e hy
    cases e with
    | val p' => exact let ⟨f, u, su, r⟩ := old; ⟨f, u, slot u su, RV.mono fk p' f r⟩
    | own l => exact let ⟨a, vs, n, su, hm, ho, f, r⟩ := old; ⟨a, vs, n, slot _ su, hm, hs' _ _ (S.ownNe hm) ho, f, RVs.mono fk l f r⟩
    | ownR R => exact let ⟨a, o, su, hm, ho, r⟩ := old; ⟨a, o, slot _ su, hm, hs' _ _ (S.ownNe hm) ho, r⟩

theorem St.rawCell (S : St w env h₀ F₀ own ρ h) {x : Str} {c : Addr} {v : Value} (hk : env.kindOf x = some .cell) (hc : env.cells.lookup x = some c) (hn : h'.IsCell c (some v)) (hs : Heap.SameBut c h h') :
    St w env h₀ F₀ own (ρ.filter fun p => p.1 != x) h' ∧ SlotIs env h' x v := by
  have hmem := mem_of_lookup hc
  have hs' : ∀ b o, b ≠ c → h.get? b = some o → h'.get? b = some o := fun b o hb e => hs.extBut b o hb e
  have fk := frozenKeep (env := env) (own := own) (F₀ := F₀) (mem_cell hmem) hs'
  obtain ⟨oL, hoL, _⟩ := id hn
  refine ⟨⟨S.base, S.keep' (mem_cell hmem) hs', S.alive' hs' hoL, ?_, fun p hp => ?_, fun p hp => ?_, S.fresh, S.apart, S.nodup, fun y e hy => ?_⟩, .inr ⟨.inl hk, c, hc, hn⟩⟩
  · obtain ⟨m, n⟩ := S.ns
    exact ⟨m, n.sameBut hs (Ne.symm (S.cellNe hmem))⟩
  · by_cases q : p.2 = c
    · exact ⟨_, q ▸ hn⟩
    · obtain ⟨v, o, ho, r⟩ := S.cells p hp
      exact ⟨v, o, hs' _ _ q ho, r⟩
  · obtain ⟨o, ho, hdc⟩ := S.ownlive p hp
    exact ⟨o, hs' _ _ (S.ownCell hp hmem) ho, hdc⟩
  · have hyx : y ≠ x := fun e' => by rw [e', lookup_filter_self] at hy; cases hy
    rw [lookup_filter hyx] at hy
    have slot : ∀ u, SlotIs env h y u → SlotIs env h' y u := fun u hu => by
      rcases hu with ⟨a, m₀, n, e⟩ | ⟨a, c', e, o, ho, r⟩
      · exact .inl ⟨a, m₀, n.sameBut hs (Ne.symm (S.cellNe hmem)), e⟩
      · refine .inr ⟨a, c', e, o, hs' _ _ (fun q' => ?_) ho, r⟩
        subst q'
        exact hyx (S.cellName (mem_of_lookup e) hmem)
    have old := S.vars y e hy
    cases e with
    | val p' => exact let ⟨f, u, su, r⟩ := old; ⟨f, u, slot u su, RV.mono fk p' f r⟩
    | own l => exact let ⟨a, vs, n, su, hm, ho, f, r⟩ := old; ⟨a, vs, n, slot _ su, hm, hs' _ _ (S.ownCell hm hmem) ho, f, RVs.mono fk l f r⟩
    | ownR R => exact let ⟨a, o, su, hm, ho, r⟩ := old; ⟨a, o, slot _ su, hm, hs' _ _ (S.ownCell hm hmem) ho, r⟩

theorem St.addVal (S : St w env h₀ F₀ own (ρ.filter fun p => p.1 != x) h) {v : Value} {p : PV} (hx : SlotIs env h x v) (hf : p.frozen = true) (hv : RV w h (Fof env F₀ own) p v) : St w env h₀ F₀ own ((x, .val p) :: ρ) h := by
  refine St.sub (ρ := (x, .val p) :: ρ.filter fun p => p.1 != x) ⟨S.base, S.keep, S.alive, S.ns, S.cells, S.ownlive, S.fresh, S.apart, S.nodup, fun y e hy => ?_⟩ sub_filter
  rw [List.lookup_cons] at hy
  by_cases q : (y == x) = true
  · rw [q] at hy
    cases hy
    rw [beq_iff_eq.mp q]
    exact ⟨hf, v, hx, hv⟩
  · simp only [q] at hy
    exact S.vars y e hy

theorem alive_same {a : Addr} (hs : Heap.SameBut a h h') (hl : ∃ o, h'.get? a = some o) {b : Addr} {o : Obj} (e : h.get? b = some o) : ∃ o', h'.get? b = some o' := by
  by_cases q : b = a
  · exact q ▸ hl
  · exact ⟨o, hs.extBut b o q e⟩
/-- the store of a value to a name -/
theorem St.store (S : St w env h₀ F₀ own ρ h) (E : EnvOK sc env) {A : Around} {x : Str} {v : Value} {s : Shared} {Q : Unit → Shared → Prop} (hh : s.heap = h) (hk : sc.names.lookup x = some .local ∨ (sc.names.lookup x = some .cell ∧ (env.cells.lookup x).isSome = true))
    (hq : ∀ s', (∃ h' tk, s' = { s with heap := h', toks := tk }) → (∀ b o, h.get? b = some o → (b ∉ muts env own → s'.heap.get? b = some o) ∧ ∃ o', s'.heap.get? b = some o') → (∀ b ∈ own, ∀ o, h.get? b.2 = some o → s'.heap.get? b.2 = some o) → St w env h₀ F₀ own (ρ.filter fun p => p.1 != x) s'.heap → SlotIs env s'.heap x v → Q () s') : wpAny (model prg w) A (storeName env x v) Q NoE s := by
  subst hh
  have hkind : env.scope.kind = .function := by rw [E.scope]; exact E.kind
  have ek : ∀ kd, sc.names.lookup x = some kd → env.kindOf x = some kd := fun kd e => by show env.scope.names.lookup x = _; rw [E.scope]; exact e
  rcases hk with hk | ⟨hk, hc⟩
  · obtain ⟨m, hm⟩ := S.ns
    refine wpAny_storeName_local (ek _ hk) hm (fun h' hn hs => ?_) (by rw [hkind]; rfl)
    obtain ⟨S', sl⟩ := S.rawLocal (ek _ hk) hm hn hs
    exact hq _ ⟨h', _, rfl⟩ (fun b o e => ⟨fun hb => hs.extBut b o (fun q => hb (q ▸ mem_locals)) e, alive_same hs (let ⟨o, _, _, ho, _⟩ := hn; ⟨o, ho⟩) e⟩) (fun b hb o e => hs.extBut _ o (S.ownNe hb) e) S' sl
  · obtain ⟨c, hc⟩ := Option.isSome_iff_exists.mp hc
    obtain ⟨v₀, hv₀⟩ := S.cells _ (mem_of_lookup hc)
    refine wpAny_storeName_cell hkind (ek _ hk) hc hv₀ fun h' hn hs => ?_
    obtain ⟨S', sl⟩ := S.rawCell (ek _ hk) hc hn hs
    exact hq _ ⟨h', _, rfl⟩ (fun b o e => ⟨fun hb => hs.extBut b o (fun q => hb (q ▸ mem_cell (mem_of_lookup hc))) e, alive_same hs (let ⟨o, ho, _⟩ := hn; ⟨o, ho⟩) e⟩) (fun b hb o e => hs.extBut _ o (S.ownCell hb (mem_of_lookup hc)) e) S' sl

/-- the contents of an owned list change -/
theorem St.setOwn (S : St w env h₀ F₀ own ρ h) {x : Str} {a : Addr} {vs : List Value} {n : Nat} {l : List PV} (hx : SlotIs env h x (.ref a)) (hm : (x, a) ∈ own) (hn : h'.get? a = some (lstObj vs n)) (hs : Heap.SameBut a h h')
    (hf : PV.frozens l = true) (hv : RVs w h (Fof env F₀ own) l vs) : St w env h₀ F₀ own ((x, .own l) :: ρ) h' := by
  have hs' : ∀ b o, b ≠ a → h.get? b = some o → h'.get? b = some o := fun b o hb e => hs.extBut b o hb e
  have fk := frozenKeep (env := env) (own := own) (F₀ := F₀) (mem_own hm) hs'
  have slot : ∀ y u, SlotIs env h y u → SlotIs env h' y u := fun y u hu => by
    rcases hu with ⟨k, m₀, n, e⟩ | ⟨k, c', e, o, ho, r⟩
    · exact .inl ⟨k, m₀, n.sameBut hs (Ne.symm (S.ownNe hm)), e⟩
    · exact .inr ⟨k, c', e, o, hs' _ _ (Ne.symm (S.ownCell hm (mem_of_lookup e))) ho, r⟩
  refine ⟨S.base, S.keep' (mem_own hm) hs', S.alive' hs' hn, ?_, fun p hp => ?_, fun p hp => ?_, S.fresh, S.apart, S.nodup, fun y e hy => ?_⟩
  · obtain ⟨m, n⟩ := S.ns
    exact ⟨m, n.sameBut hs (Ne.symm (S.ownNe hm))⟩
  · obtain ⟨v, o, ho, r⟩ := S.cells p hp
    exact ⟨v, o, hs' _ _ (Ne.symm (S.ownCell hm hp)) ho, r⟩
  · by_cases q : p.2 = a
    · exact ⟨_, q ▸ hn, .inl rfl⟩
    · obtain ⟨o, ho, hdc⟩ := S.ownlive p hp
      exact ⟨o, hs' _ _ q ho, hdc⟩
  · rw [List.lookup_cons] at hy
    by_cases q : (y == x) = true
    · rw [q] at hy
      cases hy
      have : y = x := beq_iff_eq.mp q
      subst this
      exact ⟨a, vs, n, slot _ _ hx, hm, hn, hf, RVs.mono fk l hf hv⟩
    · simp only [q] at hy
      have hyx : y ≠ x := fun e => q (by rw [e]; exact beq_self_eq_true x)
      have old := S.vars y e hy
      cases e with
      | val p' => exact let ⟨f, u, su, r⟩ := old; ⟨f, u, slot _ u su, RV.mono fk p' f r⟩
      | own l' =>
        obtain ⟨a', vs', n', su, hm', ho, f, r⟩ := old
        refine ⟨a', vs', n', slot _ _ su, hm', hs' _ _ (fun q' => ?_) ho, f, RVs.mono fk l' f r⟩
        subst q'
        exact hyx (S.ownName hm' hm)
      | ownR R =>
        obtain ⟨a', o', su, hm', ho, r⟩ := old
        refine ⟨a', o', slot _ _ su, hm', hs' _ _ (fun q' => ?_) ho, r⟩
        subst q'
        exact hyx (S.ownName hm' hm)

/-- a new list, known to no other, becomes owned under x; the store is done -/
theorem St.takeOwn (S : St w env h₀ F₀ own ρ h) {x : Str} {a : Addr} (vs : List Value) (n : Nat) {l : List PV} (hx : SlotIs env h x (.ref a)) (ho : h.get? a = some (lstObj vs n)) (ha : a ∉ Fof env F₀ own) (hn0 : h₀.get? a = none)
    (hna : ∀ y e, y ≠ x → ρ.lookup y = some e → VarIs w env (a :: Fof env F₀ own) own h y e) (hf : PV.frozens l = true) (hv : RVs w h (a :: Fof env F₀ own) l vs) : St w env h₀ F₀ ((x, a) :: own) ((x, .own l) :: ρ) h := by
  have hsub : ∀ b, b ∉ (a :: Fof env F₀ own) → b ∉ Fof env F₀ ((x, a) :: own) := fun b hb hm => by
    apply hb
    rcases List.mem_append.mp hm with hm | hm
    · exact List.mem_cons_of_mem _ (List.mem_append_left _ hm)
    · rcases List.mem_cons.mp hm with rfl | hm
      · exact List.mem_cons_of_mem _ (List.mem_append_right _ mem_locals)
      · rcases List.mem_append.mp hm with hm | hm
        · exact List.mem_cons_of_mem _ (List.mem_append_right _ (List.mem_cons_of_mem _ (List.mem_append_left _ hm)))
        · rcases List.mem_cons.mp hm with rfl | hm
          · exact List.mem_cons_self
          · exact List.mem_cons_of_mem _ (List.mem_append_right _ (List.mem_cons_of_mem _ (List.mem_append_right _ hm)))
  have fk : ∀ b o, b ∉ (a :: Fof env F₀ own) → h.get? b = some o → h.get? b = some o ∧ b ∉ Fof env F₀ ((x, a) :: own) := fun b o hb e => ⟨e, hsub b hb⟩
  have hL : a ≠ env.locals := fun e => ha (List.mem_append_right _ (e ▸ mem_locals))
  have hC : a ∉ env.cells.map (·.2) := fun e => ha (List.mem_append_right _ (List.mem_cons_of_mem _ (List.mem_append_left _ e)))
  have hO : a ∉ own.map (·.2) := fun e => ha (List.mem_append_right _ (List.mem_cons_of_mem _ (List.mem_append_right _ e)))
  refine ⟨S.base, S.keep, S.alive, S.ns, S.cells, fun p hp => ?_, fun b hb => ?_, fun b hb => ?_, ?_, fun y e hy => ?_⟩
  · rcases List.mem_cons.mp hp with rfl | hp
    · exact ⟨_, ho, .inl rfl⟩
    · exact S.ownlive p hp
  · rcases List.mem_cons.mp hb with rfl | hb
    · exact S.fresh _ mem_locals
    · rcases List.mem_append.mp hb with hb | hb
      · exact S.fresh _ (List.mem_cons_of_mem _ (List.mem_append_left _ hb))
      · rcases List.mem_cons.mp hb with rfl | hb
        · exact hn0
        · exact S.fresh _ (List.mem_cons_of_mem _ (List.mem_append_right _ hb))
  · rcases List.mem_cons.mp hb with rfl | hb
    · exact fun e => ha (List.mem_append_left _ e)
    · exact S.apart b hb
  · obtain ⟨n1, n2⟩ := List.nodup_cons.mp S.nodup
    obtain ⟨n3, n4, n5⟩ := List.nodup_append.mp n2
    refine List.nodup_cons.mpr ⟨fun hm => ?_, List.nodup_append.mpr ⟨n3, List.nodup_cons.mpr ⟨hO, n4⟩, fun b hb c hc => ?_⟩⟩
    · rcases List.mem_append.mp hm with hm | hm
      · exact n1 (List.mem_append_left _ hm)
      · rcases List.mem_cons.mp hm with e | hm
        · exact hL e.symm
        · exact n1 (List.mem_append_right _ hm)
    · rcases List.mem_cons.mp hc with rfl | hc
      · exact fun e => hC (e ▸ hb)
      · exact n5 b hb c hc
  · rw [List.lookup_cons] at hy
    by_cases q : (y == x) = true
    · rw [q] at hy
      cases hy
      have : y = x := beq_iff_eq.mp q
      subst this
      exact ⟨a, vs, n, hx, List.mem_cons_self, ho, hf, RVs.mono fk l hf hv⟩
    · simp only [q] at hy
      have hyx : y ≠ x := fun e => q (by rw [e]; exact beq_self_eq_true x)
      have old := hna y e hyx hy
      cases e with
      | val p' => exact let ⟨f, u, su, r⟩ := old; ⟨f, u, su, RV.mono fk p' f r⟩
      | own l' => exact let ⟨a', vs', n', su, hm', ho', f, r⟩ := old; ⟨a', vs', n', su, List.mem_cons_of_mem _ hm', ho', f, RVs.mono fk l' f r⟩
      | ownR R => exact let ⟨a', o', su, hm', ho', r⟩ := old; ⟨a', o', su, List.mem_cons_of_mem _ hm', ho', r⟩

/-- an owned list that is no longer changed -/
theorem St.freeze (S : St w env h₀ F₀ own ρ h) {x : Str} {l : List PV} (hx : ρ.lookup x = some (.own l)) : St w env h₀ F₀ (own.filter fun p => p.1 != x) ((x, .val (.list l)) :: ρ) h := by
  have sub : ∀ p ∈ own.filter (fun p => p.1 != x), p ∈ own := fun p hp => (List.mem_filter.mp hp).1
  have subl : (own.filter fun p => p.1 != x).Sublist own := List.filter_sublist
  have msub : ∀ b ∈ muts env (own.filter fun p => p.1 != x), b ∈ muts env own := fun b hb => by
    rcases List.mem_cons.mp hb with rfl | hb
    · exact mem_locals
    · rcases List.mem_append.mp hb with hb | hb
      · exact List.mem_cons_of_mem _ (List.mem_append_left _ hb)
      · exact List.mem_cons_of_mem _ (List.mem_append_right _ ((subl.map (·.2)).subset hb))
  have fsub : ∀ b, b ∉ Fof env F₀ own → b ∉ Fof env F₀ (own.filter fun p => p.1 != x) := fun b hb hm => hb (by
    rcases List.mem_append.mp hm with hm | hm
    · exact List.mem_append_left _ hm
    · exact List.mem_append_right _ (msub b hm))
  have fk : ∀ b o, b ∉ Fof env F₀ own → h.get? b = some o → h.get? b = some o ∧ b ∉ Fof env F₀ (own.filter fun p => p.1 != x) := fun b o hb e => ⟨e, fsub b hb⟩
  refine ⟨S.base, S.keep, S.alive, S.ns, S.cells, fun p hp => S.ownlive p (sub p hp), fun b hb => S.fresh b (msub b hb), fun b hb => S.apart b ((subl.map (·.2)).subset hb), ?_, fun y e hy => ?_⟩
  · exact S.nodup.sublist (List.Sublist.cons_cons _ ((List.Sublist.refl _).append (subl.map (·.2))))
  · rw [List.lookup_cons] at hy
    by_cases q : (y == x) = true
    · rw [q] at hy
      cases hy
      have : y = x := beq_iff_eq.mp q
      subst this
      obtain ⟨a, vs, n, su, hm, ho, f, r⟩ := S.vars y _ hx
      refine ⟨f, .ref a, su, a, vs, n, rfl, fun hF => ?_, ho, RVs.mono fk l f r⟩
      rcases List.mem_append.mp hF with hF | hF
      · exact S.apart a (List.mem_map_of_mem hm) hF
      · rcases List.mem_cons.mp hF with e | hF
        · exact S.ownNe hm e
        · rcases List.mem_append.mp hF with hF | hF
          · obtain ⟨c, hc, e⟩ := List.mem_map.mp hF
            exact S.ownCell hm hc e.symm
          · obtain ⟨c, hc, e⟩ := List.mem_map.mp hF
            have h1 := List.mem_filter.mp hc
            have e2 : c.1 = y := S.ownName (c := a) (by have := h1.1; rw [← e]; exact this) hm
            have h2 := h1.2
            rw [e2] at h2
            simp at h2
    · simp only [q] at hy
      have hyx : y ≠ x := fun e => q (by rw [e]; exact beq_self_eq_true x)
      have old := S.vars y e hy
      cases e with
      | val p' => exact let ⟨f, u, su, r⟩ := old; ⟨f, u, su, RV.mono fk p' f r⟩
      | own l' => exact let ⟨a', vs', n', su, hm', ho', f, r⟩ := old; ⟨a', vs', n', su, List.mem_filter.mpr ⟨hm', by simpa using hyx⟩, ho', f, RVs.mono fk l' f r⟩
      | ownR R => exact let ⟨a', o', su, hm', ho', r⟩ := old; ⟨a', o', su, List.mem_filter.mpr ⟨hm', by simpa using hyx⟩, ho', r⟩
end
end Mine

namespace Mine
open PySem PySem.W PySem.Builtin PySem.Builtin.Str

def GK (g : Bool) (s s' : Shared) : Prop := ∃ h tk gs, s' = { s with heap := h, toks := tk, gens := gs } ∧ (g = false → gs = s.gens) ∧ (PyProof.Rows.AllBare s.gens → PyProof.Rows.AllBare gs)
theorem GK.of_kp {g : Bool} {s s' : Shared} (k : Kp s s') : GK g s s' := by
  obtain ⟨h, t, rfl, _⟩ := k
  exact ⟨h, t, s.gens, rfl, fun _ => rfl, fun x => x⟩
theorem GK.of_eq {g : Bool} {s s' : Shared} (k : ∃ h' tk, s' = { s with heap := h', toks := tk }) : GK g s s' := by
  obtain ⟨h, t, rfl⟩ := k
  exact ⟨h, t, s.gens, rfl, fun _ => rfl, fun x => x⟩
theorem GK.refl (g : Bool) (s : Shared) : GK g s s := .of_kp (Kp.refl s)
theorem GK.trans {g : Bool} {a b c : Shared} (x : GK g a b) (y : GK g b c) : GK g a c := by
  obtain ⟨h, t, gs, rfl, e, f⟩ := x
  obtain ⟨h', t', gs', rfl, e', f'⟩ := y
  exact ⟨h', t', gs', rfl, fun q => (e' q).trans (e q), fun q => f' (f q)⟩
theorem GK.wide {g : Bool} {a b : Shared} (x : GK false a b) : GK g a b := by
  obtain ⟨h, t, gs, rfl, e, f⟩ := x
  exact ⟨h, t, gs, rfl, fun _ => e rfl, f⟩

def CellsOK (sc : Scope) (env : Env) : Prop := ∀ x, sc.names.lookup x = some .cell → (env.cells.lookup x).isSome = true
def Stb (sc : Scope) (x : Str) : Prop := sc.names.lookup x = some .local ∨ sc.names.lookup x = some .cell
theorem Stb.at {sc : Scope} {x : Str} {env : Env} (h : Stb sc x) (c : CellsOK sc env) : sc.names.lookup x = some .local ∨ (sc.names.lookup x = some .cell ∧ (env.cells.lookup x).isSome = true) := h.imp id fun e => ⟨e, c x e⟩

inductive Out where
  | next (ρ : Vars)
  | brk (ρ : Vars)
  | ret (p : PV)

/-- all but some addresses stays, and none dies -/
def But (M : List Addr) (h h' : Heap) : Prop := ∀ b o, h.get? b = some o → (b ∉ M → h'.get? b = some o) ∧ ∃ o', h'.get? b = some o'
def OwnExt (own own' : List (Str × Addr)) (h : Heap) : Prop := ∀ p ∈ own', p ∈ own ∨ h.get? p.2 = none
theorem OwnExt.refl (own : List (Str × Addr)) (h : Heap) : OwnExt own own h := fun _ hp => .inl hp
theorem But.of_up {M : List Addr} {h h' : Heap} (u : Up h h') : But M h h' := fun b o e => ⟨fun _ => u b o e, o, u b o e⟩
theorem OwnExt.muts {env : Env} {own own' : List (Str × Addr)} {h : Heap} (x : OwnExt own own' h) {b : Addr} {o : Obj} (hb : b ∉ muts env own) (e : h.get? b = some o) : b ∉ muts env own' := fun hm => by
  rcases List.mem_cons.mp hm with rfl | hm
  · exact hb mem_locals
  · rcases List.mem_append.mp hm with hm | hm
    · exact hb (List.mem_cons_of_mem _ (List.mem_append_left _ hm))
    · obtain ⟨p, hp, rfl⟩ := List.mem_map.mp hm
      rcases x p hp with h1 | h1
      · exact hb (mem_own h1)
      · rw [h1] at e; cases e
theorem But.after {env : Env} {own own' : List (Str × Addr)} {h h' h'' : Heap} (x : But (muts env own) h h') (e : OwnExt own own' h) (y : But (muts env own') h' h'') : But (muts env own) h h'' := fun b o eo => by
  obtain ⟨x1, o', x2⟩ := x b o eo
  obtain ⟨_, y2⟩ := y b o' x2
  exact ⟨fun hb => (y b o (x1 hb)).1 (e.muts hb eo), y2⟩
theorem But.up_after {M : List Addr} {h h' h'' : Heap} (x : Up h h') (y : But M h' h'') : But M h h'' := fun b o eo => y b o (x b o eo)
theorem But.then_up {M : List Addr} {h h' h'' : Heap} (x : But M h h') (y : Up h' h'') : But M h h'' := fun b o eo => let ⟨x1, o', x2⟩ := x b o eo; ⟨fun hb => y _ _ (x1 hb), o', y _ _ x2⟩
theorem OwnExt.after {M : List Addr} {own own' own'' : List (Str × Addr)} {h h' : Heap} (x : But M h h') (e : OwnExt own own' h) (y : OwnExt own' own'' h') : OwnExt own own'' h := fun p hp => by
  rcases y p hp with h1 | h1
  · exact e p h1
  · refine .inr ?_
    cases e' : h.get? p.2 with
    | none => rfl
    | some o =>
      obtain ⟨_, o', x2⟩ := x _ _ e'
      rw [h1] at x2; cases x2

def OutIs (g : Bool) (w : World) (env : Env) (h₀ : Heap) (F₀ : List Addr) (own : List (Str × Addr)) (o : Out) (f : Flow) (s s' : Shared) : Prop := GK g s s' ∧ But (muts env own) s.heap s'.heap ∧ match o, f with
  | .next ρ, .next => ∃ own', OwnExt own own' s.heap ∧ St w env h₀ F₀ own' ρ s'.heap
  | .brk ρ, .brk => ∃ own', OwnExt own own' s.heap ∧ St w env h₀ F₀ own' ρ s'.heap
  | .ret p, .ret v => RV w s'.heap F₀ p v
  | _, _ => False

def Ex1 (g : Bool) (k : Nat) (sc : Scope) (ρ : Vars) (st : Stmt) (o : Out) : Prop :=
  ∀ {w : World} {A : Around} {env : Env} {h₀ : Heap} {F₀ : List Addr} {own : List (Str × Addr)} {s : Shared}, Room k A → EnvOK sc env → CellsOK sc env → St w env h₀ F₀ own ρ s.heap →
    wpAny (model prg w) A (exec st env) (fun f s' => OutIs g w env h₀ F₀ own o f s s') NoE s
def Ex (g : Bool) (k : Nat) (sc : Scope) (ρ : Vars) (ss : List Stmt) (o : Out) : Prop :=
  ∀ {w : World} {A : Around} {env : Env} {h₀ : Heap} {F₀ : List Addr} {own : List (Str × Addr)} {s : Shared}, Room k A → EnvOK sc env → CellsOK sc env → St w env h₀ F₀ own ρ s.heap →
    wpAny (model prg w) A (execs ss env) (fun f s' => OutIs g w env h₀ F₀ own o f s s') NoE s
def TstG (g : Bool) (k : Nat) (sc : Scope) (ρ : Vars) (e : PySem.Expr) (b : Bool) : Prop :=
  ∀ {w : World} {A : Around} {env : Env} {h₀ : Heap} {F₀ : List Addr} {own : List (Str × Addr)} {s : Shared}, Room k A → EnvOK sc env → St w env h₀ F₀ own ρ s.heap →
    wpAny (model prg w) A (isTrue e env (eval e env)) (fun c s' => c = b ∧ GK g s s' ∧ Up s.heap s'.heap) NoE s
theorem Tst.g {g : Bool} {k : Nat} {sc : Scope} {ρ : Vars} {e : PySem.Expr} {b : Bool} (h : Tst k sc ρ e b) : TstG g k sc ρ e b := fun R E S => wpAny_mono (h R E S) (fun c s' x => ⟨x.1, .of_kp x.2, x.2.up⟩) fun _ _ x => x

theorem OutIs.up {g : Bool} {w : World} {env : Env} {h₀ : Heap} {F₀ : List Addr} {own : List (Str × Addr)} {o : Out} {f : Flow} {s s₁ s' : Shared} (x : GK g s s₁) (u : Up s.heap s₁.heap) (h : OutIs g w env h₀ F₀ own o f s₁ s') : OutIs g w env h₀ F₀ own o f s s' := by
  obtain ⟨gk, bt, q⟩ := h
  refine ⟨x.trans gk, But.up_after u bt, ?_⟩
  have oe : ∀ own', OwnExt own own' s₁.heap → OwnExt own own' s.heap := fun own' e p hp => (e p hp).imp id fun h1 => by
    cases e' : s.heap.get? p.2 with
    | none => rfl
    | some o => rw [u _ _ e'] at h1; cases h1
  cases o <;> cases f <;> first | exact q | exact q.elim | exact let ⟨own', e, S⟩ := q; ⟨own', oe _ e, S⟩
theorem OutIs.after {g : Bool} {w : World} {env : Env} {h₀ : Heap} {F₀ : List Addr} {own own' : List (Str × Addr)} {o : Out} {f : Flow} {s s₁ s' : Shared} (x : GK g s s₁) (b : But (muts env own) s.heap s₁.heap) (e : OwnExt own own' s.heap) (h : OutIs g w env h₀ F₀ own' o f s₁ s') : OutIs g w env h₀ F₀ own o f s s' := by
  obtain ⟨gk, bt, q⟩ := h
  refine ⟨x.trans gk, b.after e bt, ?_⟩
  cases o <;> cases f <;> first | exact q | exact q.elim | exact let ⟨own'', e', S⟩ := q; ⟨own'', OwnExt.after b e e', S⟩
theorem OutIs.next {g : Bool} {w : World} {env : Env} {h₀ : Heap} {F₀ : List Addr} {own own' : List (Str × Addr)} {ρ : Vars} {s s' : Shared} (x : GK g s s') (b : But (muts env own) s.heap s'.heap) (e : OwnExt own own' s.heap) (S : St w env h₀ F₀ own' ρ s'.heap) : OutIs g w env h₀ F₀ own (.next ρ) .next s s' := ⟨x, b, own', e, S⟩

section
variable {g : Bool} {k : Nat} {sc : Scope} {ρ ρ₂ : Vars}
theorem Ex.nil : Ex g k sc ρ [] (.next ρ) := fun {w A env h₀ F₀ own s} _ _ _ S => wpAny_execs_nil (.next (.refl g s) (.of_up fun _ _ e => e) (.refl _ _) S)
theorem Ex.cons {st : Stmt} {ss : List Stmt} {ρ' : Vars} {o : Out} (h : Ex1 g k sc ρ st (.next ρ')) (hr : Ex g k sc ρ' ss o) : Ex g k sc ρ (st :: ss) o := fun {w A env h₀ F₀ own s} R E C S => by
  refine wpAny_execs_cons (wpAny_mono (h R E C S) (fun f s₁ h₁ => ?_) fun _ _ x => x)
  obtain ⟨gk, bt, q⟩ := h₁
  cases f with
  | next => obtain ⟨own', oe, S'⟩ := q; exact wpAny_mono (hr R E C S') (fun f s' x => x.after gk bt oe) fun _ _ x => x
  | brk => exact q.elim
  | cont => exact q.elim
  | ret v => exact q.elim
theorem Ex.ret {st : Stmt} {ss : List Stmt} {p : PV} (h : Ex1 g k sc ρ st (.ret p)) : Ex g k sc ρ (st :: ss) (.ret p) := fun {w A env h₀ F₀ own s} R E C S => by
  refine wpAny_execs_cons (wpAny_mono (h R E C S) (fun f s₁ h₁ => ?_) fun _ _ x => x)
  obtain ⟨gk, bt, q⟩ := h₁
  cases f with
  | ret v => exact ⟨gk, bt, q⟩
  | next => exact q.elim
  | brk => exact q.elim
  | cont => exact q.elim
theorem Ex.brk {st : Stmt} {ss : List Stmt} {ρ' : Vars} (h : Ex1 g k sc ρ st (.brk ρ')) : Ex g k sc ρ (st :: ss) (.brk ρ') := fun {w A env h₀ F₀ own s} R E C S => by
  refine wpAny_execs_cons (wpAny_mono (h R E C S) (fun f s₁ h₁ => ?_) fun _ _ x => x)
  obtain ⟨gk, bt, q⟩ := h₁
  cases f with
  | brk => exact ⟨gk, bt, q⟩
  | next => exact q.elim
  | ret v => exact q.elim
  | cont => exact q.elim
theorem Ex.sub {ss : List Stmt} {o : Out} (r : Sub ρ₂ ρ) (h : Ex g k sc ρ₂ ss o) : Ex g k sc ρ ss o := fun R E C S => h R E C (S.sub r)
theorem Ex1.sub {st : Stmt} {o : Out} (r : Sub ρ₂ ρ) (h : Ex1 g k sc ρ₂ st o) : Ex1 g k sc ρ st o := fun R E C S => h R E C (S.sub r)
theorem OutIs.sub {w : World} {env : Env} {h₀ : Heap} {F₀ : List Addr} {own : List (Str × Addr)} {f : Flow} {s s' : Shared} (r : Sub ρ₂ ρ) (h : OutIs g w env h₀ F₀ own (.next ρ) f s s') : OutIs g w env h₀ F₀ own (.next ρ₂) f s s' := by
  obtain ⟨gk, bt, q⟩ := h
  cases f with
  | next => obtain ⟨own', oe, S'⟩ := q; exact ⟨gk, bt, own', oe, S'.sub r⟩
  | brk => exact q.elim
  | ret v => exact q.elim
  | cont => exact q.elim
theorem Ex.post {ss : List Stmt} (r : Sub ρ₂ ρ) {ρ₀ : Vars} (h : Ex g k sc ρ₀ ss (.next ρ)) : Ex g k sc ρ₀ ss (.next ρ₂) := fun R E C S => wpAny_mono (h R E C S) (fun _ _ x => x.sub r) fun _ _ x => x
theorem muts_filter {env : Env} {own : List (Str × Addr)} {x : Str} {b : Addr} (h : b ∈ muts env (own.filter fun p => p.1 != x)) : b ∈ muts env own := by
  rcases List.mem_cons.mp h with rfl | hb
  · exact mem_locals
  · rcases List.mem_append.mp hb with hb | hb
    · exact List.mem_cons_of_mem _ (List.mem_append_left _ hb)
    · obtain ⟨p, hp, rfl⟩ := List.mem_map.mp hb
      exact mem_own (List.mem_filter.mp hp).1
theorem OutIs.less {w : World} {env : Env} {h₀ : Heap} {F₀ : List Addr} {own : List (Str × Addr)} {x : Str} {f : Flow} {o : Out} {s s' : Shared} (h : OutIs g w env h₀ F₀ (own.filter fun p => p.1 != x) o f s s') : OutIs g w env h₀ F₀ own o f s s' := by
  obtain ⟨gk, bt, q⟩ := h
  refine ⟨gk, fun b ob e => ⟨fun hb => (bt b ob e).1 fun hm => hb (muts_filter hm), (bt b ob e).2⟩, ?_⟩
  have oe : ∀ own', OwnExt (own.filter fun p => p.1 != x) own' s.heap → OwnExt own own' s.heap := fun own' e p hp => (e p hp).imp (fun h1 => (List.mem_filter.mp h1).1) id
  cases o <;> cases f <;> first | exact q | exact q.elim | exact let ⟨own', e, S⟩ := q; ⟨own', oe _ e, S⟩
theorem Ex.freeze {ss : List Stmt} {o : Out} {x : Str} {l : List PV} (hx : ρ.lookup x = some (.own l)) (h : Ex g k sc ((x, .val (.list l)) :: ρ) ss o) : Ex g k sc ρ ss o := fun R E C S => wpAny_mono (h R E C (S.freeze hx)) (fun _ _ x => x.less) fun _ _ x => x
theorem Ex.one {st : Stmt} {ρ' : Vars} (h : Ex1 g k sc ρ st (.next ρ')) : Ex g k sc ρ [st] (.next ρ') := Ex.cons h Ex.nil
theorem Ex1.assign {x : Str} {xp pos : Pos} {value : PySem.Expr} {p : PV} (hx : Stb sc x) (hs : ∀ env, swapsWith value (some (.Name x xp)) pos.line env = pure false) (hv : Ev k sc ρ value p) (hf : p.frozen = true) : Ex1 g k sc ρ (.Assign [.Name x xp] value pos) (.next ((x, .val p) :: ρ)) := fun {w A env h₀ F₀ own s} R E C S => by
  refine wpAny_Assign_Name ((hv R E S).bind fun v s₁ k₁ r => ?_) (hs env)
  refine (S.up k₁.up).store E rfl (hx.at C) fun s' he hk _ S' sl => ?_
  have r' : RV w s'.heap (Fof env F₀ own) p v := RV.mono (fun b o hb e => ⟨(hk b o e).1 (fun q => hb (List.mem_append_right _ q)), hb⟩) p hf r
  exact .next ((GK.of_kp k₁).trans (.of_eq he)) (But.up_after k₁.up hk) (.refl _ _) (S'.addVal sl hf r')

theorem Ex1.aug {x : Str} {xp pos : Pos} {op : Operator} {value : PySem.Expr} {p q t : PV} (hx : Stb sc x) (hρ : ρ.lookup x = some (.val p)) (hv : Ev k sc ρ value q) (ho : Op2 k p q (inplaceOp op) t) (hf : t.frozen = true) : Ex1 g k sc ρ (.AugAssign (.Name x xp) op value pos) (.next ((x, .val t) :: ρ)) := fun {w A env h₀ F₀ own s} R E C S => by
  obtain ⟨_, u, sl, ru⟩ := S.vars x _ hρ
  refine wpAny_AugAssign_Name (sl.load E ?_)
  refine (hv R E S).bind fun v s₁ k₁ r => ?_
  have S₁ := S.up k₁.up
  refine (ho R S₁.here S₁.live (RV.up k₁.up _ ru) r).bind fun z s₂ k₂ rz => ?_
  refine (S₁.up k₂.up).store E rfl (hx.at C) fun s' he hk _ S' sl' => ?_
  have r' : RV w s'.heap (Fof env F₀ own) t z := RV.mono (fun b o hb e => ⟨(hk b o e).1 (fun q => hb (List.mem_append_right _ q)), hb⟩) t hf rz
  exact .next (((GK.of_kp k₁).trans (.of_kp k₂)).trans (.of_eq he)) (But.up_after (k₁.trans k₂).up hk) (.refl _ _) (S'.addVal sl' hf r')

theorem Ex1.retE {e : PySem.Expr} {pos : Pos} {p : PV} (h : Ev k sc ρ e p) (hf : p.frozen = true) : Ex1 g k sc ρ (.Return (some e) pos) (.ret p) := fun {w A env h₀ F₀ own s} R E C S => by
  refine wpAny_Return_some ((h R E S).bind fun v s₁ k₁ r => ?_)
  exact ⟨.of_kp k₁, .of_up k₁.up, RV.mono (fun b o hb e => ⟨e, fun q => hb (List.mem_append_left _ q)⟩) p hf r⟩
theorem Ex1.ifB {t : PySem.Expr} {b o : List Stmt} {pos : Pos} {c : Bool} {out : Out} (ht : TstG g k sc ρ t c) (hb : c = true → Ex g k sc ρ b out) (ho : c = false → Ex g k sc ρ o out) : Ex1 g k sc ρ (.If t b o pos) out := fun {w A env h₀ F₀ own s} R E C S => by
  refine wpAny_If (wpAny_mono (ht R E S) (fun c' s₁ h₁ => ?_) fun _ _ x => x)
  obtain ⟨rfl, gk, up⟩ := h₁
  cases c' with
  | true => rw [if_pos rfl]; exact wpAny_mono (hb rfl R E C (S.up up)) (fun f s' x => x.up gk up) fun _ _ x => x
  | false => rw [if_neg Bool.false_ne_true]; exact wpAny_mono (ho rfl R E C (S.up up)) (fun f s' x => x.up gk up) fun _ _ x => x
theorem Ex1.ifT {t : PySem.Expr} {b o : List Stmt} {pos : Pos} {out : Out} (ht : TstG g k sc ρ t true) (hb : Ex g k sc ρ b out) : Ex1 g k sc ρ (.If t b o pos) out := Ex1.ifB ht (fun _ => hb) fun e => by cases e
theorem Ex1.ifF {t : PySem.Expr} {b o : List Stmt} {pos : Pos} {out : Out} (ht : TstG g k sc ρ t false) (ho : Ex g k sc ρ o out) : Ex1 g k sc ρ (.If t b o pos) out := Ex1.ifB ht (fun e => by cases e) fun _ => ho
theorem Ex1.break_ {pos : Pos} : Ex1 g k sc ρ (.Break pos) (.brk ρ) := fun {w A env h₀ F₀ own s} R E C S => wpAny_bind (wpAny_standAt (wpAny_pure ⟨.refl g s, .of_up fun _ _ e => e, own, .refl _ _, S⟩))

theorem none_of_size (h : Heap) : h.get? h.objs.size = none := by
  cases e : h.get? h.objs.size with
  | none => rfl
  | some o => exact absurd (Heap.lt_size e) (Nat.lt_irrefl _)

/-- a new list that no other name knows becomes owned -/
theorem St.bindOwn {w : World} {A : Around} {env : Env} {h₀ : Heap} {F₀ : List Addr} {own : List (Str × Addr)} {s s₂ : Shared} {x : Str} {a : Addr} {vs : List Value} {n : Nat} {ps : List PV} (S : St w env h₀ F₀ own ρ s.heap) (E : EnvOK sc env) (C : CellsOK sc env) (hx : Stb sc x)
    (k₂ : Kp s s₂) (hne : s.heap.get? a = none) (ho : s₂.heap.get? a = some (lstObj vs n)) (hf : PV.frozens ps = true) (hr : RVs w s₂.heap (a :: Fof env F₀ own) ps vs) {Q : Flow → Shared → Prop}
    (hq : ∀ s', OutIs g w env h₀ F₀ own (.next ((x, .own ps) :: ρ)) .next s s' → Q .next s') : wpAny (model prg w) A (storeName env x (.ref a)) (fun _ => Q .next) NoE s₂ := by
  have u := k₂.up
  have hF : a ∉ Fof env F₀ own := Live.none S.live hne
  have S₂ : St w env h₀ (a :: F₀) own ρ s₂.heap := by
    have Su := S.up u
    refine ⟨Su.base, Su.keep, fun b hb => ?_, Su.ns, Su.cells, Su.ownlive, Su.fresh, fun b hb hm => ?_, Su.nodup, fun y e hy => ?_⟩
    · rcases List.mem_cons.mp hb with rfl | hb
      · exact ⟨_, ho⟩
      · exact Su.alive b hb
    · rcases List.mem_cons.mp hm with e | hm
      · subst e
        exact hF (List.mem_append_right _ (List.mem_cons_of_mem _ (List.mem_append_right _ hb)))
      · exact Su.apart b hb hm
    · have fk : ∀ b o, b ∉ Fof env F₀ own → s.heap.get? b = some o → s₂.heap.get? b = some o ∧ b ∉ Fof env (a :: F₀) own := fun b o hb e => ⟨u b o e, fun q => by
        rcases List.mem_cons.mp q with e' | q
        · rw [e', hne] at e; cases e
        · exact hb q⟩
      have old := S.vars y e hy
      cases e with
      | val p' => exact let ⟨f, u', su, r⟩ := old; ⟨f, u', su.up u, RV.mono fk p' f r⟩
      | own l => exact let ⟨a, vs, n, su, hm, ho, f, r⟩ := old; ⟨a, vs, n, su.up u, hm, u _ _ ho, f, RVs.mono fk l f r⟩
      | ownR R => exact let ⟨a, o, su, hm, ho, r⟩ := old; ⟨a, o, su.up u, hm, u _ _ ho, r⟩
  refine S₂.store E rfl (hx.at C) fun s' he hk _ S' sl => ?_
  have S₃ : St w env h₀ F₀ own (ρ.filter fun p => p.1 != x) s'.heap := by
    refine ⟨S'.base, S'.keep, fun b hb => S'.alive b (List.mem_cons_of_mem _ hb), S'.ns, S'.cells, S'.ownlive, S'.fresh, fun b hb hm => S'.apart b hb (List.mem_cons_of_mem _ hm), S'.nodup, fun y e hy => ?_⟩
    have fk : ∀ b o, b ∉ Fof env (a :: F₀) own → s'.heap.get? b = some o → s'.heap.get? b = some o ∧ b ∉ Fof env F₀ own := fun b o hb e => ⟨e, fun q => hb (List.mem_cons_of_mem _ q)⟩
    have old := S'.vars y e hy
    cases e with
    | val p' => exact let ⟨f, u, su, r⟩ := old; ⟨f, u, su, RV.mono fk p' f r⟩
    | own l => exact let ⟨a, vs, n, su, hm, ho, f, r⟩ := old; ⟨a, vs, n, su, hm, ho, f, RVs.mono fk l f r⟩
    | ownR R => exact let ⟨a, o, su, hm, ho, r⟩ := old; ⟨a, o, su, hm, ho, r⟩
  have hoa : s'.heap.get? a = some (lstObj vs n) := (hk _ _ ho).1 (fun q => hF (List.mem_append_right _ q))
  have fk2 : ∀ b o, b ∉ (a :: Fof env F₀ own) → s₂.heap.get? b = some o → s'.heap.get? b = some o ∧ b ∉ (a :: Fof env F₀ own) := fun b o hb e => ⟨(hk b o e).1 (fun q => hb (List.mem_cons_of_mem _ (List.mem_append_right _ q))), hb⟩
  have hn0 : h₀.get? a = none := by
    cases e : h₀.get? a with
    | none => rfl
    | some o => rw [S.keep _ _ e] at hne; cases hne
  have S₄ := S₃.takeOwn vs n sl hoa hF hn0 (fun y e hyx hy => ?_) hf (RVs.mono fk2 ps hf hr)
  · exact hq _ (.next ((GK.of_kp k₂).trans (.of_eq he)) (But.up_after u hk) (fun p hp => by
      rcases List.mem_cons.mp hp with rfl | hp
      · exact .inr hne
      · exact .inl hp) (S₄.sub sub_filter))
  · have old := S'.vars y e hy
    have fk : ∀ b o, b ∉ Fof env (a :: F₀) own → s'.heap.get? b = some o → s'.heap.get? b = some o ∧ b ∉ (a :: Fof env F₀ own) := fun b o hb e => ⟨e, hb⟩
    cases e with
    | val p' => exact let ⟨f, u, su, r⟩ := old; ⟨f, u, su, RV.mono fk p' f r⟩
    | own l => exact let ⟨a, vs, n, su, hm, ho, f, r⟩ := old; ⟨a, vs, n, su, hm, ho, f, RVs.mono fk l f r⟩
    | ownR R => exact let ⟨a, o, su, hm, ho, r⟩ := old; ⟨a, o, su, hm, ho, r⟩

theorem RVs.fresh {h h' : Heap} {F : List Addr} {a : Addr} {ps : List PV} {vs : List Value} (hf : PV.frozens ps = true) (hne : h.get? a = none) (u : Up h h') (r : RVs w h F ps vs) : RVs w h' (a :: F) ps vs :=
  RVs.mono (fun b o hb e => ⟨u b o e, fun q => by
    rcases List.mem_cons.mp q with e' | q
    · rw [e', hne] at e; cases e
    · exact hb q⟩) ps hf r

theorem Ex1.assignOwn {x : Str} {xp lp pos : Pos} {es : List PySem.Expr} {ps : List PV} (hx : Stb sc x) (hpl : Plain es) (h : EvL k sc ρ es ps) (hf : PV.frozens ps = true) (hsz : ps.length ≤ sizeLine) : Ex1 g k sc ρ (.Assign [.Name x xp] (.List es lp) pos) (.next ((x, .own ps) :: ρ)) := fun {w A env h₀ F₀ own s} R E C S => by
  refine wpAny_Assign_Name (PyProof.Rows.List_ ?_) rfl
  rw [hpl]
  refine wpAny_mono (h.spl R E S) (fun vs s₁ h₁ => ?_) fun _ _ x => x
  have u1 : Up s₁.heap (s₁.heap.push { cls := .type "list", data := .seq vs.toArray }) := fun _ _ e => Heap.get?_push_of_some _ e
  refine wpAny_newObj_type ?_ (by show vs.toArray.size ≤ sizeLine; rw [List.size_toArray, h₁.2.length]; exact hsz)
  have hne : s.heap.get? s₁.heap.objs.size = none := by
    cases e : s.heap.get? s₁.heap.objs.size with
    | none => rfl
    | some o => exact absurd (Heap.lt_size (h₁.1.up _ _ e)) (Nat.lt_irrefl _)
  exact S.bindOwn (Q := fun f s' => OutIs g w env h₀ F₀ own (.next ((x, .own ps) :: ρ)) f s s') (s₂ := { s₁ with heap := s₁.heap.push { cls := .type "list", data := .seq vs.toArray } }) (g := g) E C hx (h₁.1.trans (Kp.heap s₁ u1)) hne (Heap.get?_push_size _ rfl) hf (RVs.fresh hf (none_of_size _) u1 h₁.2) fun s' h' => h'
end
end Mine

namespace Mine
open PySem PySem.W PySem.Builtin PySem.Builtin.Str

mutual
theorem RV.weak {h : Heap} {F F' : List Addr} (k : ∀ b, b ∉ F → b ∉ F') : ∀ (p : PV) {v : Value}, RV w h F p v → RV w h F' p v
  | .none, _, x => x
  | .bool _, _, x => x
  | .int _, _, x => x
  | .str _, _, x => x
  | .tup l, _, ⟨a, vs, n, e, hF, ho, r⟩ => ⟨a, vs, n, e, k _ hF, ho, RVs.weak k l r⟩
  | .list l, _, ⟨a, vs, n, e, hF, ho, r⟩ => ⟨a, vs, n, e, k _ hF, ho, RVs.weak k l r⟩
  | .olist l, _, ⟨a, vs, n, e, ho, r⟩ => ⟨a, vs, n, e, ho, RVs.weak k l r⟩
  | .raw R, _, ⟨a, o, e, hF, ho, r⟩ => ⟨a, o, e, k _ hF, ho, r⟩
  | .lat a l, _, ⟨e, hF, vs, n, ho, r⟩ => ⟨e, k _ hF, vs, n, ho, RVs.weak k l r⟩
theorem RVs.weak {h : Heap} {F F' : List Addr} (k : ∀ b, b ∉ F → b ∉ F') : ∀ (ps : List PV) {vs : List Value}, RVs w h F ps vs → RVs w h F' ps vs
  | [], _, x => x
  | p :: ps, _, ⟨v, r, e, x, y⟩ => ⟨v, r, e, RV.weak k p x, RVs.weak k ps y⟩
end

/-- addresses that no value of the state reaches are forbidden -/
theorem St.forbid {w : World} {env : Env} {h₀ : Heap} {F₀ : List Addr} {own : List (Str × Addr)} {ρ : Vars} {h h' : Heap} (S : St w env h₀ F₀ own ρ h) (u : Up h h') {wr : List Addr} (hn : ∀ b ∈ wr, h.get? b = none) (hl : ∀ b ∈ wr, ∃ o, h'.get? b = some o) :
    St w env h₀ (wr ++ F₀) own ρ h' := by
  have hF : ∀ b ∈ wr, b ∉ Fof env F₀ own := fun b hb => Live.none S.live (hn b hb)
  have Su := S.up u
  refine ⟨Su.base, Su.keep, fun b hb => ?_, Su.ns, Su.cells, Su.ownlive, Su.fresh, fun b hb hm => ?_, Su.nodup, fun y e hy => ?_⟩
  · rcases List.mem_append.mp hb with hb | hb
    · exact hl b hb
    · exact Su.alive b hb
  · rcases List.mem_append.mp hm with e | hm
    · exact hF b e (List.mem_append_right _ (List.mem_cons_of_mem _ (List.mem_append_right _ hb)))
    · exact Su.apart b hb hm
  · have fk : ∀ b o, b ∉ Fof env F₀ own → h.get? b = some o → h'.get? b = some o ∧ b ∉ Fof env (wr ++ F₀) own := fun b o hb e => ⟨u b o e, fun q => by
      rcases List.mem_append.mp q with q | q
      · rcases List.mem_append.mp q with e' | q
        · rw [hn b e'] at e; cases e
        · exact hb (List.mem_append_left _ q)
      · exact hb (List.mem_append_right _ q)⟩
    have old := S.vars y e hy
    cases e with
    | val p' => exact let ⟨f, u', su, r⟩ := old; ⟨f, u', su.up u, RV.mono fk p' f r⟩
    | own l => exact let ⟨a, vs, n, su, hm, ho, f, r⟩ := old; ⟨a, vs, n, su.up u, hm, u _ _ ho, f, RVs.mono fk l f r⟩
    | ownR R => exact let ⟨a, o, su, hm, ho, r⟩ := old; ⟨a, o, su.up u, hm, u _ _ ho, r⟩
theorem mem_Fof {env : Env} {F₀ F₁ : List Addr} {own : List (Str × Addr)} (k : ∀ b ∈ F₁, b ∈ F₀) {b : Addr} (hb : b ∉ Fof env F₀ own) : b ∉ Fof env F₁ own := fun q => hb (by
  rcases List.mem_append.mp q with q | q
  · exact List.mem_append_left _ (k b q)
  · exact List.mem_append_right _ q)
theorem St.unforbid {w : World} {env : Env} {h₀ : Heap} {F₀ F₁ : List Addr} {own : List (Str × Addr)} {ρ : Vars} {h : Heap} (S : St w env h₀ F₀ own ρ h) (k : ∀ b ∈ F₁, b ∈ F₀) : St w env h₀ F₁ own ρ h := by
  refine ⟨S.base, S.keep, fun b hb => S.alive b (k b hb), S.ns, S.cells, S.ownlive, S.fresh, fun b hb hm => S.apart b hb (k b hm), S.nodup, fun y e hy => ?_⟩
  have fk : ∀ b, b ∉ Fof env F₀ own → b ∉ Fof env F₁ own := fun b hb => mem_Fof k hb
  have old := S.vars y e hy
  cases e with
  | val p' => exact let ⟨f, u, su, r⟩ := old; ⟨f, u, su, RV.weak fk p' r⟩
  | own l => exact let ⟨a, vs, n, su, hm, ho, f, r⟩ := old; ⟨a, vs, n, su, hm, ho, f, RVs.weak fk l r⟩
  | ownR R => exact old

/-- the state after a change at addresses that nothing of it reaches -/
theorem St.beside {w : World} {env : Env} {h₀ : Heap} {F₀ F₁ : List Addr} {own : List (Str × Addr)} {ρ : Vars} {h h' : Heap} {wr : List Addr} (S : St w env h₀ (wr ++ F₀) own ρ h) (hn : ∀ b ∈ wr, h₀.get? b = none) (hm : ∀ b ∈ wr, b ∉ muts env own) (hs : ∀ b o, b ∉ wr → h.get? b = some o → h'.get? b = some o)
    (h1 : ∀ b ∈ F₁, b ∈ wr ++ F₀) (hl : ∀ b ∈ F₁, ∃ o, h'.get? b = some o) : St w env h₀ F₁ own ρ h' := by
  have hmu : ∀ b, b ∈ muts env own → b ∉ wr := fun b hb hw => hm b hw hb
  refine ⟨S.base, fun b o e => hs b o (fun q => by rw [hn b q] at e; cases e) (S.keep b o e), hl, ?_, fun p hp => ?_, fun p hp => ?_, S.fresh, fun b hb hF => S.apart b hb (h1 b hF), S.nodup, fun y e hy => ?_⟩
  · obtain ⟨m, n⟩ := S.ns
    exact ⟨m, n.at' fun o e => hs _ o (hmu _ mem_locals) e⟩
  · obtain ⟨v, o, ho, r⟩ := S.cells p hp
    exact ⟨v, o, hs _ _ (hmu _ (mem_cell hp)) ho, r⟩
  · obtain ⟨o, ho, hdc⟩ := S.ownlive p hp
    exact ⟨o, hs _ _ (hmu _ (mem_own hp)) ho, hdc⟩
  · have fk : ∀ b o, b ∉ Fof env (wr ++ F₀) own → h.get? b = some o → h'.get? b = some o ∧ b ∉ Fof env F₁ own := fun b o hb e => ⟨hs b o (fun q => hb (List.mem_append_left _ (List.mem_append_left _ q))) e, mem_Fof h1 hb⟩
    have slot : ∀ x v, SlotIs env h x v → SlotIs env h' x v := fun x v sl => by
      rcases sl with ⟨a, m, n, e⟩ | ⟨a, c, e, o, ho, r⟩
      · exact .inl ⟨a, m, n.at' fun o e => hs _ o (hmu _ mem_locals) e, e⟩
      · exact .inr ⟨a, c, e, o, hs _ _ (hmu _ (mem_cell (mem_of_lookup e))) ho, r⟩
    have old := S.vars y e hy
    cases e with
    | val p' => exact let ⟨f, u, su, r⟩ := old; ⟨f, u, slot _ _ su, RV.mono fk p' f r⟩
    | own l => exact let ⟨a, vs, n, su, hm', ho, f, r⟩ := old; ⟨a, vs, n, slot _ _ su, hm', hs _ _ (hmu _ (mem_own hm')) ho, f, RVs.mono fk l f r⟩
    | ownR R => exact let ⟨a, o, su, hm', ho, r⟩ := old; ⟨a, o, slot _ _ su, hm', hs _ _ (hmu _ (mem_own hm')) ho, r⟩

/-- what a loop draws: tt: a tuple that is taken apart at once -/
def ItemR (w : World) (tt : Bool) (h : Heap) (F : List Addr) (p : PV) (v : Value) : Prop :=
  match tt, p with
  | true, .tup l => ∃ T vals, v = .ref T ∧ h.IsTuple T vals ∧ RVs w h F l vals.toList
  | true, _ => False
  | false, p => RV w h F p v

def EvIt (k : Nat) (sc : Scope) (ρ : Vars) (tgt : PySem.Expr) (tt : Bool) (e : PySem.Expr) (ps : List PV) : Prop :=
  ∀ {w : World} {A : Around} {env : Env} {h₀ : Heap} {F₀ : List Addr} {own : List (Str × Addr)} {s : Shared}, Room k A → EnvOK sc env → St w env h₀ F₀ own ρ s.heap →
    wpAny (model prg w) A (eval e env) (fun v s₁ => wpAny (model prg w) A (pyIter v) (fun it s₂ => Kp s s₂ ∧ ∃ I fp wr P Md Stt, it = .ref I ∧ KTurns prg w A tgt I fp wr ps.length P Md Stt ∧ Stt 0 s₂.heap ∧
      (∀ b ∈ fp, (∃ o, s₂.heap.get? b = some o) ∧ b ∉ Fof env F₀ own) ∧ (∀ b ∈ wr, s.heap.get? b = none) ∧ (∀ i h, Stt i h → ∀ b ∈ wr, ∃ o, h.get? b = some o) ∧ (∀ (s' : Shared) (Q : Value → Shared → Prop) (E' : Value → Shared → Prop), Stt 0 s'.heap → Q (.ref I) s' → wpAny (model prg w) A (pyIter (.ref I)) Q E' s') ∧
      (∀ i v h p F', P i v h → ps[i]? = some p → (∀ b o, b ∉ Fof env F₀ own → b ∉ wr → s₂.heap.get? b = some o → h.get? b = some o ∧ b ∉ F') → ItemR w tt h F' p v)) NoE s₁) NoE s

/-- an assignment of a loop's target -/
def Asg (sc : Scope) (tgt : PySem.Expr) (tt : Bool) (p : PV) (ρ ρ' : Vars) : Prop :=
  ∀ {k : Nat} {w : World} {A : Around} {env : Env} {h₀ : Heap} {F₀ : List Addr} {own : List (Str × Addr)} {s : Shared} {v : Value}, Room k A → EnvOK sc env → CellsOK sc env → St w env h₀ F₀ own ρ s.heap → ItemR w tt s.heap (Fof env F₀ own) p v →
    wpAny (model prg w) A (assign tgt env v) (fun _ s' => GK false s s' ∧ But (muts env own) s.heap s'.heap ∧ St w env h₀ F₀ own ρ' s'.heap) NoE s

inductive Loop (g : Bool) (k : Nat) (sc : Scope) (tgt : PySem.Expr) (tt : Bool) (body orelse : List Stmt) : List PV → Vars → Out → Prop
  | done {ρ o} : Ex g k sc ρ orelse o → Loop g k sc tgt tt body orelse [] ρ o
  | next {ρ p ps ρ₁ ρ₂ o} : Asg sc tgt tt p ρ ρ₁ → Ex g k sc ρ₁ body (.next ρ₂) → Loop g k sc tgt tt body orelse ps ρ₂ o → Loop g k sc tgt tt body orelse (p :: ps) ρ o
  | brk {ρ p ps ρ₁ ρ₂} : Asg sc tgt tt p ρ ρ₁ → Ex g k sc ρ₁ body (.brk ρ₂) → Loop g k sc tgt tt body orelse (p :: ps) ρ (.next ρ₂)
  | ret {ρ p ps ρ₁ q} : Asg sc tgt tt p ρ ρ₁ → Ex g k sc ρ₁ body (.ret q) → Loop g k sc tgt tt body orelse (p :: ps) ρ (.ret q)

theorem OutIs.unforbid {g : Bool} {w : World} {env : Env} {h₀ : Heap} {F₀ wr : List Addr} {own : List (Str × Addr)} {o : Out} {f : Flow} {s s' : Shared} (h : OutIs g w env h₀ (wr ++ F₀) own o f s s') : OutIs g w env h₀ F₀ own o f s s' := by
  obtain ⟨gk, bt, q⟩ := h
  refine ⟨gk, bt, ?_⟩
  cases o <;> cases f <;> first | exact q.elim | exact let ⟨own', e, S⟩ := q; ⟨own', e, S.unforbid fun b hb => List.mem_append_right _ hb⟩ | exact RV.weak (fun b hb hm => hb (List.mem_append_right _ hm)) _ q

theorem But.mono {M M' : List Addr} {h h' : Heap} (x : But M h h') (k : ∀ b ∈ M, b ∈ M') : But M' h h' := fun b o e => ⟨fun hb => (x b o e).1 fun hm => hb (k b hm), (x b o e).2⟩
theorem But.trans {M : List Addr} {h h' h'' : Heap} (x : But M h h') (y : But M h' h'') : But M h h'' := fun b o e => by
  obtain ⟨x1, o', x2⟩ := x b o e
  exact ⟨fun hb => (y b o (x1 hb)).1 hb, (y b o' x2).2⟩

section
variable {g : Bool} {k : Nat} {sc : Scope} {ρ : Vars}
theorem Ex1.for_ {tgt iter : PySem.Expr} {body orelse : List Stmt} {pos : Pos} {tt : Bool} {ps : List PV} {o : Out} (hi : EvIt k sc ρ tgt tt iter ps) (hl : Loop g k sc tgt tt body orelse ps ρ o) (hs : ∀ env x, foldedSetIterable iter env x = pure x) :
    Ex1 g k sc ρ (.For tgt iter body orelse pos) o := fun {w A env h₀ F₀ own s} R E C S => by
  refine wpAny_For (wpAny_mono (hi R E S) (fun v s₁ h₁ => wpAny_mono h₁ (fun it s₂ h₂ => ?_) fun _ _ x => x.elim) fun _ _ x => x.elim) (hs env)
  obtain ⟨k₂, I, fp, wr, P, Md, Stt, rfl, W, st0, hfp, hwr, hlv, _, hit⟩ := h₂
  have u2 := k₂.up
  have hwr0 : ∀ b ∈ wr, h₀.get? b = none := fun b hb => by
    cases e : h₀.get? b with
    | none => rfl
    | some ob => have := hwr b hb; rw [S.keep _ _ e] at this; cases this
  have S₂ := S.forbid u2 (fun b hb => hwr b hb) (hlv 0 _ st0)
  refine codeAny_forLoop_any (fun n s' => ∃ i ρ' own', n = ps.length - i ∧ i ≤ ps.length ∧ Loop g k sc tgt tt body orelse (ps.drop i) ρ' o ∧ St w env h₀ (wr ++ F₀) own' ρ' s'.heap ∧ Stt i s'.heap ∧ GK g s s' ∧ But (wr ++ muts env own) s₂.heap s'.heap ∧ OwnExt own own' s₂.heap) ?_ ps.length
    ⟨0, ρ, own, rfl, Nat.zero_le _, hl, S₂, st0, .of_kp k₂, .of_up fun _ _ e => e, .refl _ _⟩
  rintro n s' ⟨i, ρ', own', rfl, hile, hL, S', st', gk, bt, oe⟩
  -- all that the loop needs of its own objects stays apart from what the frame changes
  have hfm : ∀ b ∈ fp, b ∉ muts env own' := fun b hb hm => by
    obtain ⟨⟨ob, e⟩, hF⟩ := hfp b hb
    exact oe.muts (fun q => hF (List.mem_append_right _ q)) e hm
  have hwm : ∀ b ∈ wr, b ∉ muts env own' := fun b hb => hfm b (W.sub b hb)
  have oeS : OwnExt own own' s.heap := fun p hp => (oe p hp).imp id fun h1 => by
    cases e' : s.heap.get? p.2 with
    | none => rfl
    | some ob => rw [u2 _ _ e'] at h1; cases h1
  have btS : ∀ h', (∀ b ob, b ∉ wr → s'.heap.get? b = some ob → h'.get? b = some ob) → But (muts env own) s.heap h' := fun h' hk b ob e => by
    have hw : b ∉ wr := fun q => by rw [hwr b q] at e; cases e
    obtain ⟨b1, ob', b2⟩ := bt b ob (u2 _ _ e)
    exact ⟨fun hb => hk b ob hw (b1 fun q => (List.mem_append.mp q).elim hw hb), ob', hk b ob' hw b2⟩
  by_cases hlt : i < ps.length
  · have hdrop : ps.drop i = ps[i] :: ps.drop (i + 1) := List.drop_eq_getElem_cons hlt
    rw [hdrop] at hL
    refine W.item i _ _ _ hlt st' fun v h₃ tk₃ hMd hk₃ => ?_
    refine W.go i v _ _ _ hMd fun h₄ hP st₄ hk₄ => ?_
    have hk : ∀ b ob, b ∉ wr → s'.heap.get? b = some ob → h₄.get? b = some ob := fun b ob hb e => hk₄ b ob hb (hk₃ b ob hb e)
    have S₄ : St w env h₀ (wr ++ F₀) own' ρ' h₄ := S'.beside hwr0 hwm hk (fun _ h => h) fun b hb => by
      by_cases q : b ∈ wr
      · exact hlv _ _ st₄ b q
      · obtain ⟨ob, e⟩ := S'.alive b hb
        exact ⟨ob, hk b ob q e⟩
    have g4 : GK g s { s' with heap := h₄, toks := tk₃ } := gk.trans (.of_eq ⟨_, _, rfl⟩)
    have bt₄ : But (wr ++ muts env own) s₂.heap h₄ := fun b ob e => by
      obtain ⟨b1, ob', b2⟩ := bt b ob e
      by_cases q : b ∈ wr
      · exact ⟨fun hb => (hb (List.mem_append_left _ q)).elim, hlv _ _ st₄ b q⟩
      · exact ⟨fun hb => hk b ob q (b1 hb), ob', hk b ob' q b2⟩
    have item : ItemR w tt h₄ (Fof env (wr ++ F₀) own') ps[i] v := hit i v h₄ ps[i] _ hP (List.getElem?_eq_getElem hlt) fun b ob hbF hbw e => ⟨(bt₄ b ob e).1 fun q => (List.mem_append.mp q).elim hbw fun q => hbF (List.mem_append_right _ q), fun q => by
      rcases List.mem_append.mp q with q | q
      · rcases List.mem_append.mp q with q | q
        · exact hbw q
        · exact hbF (List.mem_append_left _ q)
      · exact oe.muts (fun q => hbF (List.mem_append_right _ q)) e q⟩
    have after : ∀ {ρ₁} {s₅ : Shared}, GK false { s' with heap := h₄, toks := tk₃ } s₅ → But (muts env own') h₄ s₅.heap → St w env h₀ (wr ++ F₀) own' ρ₁ s₅.heap → GK g s s₅ ∧ But (wr ++ muts env own) s₂.heap s₅.heap ∧ But (muts env own) s.heap s₅.heap ∧ Stt (i + 1) s₅.heap := fun {ρ₁ s₅} gk5 bt5 S5 => by
      have x1 : But (wr ++ muts env own) s₂.heap s₅.heap := fun b ob e => by
        obtain ⟨y1, ob', y2⟩ := bt₄ b ob e
        obtain ⟨_, y4⟩ := bt5 b ob' y2
        exact ⟨fun hb => (bt5 b ob (y1 hb)).1 (oe.muts (fun q => hb (List.mem_append_right _ q)) e), y4⟩
      refine ⟨g4.trans gk5.wide, x1, ?_, W.frame _ _ _ st₄ fun b hb ob e => (bt5 b ob e).1 (hfm b hb)⟩
      exact (btS h₄ hk).after oeS bt5
    have fin : ∀ {ρ₁ o f} {s₅ s₆ : Shared}, GK false { s' with heap := h₄, toks := tk₃ } s₅ → But (muts env own') h₄ s₅.heap → St w env h₀ (wr ++ F₀) own' ρ₁ s₅.heap → OutIs g w env h₀ (wr ++ F₀) own' o f s₅ s₆ → OutIs g w env h₀ F₀ own o f s s₆ := fun gk5 bt5 S5 q =>
      let ⟨x1, x2, x3, _⟩ := after gk5 bt5 S5
      (OutIs.after x1 x3 oeS q.unforbid)
    cases hL with
    | @next _ _ _ ρ₁ ρ₂ _ ha hb hr =>
      refine wpAny_mono (ha R E C S₄ item) (fun _ s₅ h₅ => ?_) fun _ _ x => x.elim
      obtain ⟨gk5, bt5, S5⟩ := h₅
      obtain ⟨x1, x2, x3, x4⟩ := after gk5 bt5 S5
      refine wpAny_mono (hb R E C S5) (fun f s₆ h₆ => ?_) fun _ _ x => x.elim
      obtain ⟨gk6, bt6, q⟩ := h₆
      cases f with
      | next =>
        obtain ⟨own₆, oe6, S6⟩ := q
        refine ⟨ps.length - (i + 1), by omega, i + 1, ρ₂, own₆, rfl, hlt, hr, S6, ?_, x1.trans gk6, ?_, ?_⟩
        · exact W.frame _ _ _ x4 fun b hb ob e => (bt6 b ob e).1 (hfm b hb)
        · exact fun b ob e => by
            obtain ⟨y1, ob', y2⟩ := x2 b ob e
            obtain ⟨_, y4⟩ := bt6 b ob' y2
            exact ⟨fun hb => (bt6 b ob (y1 hb)).1 (oe.muts (fun q => hb (List.mem_append_right _ q)) e), y4⟩
        · intro p hp
          rcases oe6 p hp with h1 | h1
          · exact oe p h1
          · refine .inr ?_
            cases e' : s₂.heap.get? p.2 with
            | none => rfl
            | some ob =>
              obtain ⟨_, ob', y2⟩ := x2 _ _ e'
              rw [h1] at y2; cases y2
      | brk => exact q.elim
      | cont => exact q.elim
      | ret v => exact q.elim
    | @brk _ _ _ ρ₁ ρ₂ ha hb =>
      refine wpAny_mono (ha R E C S₄ item) (fun _ s₅ h₅ => ?_) fun _ _ x => x.elim
      obtain ⟨gk5, bt5, S5⟩ := h₅
      refine wpAny_mono (hb R E C S5) (fun f s₆ h₆ => ?_) fun _ _ x => x.elim
      cases f with
      | brk => exact fin (o := .next ρ₂) (f := .next) gk5 bt5 S5 h₆
      | next => exact h₆.2.2.elim
      | cont => exact h₆.2.2.elim
      | ret v => exact h₆.2.2.elim
    | @ret _ _ _ ρ₁ q ha hb =>
      refine wpAny_mono (ha R E C S₄ item) (fun _ s₅ h₅ => ?_) fun _ _ x => x.elim
      obtain ⟨gk5, bt5, S5⟩ := h₅
      refine wpAny_mono (hb R E C S5) (fun f s₆ h₆ => ?_) fun _ _ x => x.elim
      cases f with
      | ret v => exact fin (o := .ret q) (f := .ret v) gk5 bt5 S5 h₆
      | next => exact h₆.2.2.elim
      | cont => exact h₆.2.2.elim
      | brk => exact h₆.2.2.elim
  · have hie : i = ps.length := by omega
    subst hie
    rw [List.drop_length] at hL
    cases hL with
    | done ho =>
      refine W.done _ _ _ st' fun h₃ tk₃ hk₃ => ?_
      have S₃ : St w env h₀ F₀ own' ρ' h₃ := S'.beside hwr0 hwm hk₃ (fun b hb => List.mem_append_right _ hb) fun b hb => by
        have hw : b ∉ wr := fun q => (hfp b (W.sub b q)).2 (List.mem_append_left _ hb)
        obtain ⟨ob, e⟩ := S'.alive b (List.mem_append_right _ hb)
        exact ⟨ob, hk₃ b ob hw e⟩
      refine wpAny_mono (ho (s := { s' with heap := h₃, toks := tk₃ }) R E C S₃) (fun f s₄ h₄ => ?_) fun _ _ x => x.elim
      exact OutIs.after (gk.trans (.of_eq ⟨_, _, rfl⟩)) (btS h₃ hk₃) oeS h₄
end
end Mine

namespace Mine
open PySem PySem.W PySem.Builtin PySem.Builtin.Str

theorem Asg.name {sc : Scope} {x : Str} {xp : Pos} {p : PV} {ρ : Vars} (hx : Stb sc x) (hf : p.frozen = true) : Asg sc (.Name x xp) false p ρ ((x, .val p) :: ρ) := fun {k w A env h₀ F₀ own s v} R E C S r => by
  refine wpAny_assign_Name (S.store E rfl (hx.at C) fun s' he hk _ S' sl => ?_)
  have r' : RV w s'.heap (Fof env F₀ own) p v := RV.mono (fun b o hb e => ⟨(hk b o e).1 (fun q => hb (List.mem_append_right _ q)), hb⟩) p hf r
  exact ⟨.of_eq he, hk, S'.addVal sl hf r'⟩

theorem Asg.pair {sc : Scope} {x y : Str} {xp yp tp : Pos} {x1 : Nat} {p q : PV} {ρ : Vars} (hx : Stb sc x) (hy : Stb sc y) (hf : p.frozen = true) (hf' : q.frozen = true) : Asg sc (.Tuple [.Name x xp, .Name y yp] x1 tp) true (.tup [p, q]) ρ ((y, .val q) :: (x, .val p) :: ρ) := fun {k w A env h₀ F₀ own s v} R E C S r => by
  obtain ⟨T, vals, rfl, hT, r⟩ := r
  obtain ⟨u1, r1, e1, ru1, u2, r2, e2, ru2, e3⟩ := r
  rw [show r2 = [] from e3] at e2
  rw [e2] at e1
  have ev : vals = #[u1, u2] := by rw [← Array.toList_inj]; exact e1
  subst ev
  refine wpAny_assign_Tuple R.hd hT rfl rfl fun h₃ hx₃ => ?_
  have up₃ : Up s.heap h₃ := fun b o e => hx₃ b o (Nat.ne_of_lt (Heap.lt_size e)) e
  have S₃ : St w env h₀ F₀ own ρ ({ s with heap := h₃ } : Shared).heap := S.up up₃
  show wpAny _ A (do holding [u2] (assign (.Name x xp) env u1); do holding [] (assign (.Name y yp) env u2); pure ()) _ _ _
  refine wpAny_bind (wpAny_holding (wpAny_assign_Name (S₃.store E rfl (hx.at C) fun s₄ he hk _ S₄ sl => ?_)))
  have r1' : RV w s₄.heap (Fof env F₀ own) p u1 := RV.mono (fun b o hb e => ⟨(hk b o e).1 (fun q => hb (List.mem_append_right _ q)), hb⟩) p hf (RV.up up₃ _ ru1)
  have r2' : RV w s₄.heap (Fof env F₀ own) q u2 := RV.mono (fun b o hb e => ⟨(hk b o e).1 (fun q => hb (List.mem_append_right _ q)), hb⟩) q hf' (RV.up up₃ _ ru2)
  have S₄' := S₄.addVal sl hf r1'
  refine wpAny_bind (wpAny_holding (wpAny_assign_Name (S₄'.store E rfl (hy.at C) fun s₅ he' hk' _ S₅ sl' => wpAny_pure ?_)))
  have r2'' : RV w s₅.heap (Fof env F₀ own) q u2 := RV.mono (fun b o hb e => ⟨(hk' b o e).1 (fun q => hb (List.mem_append_right _ q)), hb⟩) q hf' r2'
  exact ⟨(GK.of_kp (Kp.heap s up₃)).trans ((GK.of_eq he).trans (.of_eq he')), (But.up_after up₃ hk).trans hk', S₅.addVal sl' hf' r2''⟩

theorem notOwned_name {x : Str} {px : Pos} {I : Addr} {w : World} {A : Around} {v : Value} {s : Shared} {Q : Unit → Shared → Prop} {E : Value → Shared → Prop} (h : Q () s) : wpAny (model prg w) A (letOwnedTupleGo (.Name x px) (.ref I) v) Q E s :=
  wpAny_of_eq (rfl : letOwnedTupleGo (.Name x px) (.ref I) v = pure ()) h

theorem RVs.item {h : Heap} {F : List Addr} {ps : List PV} {vs : List Value} (r : RVs w h F ps vs) {i : Nat} {p : PV} {v : Value} (hp : ps[i]? = some p) (hv : vs[i]? = some v) : RV w h F p v := by
  obtain ⟨u, e, x⟩ := r.get hp
  rw [hv] at e
  cases e; exact x
theorem frozens_get : ∀ {ps : List PV}, PV.frozens ps = true → ∀ {i : Nat} {p : PV}, ps[i]? = some p → p.frozen = true
  | q :: ps, f, 0, p, e => by
    have f' : (PV.frozen q && PV.frozens ps) = true := f
    rw [Bool.and_eq_true] at f'
    simp at e; subst e; exact f'.1
  | q :: ps, f, i + 1, p, e => by
    have f' : (PV.frozen q && PV.frozens ps) = true := f
    rw [Bool.and_eq_true] at f'
    exact frozens_get f'.2 (by simpa using e)

section
variable {k : Nat} {sc : Scope} {ρ : Vars}

/-- a frozen list, for a target that is a name -/
theorem EvIt.list {x : Str} {px : Pos} {e : PySem.Expr} {ps : List PV} (hv : Ev k sc ρ e (.list ps)) (hf : PV.frozens ps = true) : EvIt k sc ρ (.Name x px) false e ps := fun {w A env h₀ F₀ own s} R E S => by
  refine (hv R E S).bind fun v s₁ k₁ r => ?_
  obtain ⟨a, vs, n, rfl, hF, ho, r⟩ := r
  have hl : s₁.heap.IsList a vs.toArray := ⟨_, ho, rfl, n, rfl⟩
  have u1 : Up s₁.heap (s₁.heap.push { cls := .type "list_iterator", data := .fields #[.ref a, .int 0 0] }) := fun _ _ e => Heap.get?_push_of_some _ e
  have W := Walks.list (prog := prg) (w := w) R.hd s₁.heap.objs.size a (Nat.ne_of_lt (Heap.lt_size ho)) vs.toArray
  have esz : vs.toArray.size = ps.length := by rw [List.size_toArray, r.length]
  rw [esz] at W
  have W' := KTurns.ofWalks (target := .Name x px) W fun i v s Q E' _ h => notOwned_name h
  refine wpAny_pyIter_list hl ⟨k₁.trans (Kp.heap s₁ u1), s₁.heap.objs.size, [s₁.heap.objs.size, a], [s₁.heap.objs.size], _, _, _, rfl, W', ?_⟩
  · refine ⟨⟨⟨_, Heap.get?_push_size _ rfl, rfl, rfl⟩, hl.push _⟩, fun b hb => ?_, fun b hb => ?_, fun i h hst b hb => ?_, fun s' Q E' h hQ => W.self 0 s' Q E' h hQ, fun i v h p F' hP hp hk => ?_⟩
    · rcases List.mem_cons.mp hb with rfl | hb
      · exact ⟨⟨_, Heap.get?_push_size _ rfl⟩, Live.new (S.up k₁.up).live⟩
      · rw [List.mem_singleton.mp hb]
        exact ⟨⟨_, Heap.get?_push_of_some _ ho⟩, hF⟩
    · rw [List.mem_singleton.mp hb]
      cases e : s.heap.get? s₁.heap.objs.size with
      | none => rfl
      | some o => exact absurd (Heap.lt_size (k₁.up _ _ e)) (Nat.lt_irrefl _)
    · rw [List.mem_singleton.mp hb]
      obtain ⟨o, e, _⟩ := hst.1
      exact ⟨o, e⟩
    · refine RV.mono (fun b o hb e => hk b o hb (fun q => ?_) (u1 _ _ e)) p (frozens_get hf hp) (r.item hp (by simpa using hP))
      rw [List.mem_singleton.mp q, none_of_size] at e; cases e

/-- what range( ) draws -/
def rangeP (a c : Int) (n : Nat) : List PV := (List.range n).map fun i : Nat => PV.int (a + (i : Int) * c)
theorem range_iter {x : Str} {px : Pos} {w : World} {A : Around} {F : List Addr} {s s₁ : Shared} {r : Addr} {a b c : Int} {t u v : Tok} {n : Nat} (R : Room k A) (k₁ : Kp s s₁) (L : Live F s.heap) (hr : IsRange s₁.heap r a b c t u v) (hsmall : Builtin.Range.small a b c = true) (hn : Builtin.Range.rangeSize a b c = n) :
    wpAny (model prg w) A (pyIter (.ref r)) (fun it s₂ => Kp s s₂ ∧ ∃ I fp wr P Md Stt, it = .ref I ∧ KTurns prg w A (.Name x px) I fp wr (rangeP a c n).length P Md Stt ∧ Stt 0 s₂.heap ∧
      (∀ b ∈ fp, (∃ o, s₂.heap.get? b = some o) ∧ b ∉ F) ∧ (∀ b ∈ wr, s.heap.get? b = none) ∧ (∀ i h, Stt i h → ∀ b ∈ wr, ∃ o, h.get? b = some o) ∧ (∀ (s' : Shared) (Q : Value → Shared → Prop) (E' : Value → Shared → Prop), Stt 0 s'.heap → Q (.ref I) s' → wpAny (model prg w) A (pyIter (.ref I)) Q E' s') ∧
      (∀ i v h p F', P i v h → (rangeP a c n)[i]? = some p → (∀ b o, b ∉ F → b ∉ wr → s₂.heap.get? b = some o → h.get? b = some o ∧ b ∉ F') → ItemR w false h F' p v)) NoE s₁ := by
  have u1 : Up s₁.heap (s₁.heap.push { cls := .type "range_iterator", data := .fields #[rawInt a, rawInt (Builtin.Range.rangeSize a b c), rawInt c] }) := fun _ _ e => Heap.get?_push_of_some _ e
  have hlen : (rangeP a c n).length = n := by simp [rangeP]
  have W := Walks.range (prog := prg) (w := w) R.hd s₁.heap.objs.size a c n
  have W' := KTurns.ofWalks (target := .Name x px) W fun i v s Q E' _ h => notOwned_name h
  rw [← hlen] at W'
  refine wpAny_pyIter_range hr hsmall ⟨k₁.trans (Kp.heap s₁ u1), s₁.heap.objs.size, [s₁.heap.objs.size], [s₁.heap.objs.size], _, _, _, rfl, W', ?_⟩
  · refine ⟨?_, fun b hb => ?_, fun b hb => ?_, fun i h hst b hb => ?_, fun s' Q E' h hQ => W.self 0 s' Q E' (by rw [← hlen]; exact h) hQ, fun i v h p F' hP hp hk => ?_⟩
    · show (s₁.heap.push _).get? _ = _
      rw [hn]
      have e1 : a + ((0 : Nat) : Int) * c = a := by simp
      have e2 : ((rangeP a c n).length : Int) - ((0 : Nat) : Int) = n := by rw [hlen]; simp
      rw [e1, e2]
      exact Heap.get?_push_size _ rfl
    · rw [List.mem_singleton.mp hb]
      exact ⟨⟨_, Heap.get?_push_size _ rfl⟩, Live.new (L.up k₁.up)⟩
    · rw [List.mem_singleton.mp hb]
      cases e : s.heap.get? s₁.heap.objs.size with
      | none => rfl
      | some o => exact absurd (Heap.lt_size (k₁.up _ _ e)) (Nat.lt_irrefl _)
    · rw [List.mem_singleton.mp hb]
      exact ⟨_, hst⟩
    · obtain ⟨t', rfl⟩ := hP
      unfold rangeP at hp
      rw [List.getElem?_map] at hp
      cases hi : (List.range n)[i]? with
      | none => rw [hi] at hp; cases hp
      | some j =>
        rw [hi] at hp
        have : j = i := by
          rw [List.getElem?_range] at hi
          · cases hi; rfl
          · exact Nat.lt_of_not_le fun hle => by rw [List.getElem?_eq_none (by simpa using hle)] at hi; cases hi
        subst this
        cases hp
        exact ⟨t', rfl⟩

theorem globIs_range : GlobIs "range" (.type "range") := .inr ⟨fun w => rfl, rfl, by decide +kernel⟩

theorem EvIt.range1 {x : Str} {px fp pos : Pos} {eb : PySem.Expr} {b : Int} {n : Nat} (hx : sc.names.lookup ("range" : Str) = some .globalImplicit) (hpl : Plain [eb]) (hb : Ev k sc ρ eb (.int b)) (hsmall : Builtin.Range.small 0 b 1 = true) (hn : Builtin.Range.rangeSize 0 b 1 = n) :
    EvIt k sc ρ (.Name x px) false (.Call (.Name "range" fp) [eb] [] pos) (rangeP 0 1 n) := fun {w A env h₀ F₀ own s} R E S => by
  show wpAny (model prg w) A (do callWith pos (← eval (.Name "range" fp) env) [] (backTo pos (starEach [eb] env)) (backToKw pos (keywordEach [] env))) _ _ s
  rw [hpl]
  refine wpAny_bind (globIs_range.load E hx (by decide +kernel) S.here ?_)
  refine (EvL.cons hb .nil).call R E S (.inr (.inl ⟨_, rfl⟩)) fun vs s₁ k₁ r => ?_
  obtain ⟨v, r1, rfl, ⟨t, rfl⟩, e⟩ := r
  rw [show r1 = [] from e]
  refine call_range_1 ?_
  have u1 : Up s₁.heap (s₁.heap.push { cls := .type "range", data := .fields #[.int 0 s₁.toks, .int b t, .int 1 (s₁.toks + 1)] }) := fun _ _ e => Heap.get?_push_of_some _ e
  exact range_iter R (k₁.trans (Kp.both s₁ u1)) S.live (IsRange.new ..) hsmall hn
theorem EvIt.range2 {x : Str} {px fp pos : Pos} {ea eb : PySem.Expr} {a b : Int} {n : Nat} (hx : sc.names.lookup ("range" : Str) = some .globalImplicit) (hpl : Plain [ea, eb]) (ha : Ev k sc ρ ea (.int a)) (hb : Ev k sc ρ eb (.int b)) (hsmall : Builtin.Range.small a b 1 = true) (hn : Builtin.Range.rangeSize a b 1 = n) :
    EvIt k sc ρ (.Name x px) false (.Call (.Name "range" fp) [ea, eb] [] pos) (rangeP a 1 n) := fun {w A env h₀ F₀ own s} R E S => by
  show wpAny (model prg w) A (do callWith pos (← eval (.Name "range" fp) env) [] (backTo pos (starEach [ea, eb] env)) (backToKw pos (keywordEach [] env))) _ _ s
  rw [hpl]
  refine wpAny_bind (globIs_range.load E hx (by decide +kernel) S.here ?_)
  refine (EvL.cons ha (.cons hb .nil)).call R E S (.inr (.inl ⟨_, rfl⟩)) fun vs s₁ k₁ r => ?_
  obtain ⟨v, r1, rfl, ⟨t, rfl⟩, v2, r2, rfl, ⟨t2, rfl⟩, e⟩ := r
  rw [show r2 = [] from e]
  refine call_range_2 ?_
  have u1 : Up s₁.heap (s₁.heap.push { cls := .type "range", data := .fields #[.int a t, .int b t2, .int 1 s₁.toks] }) := fun _ _ e => Heap.get?_push_of_some _ e
  exact range_iter R (k₁.trans (Kp.both s₁ u1)) S.live (IsRange.new ..) hsmall hn
theorem EvIt.range3 {x : Str} {px fp pos : Pos} {ea eb ec : PySem.Expr} {a b c : Int} {n : Nat} (hx : sc.names.lookup ("range" : Str) = some .globalImplicit) (hpl : Plain [ea, eb, ec]) (ha : Ev k sc ρ ea (.int a)) (hb : Ev k sc ρ eb (.int b)) (hc : Ev k sc ρ ec (.int c)) (hc0 : c ≠ 0)
    (hdv : Builtin.divisionGoesByPylong (b - a) c = false) (hsmall : Builtin.Range.small a b c = true) (hn : Builtin.Range.rangeSize a b c = n) :
    EvIt k sc ρ (.Name x px) false (.Call (.Name "range" fp) [ea, eb, ec] [] pos) (rangeP a c n) := fun {w A env h₀ F₀ own s} R E S => by
  show wpAny (model prg w) A (do callWith pos (← eval (.Name "range" fp) env) [] (backTo pos (starEach [ea, eb, ec] env)) (backToKw pos (keywordEach [] env))) _ _ s
  rw [hpl]
  refine wpAny_bind (globIs_range.load E hx (by decide +kernel) S.here ?_)
  refine (EvL.cons ha (.cons hb (.cons hc .nil))).call R E S (.inr (.inl ⟨_, rfl⟩)) fun vs s₁ k₁ r => ?_
  obtain ⟨v, r1, rfl, ⟨t, rfl⟩, v2, r2, rfl, ⟨t2, rfl⟩, v3, r3, rfl, ⟨t3, rfl⟩, e⟩ := r
  rw [show r3 = [] from e]
  refine call_range_3 hc0 ?_ (.inl hdv)
  have u1 : Up s₁.heap (s₁.heap.push { cls := .type "range", data := .fields #[.int a t, .int b t2, .int c t3] }) := fun _ _ e => Heap.get?_push_of_some _ e
  exact range_iter R (k₁.trans (Kp.both s₁ u1)) S.live (IsRange.new ..) hsmall hn

-- while
inductive WLoop (g : Bool) (k : Nat) (sc : Scope) (test : PySem.Expr) (body orelse : List Stmt) : Nat → Vars → Out → Prop
  | stop {ρ o n} : TstG g k sc ρ test false → Ex g k sc ρ orelse o → WLoop g k sc test body orelse n ρ o
  | next {ρ ρ₁ o n} : TstG g k sc ρ test true → Ex g k sc ρ body (.next ρ₁) → WLoop g k sc test body orelse n ρ₁ o → WLoop g k sc test body orelse (n + 1) ρ o

theorem Ex1.while_ {g : Bool} {test : PySem.Expr} {body orelse : List Stmt} {pos : Pos} {n : Nat} {o : Out} (hl : WLoop g k sc test body orelse n ρ o) : Ex1 g k sc ρ (.While test body orelse pos) o := fun {w A env h₀ F₀ own s} R E C S => by
  refine wpAny_While ?_
  refine codeAny_whileLoop (fun n s' => ∃ ρ' own', WLoop g k sc test body orelse n ρ' o ∧ St w env h₀ F₀ own' ρ' s'.heap ∧ GK g s s' ∧ But (muts env own) s.heap s'.heap ∧ OwnExt own own' s.heap) ?_ n
    ⟨ρ, own, hl, S, .refl _ _, .of_up fun _ _ e => e, .refl _ _⟩
  rintro n s' ⟨ρ', own', hL, S', gk, bt, oe⟩
  cases hL with
  | stop ht ho =>
    refine wpAny_mono (ht R E S') (fun b s₂ h₂ => ?_) fun _ _ x => x.elim
    obtain ⟨rfl, gk2, up2⟩ := h₂
    simp only [Bool.false_eq_true, if_false]
    refine wpAny_mono (ho R E C (S'.up up2)) (fun f s₃ h₃ => ?_) fun _ _ x => x.elim
    exact OutIs.after gk bt oe (h₃.up gk2 up2)
  | @next _ ρ₁ _ m ht hb hr =>
    refine wpAny_mono (ht R E S') (fun b s₂ h₂ => ?_) fun _ _ x => x.elim
    obtain ⟨rfl, gk2, up2⟩ := h₂
    simp only [if_true]
    refine wpAny_mono (hb R E C (S'.up up2)) (fun f s₃ h₃ => ?_) fun _ _ x => x.elim
    have h3 := OutIs.after gk bt oe (h₃.up gk2 up2)
    obtain ⟨gk3, bt3, q⟩ := h3
    cases f with
    | next =>
      obtain ⟨own₃, oe3, S3⟩ := q
      exact ⟨m, Nat.lt_succ_self _, ρ₁, own₃, hr, S3, gk3, bt3, oe3⟩
    | brk => exact q.elim
    | cont => exact q.elim
    | ret v => exact q.elim
end
end Mine

namespace Mine
open PySem PySem.W PySem.Builtin PySem.Builtin.Str

theorem GK.kp {s s' : Shared} (g : GK false s s') (u : Up s.heap s'.heap) : Kp s s' := by
  obtain ⟨h, t, gs, rfl, e, _⟩ := g
  rw [e rfl]
  exact ⟨h, t, rfl, u⟩

def parV (names : List Str) (ps : List PV) : Vars := names.zip (ps.map .val)
theorem parV_lookup {h : Heap} {F : List Addr} {x : Str} {e : VE} : ∀ {names : List Str} {ps : List PV} {vs : List Value}, RVs w h F ps vs → (parV names ps).lookup x = some e → ∃ p v, e = .val p ∧ (PV.frozens ps = true → p.frozen = true) ∧ (x, v) ∈ names.zip vs ∧ RV w h F p v
  | [], _, _, _, e' => by cases e'
  | _ :: _, [], _, _, e' => by cases e'
  | n :: names, p :: ps, vs, ⟨v, r, ev, hv, hr⟩, e' => by
    subst ev
    have e2 : List.lookup x ((n, VE.val p) :: parV names ps) = some e := e'
    rw [List.lookup_cons] at e2
    by_cases q : (x == n) = true
    · rw [q] at e2
      cases e2
      rw [beq_iff_eq.mp q]
      exact ⟨p, v, rfl, fun f => by
        have f' : (PV.frozen p && PV.frozens ps) = true := f
        rw [Bool.and_eq_true] at f'; exact f'.1, List.mem_cons_self, hv⟩
    · simp only [q] at e2
      obtain ⟨p', v', a, b, c, d⟩ := parV_lookup hr e2
      exact ⟨p', v', a, fun f => b (by
        have f' : (PV.frozen p && PV.frozens ps) = true := f
        rw [Bool.and_eq_true] at f'; exact f'.2), List.mem_cons_of_mem _ c, d⟩

theorem bindL_out {kd : Str → Option NameKind} {x : Str} : ∀ {b : List (Str × Value)} {m : Str → Option Value}, x ∉ b.map (·.1) → bindL kd b m x = m x
  | [], _, _ => rfl
  | (n, v) :: r, m, hx => by
    have h1 : x ≠ n := fun e => hx (by rw [e]; exact List.mem_cons_self)
    have h2 : x ∉ r.map (·.1) := fun e => hx (List.mem_cons_of_mem _ e)
    unfold bindL
    rw [bindL_out h2]
    split
    · simp [h1]
    · rfl
theorem bindL_in {kd : Str → Option NameKind} {x : Str} {v : Value} (hk : kd x = some .local) : ∀ {b : List (Str × Value)} {m : Str → Option Value}, (b.map (·.1)).Nodup → (x, v) ∈ b → bindL kd b m x = some v
  | (n, u) :: r, m, hn, hm => by
    obtain ⟨h1, h2⟩ := List.nodup_cons.mp hn
    rcases List.mem_cons.mp hm with e | hm
    · cases e
      unfold bindL
      rw [bindL_out h1, if_pos hk]
      simp
    · unfold bindL
      exact bindL_in hk h2 hm
theorem bindC_out {kd : Str → Option NameKind} {x : Str} : ∀ {b : List (Str × Value)} {m : Str → Option Value}, x ∉ b.map (·.1) → bindC kd b m x = m x
  | [], _, _ => rfl
  | (n, v) :: r, m, hx => by
    have h1 : x ≠ n := fun e => hx (by rw [e]; exact List.mem_cons_self)
    have h2 : x ∉ r.map (·.1) := fun e => hx (List.mem_cons_of_mem _ e)
    unfold bindC
    rw [bindC_out h2]
    split
    · rfl
    · simp [h1]
theorem bindC_in {kd : Str → Option NameKind} {x : Str} {v : Value} (hk : kd x ≠ some .local) : ∀ {b : List (Str × Value)} {m : Str → Option Value}, (b.map (·.1)).Nodup → (x, v) ∈ b → bindC kd b m x = some v
  | (n, u) :: r, m, hn, hm => by
    obtain ⟨h1, h2⟩ := List.nodup_cons.mp hn
    rcases List.mem_cons.mp hm with e | hm
    · cases e
      unfold bindC
      rw [bindC_out h1, if_neg hk]
      simp
    · unfold bindC
      exact bindC_in hk h2 hm

theorem cellsFrom_acc {x : Str} : ∀ {names : List (Str × NameKind)} {n : Nat} {acc : List (Str × Addr)}, (acc.lookup x).isSome = true → ((cellsFrom n names acc).lookup x).isSome = true
  | [], _, _, h => h
  | (y, kd) :: r, n, acc, h => by
    unfold cellsFrom
    split
    · refine cellsFrom_acc ?_
      rw [List.lookup_cons]
      split
      · rfl
      · exact h
    · exact cellsFrom_acc h
theorem cellsFrom_in {x : Str} : ∀ {names : List (Str × NameKind)} {n : Nat} {acc : List (Str × Addr)}, (x, NameKind.cell) ∈ names → ((cellsFrom n names acc).lookup x).isSome = true
  | (y, kd) :: r, n, acc, h => by
    unfold cellsFrom
    rcases List.mem_cons.mp h with e | h
    · cases e
      rw [if_pos (by rfl)]
      refine cellsFrom_acc ?_
      rw [List.lookup_cons, beq_self_eq_true]; rfl
    · split
      · exact cellsFrom_in h
      · exact cellsFrom_in h

/-- the frame of a def of the top, entered -/
theorem Call.intro {g : Bool} {k : Nat} {a : Addr} {fd : FuncData} {body : List Stmt} {sc : Scope} {names : List Str} {ps : List PV} {q : PV}
    (ho : ∀ w : World, ∃ o, (K w).lookup a = some o ∧ o.data = .func fd) (hb : fd.body = .stmts body) (hsc : fd.scope = sc) (hco : sc.isCoroutine = false) (hgen : sc.isGenerator = false) (hk : sc.kind = .function)
    (hcl : fd.closure = []) (hgl : fd.globals = mainGlobals) (hbi : fd.builtins = builtinsNs) (hcd : ∀ w : World, codeIn (K w) fd.code fd.qualname = true)
    (hbind : ∀ vs : List Value, vs.length = ps.length → bindArgs fd ⟨vs, []⟩ = pure (names.zip vs)) (hlen : names.length = ps.length) (hn : names.Nodup) (hst : ∀ x ∈ names, Stb sc x) (hnd : ((cellsFrom 0 sc.names []).map (·.1)).Nodup)
    (hf : PV.frozens ps = true) (hx : Ex g k sc (parV names ps) body (.ret q)) {w : World} {A : Around} {F : List Addr} {s : Shared} {vs : List Value} (R : Room (k + 1) A) (B : Base w s.heap) (L : Live F s.heap) (r : RVs w s.heap F ps vs) :
    wpAny (model prg w) A (call (.ref a) vs) (fun v s' => GK g s s' ∧ Up s.heap s'.heap ∧ RV w s'.heap F q v) NoE s := by
  obtain ⟨o, hlo, hdata⟩ := ho w
  obtain ⟨X, mean, mg, mb, T⟩ := B
  subst hsc
  refine wpAny_call ?_
  have hl2 : vs.length = ps.length := r.length
  have hfst : (names.zip vs).map (·.1) = names := by rw [List.map_fst_zip]; omega
  refine codeAny_call_function R.depth (X _ _ hlo) hdata hco hgen hb (codeRec_of X (hcd w)) (wpAny_of_eq (hbind vs hl2) ?_)
  rw [hcl]
  have hkind : ∀ n, ∀ x ∈ names.zip vs, fd.scope.names.lookup x.1 = some .local ∨ (fd.scope.names.lookup x.1 = some .cell ∧ ((cellsFrom n fd.scope.names []).lookup x.1).isSome = true) := fun n x hx => by
    have hm : x.1 ∈ names := hfst ▸ List.mem_map_of_mem (f := (·.1)) hx
    exact (hst _ hm).imp id fun e => ⟨e, cellsFrom_in (mem_of_lookup e)⟩
  refine wpAny_newFunctionEnv_cells hk (hkind _) fun env he s' x => ?_
  have hns := x.toInCall.ns
  have hkeep := x.toInCall.keep
  obtain ⟨h₁, tk, hs', _⟩ := x.done
  refine ⟨T.nolimit.keeps hkeep, codeAny_func ?_⟩
  have hsc : env.scope = fd.scope := by rw [he]; rfl
  have hcells : env.cells = cellsFrom (s.heap.objs.size + 1) fd.scope.names [] := by rw [he]; rfl
  have hloc : env.locals = s.heap.objs.size := by rw [he]; rfl
  have hE : EnvOK fd.scope env := ⟨hsc, hk, by rw [he]; exact hgl, by rw [he]; exact hbi⟩
  have hC : CellsOK fd.scope env := fun y hy => by rw [hcells]; exact cellsFrom_in (mem_of_lookup hy)
  have hnd' : (env.cells.map (·.1)).Nodup := by
    rw [hcells]
    exact PyProof.Rows.cellsFrom_names fd.scope.names 0 (s.heap.objs.size + 1) [] [] rfl ▸ hnd
  have cellAt : ∀ p ∈ env.cells, s'.heap.IsCell p.2 (bindC env.kindOf (names.zip vs) (fun _ => none) p.1) := fun p hp => x.cell p.1 p.2 (PyProof.Rows.lookup_of_mem_nodup hnd' hp)
  have hfresh : ∀ b ∈ muts env [], s.heap.get? b = none := fun b hb => by
    have hge : s.heap.objs.size ≤ b := by
      rcases List.mem_cons.mp hb with e | hb
      · rw [e, hloc]; exact Nat.le_refl _
      · rcases List.mem_append.mp hb with hb | hb
        · obtain ⟨p, hp, rfl⟩ := List.mem_map.mp hb
          have := x.above p.1 p.2 hp
          rw [hloc] at this; exact Nat.le_of_lt this
        · cases hb
    cases e : s.heap.get? b with
    | none => rfl
    | some o => exact absurd (Heap.lt_size e) (Nat.not_lt.mpr hge)
  have rF : ∀ {p v}, p.frozen = true → RV w s.heap F p v → RV w s'.heap (Fof env F []) p v := fun {p v} f h => RV.mono (fun b o hb e => ⟨hkeep b o e, fun hm => by
    rcases List.mem_append.mp hm with hm | hm
    · exact hb hm
    · rw [hfresh b hm] at e; cases e⟩) p f h
  have S : St w env s.heap F [] (parV names ps) s'.heap := by
    refine ⟨⟨X, mean, mg, mb, T⟩, hkeep, fun b hb => let ⟨o, e⟩ := L b hb; ⟨o, hkeep _ _ e⟩, ⟨_, hns⟩, fun p hp => ⟨_, cellAt p hp⟩, (fun _ hp => nomatch hp), hfresh, (fun _ hp => nomatch hp), ?_, fun y e hy => ?_⟩
    · refine List.nodup_cons.mpr ⟨fun hm => ?_, ?_⟩
      · rcases List.mem_append.mp hm with hm | hm
        · obtain ⟨p, hp, e⟩ := List.mem_map.mp hm
          exact absurd e (Nat.ne_of_gt (x.above p.1 p.2 hp))
        · cases hm
      · rw [List.map_nil, List.append_nil]
        exact List.pairwise_map.mpr x.apart
    · obtain ⟨p, v, rfl, f, hm, rv⟩ := parV_lookup r hy
      have hyn : y ∈ names := hfst ▸ List.mem_map_of_mem (f := (·.1)) hm
      refine ⟨f hf, v, ?_, rF (f hf) rv⟩
      have ek : ∀ kd, fd.scope.names.lookup y = some kd → env.kindOf y = some kd := fun kd e => by show env.scope.names.lookup y = _; rw [hsc]; exact e
      rcases hst y hyn with e | e
      · exact .inl ⟨ek _ e, _, hns, bindL_in (ek _ e) (by rw [hfst]; exact hn) hm⟩
      · obtain ⟨c, hc⟩ := Option.isSome_iff_exists.mp (hC y e)
        refine .inr ⟨.inl (ek _ e), c, hc, ?_⟩
        have := x.cell y c hc
        rw [bindC_in (by rw [ek _ e]; decide) (by rw [hfst]; exact hn) hm] at this
        exact this
  refine wpAny_mono (hx (R.deeper env) hE hC S) (fun f s₂ h₂ => ?_) fun _ _ x => x.elim
  obtain ⟨gk, bt, q⟩ := h₂
  cases f with
  | ret v =>
    refine ⟨GK.trans (.of_eq ⟨h₁, tk, hs'⟩) gk, fun b o e => (bt b o (hkeep _ _ e)).1 fun hm => ?_, q⟩
    rw [hfresh b hm] at e; cases e
  | next => exact q.elim
  | brk => exact q.elim
  | cont => exact q.elim

theorem OpN.of_call {k : Nat} {f : Value} {ps : List PV} {q : PV} (h : ∀ {w : World} {A : Around} {F : List Addr} {s : Shared} {vs : List Value}, Room k A → Base w s.heap → Live F s.heap → RVs w s.heap F ps vs →
    wpAny (model prg w) A (call f vs) (fun v s' => GK false s s' ∧ Up s.heap s'.heap ∧ RV w s'.heap F q v) NoE s) : OpN k ps (fun vs => PySem.call f vs) q := fun {w A F s vs} R B L r =>
  wpAny_mono (h R B L r) (fun v s' x => ⟨x.1.kp x.2.1, x.2.2⟩) fun _ _ x => x
end Mine

namespace Mine
open PySem PySem.W PySem.Builtin PySem.Builtin.Str

theorem Ev.eq {k : Nat} {sc : Scope} {ρ : Vars} {e : PySem.Expr} {p q : PV} (h : Ev k sc ρ e p) (x : p = q) : Ev k sc ρ e q := x ▸ h
theorem Op2.eq {k : Nat} {p q r r' : PV} {f : Value → Value → Sem Value} (h : Op2 k p q f r) (x : r = r') : Op2 k p q f r' := x ▸ h

theorem But.of_same {env : Env} {own : List (Str × Addr)} {h h' : Heap} {a : Addr} {o : Obj} (hm : a ∈ muts env own) (hs : Heap.SameBut a h h') (hn : h'.get? a = some o) : But (muts env own) h h' := fun b ob e => ⟨fun hb => hs.extBut b ob (fun q => hb (q ▸ hm)) e, alive_same hs ⟨o, hn⟩ e⟩

section
variable {g : Bool} {k : Nat} {sc : Scope} {ρ : Vars}

theorem notInteractive {env : Env} (E : EnvOK sc env) : interactive env = false := by
  unfold interactive; rw [E.scope, E.kind]; rfl
theorem lstObj_push {vs : List Value} {v : Value} {n : Nat} : ({ cls := .type "list", data := .seq (vs.toArray.push v) (n + 1) } : Obj) = lstObj (vs ++ [v]) (n + 1) := by simp [lstObj]

theorem Ex1.append {x : Str} {xp ap cp pos : Pos} {e : PySem.Expr} {l : List PV} {p : PV} (hx : ρ.lookup x = some (.own l)) (hd : (x == ("__debug__" : Str)) = false) (hb : ∀ env, attributeBase (.Name x xp) "append" env (eval (.Name x xp) env) = eval (.Name x xp) env)
    (hline : (ap.endLine == cp.line) = true) (hpl : Plain [e]) (he : Ev k sc ρ e p) (hf : p.frozen = true) (hsz : l.length ≤ sizeLine) :
    Ex1 g k sc ρ (.Expr (.Call (.Attribute (.Name x xp) "append" ap) [e] [] cp) pos) (.next ((x, .own (l ++ [p])) :: ρ)) := fun {w A env h₀ F₀ own s} R E C S => by
  refine wpAny_Expr ?_ (notInteractive E)
  obtain ⟨a, vs, n, y, hm, ho, hfl, r⟩ := S.vars x _ hx
  refine wpAny_Call_method_late (hb env) (by rw [hpl]; rfl) hline (hpl env cp) (wpAny_Name (y.load E ?_) hd)
  refine ⟨"list", "list.append", F.plainAttrs_list, F.slot_list_append, rfl, ⟨_, ho, rfl⟩, fun b e => by cases e; exact ⟨_, ho, rfl⟩, ?_⟩
  refine (EvL.cons he .nil).call R E S (.inl ⟨_, rfl⟩) fun ws s₁ k₁ r₁ => ?_
  obtain ⟨v, r2, rfl, rv, e2⟩ := r₁
  rw [show r2 = [] from e2]
  have S₁ := S.up k₁.up
  have hlen : vs.toArray.size ≤ sizeLine := by rw [List.size_toArray, r.length]; exact hsz
  refine PyProof.Rows.append_at (k₁.up _ _ ho) (fun h' hs ho' => ?_) hlen
  rw [lstObj_push] at ho'
  have hfl' : PV.frozens (l ++ [p]) = true := by
    clear hx r hsz S ho ho'
    induction l with
    | nil => show (p.frozen && true) = true; rw [hf]; rfl
    | cons q l ih =>
      have f' : (PV.frozen q && PV.frozens l) = true := hfl
      rw [Bool.and_eq_true] at f'
      show (q.frozen && PV.frozens (l ++ [p])) = true
      rw [f'.1, ih f'.2]; rfl
  have S₂ := S₁.setOwn (y.up k₁.up) hm ho' hs hfl' ((RVs.up k₁.up _ r).append (RVs.one rv))
  exact .next ((GK.of_kp k₁).trans (.of_eq ⟨h', _, rfl⟩)) (But.up_after k₁.up (But.of_same (mem_own hm) hs ho')) (.refl _ _) S₂

theorem frozens_append {l m : List PV} : PV.frozens (l ++ m) = (PV.frozens l && PV.frozens m) := by
  induction l with
  | nil => rfl
  | cons q l ih =>
    show (q.frozen && PV.frozens (l ++ m)) = ((q.frozen && PV.frozens l) && PV.frozens m)
    rw [ih, Bool.and_assoc]

theorem RVs.split {h : Heap} {F : List Addr} : ∀ {ps qs : List PV} {vs : List Value}, RVs w h F (ps ++ qs) vs → ∃ us ws, vs = us ++ ws ∧ RVs w h F ps us ∧ RVs w h F qs ws
  | [], _, vs, x => ⟨[], vs, rfl, rfl, x⟩
  | _ :: _, _, _, ⟨v, r, e, x, y⟩ => by
    obtain ⟨us, ws, e2, h1, h2⟩ := RVs.split y
    exact ⟨v :: us, ws, by rw [e, e2]; rfl, ⟨v, us, rfl, x, h1⟩, h2⟩

/-- the last of an owned list goes -/
theorem pop_own {w : World} {A : Around} {env : Env} {h₀ : Heap} {F₀ : List Addr} {own : List (Str × Addr)} {s : Shared} {x : Str} {xp ap cp : Pos} {l : List PV} {p : PV} {Q : Value → Shared → Prop} (R : Room k A) (E : EnvOK sc env) (S : St w env h₀ F₀ own ρ s.heap)
    (hx : ρ.lookup x = some (.own (l ++ [p]))) (hd : (x == ("__debug__" : Str)) = false) (hb : ∀ env, attributeBase (.Name x xp) "pop" env (eval (.Name x xp) env) = eval (.Name x xp) env)
    (hline : (ap.endLine == cp.line) = true) (hsz : (l ++ [p]).length ≤ sizeLine)
    (hq : ∀ v s', GK false s s' → But (muts env own) s.heap s'.heap → St w env h₀ F₀ own ((x, .own l) :: ρ) s'.heap → RV w s'.heap (Fof env F₀ own) p v → Q v s') :
    wpAny (model prg w) A (eval (.Call (.Attribute (.Name x xp) "pop" ap) [] [] cp) env) Q NoE s := by
  obtain ⟨a, vs, n, y, hm, ho, hfl, r⟩ := S.vars x _ hx
  refine wpAny_Call_method_late (hb env) rfl hline rfl (wpAny_Name (y.load E ?_) hd)
  refine ⟨"list", "list.pop", F.plainAttrs_list, F.slot_list_pop, rfl, ⟨_, ho, rfl⟩, fun b e => by cases e; exact ⟨_, ho, rfl⟩, ?_⟩
  refine (EvL.nil (ρ := ρ)).call R E S (.inl ⟨_, rfl⟩) fun ws s₁ k₁ r₁ => ?_
  rw [show ws = [] from r₁]
  have S₁ := S.up k₁.up
  obtain ⟨us, w1, e1, ru, rw1⟩ := r.split
  obtain ⟨v, r3, rfl, rv, e3⟩ := rw1
  rw [show r3 = [] from e3] at e1
  subst e1
  have hsize : (us ++ [v]).toArray.size = us.length + 1 := by simp
  have hlen : (us ++ [v]).toArray.size ≤ sizeLine := by
    have := r.length
    rw [List.size_toArray, this]; exact hsz
  have hget : (us ++ [v]).toArray[(us ++ [v]).toArray.size - 1]? = some v := by rw [hsize]; simp
  have ho₁ := k₁.up _ _ ho
  refine call_meets F.slot_list_pop ⟨_, ho₁, rfl⟩ F.entry_list_pop (F.args_list_pop_1 _) (PySem.MeetsSeq.list_pop_last a _ n v hget hlen) ⟨ho₁, ?_⟩
  have hobj : Obj.mapSeq (fun xs => xs.eraseIdxIfInBounds ((us ++ [v]).toArray.size - 1)) (lstObj (us ++ [v]) n) = lstObj us (n + 1) := by
    have ee : (us ++ [v]).eraseIdx us.length = us := by
      rw [List.eraseIdx_append_of_length_le (Nat.le_refl _), Nat.sub_self]; simp
    rw [hsize]; simp [Obj.mapSeq, lstObj, Array.eraseIdxIfInBounds, ee]
  have hn : (s₁.heap.update a (Obj.mapSeq fun xs => xs.eraseIdxIfInBounds ((us ++ [v]).toArray.size - 1))).get? a = some (lstObj us (n + 1)) := by
    rw [Heap.get?_update_self _ ho₁ (by rw [hobj]; rfl), hobj]
  have hs : Heap.SameBut a s₁.heap (s₁.heap.update a (Obj.mapSeq fun xs => xs.eraseIdxIfInBounds ((us ++ [v]).toArray.size - 1))) := Heap.SameBut.update ..
  have hfl' := hfl
  rw [frozens_append, Bool.and_eq_true] at hfl'
  have hp : p.frozen = true := by
    have f' : (PV.frozen p && PV.frozens []) = true := hfl'.2
    rw [Bool.and_eq_true] at f'; exact f'.1
  have S₂ := S₁.setOwn (y.up k₁.up) hm hn hs hfl'.1 (RVs.up k₁.up _ ru)
  refine hq _ _ ((GK.of_kp k₁).trans (.of_eq ⟨_, _, rfl⟩)) (But.up_after k₁.up (But.of_same (mem_own hm) hs hn)) S₂ ?_
  exact RV.mono (fun b o hb e => ⟨hs.extBut b o (fun q => hb (q ▸ List.mem_append_right _ (mem_own hm))) e, hb⟩) p hp (RV.up k₁.up _ rv)

def noRef : PV → Bool
  | .tup _ | .list _ | .olist _ | .raw _ | .lat _ _ => false
  | _ => true
theorem Ex1.pop {x : Str} {xp ap cp pos : Pos} {l : List PV} {p : PV} (hx : ρ.lookup x = some (.own (l ++ [p]))) (hr : noRef p = true) (hd : (x == ("__debug__" : Str)) = false) (hb : ∀ env, attributeBase (.Name x xp) "pop" env (eval (.Name x xp) env) = eval (.Name x xp) env)
    (hline : (ap.endLine == cp.line) = true) (hsz : (l ++ [p]).length ≤ sizeLine) : Ex1 g k sc ρ (.Expr (.Call (.Attribute (.Name x xp) "pop" ap) [] [] cp) pos) (.next ((x, .own l) :: ρ)) := fun {w A env h₀ F₀ own s} R E C S => by
  refine wpAny_Expr (pop_own R E S hx hd hb hline hsz fun v s' gk bt S' r => ?_) (notInteractive E)
  have : OutIs g w env h₀ F₀ own (.next ((x, .own l) :: ρ)) .next s s' := .next gk.wide bt (.refl _ _) S'
  cases p with
  | none => rw [show v = .none from r]; exact this
  | bool b => rw [show v = .bool b from r]; exact this
  | int i => obtain ⟨t, rfl⟩ := r; exact this
  | str i => obtain ⟨t, rfl⟩ := r; exact this
  | tup l => cases hr
  | list l => cases hr
  | olist l => cases hr
  | raw R => cases hr
  | lat a l => cases hr

/-- x += pile.pop()[i] -/
theorem Ex1.augPop {z x : Str} {zp xp ap cp sp pos : Pos} {op : Operator} {slice : PySem.Expr} {l ts : List PV} {p q t i : PV} (hz : Stb sc z) (hzx : z ≠ x) (hρ : ρ.lookup z = some (.val p)) (hx : ρ.lookup x = some (.own (l ++ [.tup ts])))
    (hd : (x == ("__debug__" : Str)) = false) (hb : ∀ env, attributeBase (.Name x xp) "pop" env (eval (.Name x xp) env) = eval (.Name x xp) env)
    (hline : (ap.endLine == cp.line) = true) (hsz : (l ++ [PV.tup ts]).length ≤ sizeLine) (hi : Ev k sc ((x, .own l) :: ρ) slice i) (hsub : Op2 k (.tup ts) i getItem q) (hs : ∀ o i, ∃ ops, subscripted slice false o i = operate ops (getItem o i))
    (ho : Op2 k p q (inplaceOp op) t) (hf : t.frozen = true) :
    Ex1 g k sc ρ (.AugAssign (.Name z zp) op (.Subscript (.Call (.Attribute (.Name x xp) "pop" ap) [] [] cp) slice sp) pos) (.next ((z, .val t) :: (x, .own l) :: ρ)) := fun {w A env h₀ F₀ own s} R E C S => by
  obtain ⟨fp, u, sl, ru⟩ := S.vars z _ hρ
  refine wpAny_AugAssign_Name (sl.load E ?_)
  refine PyProof.Rows.Subscript_ (pop_own R E S hx hd hb hline hsz fun v s₁ gk bt S₁ r => ?_)
  have ru₁ : RV w s₁.heap (Fof env F₀ own) p u := RV.mono (fun b o hb e => ⟨(bt b o e).1 (fun q => hb (List.mem_append_right _ q)), hb⟩) p fp ru
  refine (hi R E S₁).bind fun j s₂ k₂ rj => ?_
  have S₂ := S₁.up k₂.up
  obtain ⟨id, lk⟩ := getT_tuple.lk
  refine tail_gives (RV.typeIs (p := .tup ts) rfl (RV.up k₂.up (.tup ts) r)).1 lk ((hsub R S₂.here S₂.live (RV.up k₂.up (.tup ts) r) rj).bind fun y s₃ k₃ ry => ?_) (hs _ _)
  have S₃ := S₂.up k₃.up
  refine (ho R S₃.here S₃.live (RV.up (k₂.trans k₃).up _ ru₁) ry).bind fun c s₄ k₄ rc => ?_
  refine (S₃.up k₄.up).store E rfl (hz.at C) fun s' he hk _ S' sl' => ?_
  have r' : RV w s'.heap (Fof env F₀ own) t c := RV.mono (fun b o hb e => ⟨(hk b o e).1 (fun q => hb (List.mem_append_right _ q)), hb⟩) t hf rc
  refine .next (gk.wide.trans ((GK.of_kp ((k₂.trans k₃).trans k₄)).trans (.of_eq he))) (bt.trans (But.up_after ((k₂.trans k₃).trans k₄).up hk)) (.refl _ _) (S'.addVal sl' hf r')
end
end Mine

namespace Mine
open PySem PySem.W PySem.Builtin PySem.Builtin.Str

/-- forbidden addresses change; some of them are let go -/
theorem St.change {w : World} {env : Env} {h₀ : Heap} {F₀ F₁ : List Addr} {own : List (Str × Addr)} {ρ : Vars} {h h' : Heap} {M : List Addr} (S : St w env h₀ F₀ own ρ h) (hM : ∀ b ∈ M, b ∈ F₀) (hn : ∀ b ∈ M, h₀.get? b = none) (hm : ∀ b ∈ M, b ∉ muts env own) (hs : ∀ b o, b ∉ M → h.get? b = some o → h'.get? b = some o)
    (h1 : ∀ b ∈ F₁, b ∈ F₀) (hl : ∀ b ∈ F₁, ∃ o, h'.get? b = some o) : St w env h₀ F₁ own ρ h' :=
  St.beside (wr := M) (F₀ := F₀) (S.unforbid fun b hb => (List.mem_append.mp hb).elim (hM b) id) hn hm hs (fun b hb => List.mem_append_right _ (h1 b hb)) hl

theorem St.storeL {w : World} {env : Env} {h₀ : Heap} {F₀ : List Addr} {own : List (Str × Addr)} {ρ : Vars} {sc : Scope} {A : Around} {x : Str} {v : Value} {s : Shared} {Q : Unit → Shared → Prop} (S : St w env h₀ F₀ own ρ s.heap) (E : EnvOK sc env) (hk : sc.names.lookup x = some .local)
    (hq : ∀ s', (∃ h' tk, s' = { s with heap := h', toks := tk }) → Heap.SameBut env.locals s.heap s'.heap → (∃ o, s'.heap.get? env.locals = some o) → St w env h₀ F₀ own (ρ.filter fun p => p.1 != x) s'.heap → SlotIs env s'.heap x v → Q () s') : wpAny (model prg w) A (storeName env x v) Q NoE s := by
  have hkind : env.scope.kind = .function := by rw [E.scope]; exact E.kind
  have ek : env.kindOf x = some .local := by show env.scope.names.lookup x = _; rw [E.scope]; exact hk
  obtain ⟨m, hm⟩ := S.ns
  refine wpAny_storeName_local ek hm (fun h' hn hs => ?_) (by rw [hkind]; rfl)
  obtain ⟨S', sl⟩ := S.rawLocal ek hm hn hs
  exact hq _ ⟨h', _, rfl⟩ hs (let ⟨o, _, _, ho, _⟩ := hn; ⟨o, ho⟩) S' sl

/-- an assignment that changes the frame alone -/
def AsgL (sc : Scope) (tgt : PySem.Expr) (tt : Bool) (p : PV) (ρ ρ' : Vars) : Prop :=
  ∀ {k : Nat} {w : World} {A : Around} {env : Env} {h₀ : Heap} {F₀ : List Addr} {own : List (Str × Addr)} {s : Shared} {v : Value}, Room k A → EnvOK sc env → St w env h₀ F₀ own ρ s.heap → ItemR w tt s.heap (Fof env F₀ own) p v →
    wpAny (model prg w) A (assign tgt env v) (fun _ s' => GK false s s' ∧ But [env.locals] s.heap s'.heap ∧ St w env h₀ F₀ own ρ' s'.heap) NoE s
theorem But.of_locals {L : Addr} {h h' : Heap} (hs : Heap.SameBut L h h') (hl : ∃ o, h'.get? L = some o) : But [L] h h' := fun b o e => ⟨fun hb => hs.extBut b o (fun q => hb (by rw [q]; exact List.mem_singleton.mpr rfl)) e, alive_same hs hl e⟩
theorem AsgL.name {sc : Scope} {x : Str} {xp : Pos} {p : PV} {ρ : Vars} (hx : sc.names.lookup x = some .local) (hf : p.frozen = true) : AsgL sc (.Name x xp) false p ρ ((x, .val p) :: ρ) := fun {k w A env h₀ F₀ own s v} R E S r => by
  refine wpAny_assign_Name (S.storeL E hx fun s' he hs hl S' sl => ?_)
  have hk := But.of_locals hs hl
  have r' : RV w s'.heap (Fof env F₀ own) p v := RV.mono (fun b o hb e => ⟨(hk b o e).1 (fun q => hb (List.mem_append_right _ (by rw [List.mem_singleton.mp q]; exact mem_locals))), hb⟩) p hf r
  exact ⟨.of_eq he, hk, S'.addVal sl hf r'⟩
theorem AsgL.pair {sc : Scope} {x y : Str} {xp yp tp : Pos} {x1 : Nat} {p q : PV} {ρ : Vars} (hx : sc.names.lookup x = some .local) (hy : sc.names.lookup y = some .local) (hf : p.frozen = true) (hf' : q.frozen = true) : AsgL sc (.Tuple [.Name x xp, .Name y yp] x1 tp) true (.tup [p, q]) ρ ((y, .val q) :: (x, .val p) :: ρ) := fun {k w A env h₀ F₀ own s v} R E S r => by
  obtain ⟨T, vals, rfl, hT, r⟩ := r
  obtain ⟨u1, r1, e1, ru1, u2, r2, e2, ru2, e3⟩ := r
  rw [show r2 = [] from e3] at e2
  rw [e2] at e1
  have ev : vals = #[u1, u2] := by rw [← Array.toList_inj]; exact e1
  subst ev
  refine wpAny_assign_Tuple R.hd hT rfl rfl fun h₃ hx₃ => ?_
  have up₃ : Up s.heap h₃ := fun b o e => hx₃ b o (Nat.ne_of_lt (Heap.lt_size e)) e
  have S₃ : St w env h₀ F₀ own ρ ({ s with heap := h₃ } : Shared).heap := S.up up₃
  show wpAny _ A (do holding [u2] (assign (.Name x xp) env u1); do holding [] (assign (.Name y yp) env u2); pure ()) _ _ _
  refine wpAny_bind (wpAny_holding (wpAny_assign_Name (S₃.storeL E hx fun s₄ he hs hl S₄ sl => ?_)))
  have hk := But.of_locals hs hl
  have r1' : RV w s₄.heap (Fof env F₀ own) p u1 := RV.mono (fun b o hb e => ⟨(hk b o e).1 (fun q => hb (List.mem_append_right _ (by rw [List.mem_singleton.mp q]; exact mem_locals))), hb⟩) p hf (RV.up up₃ _ ru1)
  have r2' : RV w s₄.heap (Fof env F₀ own) q u2 := RV.mono (fun b o hb e => ⟨(hk b o e).1 (fun q => hb (List.mem_append_right _ (by rw [List.mem_singleton.mp q]; exact mem_locals))), hb⟩) q hf' (RV.up up₃ _ ru2)
  have S₄' := S₄.addVal sl hf r1'
  refine wpAny_bind (wpAny_holding (wpAny_assign_Name (S₄'.storeL E hy fun s₅ he' hs' hl' S₅ sl' => wpAny_pure ?_)))
  have hk' := But.of_locals hs' hl'
  have r2'' : RV w s₅.heap (Fof env F₀ own) q u2 := RV.mono (fun b o hb e => ⟨(hk' b o e).1 (fun q => hb (List.mem_append_right _ (by rw [List.mem_singleton.mp q]; exact mem_locals))), hb⟩) q hf' r2'
  exact ⟨(GK.of_kp (Kp.heap s up₃)).trans ((GK.of_eq he).trans (.of_eq he')), (But.up_after up₃ hk).trans hk', S₅.addVal sl' hf' r2''⟩

inductive Tsts (k : Nat) (sc : Scope) (ρ : Vars) : List PySem.Expr → Bool → Prop
  | nil : Tsts k sc ρ [] true
  | one {c b} : Tst k sc ρ c b → Tsts k sc ρ [c] b
theorem Tsts.run {k : Nat} {sc : Scope} {ρ : Vars} {ifs : List PySem.Expr} {b : Bool} (h : Tsts k sc ρ ifs b) {w : World} {A : Around} {env : Env} {h₀ : Heap} {F₀ : List Addr} {own : List (Str × Addr)} {s : Shared} (R : Room k A) (E : EnvOK sc env) (S : St w env h₀ F₀ own ρ s.heap) :
    wpAny (model prg w) A (forIn ifs true fun c r => if r = true then do let ok ← isTrue c env (eval c env); pure (ForInStep.yield ok) else pure (ForInStep.yield r)) (fun ok s' => ok = b ∧ Kp s s') NoE s := by
  cases h with
  | nil => exact wpAny_tests_nil ⟨rfl, Kp.refl s⟩
  | one ht => exact wpAny_tests_one (ht R E S)

def EmitTurn (e : PySem.Expr) (d : Nat) (target iter elt : PySem.Expr) (ifs : List PySem.Expr) : Prop := ∀ it acc env, compTurn e d it acc env = (do
      standAt iter.pos
      match ← pyNext it with
      | none => pure (.done .next)
      | some v =>
        letOwnedTupleGo target it v
        assign target env v
        let mut ok := true
        for c in ifs do
          if ok then ok ← isTrue c env (eval c env)
        if ok then
          (do let _ ← call (.builtin "list.append") [acc, ← eval elt env])
        again (.compLoop e d it acc env))
theorem EmitTurn.one (elt target iter : PySem.Expr) (ifs : List PySem.Expr) (scope : Scope) (pos : Pos) : EmitTurn (.ListComp elt [⟨target, iter, ifs, 0⟩] scope pos) 0 target iter elt ifs := fun _ _ _ => rfl
theorem EmitTurn.two (elt target iter t0 i0 : PySem.Expr) (ifs ifs0 : List PySem.Expr) (scope : Scope) (pos : Pos) : EmitTurn (.ListComp elt [⟨t0, i0, ifs0, 0⟩, ⟨target, iter, ifs, 0⟩] scope pos) 1 target iter elt ifs := fun _ _ _ => rfl

inductive CRun (k : Nat) (sc : Scope) (target : PySem.Expr) (tt : Bool) (ifs : List PySem.Expr) (elt : PySem.Expr) : List PV → Vars → List PV → Vars → Prop
  | nil {ρ} : CRun k sc target tt ifs elt [] ρ [] ρ
  | skip {ρ ρ₁ ρ₂ ρ' p ps out} : AsgL sc target tt p ρ ρ₁ → Tsts k sc ρ₁ ifs false → Sub ρ₂ ρ₁ → CRun k sc target tt ifs elt ps ρ₂ out ρ' → CRun k sc target tt ifs elt (p :: ps) ρ out ρ'
  | emit {ρ ρ₁ ρ₂ ρ' p ps q out} : AsgL sc target tt p ρ ρ₁ → Tsts k sc ρ₁ ifs true → Ev k sc ρ₁ elt q → q.frozen = true → Sub ρ₂ ρ₁ → CRun k sc target tt ifs elt ps ρ₂ out ρ' → CRun k sc target tt ifs elt (p :: ps) ρ (q :: out) ρ'

/-- the facts of an iterator that a loop draws from -/
structure Drawn (w : World) (A : Around) (tgt : PySem.Expr) (tt : Bool) (F : List Addr) (h : Heap) (ps : List PV) (I : Addr) (fp wr : List Addr) (P Md : Nat → Value → Heap → Prop) (Stt : Nat → Heap → Prop) : Prop where
  turns : KTurns prg w A tgt I fp wr ps.length P Md Stt
  fp : ∀ b ∈ fp, (∃ o, h.get? b = some o) ∧ b ∉ F
  live : ∀ i h, Stt i h → ∀ b ∈ wr, ∃ o, h.get? b = some o
  item : ∀ i v h' p F', P i v h' → ps[i]? = some p → (∀ b o, b ∉ F → b ∉ wr → h.get? b = some o → h'.get? b = some o ∧ b ∉ F') → ItemR w tt h' F' p v

theorem emit_loop {k : Nat} {sc : Scope} {elt target iter : PySem.Expr} {gens : List Comprehension} {scope : Scope} {epos : Pos} {ifs : List PySem.Expr} {d : Nat} {tt : Bool} (T : EmitTurn (.ListComp elt gens scope epos) d target iter elt ifs) {w : World} {A : Around} {env : Env} {h₀ : Heap} {F₀ : List Addr} {s : Shared} {ρ ρ' : Vars} {ps out out₀ : List PV} {I D : Addr} {fp wr : List Addr} {P Md : Nat → Value → Heap → Prop}
    {Stt : Nat → Heap → Prop} {ys : List Value} {n : Nat} (R : Room k A) (E : EnvOK sc env) (S : St w env h₀ (wr ++ F₀) [] ρ s.heap) (hDF : D ∈ F₀) (hDw : D ∉ wr) (hDm : D ∉ muts env []) (hD0 : h₀.get? D = none) (X : Drawn w A target tt (Fof env F₀ []) s.heap ps I fp wr P Md Stt) (st0 : Stt 0 s.heap)
    (hwr0 : ∀ b ∈ wr, h₀.get? b = none) (hD : s.heap.get? D = some (lstObj ys n)) (hys : RVs w s.heap (Fof env (wr ++ F₀) []) out₀ ys) (hf₀ : PV.frozens out₀ = true) (hsz : out₀.length + out.length ≤ sizeLine) (run : CRun k sc target tt ifs elt ps ρ out ρ') :
    codeAny (model prg w) A (.compLoop (.ListComp elt gens scope epos) d (.ref I) (.ref D) env) (fun r s' => r = .ok .next ∧ GK false s s' ∧ (∀ b o, b ∉ wr → s.heap.get? b = some o → (b ∉ [D, env.locals] → s'.heap.get? b = some o) ∧ ∃ o', s'.heap.get? b = some o') ∧ St w env h₀ F₀ [] ρ' s'.heap ∧ ∃ ys' n', s'.heap.get? D = some (lstObj ys' n') ∧ RVs w s'.heap (Fof env F₀ []) (out₀ ++ out) ys' ∧ PV.frozens (out₀ ++ out) = true) s := by
  have hDL : D ≠ env.locals := fun q => hDm (q ▸ mem_locals)
  have hfpL : ∀ b ∈ fp, b ≠ env.locals := fun b hb q => (X.fp b hb).2 (q ▸ List.mem_append_right _ mem_locals)
  have hfpD : ∀ b ∈ fp, b ≠ D := fun b hb q => (X.fp b hb).2 (q ▸ List.mem_append_left _ hDF)
  have hwm : ∀ b ∈ wr, b ∉ muts env [] := fun b hb q => (X.fp b (X.turns.sub b hb)).2 (List.mem_append_right _ q)
  refine codeAny_loop rfl (fun m s' => ∃ i ρi outi outr ys' n', m = ps.length - i ∧ i ≤ ps.length ∧ CRun k sc target tt ifs elt (ps.drop i) ρi outr ρ' ∧ out₀ ++ out = outi ++ outr ∧ True ∧ PV.frozens outi = true ∧ St w env h₀ (wr ++ F₀) [] ρi s'.heap ∧ Stt i s'.heap ∧
    s'.heap.get? D = some (lstObj ys' n') ∧ RVs w s'.heap (Fof env (wr ++ F₀) []) outi ys' ∧ GK false s s' ∧ But (wr ++ [D, env.locals]) s.heap s'.heap) (fun m s' hI => ?_) ps.length
    ⟨0, ρ, out₀, out, ys, n, rfl, Nat.zero_le _, run, rfl, trivial, hf₀, S, st0, hD, hys, .refl _ _, .of_up fun _ _ e => e⟩
  obtain ⟨i, ρi, outi, outr, ys', n', rfl, hile, hC, hout, hsz', hfi, S', st', hD', hys', gk, bt⟩ := hI
  show wpAny _ _ ((compTurn (.ListComp elt gens scope epos) d (.ref I) (.ref D) env).onRaise (fun x => do noteFrame x env; theTreesLotGoes x)) _ _ s'
  refine wpAny_noted ?_
  rw [T]
  have wDL : ∀ b, b ∉ wr ++ [D, env.locals] → b ∉ wr ∧ b ≠ D ∧ b ≠ env.locals := fun b hb => ⟨fun q => hb (List.mem_append_left _ q), fun q => hb (List.mem_append_right _ (by rw [q]; simp)), fun q => hb (List.mem_append_right _ (by rw [q]; simp))⟩
  by_cases hlt : i < ps.length
  · have hdrop : ps.drop i = ps[i] :: ps.drop (i + 1) := List.drop_eq_getElem_cons hlt
    rw [hdrop] at hC
    refine wpAny_bind (wpAny_standAt (wpAny_bind (X.turns.item i _ _ _ hlt st' fun v h₃ tk₃ hMd hk₃ => ?_)))
    refine wpAny_bind (X.turns.go i v _ _ _ hMd fun h₄ hP st₄ hk₄ => ?_)
    have hk : ∀ b ob, b ∉ wr → s'.heap.get? b = some ob → h₄.get? b = some ob := fun b ob hb e => hk₄ b ob hb (hk₃ b ob hb e)
    have S₄ : St w env h₀ (wr ++ F₀) [] ρi h₄ := S'.beside hwr0 hwm hk (fun _ h => h) fun b hb => by
      by_cases q : b ∈ wr
      · exact X.live _ _ st₄ b q
      · obtain ⟨ob, e⟩ := S'.alive b hb
        exact ⟨ob, hk b ob q e⟩
    have g4 : GK false s { s' with heap := h₄, toks := tk₃ } := gk.trans (.of_eq ⟨_, _, rfl⟩)
    have bt₄ : But (wr ++ [D, env.locals]) s.heap h₄ := fun b ob e => by
      obtain ⟨b1, ob', b2⟩ := bt b ob e
      by_cases q : b ∈ wr
      · exact ⟨fun hb => ((wDL b hb).1 q).elim, X.live _ _ st₄ b q⟩
      · exact ⟨fun hb => hk b ob q (b1 hb), ob', hk b ob' q b2⟩
    have hD₄ : h₄.get? D = some (lstObj ys' n') := hk D _ hDw hD'
    have hys₄ : RVs w h₄ (Fof env (wr ++ F₀) []) outi ys' := RVs.mono (fun b o hb e => ⟨hk b o (fun q => hb (List.mem_append_left _ (List.mem_append_left _ q))) e, hb⟩) outi hfi hys'
    have item : ItemR w tt h₄ (Fof env (wr ++ F₀) []) ps[i] v := X.item i v h₄ ps[i] _ hP (List.getElem?_eq_getElem hlt) fun b ob hbF hbw e => ⟨(bt₄ b ob e).1 fun q => by
        rcases List.mem_append.mp q with q | q
        · exact hbw q
        · rcases List.mem_cons.mp q with q | q
          · exact hbF (q ▸ List.mem_append_left _ hDF)
          · exact hbF (List.mem_singleton.mp q ▸ List.mem_append_right _ mem_locals), fun q => by
      rcases List.mem_append.mp q with q | q
      · rcases List.mem_append.mp q with q | q
        · exact hbw q
        · exact hbF (List.mem_append_left _ q)
      · exact hbF (List.mem_append_right _ q)⟩
    have after : ∀ {ρ₁} {s₅ : Shared}, GK false { s' with heap := h₄, toks := tk₃ } s₅ → But [env.locals] h₄ s₅.heap → St w env h₀ (wr ++ F₀) [] ρ₁ s₅.heap → GK false s s₅ ∧ But (wr ++ [D, env.locals]) s.heap s₅.heap ∧ Stt (i + 1) s₅.heap ∧ s₅.heap.get? D = some (lstObj ys' n') ∧ RVs w s₅.heap (Fof env (wr ++ F₀) []) outi ys' := fun {ρ₁ s₅} gk5 bt5 S5 => by
      refine ⟨g4.trans gk5, bt₄.trans (bt5.mono fun b hb => by rw [List.mem_singleton.mp hb]; simp), X.turns.frame _ _ _ st₄ fun b hb ob e => (bt5 b ob e).1 fun q => hfpL b hb (List.mem_singleton.mp q), (bt5 D _ hD₄).1 fun q => hDL (List.mem_singleton.mp q), ?_⟩
      exact RVs.mono (fun b o hb e => ⟨(bt5 b o e).1 fun q => hb (List.mem_append_right _ (by rw [List.mem_singleton.mp q]; exact mem_locals)), hb⟩) outi hfi hys₄
    cases hC with
    | @skip _ ρ₁ ρ₂ _ _ _ _ ha ht hsub hr =>
      refine wpAny_bind (wpAny_mono (ha R E S₄ item) (fun _ s₅ h₅ => ?_) fun _ _ x => x.elim)
      obtain ⟨gk5, bt5, S5⟩ := h₅
      obtain ⟨x1, x2, x3, x4, x5⟩ := after gk5 bt5 S5
      refine wpAny_bind (wpAny_mono (ht.run R E S5) (fun ok s₆ h₆ => ?_) fun _ _ x => x.elim)
      obtain ⟨rfl, k6⟩ := h₆
      refine wpAny_pure ⟨rfl, ps.length - (i + 1), by omega, i + 1, ρ₂, outi, outr, ys', n', rfl, hlt, hr, hout, trivial, hfi, (S5.up k6.up).sub hsub, X.turns.frame _ _ _ x3 fun b _ ob e => k6.up _ _ e, k6.up _ _ x4, RVs.up k6.up _ x5, x1.trans (.of_kp k6), x2.then_up k6.up⟩
    | @emit _ ρ₁ ρ₂ _ _ _ q outr' ha ht hv hfq hsub hr =>
      refine wpAny_bind (wpAny_mono (ha R E S₄ item) (fun _ s₅ h₅ => ?_) fun _ _ x => x.elim)
      obtain ⟨gk5, bt5, S5⟩ := h₅
      obtain ⟨x1, x2, x3, x4, x5⟩ := after gk5 bt5 S5
      refine wpAny_bind (wpAny_mono (ht.run R E S5) (fun ok s₆ h₆ => ?_) fun _ _ x => x.elim)
      obtain ⟨rfl, k6⟩ := h₆
      have S6 := S5.up k6.up
      refine wpAny_bind (wpAny_bind (wpAny_mono (hv R E S6) (fun y s₇ h₇ => ?_) fun _ _ x => x.elim))
      obtain ⟨k7, ry⟩ := h₇
      have S7 := S6.up k7.up
      have k67 := k6.trans k7
      have hD7 : s₇.heap.get? D = some (lstObj ys' n') := k67.up _ _ x4
      have hl : ys'.toArray.size ≤ sizeLine := by
        have hL := congrArg List.length hout
        rw [List.length_append, List.length_append] at hL
        rw [List.size_toArray, x5.length]; omega
      refine wpAny_bind (PyProof.Rows.append_at hD7 (fun h₈ hs₈ ho₈ => wpAny_pure (wpAny_pure ?_)) hl)
      rw [lstObj_push] at ho₈
      have kk : ∀ b o, b ∉ [D] → s₇.heap.get? b = some o → h₈.get? b = some o := fun b o hb e => hs₈.extBut b o (fun q => hb (by rw [q]; simp)) e
      have S8 : St w env h₀ (wr ++ F₀) [] ρ₁ h₈ := S7.change (M := [D]) (fun b hb => by rw [List.mem_singleton.mp hb]; exact List.mem_append_right _ hDF) (fun b hb => by rw [List.mem_singleton.mp hb]; exact hD0) (fun b hb => by rw [List.mem_singleton.mp hb]; exact hDm) kk (fun _ h => h) fun b hb => by
        obtain ⟨o, e⟩ := S7.alive b hb
        exact alive_same hs₈ ⟨_, ho₈⟩ e
      have hfk : ∀ b o, b ∉ Fof env (wr ++ F₀) [] → s₇.heap.get? b = some o → h₈.get? b = some o ∧ b ∉ Fof env (wr ++ F₀) [] := fun b o hb e => ⟨kk b o (fun q => hb (by rw [List.mem_singleton.mp q]; exact List.mem_append_left _ (List.mem_append_right _ hDF))) e, hb⟩
      refine ⟨rfl, ps.length - (i + 1), by omega, i + 1, ρ₂, outi ++ [q], outr', ys' ++ [y], n' + 1, rfl, hlt, hr, by rw [hout, List.append_assoc]; rfl, trivial, ?_, S8.sub hsub, ?_, ho₈, ?_, (x1.trans (.of_kp k67)).trans (.of_eq ⟨h₈, _, rfl⟩), ?_⟩
      · rw [frozens_append, hfi]; show (true && (q.frozen && true)) = true; rw [hfq]; rfl
      · exact X.turns.frame _ _ _ x3 fun b hb ob e => kk b ob (fun q => hfpD b hb (List.mem_singleton.mp q)) (k67.up _ _ e)
      · exact (RVs.mono hfk outi hfi (RVs.up k67.up _ x5)).append (RVs.one (RV.mono hfk q hfq ry))
      · exact (x2.then_up k67.up).trans fun b o e => ⟨fun hb => kk b o (fun q => (wDL b hb).2.1 (List.mem_singleton.mp q)) e, alive_same hs₈ ⟨_, ho₈⟩ e⟩
  · have hie : i = ps.length := by omega
    subst hie
    rw [List.drop_length] at hC
    cases hC
    rw [List.append_nil] at hout
    refine wpAny_bind (wpAny_standAt (wpAny_bind (X.turns.done _ _ _ st' fun h₃ tk₃ hk₃ => wpAny_pure ?_)))
    have S₃ : St w env h₀ F₀ [] ρ' h₃ := S'.beside hwr0 hwm hk₃ (fun b hb => List.mem_append_right _ hb) fun b hb => by
      have hw : b ∉ wr := fun q => (X.fp b (X.turns.sub b q)).2 (List.mem_append_left _ hb)
      obtain ⟨ob, e⟩ := S'.alive b (List.mem_append_right _ hb)
      exact ⟨ob, hk₃ b ob hw e⟩
    refine ⟨rfl, gk.trans (.of_eq ⟨_, _, rfl⟩), ?_, S₃, ys', n', hk₃ D _ hDw hD', ?_, ?_⟩
    · intro b o hb e
      obtain ⟨b1, ob', b2⟩ := bt b o e
      exact ⟨fun h => hk₃ b o hb (b1 fun q => (List.mem_append.mp q).elim hb h), ob', hk₃ b ob' hb b2⟩
    · rw [hout]
      exact RVs.mono (fun b o hb e => ⟨hk₃ b o (fun q => hb (List.mem_append_left _ (List.mem_append_left _ q))) e, fun q => hb ((List.mem_append.mp q).elim (fun q => List.mem_append_left _ (List.mem_append_right _ q)) fun q => List.mem_append_right _ q)⟩) outi hfi hys'
    · rw [hout]; exact hfi
end Mine

namespace Mine
open PySem PySem.W PySem.Builtin PySem.Builtin.Str

def rl (sc' sc : Scope) : Scope := { sc' with names := sc'.names.map fun (n, k) => if (k == .free && sc.kind == .function && sc.names.lookup n == some .cell) then (n, .cell) else (n, k) }
theorem relabel_eq {sc : Scope} {env : Env} (sc' : Scope) (E : env.scope = sc) : relabel sc' env = rl sc' sc := by subst E; rfl

def cloOf (cells : List (Str × Addr)) : List (Str × NameKind) → List (Str × Addr) → List (Str × Addr)
  | [], acc => acc
  | (n, k) :: r, acc => if k == .free then (match cells.lookup n with | some a => cloOf cells r ((n, a) :: acc) | none => cloOf cells r acc) else cloOf cells r acc
theorem closure_run {env : Env} : ∀ (names : List (Str × NameKind)) (acc : List (Str × Addr)), (∀ n, (n, NameKind.free) ∈ names → (env.cells.lookup n).isSome = true) →
    (forIn names acc fun (p : Str × NameKind) (cs : List (Str × Addr)) => (if p.2 == .free then (do let a ← cellOf env p.1; pure (ForInStep.yield ((p.1, a) :: cs))) else pure (ForInStep.yield cs) : Sem (ForInStep (List (Str × Addr))))) = (pure (cloOf env.cells names acc) : Sem _)
  | [], acc, _ => rfl
  | (n, k) :: r, acc, h => by
    rw [List.forIn_cons]
    have hr : ∀ n, (n, NameKind.free) ∈ r → (env.cells.lookup n).isSome = true := fun n hn => h n (List.mem_cons_of_mem _ hn)
    by_cases hk : (k == NameKind.free) = true
    · have e : k = .free := beq_iff_eq.mp hk
      obtain ⟨a, ha⟩ := Option.isSome_iff_exists.mp (h n (e ▸ List.mem_cons_self))
      have hc : cellOf env n = pure a := by unfold cellOf; rw [ha]
      simp only [hk, if_true, hc, pure_bind]
      rw [closure_run r _ hr]
      show _ = pure (if (k == NameKind.free) = true then _ else _)
      rw [if_pos hk, ha]
    · simp only [hk, if_false, pure_bind]
      rw [if_neg Bool.false_ne_true, pure_bind]
      show (forIn r acc _) = _
      rw [closure_run r _ hr]
      show _ = pure (if (k == NameKind.free) = true then _ else _)
      rw [if_neg hk]
theorem closureFor_eq {env : Env} (sc : Scope) (h : ∀ n, (n, NameKind.free) ∈ sc.names → (env.cells.lookup n).isSome = true) : closureFor sc env = pure (cloOf env.cells sc.names []) := by
  unfold closureFor
  have := closure_run (env := env) sc.names [] h
  simp only [bind_pure]
  refine Eq.trans ?_ this
  rfl
theorem cloOf_sub {cells : List (Str × Addr)} {p : Str × Addr} : ∀ {names : List (Str × NameKind)} {acc : List (Str × Addr)}, p ∈ cloOf cells names acc → p ∈ acc ∨ (p ∈ cells ∧ (p.1, NameKind.free) ∈ names)
  | [], _, h => .inl h
  | (n, k) :: r, acc, h => by
    unfold cloOf at h
    by_cases hk : (k == NameKind.free) = true
    · rw [if_pos hk] at h
      have e : k = .free := beq_iff_eq.mp hk
      cases hl : cells.lookup n with
      | none =>
        rw [hl] at h
        exact (cloOf_sub h).imp id fun h => ⟨h.1, List.mem_cons_of_mem _ h.2⟩
      | some a =>
        rw [hl] at h
        rcases cloOf_sub h with h | h
        · rcases List.mem_cons.mp h with rfl | h
          · exact .inr ⟨mem_of_lookup hl, e ▸ List.mem_cons_self⟩
          · exact .inl h
        · exact .inr ⟨h.1, List.mem_cons_of_mem _ h.2⟩
    · rw [if_neg hk] at h
      exact (cloOf_sub h).imp id fun h => ⟨h.1, List.mem_cons_of_mem _ h.2⟩
theorem cloOf_acc {cells : List (Str × Addr)} {p : Str × Addr} : ∀ {names : List (Str × NameKind)} {acc : List (Str × Addr)}, p ∈ acc → p ∈ cloOf cells names acc
  | [], _, h => h
  | (n, k) :: r, acc, h => by
    unfold cloOf
    split
    · split
      · exact cloOf_acc (List.mem_cons_of_mem _ h)
      · exact cloOf_acc h
    · exact cloOf_acc h
theorem cloOf_in {cells : List (Str × Addr)} {y : Str} {a : Addr} (hl : cells.lookup y = some a) : ∀ {names : List (Str × NameKind)} {acc : List (Str × Addr)}, (y, NameKind.free) ∈ names → (y, a) ∈ cloOf cells names acc
  | (n, k) :: r, acc, h => by
    unfold cloOf
    rcases List.mem_cons.mp h with e | h
    · cases e
      rw [if_pos (by rfl), hl]
      exact cloOf_acc List.mem_cons_self
    · split
      · split
        · exact cloOf_in hl h
        · exact cloOf_in hl h
      · exact cloOf_in hl h
theorem cloOf_names {cells : List (Str × Addr)} : ∀ {names : List (Str × NameKind)} {acc : List (Str × Addr)}, (names.map (·.1)).Nodup → (acc.map (·.1)).Nodup → (∀ p ∈ acc, p.1 ∉ names.map (·.1)) → ((cloOf cells names acc).map (·.1)).Nodup
  | [], _, _, h, _ => h
  | (n, k) :: r, acc, hn, ha, hd => by
    obtain ⟨h1, h2⟩ := List.nodup_cons.mp hn
    have hd' : ∀ p ∈ acc, p.1 ∉ r.map (·.1) := fun p hp hm => hd p hp (List.mem_cons_of_mem _ hm)
    unfold cloOf
    split
    · split
      · refine cloOf_names h2 (List.nodup_cons.mpr ⟨fun hm => ?_, ha⟩) fun p hp => ?_
        · obtain ⟨p, hp, e⟩ := List.mem_map.mp hm
          exact hd p hp (by rw [e]; exact List.mem_cons_self)
        · rcases List.mem_cons.mp hp with rfl | hp
          · exact h1
          · exact hd' p hp
      · exact cloOf_names h2 ha hd'
    · exact cloOf_names h2 ha hd'

inductive InVars (sc sc' : Scope) (ρ : Vars) : Vars → Prop
  | nil : InVars sc sc' ρ []
  | cons {y p r} : ρ.lookup y = some (.val p) → sc.names.lookup y = some .cell → (rl sc' sc).names.lookup y = some .cell → (y, NameKind.free) ∈ sc'.names → InVars sc sc' ρ r → InVars sc sc' ρ ((y, .val p) :: r)
theorem InVars.get {sc sc' : Scope} {ρ r : Vars} (h : InVars sc sc' ρ r) {y : Str} {e : VE} : r.lookup y = some e → ∃ p, e = .val p ∧ ρ.lookup y = some (.val p) ∧ sc.names.lookup y = some .cell ∧ (rl sc' sc).names.lookup y = some .cell ∧ (y, NameKind.free) ∈ sc'.names := by
  induction h with
  | nil => intro h; cases h
  | @cons z p r h1 h2 h3 h4 _ ih =>
    intro h
    rw [List.lookup_cons] at h
    by_cases q : (y == z) = true
    · rw [q] at h
      cases h
      rw [beq_iff_eq.mp q]
      exact ⟨p, rfl, h1, h2, h3, h4⟩
    · simp only [q] at h
      exact ih h

structure CompSc (sc sc' : Scope) : Prop where
  kind : sc'.kind = .function
  nocell : ∀ y ∈ sc'.names, y.2 ≠ .cell
  names : ∀ y ∈ sc'.names, y.2 = .local → sc'.names.lookup y.1 = some .local
  nodup : (sc'.names.map (·.1)).Nodup
  free : ∀ y ∈ sc'.names, y.2 = .free → sc.names.lookup y.1 = some .cell

def CompRuns (k : Nat) (sc : Scope) (elt : PySem.Expr) (gens : List Comprehension) (scope : Scope) (epos : Pos) (d : Nat) (target : PySem.Expr) (tt : Bool) (ps : List PV) (ρ : Vars) (out : List PV) (ρ' : Vars) : Prop :=
  ∀ {w : World} {A : Around} {env : Env} {h₀ : Heap} {F₀ : List Addr} {s : Shared} {out₀ : List PV} {I D : Addr} {fp wr : List Addr} {P Md : Nat → Value → Heap → Prop} {Stt : Nat → Heap → Prop} {ys : List Value} {n : Nat}, Room k A → EnvOK sc env → St w env h₀ (wr ++ F₀) [] ρ s.heap → D ∈ F₀ → D ∉ wr → D ∉ muts env [] → h₀.get? D = none →
    Drawn w A target tt (Fof env F₀ []) s.heap ps I fp wr P Md Stt → Stt 0 s.heap → (∀ b ∈ wr, h₀.get? b = none) → s.heap.get? D = some (lstObj ys n) → RVs w s.heap (Fof env (wr ++ F₀) []) out₀ ys → PV.frozens out₀ = true → out₀.length + out.length ≤ sizeLine →
    codeAny (model prg w) A (.compLoop (.ListComp elt gens scope epos) d (.ref I) (.ref D) env) (fun r s' => r = .ok .next ∧ GK false s s' ∧ (∀ b o, b ∉ wr → s.heap.get? b = some o → (b ∉ [D, env.locals] → s'.heap.get? b = some o) ∧ ∃ o', s'.heap.get? b = some o') ∧ St w env h₀ F₀ [] ρ' s'.heap ∧
      ∃ ys' n', s'.heap.get? D = some (lstObj ys' n') ∧ RVs w s'.heap (Fof env F₀ []) (out₀ ++ out) ys' ∧ PV.frozens (out₀ ++ out) = true) s

section
variable {k : Nat} {sc sc' : Scope} {ρ ρin : Vars}
/-- a list comprehension up to where its names are let go -/
theorem comp_core {elt target iter : PySem.Expr} {ifs : List PySem.Expr} {gens : List Comprehension} {epos fpos : Pos} {tt : Bool} {ps out : List PV} {ρ' : Vars} {use : Option (Value → Sem Unit)} {w : World} {A : Around} {env : Env} {h₀ : Heap} {F₀ : List Addr} {own : List (Str × Addr)} {s : Shared} {Q : Value → Shared → Prop}
    (hsc : CompSc sc sc') (hi : EvIt k sc ρ target tt iter ps) (hin : InVars sc sc' ρ ρin) (run : CompRuns k (rl sc' sc) elt (⟨target, iter, ifs, 0⟩ :: gens) sc' epos 0 target tt ps ρin out ρ') (hs : ∀ env x, foldedSetIterable iter env x = pure x) (hsz : out.length ≤ sizeLine)
    (R : Room k A) (E : EnvOK sc env) (hfree : ∀ n, (n, NameKind.free) ∈ sc'.names → (env.cells.lookup n).isSome = true) (S : St w env h₀ F₀ own ρ s.heap)
    (hq : ∀ D L m s' ys n, GK false s s' → Up s.heap s'.heap → s.heap.get? D = none → s.heap.get? L = none → D ≠ L → s'.heap.Ns L m → s'.heap.get? D = some (lstObj ys n) → RVs w s'.heap (L :: Fof env F₀ own) out ys → PV.frozens out = true → compPost (model prg w) A NoE use Q (.ref D) L (.ok .next) s') :
    wpAny (model prg w) A (comprehension (.ListComp elt (⟨target, iter, ifs, 0⟩ :: gens) sc' epos) sc' env fpos (newList []) false (eval iter env) use) Q NoE s := by
  refine wpAny_comprehension_free (use := use) rfl (hs env) (closureFor_eq sc' hfree) hsc.kind hsc.names ?_
  refine wpAny_mono (hi R E S) (fun v s₁ h₁ => wpAny_mono h₁ (fun it s₂ h₂ => ?_) fun _ _ x => x) fun _ _ x => x
  obtain ⟨k₂, I, fp, wr, P, Md, Stt, rfl, W, st0, hfp, hwr, hlv, hself, hit⟩ := h₂
  have u2 := k₂.up
  refine wpAny_newObj_type (wpAny_newFunctionEnv hsc.nocell (by intro y hy; simp at hy) (fun h₁ hns₁ hsb₁ => ?_) hsc.kind)
  dsimp only at hns₁ hsb₁ ⊢
  generalize hH2 : s₂.heap.push { cls := .type "list", dict := none, data := .seq ([] : List Value).toArray } = H2 at hns₁ hsb₁ ⊢
  have hLs : H2.objs.size = s₂.heap.objs.size + 1 := by rw [← hH2, Heap.size_push]
  generalize hLe : H2.objs.size = L at hns₁ hsb₁ ⊢
  generalize hDe : s₂.heap.objs.size = D at hLs ⊢
  rw [hLe] at hLs
  have fresh2 : ∀ a, D ≤ a → s₂.heap.get? a = none := fun a ha => by
    cases e : s₂.heap.get? a with
    | none => rfl
    | some o' => exact absurd (Heap.lt_size e) (Nat.not_lt.mpr (hDe ▸ ha))
  have fresh0 : ∀ a, D ≤ a → s.heap.get? a = none := fun a ha => by
    cases e : s.heap.get? a with
    | none => rfl
    | some o' => have := u2 _ _ e; rw [fresh2 a ha] at this; cases this
  have hDL : D ≠ L := by rw [hLs]; exact Nat.ne_of_lt (Nat.lt_succ_self _)
  have hL2 : s₂.heap.get? L = none := fresh2 L (by rw [hLs]; exact Nat.le_succ _)
  have hL0 : s.heap.get? L = none := fresh0 L (by rw [hLs]; exact Nat.le_succ _)
  have hD2 : s₂.heap.get? D = none := fresh2 D (Nat.le_refl _)
  have hD0 : s.heap.get? D = none := fresh0 D (Nat.le_refl _)
  have up1 : Up s₂.heap h₁ := fun b o e => hsb₁.extBut b o (fun q => by rw [q, hL2] at e; cases e) (Heap.get?_push_of_some _ (hH2 ▸ Heap.get?_push_of_some _ e))
  have hDh : h₁.get? D = some (lstObj [] 0) := hsb₁.extBut _ _ hDL (Heap.get?_push_of_some _ (hH2 ▸ hDe ▸ Heap.get?_push_size _ rfl))
  have u01 : Up s.heap h₁ := fun b o e => up1 _ _ (u2 _ _ e)
  have hlive := S.live
  have hDF : D ∉ Fof env F₀ own := Live.none hlive hD0
  have hLF : L ∉ Fof env F₀ own := Live.none hlive hL0
  have hwrF : ∀ b ∈ wr, b ∉ Fof env F₀ own := fun b hb => Live.none hlive (hwr b hb)
  have hh0 : ∀ b, s.heap.get? b = none → h₀.get? b = none := fun b hb => by
    cases e : h₀.get? b with
    | none => rfl
    | some o => rw [S.keep _ _ e] at hb; cases hb
  -- the environment of the comprehension
  generalize hce : ({ newEnv sc' L env.globals (cloOf env.cells sc'.names []) env.qual none .none (some env) 0 with scope := relabel sc' env } : Env) = cenv
  have ecs : cenv.scope = rl sc' sc := by rw [← hce]; exact relabel_eq sc' E.scope
  have ecl : cenv.locals = L := by rw [← hce]; rfl
  have ecc : cenv.cells = cloOf env.cells sc'.names [] := by rw [← hce]; rfl
  have hE : EnvOK (rl sc' sc) cenv := ⟨ecs, hsc.kind, by rw [← hce]; exact E.globals, by rw [← hce]; exact E.builtins⟩
  have hcsub : ∀ p ∈ cenv.cells, p ∈ env.cells := fun p hp => by
    rw [ecc] at hp
    rcases cloOf_sub hp with h | h
    · cases h
    · exact h.1
  have hcn : (cenv.cells.map (·.1)).Nodup := by rw [ecc]; exact cloOf_names hsc.nodup List.nodup_nil (fun _ h => nomatch h)
  have hcD : ∀ p ∈ cenv.cells, p.2 ≠ D ∧ p.2 ≠ L := fun p hp => by
    obtain ⟨v, o, ho, _⟩ := S.cells p (hcsub p hp)
    exact ⟨fun q => (by rw [q, hD0] at ho; cases ho), fun q => (by rw [q, hL0] at ho; cases ho)⟩
  have mem_m : ∀ b, b ∈ muts cenv [] → b = L ∨ b ∈ env.cells.map (·.2) := fun b hb => by
    rcases List.mem_cons.mp hb with q | hb
    · exact .inl (q.trans ecl)
    · rw [List.map_nil, List.append_nil] at hb
      obtain ⟨p, hp, e⟩ := List.mem_map.mp hb
      exact .inr (e ▸ List.mem_map_of_mem (hcsub p hp))
  have hFin : ∀ b, b ∈ Fof cenv (wr ++ (D :: Fof env F₀ own)) [] → b ∈ wr ∨ b = D ∨ b = L ∨ b ∈ Fof env F₀ own := fun b hb => by
    rcases List.mem_append.mp hb with hb | hb
    · rcases List.mem_append.mp hb with hb | hb
      · exact .inl hb
      · rcases List.mem_cons.mp hb with hb | hb
        · exact .inr (.inl hb)
        · exact .inr (.inr (.inr hb))
    · rcases mem_m b hb with q | q
      · exact .inr (.inr (.inl q))
      · exact .inr (.inr (.inr (List.mem_append_right _ (List.mem_cons_of_mem _ (List.mem_append_left _ q)))))
  have fk : ∀ b o, b ∉ Fof env F₀ own → s.heap.get? b = some o → h₁.get? b = some o ∧ b ∉ Fof cenv (wr ++ (D :: Fof env F₀ own)) [] := fun b o hb e => ⟨u01 b o e, fun hm => by
    rcases hFin b hm with q | q | q | q
    · rw [hwr b q] at e; cases e
    · rw [q, hD0] at e; cases e
    · rw [q, hL0] at e; cases e
    · exact hb q⟩
  have S₁ : St w cenv h₀ (wr ++ (D :: Fof env F₀ own)) [] ρin h₁ := by
    refine ⟨S.base, fun b o e => u01 b o (S.keep b o e), fun b hb => ?_, ⟨_, by rw [ecl]; exact hns₁⟩, fun p hp => ?_, (fun _ hp => nomatch hp), fun b hb => ?_, (fun _ hp => nomatch hp), ?_, fun y e hy => ?_⟩
    · rcases List.mem_append.mp hb with hb | hb
      · obtain ⟨o, e⟩ := hlv 0 _ st0 b hb
        exact ⟨o, up1 _ _ e⟩
      · rcases List.mem_cons.mp hb with hb | hb
        · exact ⟨_, hb ▸ hDh⟩
        · obtain ⟨o, e⟩ := hlive b hb
          exact ⟨o, u01 _ _ e⟩
    · obtain ⟨v, c⟩ := S.cells p (hcsub p hp)
      exact ⟨v, c.keeps u01⟩
    · rcases mem_m b hb with q | q
      · rw [q]; exact hh0 L hL0
      · exact S.fresh b (List.mem_cons_of_mem _ (List.mem_append_left _ q))
    · refine List.nodup_cons.mpr ⟨fun hm => ?_, ?_⟩
      · rw [List.map_nil, List.append_nil] at hm
        obtain ⟨p, hp, e⟩ := List.mem_map.mp hm
        exact (hcD p hp).2 (e.trans ecl)
      · rw [List.map_nil, List.append_nil]
        refine List.pairwise_map.mpr ?_
        have hp := List.pairwise_map.mp hcn
        refine List.Pairwise.imp_of_mem ?_ hp
        intro a b ha hb hne hab
        exact hne (S.cellName (c := a.2) (hcsub a ha) (by rw [hab]; exact hcsub b hb))
    · obtain ⟨p, rfl, h1, h2, h3, h4⟩ := hin.get hy
      obtain ⟨f, v, sl, rv⟩ := S.vars y _ h1
      refine ⟨f, v, ?_, RV.mono fk p f rv⟩
      have ek : env.kindOf y = some .cell := by show env.scope.names.lookup y = _; rw [E.scope]; exact h2
      rcases sl with ⟨e, _⟩ | ⟨_, c, hc, hcell⟩
      · rw [ek] at e; cases e
      · refine .inr ⟨.inl (by show cenv.scope.names.lookup y = _; rw [ecs]; exact h3), c, ?_, hcell.keeps u01⟩
        exact PyProof.Rows.lookup_of_mem_nodup hcn (by rw [ecc]; exact cloOf_in hc h4)
  have hDm : D ∉ muts cenv [] := fun hm => by
    rcases mem_m D hm with q | q
    · exact hDL q
    · exact hDF (List.mem_append_right _ (List.mem_cons_of_mem _ (List.mem_append_left _ q)))
  have hDw : D ∉ wr := fun hm => by
    obtain ⟨o, e⟩ := hlv 0 _ st0 D hm
    rw [hD2] at e; cases e
  have X : Drawn w A target tt (Fof cenv (D :: Fof env F₀ own) []) h₁ ps I fp wr P Md Stt := by
    refine ⟨W, fun b hb => ?_, hlv, fun i v h p F' hP hp hk => hit i v h p F' hP hp fun b o hbF hbw e => hk b o (fun hm => ?_) hbw (up1 _ _ e)⟩
    · obtain ⟨⟨o, e⟩, hF⟩ := hfp b hb
      refine ⟨⟨o, up1 _ _ e⟩, fun hm => ?_⟩
      rcases List.mem_append.mp hm with q | q
      · rcases List.mem_cons.mp q with q | q
        · rw [q, hD2] at e; cases e
        · exact hF q
      · rcases mem_m b q with q | q
        · rw [q, hL2] at e; cases e
        · exact hF (List.mem_append_right _ (List.mem_cons_of_mem _ (List.mem_append_left _ q)))
    · rcases List.mem_append.mp hm with q | q
      · rcases List.mem_cons.mp q with q | q
        · rw [q, hD2] at e; cases e
        · exact hbF q
      · rcases mem_m b q with q | q
        · rw [q, hL2] at e; cases e
        · exact hbF (List.mem_append_right _ (List.mem_cons_of_mem _ (List.mem_append_left _ q)))
  have st1 : Stt 0 h₁ := W.frame _ _ _ st0 fun b _ o e => up1 _ _ e
  have loop := run (w := w) (A := A) (env := cenv) (h₀ := h₀) (s := { s₂ with heap := h₁, toks := s₂.toks + ([] : List (Str × Value)).length }) (out₀ := []) (ys := []) R hE S₁ List.mem_cons_self hDw hDm (hh0 D hD0) X st1 (fun b hb => hh0 b (hwr b hb)) hDh rfl rfl (by simpa using hsz)
  have post := codeAny_mono (R' := compPost (model prg w) A NoE use Q (.ref D) L) loop fun r s' h => by
    obtain ⟨rfl, gk, bt, S', ys', n', hD', hys', hf'⟩ := h
    obtain ⟨m, hm⟩ := S'.ns
    rw [ecl] at hm
    refine hq D L m s' ys' n' ((GK.of_kp k₂).trans ((GK.of_kp (Kp.both s₂ up1)).trans gk)) (fun b o e => (bt b o (fun q => by rw [hwr b q] at e; cases e) (u01 _ _ e)).1 fun q => ?_) hD0 hL0 hDL hm hD' ?_ hf'
    · rcases List.mem_cons.mp q with q | q
      · rw [q, hD0] at e; cases e
      · rw [List.mem_singleton.mp q, ecl, hL0] at e; cases e
    · exact RVs.weak (fun b hb hm => hb (by
        rcases List.mem_cons.mp hm with q | q
        · rw [q, ← ecl]; exact List.mem_append_right _ mem_locals
        · exact List.mem_append_left _ (List.mem_cons_of_mem _ q))) _ hys'
  subst hce
  rw [← hDe] at post ⊢
  have post' := post
  exact codeAny_compStart_list post (hself _ _ _ (by exact st1) post')
end
end Mine

namespace Mine
open PySem PySem.W PySem.Builtin PySem.Builtin.Str

theorem St.cellOf {sc : Scope} {w : World} {env : Env} {h₀ : Heap} {F₀ : List Addr} {own : List (Str × Addr)} {ρ : Vars} {h : Heap} (S : St w env h₀ F₀ own ρ h) (E : EnvOK sc env) {n : Str} (hc : sc.names.lookup n = some .cell) (hb : (ρ.lookup n).isSome = true) : (env.cells.lookup n).isSome = true := by
  obtain ⟨e, he⟩ := Option.isSome_iff_exists.mp hb
  have hk : env.kindOf n = some .cell := by show env.scope.names.lookup n = _; rw [E.scope]; exact hc
  have key : ∀ v, SlotIs env h n v → (env.cells.lookup n).isSome = true := fun v sl => by
    rcases sl with ⟨e, _⟩ | ⟨_, c, hc, _⟩
    · rw [hk] at e; cases e
    · rw [hc]; rfl
  have X := S.vars n e he
  cases e with
  | val p => obtain ⟨_, v, sl, _⟩ := X; exact key v sl
  | own l => obtain ⟨a, vs, m, sl, _⟩ := X; exact key _ sl
  | ownR R => obtain ⟨a, o, sl, _⟩ := X; exact key _ sl
section
variable {k : Nat} {sc sc' : Scope} {ρ ρin : Vars}
theorem Ev.comp {elt target iter : PySem.Expr} {ifs : List PySem.Expr} {gens : List Comprehension} {epos : Pos} {tt : Bool} {ps out : List PV} {ρ' : Vars} (hsc : CompSc sc sc') (hbound : ∀ n, (n, NameKind.free) ∈ sc'.names → (ρ.lookup n).isSome = true) (hi : EvIt k sc ρ target tt iter ps) (hin : InVars sc sc' ρ ρin)
    (run : CompRuns k (rl sc' sc) elt (⟨target, iter, ifs, 0⟩ :: gens) sc' epos 0 target tt ps ρin out ρ') (hs : ∀ env x, foldedSetIterable iter env x = pure x) (hsz : out.length ≤ sizeLine) : Ev k sc ρ (.ListComp elt (⟨target, iter, ifs, 0⟩ :: gens) sc' epos) (.list out) := fun {w A env h₀ F₀ own s} R E S => by
  rw [eval_ListComp]
  refine comp_core (use := Option.none) hsc hi hin run hs hsz R E (fun n hn => S.cellOf E (hsc.free _ hn rfl) (hbound n hn)) S fun D L m s' ys n gk u hD hL hDL hm hD' hys hf => ?_
  refine ⟨m, hm, fun h' hs' => ?_⟩
  have u' : Up s.heap h' := fun b o e => hs'.extBut b o (fun q => by rw [q, hL] at e; cases e) (u _ _ e)
  refine ⟨(gk.trans (.of_eq ⟨h', _, rfl⟩)).kp u', D, ys, n, rfl, Live.none S.live hD, hs'.extBut _ _ hDL hD', ?_⟩
  exact RVs.mono (fun b o hb e => ⟨hs'.extBut b o (fun q => hb (by rw [q]; exact List.mem_cons_self)) e, fun q => hb (List.mem_cons_of_mem _ q)⟩) out hf hys

/-- x = [...] where the store comes ahead of the letting go -/
theorem Ex1.assignComp {g : Bool} {x : Str} {xp spos : Pos} {elt target iter : PySem.Expr} {ifs : List PySem.Expr} {gens : List Comprehension} {epos : Pos} {tt : Bool} {ps out : List PV} {ρ' : Vars} (hx : sc.names.lookup x = some .local) (hsc : CompSc sc sc') (hi : EvIt k sc ρ target tt iter ps) (hin : InVars sc sc' ρ ρin)
    (run : CompRuns k (rl sc' sc) elt (⟨target, iter, ifs, 0⟩ :: gens) sc' epos 0 target tt ps ρin out ρ') (hs : ∀ env x, foldedSetIterable iter env x = pure x) (hsz : out.length ≤ sizeLine)
    (hsw : ∀ env : Env, env.scope = sc → swapsWith (.ListComp elt (⟨target, iter, ifs, 0⟩ :: gens) sc' epos) (some (.Name x xp)) spos.line env = pure true) :
    Ex1 g k sc ρ (.Assign [.Name x xp] (.ListComp elt (⟨target, iter, ifs, 0⟩ :: gens) sc' epos) spos) (.next ((x, .val (.list out)) :: ρ)) := fun {w A env h₀ F₀ own s} R E C S => by
  rw [exec_Assign_Name_used _ _ _ _ (hsw env E.scope)]
  refine wpAny_bind (wpAny_standAt (wpAny_bind ?_))
  show wpAny _ A (do let _ ← comprehension (.ListComp elt (⟨target, iter, ifs, 0⟩ :: gens) sc' epos) sc' env _ (newList []) false (eval iter env) (some (PySem.assign (.Name x xp) env))) _ _ s
  refine wpAny_bind (comp_core (use := some (PySem.assign (.Name x xp) env)) hsc hi hin run hs hsz R E (fun n hn => C n (hsc.free _ hn rfl)) S fun D L m s' ys n gk u hD hL hDL hm hD' hys hf => ?_)
  show wpAny _ A (PySem.assign (.Name x xp) env (.ref D)) _ _ _
  obtain ⟨oL, hoL⟩ : ∃ o, s'.heap.get? L = some o := let ⟨o, _, _, ho, _⟩ := hm; ⟨o, ho⟩
  have S' := S.forbid u (wr := [L]) (fun b hb => by rw [List.mem_singleton.mp hb]; exact hL) fun b hb => ⟨oL, by rw [List.mem_singleton.mp hb]; exact hoL⟩
  have hLm : L ∉ muts env own := fun hm' => Live.none S.live hL (List.mem_append_right _ hm')
  have hDm : D ∉ muts env own := fun hm' => Live.none S.live hD (List.mem_append_right _ hm')
  refine wpAny_assign_Name (S'.storeL E hx fun s₂ he hs₂ hl S₂ sl => ?_)
  have hLL : L ≠ env.locals := fun q => hLm (q ▸ mem_locals)
  refine ⟨m, hm.sameBut hs₂ hLL, fun h' hs' => wpAny_pure (wpAny_pure ?_)⟩
  have hk := But.of_locals hs₂ hl
  have f12 : ∀ b o, b ∉ L :: Fof env F₀ own → s'.heap.get? b = some o → h'.get? b = some o ∧ b ∉ Fof env F₀ own := fun b o hb e =>
    ⟨hs'.extBut b o (fun q => hb (by rw [q]; exact List.mem_cons_self)) ((hk b o e).1 fun q => hb (List.mem_cons_of_mem _ (List.mem_append_right _ (by rw [List.mem_singleton.mp q]; exact mem_locals)))), fun q => hb (List.mem_cons_of_mem _ q)⟩
  have kk : ∀ b o, b ∉ [L] → s₂.heap.get? b = some o → h'.get? b = some o := fun b o hb e => hs'.extBut b o (fun q => hb (by rw [q]; simp)) e
  have S₃ : St w env h₀ F₀ own (ρ.filter fun p => p.1 != x) h' := S₂.change (M := [L]) (fun b hb => List.mem_append_left _ hb) (fun b hb => by
      rw [List.mem_singleton.mp hb]
      cases e : h₀.get? L with
      | none => rfl
      | some o => rw [S.keep _ _ e] at hL; cases hL) (fun b hb => by rw [List.mem_singleton.mp hb]; exact hLm) kk (fun b hb => List.mem_append_right _ hb) fun b hb => by
    obtain ⟨o, e⟩ := S₂.alive b (List.mem_append_right _ hb)
    have hbL : b ≠ L := fun q => by
      obtain ⟨o', e'⟩ := S.alive b hb
      rw [q, hL] at e'; cases e'
    exact ⟨o, hs'.extBut b o hbL e⟩
  have sl' : SlotIs env h' x (.ref D) := by
    rcases sl with ⟨a, m₀, n₀, e⟩ | ⟨a, _⟩
    · exact .inl ⟨a, m₀, n₀.sameBut hs' (Ne.symm hLL), e⟩
    · have : env.kindOf x = some .local := by show env.scope.names.lookup x = _; rw [E.scope]; exact hx
      rw [this] at a
      rcases a with a | a
      · cases a
      · cases a.1
  have r' : RV w h' (Fof env F₀ own) (.list out) (.ref D) := ⟨D, ys, n, rfl, Live.none S.live hD, (f12 D _ (fun q => by
    rcases List.mem_cons.mp q with q | q
    · exact hDL q
    · exact Live.none S.live hD q) hD').1, RVs.mono f12 out hf hys⟩
  refine .next ((gk.wide.trans (.of_eq he)).trans (.of_eq ⟨h', _, rfl⟩)) (fun b o e => ?_) (.refl _ _) (S₃.addVal sl' hf r')
  have hbL : b ≠ L := fun q => by rw [q, hL] at e; cases e
  refine ⟨fun hb => hs'.extBut b o hbL ((hk b o (u _ _ e)).1 fun q => hb (by rw [List.mem_singleton.mp q]; exact mem_locals)), ?_⟩
  obtain ⟨o', e'⟩ := (hk b o (u _ _ e)).2
  exact ⟨o', hs'.extBut b o' hbL e'⟩

theorem Ex1.assignC {g : Bool} {x : Str} {xp pos : Pos} {value : PySem.Expr} {p : PV} (hx : Stb sc x) (hs : ∀ env : Env, env.scope = sc → swapsWith value (some (.Name x xp)) pos.line env = pure false) (hv : Ev k sc ρ value p) (hf : p.frozen = true) : Ex1 g k sc ρ (.Assign [.Name x xp] value pos) (.next ((x, .val p) :: ρ)) := fun {w A env h₀ F₀ own s} R E C S => by
  refine wpAny_Assign_Name ((hv R E S).bind fun v s₁ k₁ r => ?_) (hs env E.scope)
  refine (S.up k₁.up).store E rfl (hx.at C) fun s' he hk _ S' sl => ?_
  have r' : RV w s'.heap (Fof env F₀ own) p v := RV.mono (fun b o hb e => ⟨(hk b o e).1 (fun q => hb (List.mem_append_right _ q)), hb⟩) p hf r
  exact .next ((GK.of_kp k₁).trans (.of_eq he)) (But.up_after k₁.up hk) (.refl _ _) (S'.addVal sl hf r')

theorem Sub.skip {ρ : Vars} {x : Str} {e : VE} (h : ρ.lookup x = none) : Sub ρ ((x, e) :: ρ) := fun y e' hy => by
  rw [List.lookup_cons]
  by_cases q : (y == x) = true
  · rw [beq_iff_eq.mp q, h] at hy; cases hy
  · simp only [q]; exact hy
theorem Sub.trans {a b c : Vars} (x : Sub a b) (y : Sub b c) : Sub a c := fun n e h => y n e (x n e h)

theorem CRun.one {target elt iter : PySem.Expr} {tt : Bool} {ifs : List PySem.Expr} {ps out : List PV} {ρ ρ' : Vars} {epos : Pos} {scope : Scope} (h : CRun k sc target tt ifs elt ps ρ out ρ') : CompRuns k sc elt [⟨target, iter, ifs, 0⟩] scope epos 0 target tt ps ρ out ρ' :=
  fun R E S a b c d X st hw hD hys hf hs => emit_loop (EmitTurn.one elt target iter ifs scope epos) R E S a b c d X st hw hD hys hf hs h
end
end Mine

namespace Mine
open PySem PySem.W PySem.Builtin PySem.Builtin.Str

theorem compStart_two {prog : Program} {w : World} {A : Around} {R : Result → Shared → Prop} {s : Shared} {elt t0 i0 t1 i1 : PySem.Expr} {ifs0 ifs : List PySem.Expr} {scope : Scope} {pos : Pos} {it acc : Value} {env : Env}
    (h0 : codeAny (model prog w) A (.compLoop (.ListComp elt [⟨t0, i0, ifs0, 0⟩, ⟨t1, i1, ifs, 0⟩] scope pos) 1 it acc env) R s)
    (h : wpAny (model prog w) A (pyIter it) (fun it' s' => codeAny (model prog w) A (.compLoop (.ListComp elt [⟨t0, i0, ifs0, 0⟩, ⟨t1, i1, ifs, 0⟩] scope pos) 1 it' acc env) R s')
      (notedBy (model prog w) A env fun x s' => R (.error x) s') s) :
    codeAny (model prog w) A (.compStart (.ListComp elt [⟨t0, i0, ifs0, 0⟩, ⟨t1, i1, ifs, 0⟩] scope pos) 1 it acc env) R s := by
  refine codeAny_of_tree ?_
  show wpAny _ _ ((compStart (.ListComp elt [⟨t0, i0, ifs0, 0⟩, ⟨t1, i1, ifs, 0⟩] scope pos) 1 it acc env).onRaise (fun x => do noteFrame x env; standAt theWindowsPlace)) _ _ s
  refine wpAny_notedAt ?_
  unfold compStart
  show wpAny _ _ (ask >>= _) _ _ s
  refine wpAny_bind (wpAny_askSetting (wpAny_ite ?_))
  split
  · first
      | exact wpAny_bind (wpAny_pure (wpAny_pure (And.intro rfl h0)))
      | exact wpAny_pure (And.intro rfl h0)
  · first
      | exact wpAny_bind (wpAny_rule (wpAny_bind (wpAny_standAt (wpAny_bind (wpAny_mono h (fun it' s' h' => wpAny_pure (And.intro rfl h')) fun _ _ x => x)))))
      | (refine wpAny_bind (wpAny_rule ?_); show wpAny _ _ (standAt i1.pos >>= _) _ _ s; exact wpAny_bind (wpAny_standAt (wpAny_bind (wpAny_mono h (fun it' s' h' => wpAny_pure (And.intro rfl h')) fun _ _ x => x))))

inductive NRun (k : Nat) (sc : Scope) (t0 : PySem.Expr) (tt0 : Bool) (t1 : PySem.Expr) (tt1 : Bool) (i1 : PySem.Expr) (ifs : List PySem.Expr) (elt : PySem.Expr) : List PV → Vars → List PV → Vars → Prop
  | nil {ρ} : NRun k sc t0 tt0 t1 tt1 i1 ifs elt [] ρ [] ρ
  | cons {ρ ρ₁ ρ₂ ρ₃ ρ' p ps ps1 out1 out2} : AsgL sc t0 tt0 p ρ ρ₁ → EvIt k sc ρ₁ t1 tt1 i1 ps1 → CRun k sc t1 tt1 ifs elt ps1 ρ₁ out1 ρ₂ → Sub ρ₃ ρ₂ → NRun k sc t0 tt0 t1 tt1 i1 ifs elt ps ρ₃ out2 ρ' → NRun k sc t0 tt0 t1 tt1 i1 ifs elt (p :: ps) ρ (out1 ++ out2) ρ'

theorem nest_loop {k : Nat} {sc : Scope} {elt t0 i0 t1 i1 : PySem.Expr} {scope : Scope} {epos : Pos} {ifs : List PySem.Expr} {tt0 tt1 : Bool} {ρ ρ' : Vars} {ps out : List PV} (hfs : ∀ env x, foldedSetIterable i1 env x = pure x) (run : NRun k sc t0 tt0 t1 tt1 i1 ifs elt ps ρ out ρ') :
    CompRuns k sc elt [⟨t0, i0, [], 0⟩, ⟨t1, i1, ifs, 0⟩] scope epos 0 t0 tt0 ps ρ out ρ' := fun {w A env h₀ F₀ s out₀ I D fp wr P Md Stt ys n} R E S hDF hDw hDm hD0 X st0 hwr0 hD hys hf₀ hsz => by
  have hDL : D ≠ env.locals := fun q => hDm (q ▸ mem_locals)
  have hfpL : ∀ b ∈ fp, b ≠ env.locals := fun b hb q => (X.fp b hb).2 (q ▸ List.mem_append_right _ mem_locals)
  have hfpD : ∀ b ∈ fp, b ≠ D := fun b hb q => (X.fp b hb).2 (q ▸ List.mem_append_left _ hDF)
  have hwm : ∀ b ∈ wr, b ∉ muts env [] := fun b hb q => (X.fp b (X.turns.sub b hb)).2 (List.mem_append_right _ q)
  refine codeAny_loop rfl (fun m s' => ∃ i ρi outi outr ys' n', m = ps.length - i ∧ i ≤ ps.length ∧ NRun k sc t0 tt0 t1 tt1 i1 ifs elt (ps.drop i) ρi outr ρ' ∧ out₀ ++ out = outi ++ outr ∧ PV.frozens outi = true ∧ St w env h₀ (wr ++ F₀) [] ρi s'.heap ∧ Stt i s'.heap ∧
    s'.heap.get? D = some (lstObj ys' n') ∧ RVs w s'.heap (Fof env (wr ++ F₀) []) outi ys' ∧ GK false s s' ∧ But (wr ++ [D, env.locals]) s.heap s'.heap) (fun m s' hI => ?_) ps.length
    ⟨0, ρ, out₀, out, ys, n, rfl, Nat.zero_le _, run, rfl, hf₀, S, st0, hD, hys, .refl _ _, .of_up fun _ _ e => e⟩
  obtain ⟨i, ρi, outi, outr, ys', n', rfl, hile, hC, hout, hfi, S', st', hD', hys', gk, bt⟩ := hI
  show wpAny _ _ ((compTurn (.ListComp elt [⟨t0, i0, [], 0⟩, ⟨t1, i1, ifs, 0⟩] scope epos) 0 (.ref I) (.ref D) env).onRaise (fun x => do noteFrame x env; theTreesLotGoes x)) _ _ s'
  refine wpAny_noted ?_
  unfold compTurn
  have wDL : ∀ b, b ∉ wr ++ [D, env.locals] → b ∉ wr ∧ b ≠ D ∧ b ≠ env.locals := fun b hb => ⟨fun q => hb (List.mem_append_left _ q), fun q => hb (List.mem_append_right _ (by rw [q]; simp)), fun q => hb (List.mem_append_right _ (by rw [q]; simp))⟩
  by_cases hlt : i < ps.length
  · have hdrop : ps.drop i = ps[i] :: ps.drop (i + 1) := List.drop_eq_getElem_cons hlt
    rw [hdrop] at hC
    refine wpAny_bind (wpAny_standAt (wpAny_bind (X.turns.item i _ _ _ hlt st' fun v h₃ tk₃ hMd hk₃ => ?_)))
    refine wpAny_bind (X.turns.go i v _ _ _ hMd fun h₄ hP st₄ hk₄ => ?_)
    have hk : ∀ b ob, b ∉ wr → s'.heap.get? b = some ob → h₄.get? b = some ob := fun b ob hb e => hk₄ b ob hb (hk₃ b ob hb e)
    have S₄ : St w env h₀ (wr ++ F₀) [] ρi h₄ := S'.beside hwr0 hwm hk (fun _ h => h) fun b hb => by
      by_cases q : b ∈ wr
      · exact X.live _ _ st₄ b q
      · obtain ⟨ob, e⟩ := S'.alive b hb
        exact ⟨ob, hk b ob q e⟩
    have g4 : GK false s { s' with heap := h₄, toks := tk₃ } := gk.trans (.of_eq ⟨_, _, rfl⟩)
    have bt₄ : But (wr ++ [D, env.locals]) s.heap h₄ := fun b ob e => by
      obtain ⟨b1, ob', b2⟩ := bt b ob e
      by_cases q : b ∈ wr
      · exact ⟨fun hb => ((wDL b hb).1 q).elim, X.live _ _ st₄ b q⟩
      · exact ⟨fun hb => hk b ob q (b1 hb), ob', hk b ob' q b2⟩
    have hD₄ : h₄.get? D = some (lstObj ys' n') := hk D _ hDw hD'
    have hys₄ : RVs w h₄ (Fof env (wr ++ F₀) []) outi ys' := RVs.mono (fun b o hb e => ⟨hk b o (fun q => hb (List.mem_append_left _ (List.mem_append_left _ q))) e, hb⟩) outi hfi hys'
    have item : ItemR w tt0 h₄ (Fof env (wr ++ F₀) []) ps[i] v := X.item i v h₄ ps[i] _ hP (List.getElem?_eq_getElem hlt) fun b ob hbF hbw e => ⟨(bt₄ b ob e).1 fun q => by
        rcases List.mem_append.mp q with q | q
        · exact hbw q
        · rcases List.mem_cons.mp q with q | q
          · exact hbF (q ▸ List.mem_append_left _ hDF)
          · exact hbF (List.mem_singleton.mp q ▸ List.mem_append_right _ mem_locals), fun q => by
      rcases List.mem_append.mp q with q | q
      · rcases List.mem_append.mp q with q | q
        · exact hbw q
        · exact hbF (List.mem_append_left _ q)
      · exact hbF (List.mem_append_right _ q)⟩
    have after : ∀ {ρ₁} {s₅ : Shared}, GK false { s' with heap := h₄, toks := tk₃ } s₅ → But [env.locals] h₄ s₅.heap → St w env h₀ (wr ++ F₀) [] ρ₁ s₅.heap → GK false s s₅ ∧ But (wr ++ [D, env.locals]) s.heap s₅.heap ∧ Stt (i + 1) s₅.heap ∧ s₅.heap.get? D = some (lstObj ys' n') ∧ RVs w s₅.heap (Fof env (wr ++ F₀) []) outi ys' := fun {ρ₁ s₅} gk5 bt5 S5 => by
      refine ⟨g4.trans gk5, bt₄.trans (bt5.mono fun b hb => by rw [List.mem_singleton.mp hb]; simp), X.turns.frame _ _ _ st₄ fun b hb ob e => (bt5 b ob e).1 fun q => hfpL b hb (List.mem_singleton.mp q), (bt5 D _ hD₄).1 fun q => hDL (List.mem_singleton.mp q), ?_⟩
      exact RVs.mono (fun b o hb e => ⟨(bt5 b o e).1 fun q => hb (List.mem_append_right _ (by rw [List.mem_singleton.mp q]; exact mem_locals)), hb⟩) outi hfi hys₄
    cases hC with
    | @cons _ ρ₁ ρ₂ ρ₃ _ _ _ ps1 out1 out2 ha hi hr hsub hrest =>
      refine wpAny_bind (wpAny_mono (ha R E S₄ item) (fun _ s₅ h₅ => ?_) fun _ _ x => x.elim)
      obtain ⟨gk5, bt5, S5⟩ := h₅
      obtain ⟨x1, x2, x3, x4, x5⟩ := after gk5 bt5 S5
      refine wpAny_bind (wpAny_tests_nil ?_)
      show wpAny _ _ (PySem.eval i1 env >>= fun x => standAt i1.pos >>= fun _ => foldedSetIterable i1 env x >>= fun x => holding [x] (pyIter x) >>= fun jt =>
          runOwn (.compStart (.ListComp elt [⟨t0, i0, [], 0⟩, ⟨t1, i1, ifs, 0⟩] scope epos) 1 jt (.ref D) env) env >>= fun _ => again (.compLoop (.ListComp elt [⟨t0, i0, [], 0⟩, ⟨t1, i1, ifs, 0⟩] scope epos) 0 (.ref I) (.ref D) env)) _ _ _
      refine wpAny_bind (wpAny_mono (hi R E S5) (fun v₂ s₆ h₆ => ?_) fun _ _ x => x.elim)
      refine wpAny_bind (wpAny_standAt (wpAny_bind (wpAny_of_eq (hfs env v₂) (wpAny_bind (wpAny_holding (wpAny_mono h₆ (fun it2 s₇ h₇ => ?_) fun _ _ x => x.elim))))))
      obtain ⟨k₇, I2, fp2, wr2, P2, Md2, Stt2, rfl, W2, st2, hfp2, hwr2, hlv2, hself2, hit2⟩ := h₇
      have u7 := k₇.up
      have S7 := S5.forbid u7 (wr := wr2) (fun b hb => hwr2 b hb) (hlv2 0 _ st2)
      have hDlive : s₅.heap.get? D = some (lstObj ys' n') := x4
      have hDw2 : D ∉ wr2 := fun q => by rw [hwr2 D q] at hDlive; cases hDlive
      have hwr20 : ∀ b ∈ wr2, h₀.get? b = none := fun b hb => by
        cases e : h₀.get? b with
        | none => rfl
        | some o => have := S5.keep _ _ e; rw [hwr2 b hb] at this; cases this
      have hys7 : RVs w s₇.heap (Fof env (wr2 ++ (wr ++ F₀)) []) outi ys' := RVs.mono (fun b o hb e => ⟨u7 b o e, fun q => by
        rcases List.mem_append.mp q with q | q
        · rcases List.mem_append.mp q with q | q
          · rw [hwr2 b q] at e; cases e
          · exact hb (List.mem_append_left _ q)
        · exact hb (List.mem_append_right _ q)⟩) outi hfi x5
      have hL := congrArg List.length hout
      rw [List.length_append, List.length_append, List.length_append] at hL
      have X2 : Drawn w A t1 tt1 (Fof env (wr ++ F₀) []) s₇.heap ps1 I2 fp2 wr2 P2 Md2 Stt2 := ⟨W2, hfp2, hlv2, hit2⟩
      have inner := emit_loop (EmitTurn.two elt t1 i1 t0 i0 ifs [] scope epos) R E S7 (List.mem_append_right _ hDF) hDw2 hDm hD0 X2 st2 hwr20 (u7 _ _ x4) hys7 hfi (by omega) hr
      refine wpAny_bind (wpAny_runOwn ?_)
      refine compStart_two (codeAny_mono inner ?_) (hself2 _ _ _ st2 (codeAny_mono inner ?_))
      all_goals
        intro r s₈ h₈
        obtain ⟨rfl, gk8, bt8, S8, ys8, n8, hD8, hys8, hf8⟩ := h₈
        have kp7 : GK false s s₇ := x1.trans (.of_kp k₇)
        have b78 : ∀ b o, s₅.heap.get? b = some o → (b ∉ [D, env.locals] → s₈.heap.get? b = some o) ∧ ∃ o', s₈.heap.get? b = some o' := fun b o e => bt8 b o (fun q => by rw [hwr2 b q] at e; cases e) (u7 _ _ e)
        have hfpDL : ∀ b ∈ fp, b ∉ [D, env.locals] := fun b hb q => by
          rcases List.mem_cons.mp q with q | q
          · exact hfpD b hb q
          · exact hfpL b hb (List.mem_singleton.mp q)
        exact wpAny_pure ⟨rfl, ps.length - (i + 1), by omega, i + 1, ρ₃, outi ++ out1, out2, ys8, n8, rfl, hlt, hrest, by rw [hout, List.append_assoc], hf8, S8.sub hsub, X.turns.frame _ _ _ x3 fun b hb ob e => (b78 b ob e).1 (hfpDL b hb), hD8, hys8, kp7.trans gk8,
          x2.trans fun b o e => ⟨fun hb => (b78 b o e).1 fun q => hb (List.mem_append_right _ q), (b78 b o e).2⟩⟩
  · have hie : i = ps.length := by omega
    subst hie
    rw [List.drop_length] at hC
    cases hC
    rw [List.append_nil] at hout
    refine wpAny_bind (wpAny_standAt (wpAny_bind (X.turns.done _ _ _ st' fun h₃ tk₃ hk₃ => wpAny_pure ?_)))
    have S₃ : St w env h₀ F₀ [] ρ' h₃ := S'.beside hwr0 hwm hk₃ (fun b hb => List.mem_append_right _ hb) fun b hb => by
      have hw : b ∉ wr := fun q => (X.fp b (X.turns.sub b q)).2 (List.mem_append_left _ hb)
      obtain ⟨ob, e⟩ := S'.alive b (List.mem_append_right _ hb)
      exact ⟨ob, hk₃ b ob hw e⟩
    refine ⟨rfl, gk.trans (.of_eq ⟨_, _, rfl⟩), ?_, S₃, ys', n', hk₃ D _ hDw hD', ?_, ?_⟩
    · intro b o hb e
      obtain ⟨b1, ob', b2⟩ := bt b o e
      exact ⟨fun h => hk₃ b o hb (b1 fun q => (List.mem_append.mp q).elim hb h), ob', hk₃ b ob' hb b2⟩
    · rw [hout]
      exact RVs.mono (fun b o hb e => ⟨hk₃ b o (fun q => hb (List.mem_append_left _ (List.mem_append_left _ q))) e, fun q => hb ((List.mem_append.mp q).elim (fun q => List.mem_append_left _ (List.mem_append_right _ q)) fun q => List.mem_append_right _ q)⟩) outi hfi hys'
    · rw [hout]; exact hfi
end Mine

namespace Mine
open PySem PySem.W PySem.Builtin PySem.Builtin.Str

abbrev iL (ns : List Int) : List PV := ns.map .int
abbrev sL (xs : List Str) : List PV := xs.map .str
theorem ints_frozen : ∀ ns : List Int, PV.frozens (iL ns) = true
  | [] => rfl
  | _ :: r => by show (true && PV.frozens (iL r)) = true; rw [ints_frozen r]; rfl
theorem strs_frozen : ∀ ns : List Str, PV.frozens (sL ns) = true
  | [] => rfl
  | _ :: r => by show (true && PV.frozens (sL r)) = true; rw [strs_frozen r]; rfl
theorem RVs.toInts {h : Heap} {F : List Addr} : ∀ {ns : List Int} {vs : List Value}, RVs w h F (iL ns) vs → PyProof.Rows.IntsAre vs ns
  | [], _, e => by rw [show _ = [] from e]; exact .nil
  | n :: r, _, ⟨v, t, e, ⟨k, e2⟩, y⟩ => by rw [e, e2]; exact .cons n k (RVs.toInts y)
theorem RVs.of_ints {h : Heap} {F : List Addr} : ∀ {ns : List Int} {vs : List Value}, PyProof.Rows.IntsAre vs ns → RVs w h F (iL ns) vs
  | _, _, .nil => rfl
  | _, _, .cons n t r => ⟨_, _, rfl, ⟨t, rfl⟩, RVs.of_ints r⟩
theorem RVs.toStrs {h : Heap} {F : List Addr} : ∀ {xs : List Str} {vs : List Value}, RVs w h F (sL xs) vs → ∃ l, vs = strValues l ∧ l.map (·.1) = xs
  | [], _, e => ⟨[], e, rfl⟩
  | x :: r, _, ⟨v, t, e, ⟨k, e2⟩, y⟩ => by
    obtain ⟨l, h1, h2⟩ := RVs.toStrs y
    exact ⟨(x, k) :: l, by rw [e, e2, h1]; rfl, by rw [List.map_cons, h2]⟩
theorem RVs.of_strs {h : Heap} {F : List Addr} : ∀ {l : List (Str × Tok)}, RVs w h F (sL (l.map (·.1))) (strValues l)
  | [] => rfl
  | (x, k) :: r => ⟨_, _, rfl, ⟨k, rfl⟩, RVs.of_strs (l := r)⟩

section
variable {k : Nat}
-- len
theorem Op1.lenS {x : Str} (hsz : x.length ≤ sizeLine) : Op1 k (.str x) (fun v => call (.builtin "len") [v]) (.int x.length) := fun {w A F s a} _ _ _ r => by
  obtain ⟨t, rfl⟩ := r
  exact PyProof.Rows.len_str (by rw [sizeLine_eq] at hsz; omega) ⟨Kp.tok s _, _, rfl⟩
theorem len_l {w : World} {A : Around} {F : List Addr} {s : Shared} {l : List PV} {v : Value} (r : RVl w s.heap F l v) (hsz : l.length ≤ sizeLine) : Gives A w F (call (.builtin "len") [v]) (.int l.length) s := by
  obtain ⟨a, vs, rfl, hl, r⟩ := r.isList
  have e : vs.toArray.size = l.length := by rw [List.size_toArray, r.length]
  refine Calls.call_len_list hl (by rw [e]; rw [sizeLine_eq] at hsz; omega) ?_
  rw [e]
  exact ⟨Kp.tok s _, _, rfl⟩
theorem Op1.lenL {l : List PV} (hsz : l.length ≤ sizeLine) : Op1 k (.list l) (fun v => call (.builtin "len") [v]) (.int l.length) := fun {w A F s a} _ _ _ r => len_l (RVl.of_list r) hsz
theorem Op1.lenO {l : List PV} (hsz : l.length ≤ sizeLine) : Op1 k (.olist l) (fun v => call (.builtin "len") [v]) (.int l.length) := fun {w A F s a} _ _ _ r => len_l (RVl.of_olist r) hsz

-- sum, max
theorem intsGet {vs : List Value} {ns : List Int} (h : PyProof.Rows.IntsAre vs ns) : ∀ {i : Nat} {v : Value}, vs[i]? = some v → ∃ t, v = .int (ns.getD i 0) t := by
  induction h with
  | nil => intro i v e; simp at e
  | cons n t r ih =>
    intro i v e
    cases i with
    | zero => simp at e; exact ⟨t, e.symm⟩
    | succ i => simp at e; obtain ⟨u, hu⟩ := ih e; exact ⟨u, by simpa using hu⟩
theorem preSum_list (ns : List Int) : ∀ j, preSum (fun i => ns.getD i 0) j = (ns.take j).sum
  | 0 => by simp [preSum]
  | j + 1 => by rw [preSum, preSum_list ns j, sum_take_succ]
theorem list_walk {w : World} {A : Around} {F : List Addr} {s : Shared} {ns : List Int} {v : Value} (hh : A.handled = none) (r : RVl w s.heap F (iL ns) v) {Q : Value → Shared → Prop}
    (hq : ∀ vs a, v = .ref a → PyProof.Rows.IntsAre vs ns → vs.length = ns.length → Up s.heap (s.heap.push { cls := .type "list_iterator", data := .fields #[.ref a, .int 0 0] }) →
      Walks prg w A s.heap.objs.size [s.heap.objs.size, a] [s.heap.objs.size] vs.toArray.size (fun i v => vs.toArray[i]? = some v) (fun i h => h.IsListIter s.heap.objs.size a i ∧ h.IsList a vs.toArray) →
      ((s.heap.push { cls := .type "list_iterator", data := .fields #[.ref a, .int 0 0] }).IsListIter s.heap.objs.size a 0 ∧ (s.heap.push { cls := .type "list_iterator", data := .fields #[.ref a, .int 0 0] }).IsList a vs.toArray) →
      (∀ b ∈ [s.heap.objs.size, a], b < (s.heap.push { cls := .type "list_iterator", data := .fields #[.ref a, .int 0 0] }).objs.size) →
      Q (.ref s.heap.objs.size) { s with heap := s.heap.push { cls := .type "list_iterator", data := .fields #[.ref a, .int 0 0] } }) {E : Value → Shared → Prop} : wpAny (model prg w) A (pyIter v) Q E s := by
  obtain ⟨a, vs, rfl, hl, r⟩ := r.isList
  obtain ⟨o, ho, _⟩ := id hl
  refine wpAny_pyIter_list hl (hq vs a rfl r.toInts (by rw [r.length, List.length_map]) (fun _ _ e => Heap.get?_push_of_some _ e) (Walks.list hh _ a (Nat.ne_of_lt (Heap.lt_size ho)) vs.toArray) ⟨⟨_, Heap.get?_push_size _ rfl, rfl, rfl⟩, hl.push _⟩ fun b hb => ?_)
  rw [Heap.size_push]
  rcases List.mem_cons.mp hb with rfl | hb
  · exact Nat.lt_succ_self _
  · rw [List.mem_singleton.mp hb]; exact Nat.lt_succ_of_lt (Heap.lt_size ho)
def SumOk (ns : List Int) : Prop := ∀ j, j < ns.length → InLong (ns.getD j 0) ∧ InLong ((ns.take (j + 1)).sum)
theorem sum_l {w : World} {A : Around} {F : List Addr} {s : Shared} {ns : List Int} {v : Value} (hh : A.handled = none) (r : RVl w s.heap F (iL ns) v) (hok : SumOk ns) : Gives A w F (call (.builtin "sum") [v]) (.int ns.sum) s := by
  refine call_sum_walk (list_walk (A := A.in1) hh r fun vs a e hi hlen u W st hfp => ?_)
  have hsz : vs.toArray.size = ns.length := by rw [List.size_toArray, hlen]
  refine ⟨_, _, _, _, _, _, fun i => ns.getD i 0, rfl, W, st, hfp, fun i v hv => intsGet hi (by simpa using hv), fun j hj => ?_, fun h' tk t' hk => ?_⟩
  · rw [preSum_list]; exact hok j (by rw [← hsz]; exact hj)
  · have up : Up s.heap h' := fun b o e => hk b o (fun q => by rw [List.mem_singleton.mp q, none_of_size] at e; cases e) (u _ _ e)
    refine ⟨Kp.both s up, t', ?_⟩
    rw [preSum_list, hsz, List.take_length]
theorem Op1.sumL {ns : List Int} (hok : SumOk ns) : Op1 k (.list (iL ns)) (fun v => call (.builtin "sum") [v]) (.int ns.sum) := fun {w A F s a} R _ _ r => sum_l R.hd (RVl.of_list r) hok
/-- the greatest -/
def IsMax (ns : List Int) (m : Int) : Prop := m ∈ ns ∧ ∀ n ∈ ns, n ≤ m
theorem max_l {w : World} {A : Around} {F : List Addr} {s : Shared} {ns : List Int} {v : Value} {m : Int} (hh : A.handled = none) (r : RVl w s.heap F (iL ns) v) (hm : IsMax ns m) : Gives A w F (call (.builtin "max") [v]) (.int m) s := by
  refine call_max_walk (list_walk (A := A.in1) hh r fun vs a e hi hlen u W st hfp => ?_)
  have hsz : vs.toArray.size = ns.length := by rw [List.size_toArray, hlen]
  have hpos : 0 < ns.length := List.length_pos_of_mem hm.1
  refine ⟨_, _, _, _, _, _, _, rfl, W, st, hfp, by rw [hsz]; exact hpos, CmpOf.ints_gt (fun i => ns.getD i 0) fun i v hv => intsGet hi (by simpa using hv), fun v' h' tk hv hk => ?_⟩
  have up : Up s.heap h' := fun b o e => hk b o (fun q => by rw [List.mem_singleton.mp q, none_of_size] at e; cases e) (u _ _ e)
  obtain ⟨h1, h2⟩ := argBest_gt (fun i => ns.getD i 0) (vs.toArray.size - 1)
  generalize hB : argBest (fun i j => decide (ns.getD i 0 > ns.getD j 0)) (vs.toArray.size - 1) = B at hv h1 h2
  obtain ⟨t, ht⟩ := intsGet (i := B) hi (by simpa using hv)
  refine ⟨Kp.both s up, t, ?_⟩
  rw [ht]
  congr 1
  obtain ⟨i, hi', e'⟩ := List.getElem_of_mem hm.1
  have h3 := h2 i (by omega)
  have hb : B < ns.length := by omega
  have h4 := hm.2 _ (List.getElem_mem hb)
  have e1 : ns.getD B 0 = ns[B] := by simp [List.getD, hb]
  have e2 : ns.getD i 0 = ns[i] := by simp [List.getD, hi']
  rw [e1, e2] at h3
  rw [e1]
  omega
theorem Op1.maxL {ns : List Int} {m : Int} (hm : IsMax ns m) : Op1 k (.list (iL ns)) (fun v => call (.builtin "max") [v]) (.int m) := fun {w A F s a} R _ _ r => max_l R.hd (RVl.of_list r) hm

-- texts
theorem Op1.strI {i : Int} (ha : i.natAbs.log2 < 1920) : Op1 k (.int i) (fun v => call (.type "str") [v]) (.str (toString i)) := fun {w A F s a} _ _ _ r => by
  obtain ⟨t, rfl⟩ := r
  exact PySem.P.str_of_int ha ⟨Kp.tok s _, _, rfl⟩
theorem Op1.hexI {i : Int} (hsz : (baseText "0x" 16 i).length ≤ sizeLine) : Op1 k (.int i) (fun v => call (.builtin "hex") [v]) (.str (baseText "0x" 16 i)) := fun {w A F s a} _ _ _ r => by
  obtain ⟨t, rfl⟩ := r
  exact PySem.P.hex_of_int ⟨Kp.tok s _, _, rfl⟩ hsz
theorem Op2.lstripC {x y : Str} (hsz : x.length ≤ sizeLine) : Op2 k (.str x) (.str y) (fun u v => call (.builtin "str.lstrip") [u, v]) (.str (Txt.lstripChars x y)) := fun {w A F s u v} _ _ _ hu hv => by
  obtain ⟨t, rfl⟩ := hu
  obtain ⟨t', rfl⟩ := hv
  exact SC.lstripChars (fun t' k => ⟨Kp.tok s _, _, rfl⟩) hsz
theorem Op2.countS {x y : Str} : Op2 k (.str x) (.str y) (fun u v => call (.builtin "str.count") [u, v]) (.int (Txt.count x y)) := fun {w A F s u v} _ _ _ hu hv => by
  obtain ⟨t, rfl⟩ := hu
  obtain ⟨t', rfl⟩ := hv
  exact SC.count ⟨Kp.tok s _, _, rfl⟩
theorem Op2.joinL {x : Str} {xs : List Str} (hok : JoinOk x xs = true) : Op2 k (.str x) (.list (sL xs)) (fun u v => call (.builtin "str.join") [u, v]) (.str (Txt.join x xs)) := fun {w A F s u v} _ _ _ hu hv => by
  obtain ⟨t, rfl⟩ := hu
  obtain ⟨a, vs, rfl, hl, r⟩ := (RVl.of_list hv).isList
  obtain ⟨l, rfl, e⟩ := r.toStrs
  exact SC.join hl e hok fun t' k => ⟨Kp.tok s _, _, rfl⟩
/-- a new list of texts -/
theorem newStrs {w : World} {F : List Addr} {s : Shared} {l : List (Str × Tok)} {n k : Nat} (L : Live F s.heap) : Kp s { s with heap := s.heap.push { cls := .type "list", data := .seq (strValues l).toArray n }, toks := k } ∧ RV w (s.heap.push { cls := .type "list", data := .seq (strValues l).toArray n }) F (.list (sL (l.map (·.1)))) (.ref s.heap.objs.size) :=
  ⟨Kp.both s fun _ _ e => Heap.get?_push_of_some _ e, _, _, n, rfl, Live.new L, Heap.get?_push_size _ rfl, RVs.of_strs⟩
theorem Op2.splitS {x y : Str} (hy : (y.length == 0) = false) (hsz : x.length ≤ sizeLine) (hsz2 : (partsBetween x (occurrences x y 0 x.length (x.length + 1)) y.length).length ≤ sizeLine) :
    Op2 k (.str x) (.str y) (fun u v => call (.builtin "str.split") [u, v]) (.list (sL (Txt.split x y))) := fun {w A F s u v} _ _ L hu hv => by
  obtain ⟨t, rfl⟩ := hu
  obtain ⟨t', rfl⟩ := hv
  cases h1 : (decide (x.length < y.length) || decide (strKind x < strKind y))
  · cases hf : (occurrences x y 0 x.length (x.length + 1)).isEmpty
    · refine call_meets PySem.F.slot_str_split (typeIs_str _ _ _) PySem.F.entry_str_split (PySem.F.args_str_split_2 _ _) (meets_str_split_sep x y t t' h1 hy hf hsz hsz2) ?_
      show wants _ _ _ { s with toks := _, heap := s.heap.push { cls := .type "list", data := .seq (strsFrom s.toks (partsBetween x (occurrences x y 0 x.length (x.length + 1)) y.length)).toArray } }
      rw [strsFrom_eq]
      have e : (numbered s.toks (partsBetween x (occurrences x y 0 x.length (x.length + 1)) y.length)).map (·.1) = Txt.split x y := (numbered_texts s.toks _).trans ((if_neg (ne_true_of_eq_false h1)).trans (if_neg (ne_true_of_eq_false hf))).symm
      have := newStrs (w := w) (n := 0) (k := s.toks + (partsBetween x (occurrences x y 0 x.length (x.length + 1)) y.length).length) (l := numbered s.toks (partsBetween x (occurrences x y 0 x.length (x.length + 1)) y.length)) L
      rw [e] at this
      exact this
    · have e : [(x, t)].map (·.1) = Txt.split x y := ((if_neg (ne_true_of_eq_false h1)).trans (if_pos hf)).symm
      refine call_meets PySem.F.slot_str_split (typeIs_str _ _ _) PySem.F.entry_str_split (PySem.F.args_str_split_2 _ _) (meets_str_split_not_found x y t t' h1 hy hf) ?_
      have := newStrs (w := w) (n := 0) (k := s.toks) (l := [(x, t)]) L
      rw [e] at this
      exact this
  · have e : [(x, t)].map (·.1) = Txt.split x y := (if_pos h1).symm
    refine call_meets PySem.F.slot_str_split (typeIs_str _ _ _) PySem.F.entry_str_split (PySem.F.args_str_split_2 _ _) (meets_str_split_cannot_occur x y t t' h1) ?_
    have := newStrs (w := w) (n := 0) (k := s.toks) (l := [(x, t)]) L
    rw [e] at this
    exact this

-- lists
theorem Op2.addL {l m : List PV} (hsz : l.length + m.length ≤ sizeLine) : Op2 k (.list l) (.list m) (binaryOp .Add) (.list (l ++ m)) := fun {w A F s u v} _ _ L hu hv => by
  obtain ⟨a, vs, n, rfl, _, ho, r⟩ := hu
  obtain ⟨b, ws, n2, rfl, _, ho2, r2⟩ := hv
  have e : vs.toArray ++ ws.toArray = (vs ++ ws).toArray := by simp
  have hl : vs.toArray.size + ws.toArray.size ≤ sizeLine := by rw [List.size_toArray, List.size_toArray, r.length, r2.length]; exact hsz
  refine concat_meets ⟨_, ho, rfl⟩ ⟨_, ho2, rfl⟩ noFill_list_add seq_list_add PySem.F.slot_list_add PySem.F.entry_list_add (PySem.F.args_list_add_2 _ _) (PyProof.Rows.list_addW a b vs.toArray ws.toArray n n2 none none #[] #[] hl) ⟨ho, ho2, ?_⟩
  rw [e]
  have u1 : Up s.heap (s.heap.push { cls := .type "list", data := .seq (vs ++ ws).toArray }) := fun _ _ e => Heap.get?_push_of_some _ e
  exact ⟨Kp.both s u1, _, _, 0, rfl, Live.new L, Heap.get?_push_size _ rfl, RVs.up u1 _ (r.append r2)⟩
theorem Op2.countL {ns : List Int} {i : Int} : Op2 k (.list (iL ns)) (.int i) (fun u v => call (.builtin "list.count") [u, v]) (.int (ns.count i : Nat)) := fun {w A F s u v} _ _ _ hu hv => by
  obtain ⟨a, vs, rfl, hl, r⟩ := (RVl.of_list hu).isList
  obtain ⟨t, rfl⟩ := hv
  exact PyProof.Rows.count_list_ints hl r.toInts ⟨Kp.tok s _, _, rfl⟩
theorem Op2.inT {ns : List Int} {i : Int} : Op2 k (.int i) (.tup (iL ns)) (compareOp .In) (.bool (ns.any (· == i))) := fun {w A F s u v} _ _ _ hu hv => by
  obtain ⟨t, rfl⟩ := hu
  obtain ⟨a, vs, n, rfl, _, ho, r⟩ := hv
  exact PyProof.Rows.in_tuple_ints ⟨_, ho, rfl, n, rfl⟩ (by simpa using r.toInts) ⟨Kp.refl s, rfl⟩
theorem eq_l {w : World} {A : Around} {F : List Addr} {s : Shared} {ns ms : List Int} {u v : Value} (R : Room (k + 3) A) (hu : RVl w s.heap F (iL ns) u) (hv : RVl w s.heap F (iL ms) v) : Gives A w F (compareOp .Eq u v) (.bool (decide (ns = ms))) s := by
  obtain ⟨a, vs, rfl, hl, r⟩ := hu.isList
  obtain ⟨b, ws, rfl, hl2, r2⟩ := hv.isList
  exact ke_eq_ints hl hl2 r.toInts r2.toInts (by have := R.2.2; omega) ⟨Kp.refl s, rfl⟩
theorem ne_l {w : World} {A : Around} {F : List Addr} {s : Shared} {ns ms : List Int} {u v : Value} (R : Room (k + 3) A) (hu : RVl w s.heap F (iL ns) u) (hv : RVl w s.heap F (iL ms) v) : Gives A w F (compareOp .NotEq u v) (.bool (!decide (ns = ms))) s := by
  obtain ⟨a, vs, rfl, hl, r⟩ := hu.isList
  obtain ⟨b, ws, rfl, hl2, r2⟩ := hv.isList
  exact ke_ne_ints hl hl2 r.toInts r2.toInts (by have := R.2.2; omega) ⟨Kp.refl s, rfl⟩
end
end Mine

namespace Mine
open PySem PySem.W PySem.Builtin PySem.Builtin.Str

section
variable {k : Nat} {sc : Scope} {ρ : Vars} {g : Bool}

/-- a value of the top -/
theorem Ev.glob {x : Str} {v : Value} {pos : Pos} {p : PV} (G : GlobIs x v) (hx : sc.names.lookup x = some .globalImplicit) (hd : (x == ("__debug__" : Str)) = false) (hr : ∀ (w : World) (h : Heap) (F : List Addr), RV w h F p v) : Ev k sc ρ (.Name x pos) p := fun {w A env h₀ F₀ own s} R E S =>
  G.load E hx hd S.here ⟨Kp.refl s, hr _ _ _⟩

-- dicts of texts to numbers
def vat (kvs : List (Str × Int)) (k : Str) : Option Int := (kvs.find? fun kv => kv.1 = k).map (·.2)
def DctS (kvs : List (Str × Int)) : World → Obj → Prop := fun w o => ∃ vs : List (Str × Value), o.IsDictOf (strKind prg w) vs ∧ vs.length = kvs.length ∧ ∀ k, match vat kvs k with
  | Option.none => valueAt vs k = Option.none
  | some i => ∃ t, valueAt vs k = some (.int i t)

/-- a new object, known to no other, becomes owned under x; the store is done -/
theorem St.takeOwnR {w : World} {env : Env} {h₀ : Heap} {F₀ : List Addr} {own : List (Str × Addr)} {h : Heap} (S : St w env h₀ F₀ own ρ h) {x : Str} {a : Addr} {o : Obj} {Rr : World → Obj → Prop} (hx : SlotIs env h x (.ref a)) (ho : h.get? a = some o) (ha : a ∉ Fof env F₀ own) (hn0 : h₀.get? a = none) (hr : Rr w o) (hm1 : (a == sysModules) = false ∧ o.cls = .type "dict")
    (hna : ∀ y e, y ≠ x → ρ.lookup y = some e → VarIs w env (a :: Fof env F₀ own) own h y e) : St w env h₀ F₀ ((x, a) :: own) ((x, .ownR Rr) :: ρ) h := by
  have hsub : ∀ b, b ∉ (a :: Fof env F₀ own) → b ∉ Fof env F₀ ((x, a) :: own) := fun b hb hm => by
    apply hb
    rcases List.mem_append.mp hm with hm | hm
    · exact List.mem_cons_of_mem _ (List.mem_append_left _ hm)
    · rcases List.mem_cons.mp hm with rfl | hm
      · exact List.mem_cons_of_mem _ (List.mem_append_right _ mem_locals)
      · rcases List.mem_append.mp hm with hm | hm
        · exact List.mem_cons_of_mem _ (List.mem_append_right _ (List.mem_cons_of_mem _ (List.mem_append_left _ hm)))
        · rcases List.mem_cons.mp hm with rfl | hm
          · exact List.mem_cons_self
          · exact List.mem_cons_of_mem _ (List.mem_append_right _ (List.mem_cons_of_mem _ (List.mem_append_right _ hm)))
  have fk : ∀ b o, b ∉ (a :: Fof env F₀ own) → h.get? b = some o → h.get? b = some o ∧ b ∉ Fof env F₀ ((x, a) :: own) := fun b o hb e => ⟨e, hsub b hb⟩
  have hL : a ≠ env.locals := fun e => ha (List.mem_append_right _ (e ▸ mem_locals))
  have hC : a ∉ env.cells.map (·.2) := fun e => ha (List.mem_append_right _ (List.mem_cons_of_mem _ (List.mem_append_left _ e)))
  have hO : a ∉ own.map (·.2) := fun e => ha (List.mem_append_right _ (List.mem_cons_of_mem _ (List.mem_append_right _ e)))
  refine ⟨S.base, S.keep, S.alive, S.ns, S.cells, fun p hp => ?_, fun b hb => ?_, fun b hb => ?_, ?_, fun y e hy => ?_⟩
  · rcases List.mem_cons.mp hp with rfl | hp
    · exact ⟨_, ho, .inr (.inr hm1.2)⟩
    · exact S.ownlive p hp
  · rcases List.mem_cons.mp hb with rfl | hb
    · exact S.fresh _ mem_locals
    · rcases List.mem_append.mp hb with hb | hb
      · exact S.fresh _ (List.mem_cons_of_mem _ (List.mem_append_left _ hb))
      · rcases List.mem_cons.mp hb with rfl | hb
        · exact hn0
        · exact S.fresh _ (List.mem_cons_of_mem _ (List.mem_append_right _ hb))
  · rcases List.mem_cons.mp hb with rfl | hb
    · exact fun e => ha (List.mem_append_left _ e)
    · exact S.apart b hb
  · obtain ⟨n1, n2⟩ := List.nodup_cons.mp S.nodup
    obtain ⟨n3, n4, n5⟩ := List.nodup_append.mp n2
    refine List.nodup_cons.mpr ⟨fun hm => ?_, List.nodup_append.mpr ⟨n3, List.nodup_cons.mpr ⟨hO, n4⟩, fun b hb c hc => ?_⟩⟩
    · rcases List.mem_append.mp hm with hm | hm
      · exact n1 (List.mem_append_left _ hm)
      · rcases List.mem_cons.mp hm with e | hm
        · exact hL e.symm
        · exact n1 (List.mem_append_right _ hm)
    · rcases List.mem_cons.mp hc with rfl | hc
      · exact fun e => hC (e ▸ hb)
      · exact n5 b hb c hc
  · rw [List.lookup_cons] at hy
    by_cases q : (y == x) = true
    · rw [q] at hy
      cases hy
      have : y = x := beq_iff_eq.mp q
      subst this
      exact ⟨a, o, hx, List.mem_cons_self, ho, hr, hm1⟩
    · simp only [q] at hy
      have hyx : y ≠ x := fun e => q (by rw [e]; exact beq_self_eq_true x)
      have old := hna y e hyx hy
      cases e with
      | val p' => exact let ⟨f, u, su, r⟩ := old; ⟨f, u, su, RV.mono fk p' f r⟩
      | own l' => exact let ⟨a', vs', n', su, hm', ho', f, r⟩ := old; ⟨a', vs', n', su, List.mem_cons_of_mem _ hm', ho', f, RVs.mono fk l' f r⟩
      | ownR R => exact let ⟨a', o', su, hm', ho', r⟩ := old; ⟨a', o', su, List.mem_cons_of_mem _ hm', ho', r⟩

/-- x = {} -/
theorem Ex1.assignDict {x : Str} {xp dp pos : Pos} (hx : Stb sc x) : Ex1 g k sc ρ (.Assign [.Name x xp] (.Dict [] [] dp) pos) (.next ((x, .ownR (DctS [])) :: ρ)) := fun {w A env h₀ F₀ own s} R E C S => by
  refine wpAny_Assign_Name (wpAny_Dict_empty ?_) rfl
  have u : Up s.heap (s.heap.push { cls := .type "dict", data := .dict #[] }) := fun _ _ e => Heap.get?_push_of_some _ e
  generalize ha : s.heap.objs.size = a
  have hne : s.heap.get? a = none := ha ▸ none_of_size _
  have ho : (s.heap.push { cls := .type "dict", data := .dict #[] }).get? a = some { cls := .type "dict", data := .dict #[] } := ha ▸ Heap.get?_push_size _ rfl
  have hF : a ∉ Fof env F₀ own := Live.none S.live hne
  have S₂ := S.forbid u (wr := [a]) (fun b hb => by rw [List.mem_singleton.mp hb]; exact hne) fun b hb => ⟨{ cls := .type "dict", data := .dict #[] }, by rw [List.mem_singleton.mp hb]; exact ho⟩
  have hm1 : (a == sysModules) = false := by
    obtain ⟨_, mean, mg, mb, T⟩ := S.here
    exact beq_eq_false_iff_ne.mpr (Nat.ne_of_gt (ha ▸ PyProof.Rows.modules_low T.nolimit))
  refine S₂.store (s := { s with heap := s.heap.push { cls := .type "dict", data := .dict #[] } }) E rfl (hx.at C) fun s' he hk _ S' sl => ?_
  have hoa := (hk _ _ ho).1 (fun q => hF (List.mem_append_right _ q))
  have S₃ := S'.unforbid (F₁ := F₀) fun b hb => List.mem_append_right _ hb
  have hn0 : h₀.get? a = none := by
    cases e : h₀.get? a with
    | none => rfl
    | some o => rw [S.keep _ _ e] at hne; cases hne
  have hr : DctS [] w { cls := .type "dict", data := .dict #[] } := ⟨[], ⟨#[], 0, ⟨rfl, rfl, rfl⟩, rfl, fun _ he => by simp at he, Pairs.nil, List.nodup_nil⟩, rfl, fun _ => rfl⟩
  have S₄ := S₃.takeOwnR sl hoa hF hn0 hr ⟨hm1, rfl⟩ fun y e hyx hy => by
    have old := S'.vars y e hy
    have fk : ∀ b o, b ∉ Fof env ([a] ++ F₀) own → s'.heap.get? b = some o → s'.heap.get? b = some o ∧ b ∉ (a :: Fof env F₀ own) := fun b o hb e => ⟨e, hb⟩
    cases e with
    | val p' => exact let ⟨f, u, su, r⟩ := old; ⟨f, u, su, RV.mono fk p' f r⟩
    | own l => exact let ⟨a, vs, n, su, hm, ho, f, r⟩ := old; ⟨a, vs, n, su, hm, ho, f, RVs.mono fk l f r⟩
    | ownR R => exact old
  exact .next ((GK.of_kp (Kp.heap s u)).trans (.of_eq he)) (But.up_after u hk) (fun p hp => by
    rcases List.mem_cons.mp hp with rfl | hp
    · exact .inr hne
    · exact .inl hp) (S₄.sub sub_filter)

/-- an owned object changes -/
theorem St.setOwnR {w : World} {env : Env} {h₀ : Heap} {F₀ : List Addr} {own : List (Str × Addr)} {h h' : Heap} (S : St w env h₀ F₀ own ρ h) {x : Str} {a : Addr} {o : Obj} {Rr : World → Obj → Prop} (hx : SlotIs env h x (.ref a)) (hm : (x, a) ∈ own) (hn : h'.get? a = some o) (hs : Heap.SameBut a h h') (hr : Rr w o) (hm1 : (a == sysModules) = false ∧ o.cls = .type "dict") :
    St w env h₀ F₀ own ((x, .ownR Rr) :: ρ) h' := by
  have hs' : ∀ b o, b ≠ a → h.get? b = some o → h'.get? b = some o := fun b o hb e => hs.extBut b o hb e
  have fk := frozenKeep (env := env) (own := own) (F₀ := F₀) (mem_own hm) hs'
  have slot : ∀ y u, SlotIs env h y u → SlotIs env h' y u := fun y u hu => by
    rcases hu with ⟨k, m₀, n, e⟩ | ⟨k, c', e, o, ho, r⟩
    · exact .inl ⟨k, m₀, n.sameBut hs (Ne.symm (S.ownNe hm)), e⟩
    · exact .inr ⟨k, c', e, o, hs' _ _ (Ne.symm (S.ownCell hm (mem_of_lookup e))) ho, r⟩
  refine ⟨S.base, S.keep' (mem_own hm) hs', S.alive' hs' hn, ?_, fun p hp => ?_, fun p hp => ?_, S.fresh, S.apart, S.nodup, fun y e hy => ?_⟩
  · obtain ⟨m, n⟩ := S.ns
    exact ⟨m, n.sameBut hs (Ne.symm (S.ownNe hm))⟩
  · obtain ⟨v, o, ho, r⟩ := S.cells p hp
    exact ⟨v, o, hs' _ _ (Ne.symm (S.ownCell hm hp)) ho, r⟩
  · by_cases q : p.2 = a
    · exact ⟨_, q ▸ hn, .inr (.inr hm1.2)⟩
    · obtain ⟨o, ho, hdc⟩ := S.ownlive p hp
      exact ⟨o, hs' _ _ q ho, hdc⟩
  · rw [List.lookup_cons] at hy
    by_cases q : (y == x) = true
    · rw [q] at hy
      cases hy
      have : y = x := beq_iff_eq.mp q
      subst this
      exact ⟨a, o, slot _ _ hx, hm, hn, hr, hm1⟩
    · simp only [q] at hy
      have hyx : y ≠ x := fun e => q (by rw [e]; exact beq_self_eq_true x)
      have old := S.vars y e hy
      cases e with
      | val p' => exact let ⟨f, u, su, r⟩ := old; ⟨f, u, slot _ u su, RV.mono fk p' f r⟩
      | own l' =>
        obtain ⟨a', vs', n', su, hm', ho, f, r⟩ := old
        refine ⟨a', vs', n', slot _ _ su, hm', hs' _ _ (fun q' => ?_) ho, f, RVs.mono fk l' f r⟩
        subst q'
        exact hyx (S.ownName hm' hm)
      | ownR R =>
        obtain ⟨a', o', su, hm', ho, r⟩ := old
        refine ⟨a', o', slot _ _ su, hm', hs' _ _ (fun q' => ?_) ho, r⟩
        subst q'
        exact hyx (S.ownName hm' hm)

theorem vat_snoc {kvs : List (Str × Int)} {x : Str} {i : Int} (hno : vat kvs x = Option.none) (y : Str) : vat (kvs ++ [(x, i)]) y = if y = x then some i else vat kvs y := by
  unfold vat at hno ⊢
  rw [List.find?_append]
  by_cases q : y = x
  · subst q
    cases e : kvs.find? fun kv => kv.1 = y with
    | none => simp
    | some p => rw [e] at hno; cases hno
  · cases e : kvs.find? fun kv => kv.1 = y with
    | none => simp [q, Ne.symm q]
    | some p => simp [q]

/-- d[k] = v, k is new -/
theorem Ex1.setDict {x : Str} {xp sp pos : Pos} {slice value : PySem.Expr} {kvs : List (Str × Int)} {ky : Str} {i : Int} (hx : ρ.lookup x = some (.ownR (DctS kvs))) (hd : (x == ("__debug__" : Str)) = false) (hs : ∀ env : Env, env.scope = sc → swapsWith value (some (.Subscript (.Name x xp) slice sp)) pos.line env = pure false)
    (hv : Ev k sc ρ value (.int i)) (hk : Ev k sc ρ slice (.str ky)) (hno : vat kvs ky = Option.none) (hsz : kvs.length ≤ sizeLine) :
    Ex1 g k sc ρ (.Assign [.Subscript (.Name x xp) slice sp] value pos) (.next ((x, .ownR (DctS (kvs ++ [(ky, i)]))) :: ρ)) := fun {w A env h₀ F₀ own s} R E C S => by
  refine wpAny_Assign_Subscript ((hv R E S).bind fun v s₁ k₁ rv => ?_) (hs env E.scope)
  have S₁ := S.up k₁.up
  obtain ⟨a, o, sl, hm, ho, hr, hm1⟩ := S₁.vars x _ hx
  refine wpAny_Name (sl.load E ?_) hd
  refine (hk R E S₁).bind fun kv s₂ k₂ rk => ?_
  obtain ⟨t, rfl⟩ := rv
  obtain ⟨t', rfl⟩ := rk
  obtain ⟨vs, hD, hlen, hvs⟩ := hr
  have ho₂ := k₂.up _ _ ho
  have hno' : valueAt vs ky = Option.none := by have := hvs ky; rw [hno] at this; exact this
  have hkey : (strKind prg w).is ky (.str ky t') = true := by simp [PySem.strKind, Value.isStrOf]
  refine wpAny_setItem_pairs hkey (Heap.dictOf_iff.mpr ⟨o, ho₂, hD⟩) (fun h' hD' hs' => ?_) (by rw [hlen]; exact hsz)
  rw [PyProof.Rows.stored_absent hno'] at hD'
  obtain ⟨o', ho', hD''⟩ := Heap.dictOf_iff.mp hD'
  have S₂ := S₁.up k₂.up
  have hr' : DctS (kvs ++ [(ky, i)]) w o' := by
    refine ⟨vs ++ [(ky, .int i t)], hD'', by rw [List.length_append, List.length_append, hlen]; rfl, fun y => ?_⟩
    rw [vat_snoc hno]
    have hva : valueAt (vs ++ [(ky, .int i t)]) y = if y = ky then some (.int i t) else valueAt vs y := by
      unfold valueAt at hno' ⊢
      rw [List.find?_append]
      by_cases q : y = ky
      · subst q
        cases e : vs.find? fun kv => kv.1 = y with
        | none => simp
        | some p => rw [e] at hno'; cases hno'
      · cases e : vs.find? fun kv => kv.1 = y with
        | none => simp [q, Ne.symm q]
        | some p => simp [q]
    rw [hva]
    by_cases q : y = ky
    · rw [if_pos q, if_pos q]; exact ⟨t, rfl⟩
    · rw [if_neg q, if_neg q]; exact hvs y
  have S₃ := S₂.setOwnR (sl.up k₂.up) hm ho' hs' hr' ⟨hm1.1, hD''.choose_spec.choose_spec.1.1⟩
  exact .next ((GK.of_kp (k₁.trans k₂)).trans (.of_eq ⟨h', _, rfl⟩)) (But.up_after (k₁.trans k₂).up (But.of_same (mem_own hm) hs' ho')) (.refl _ _) S₃

/-- an owned object that is no longer changed -/
theorem St.freezeR {w : World} {env : Env} {h₀ : Heap} {F₀ : List Addr} {own : List (Str × Addr)} {h : Heap} (S : St w env h₀ F₀ own ρ h) {x : Str} {Rr : World → Obj → Prop} (hx : ρ.lookup x = some (.ownR Rr)) : St w env h₀ F₀ (own.filter fun p => p.1 != x) ((x, .val (.raw Rr)) :: ρ) h := by
  have sub : ∀ p ∈ own.filter (fun p => p.1 != x), p ∈ own := fun p hp => (List.mem_filter.mp hp).1
  have subl : (own.filter fun p => p.1 != x).Sublist own := List.filter_sublist
  have fsub : ∀ b, b ∉ Fof env F₀ own → b ∉ Fof env F₀ (own.filter fun p => p.1 != x) := fun b hb hm => hb (by
    rcases List.mem_append.mp hm with hm | hm
    · exact List.mem_append_left _ hm
    · exact List.mem_append_right _ (muts_filter hm))
  have fk : ∀ b o, b ∉ Fof env F₀ own → h.get? b = some o → h.get? b = some o ∧ b ∉ Fof env F₀ (own.filter fun p => p.1 != x) := fun b o hb e => ⟨e, fsub b hb⟩
  refine ⟨S.base, S.keep, S.alive, S.ns, S.cells, fun p hp => S.ownlive p (sub p hp), fun b hb => S.fresh b (muts_filter hb), fun b hb => S.apart b ((subl.map (·.2)).subset hb), ?_, fun y e hy => ?_⟩
  · exact S.nodup.sublist (List.Sublist.cons_cons _ ((List.Sublist.refl _).append (subl.map (·.2))))
  · rw [List.lookup_cons] at hy
    by_cases q : (y == x) = true
    · rw [q] at hy
      cases hy
      have : y = x := beq_iff_eq.mp q
      subst this
      obtain ⟨a, o, su, hm, ho, r, hm1⟩ := S.vars y _ hx
      refine ⟨rfl, .ref a, su, a, o, rfl, fun hF => ?_, ho, r, hm1⟩
      rcases List.mem_append.mp hF with hF | hF
      · exact S.apart a (List.mem_map_of_mem hm) hF
      · rcases List.mem_cons.mp hF with e | hF
        · exact S.ownNe hm e
        · rcases List.mem_append.mp hF with hF | hF
          · obtain ⟨c, hc, e⟩ := List.mem_map.mp hF
            exact S.ownCell hm hc e.symm
          · obtain ⟨c, hc, e⟩ := List.mem_map.mp hF
            have h1 := List.mem_filter.mp hc
            have e2 : c.1 = y := S.ownName (c := a) (by have := h1.1; rw [← e]; exact this) hm
            have h2 := h1.2
            rw [e2] at h2
            simp at h2
    · simp only [q] at hy
      have hyx : y ≠ x := fun e => q (by rw [e]; exact beq_self_eq_true x)
      have old := S.vars y e hy
      cases e with
      | val p' => exact let ⟨f, u, su, r⟩ := old; ⟨f, u, su, RV.mono fk p' f r⟩
      | own l' => exact let ⟨a', vs', n', su, hm', ho', f, r⟩ := old; ⟨a', vs', n', su, List.mem_filter.mpr ⟨hm', by simpa using hyx⟩, ho', f, RVs.mono fk l' f r⟩
      | ownR R => exact let ⟨a', o', su, hm', ho', r⟩ := old; ⟨a', o', su, List.mem_filter.mpr ⟨hm', by simpa using hyx⟩, ho', r⟩
theorem Ex.freezeR {ss : List Stmt} {o : Out} {x : Str} {Rr : World → Obj → Prop} (hx : ρ.lookup x = some (.ownR Rr)) (h : Ex g k sc ((x, .val (.raw Rr)) :: ρ) ss o) : Ex g k sc ρ ss o := fun R E C S => wpAny_mono (h R E C (S.freezeR hx)) (fun _ _ x => x.less) fun _ _ x => x

def optI : Option Int → PV
  | Option.none => .none
  | some i => .int i
/-- d.get(k) -/
theorem Ev.dictGet {x : Str} {xp ap pos : Pos} {e : PySem.Expr} {kvs : List (Str × Int)} {ky : Str} (hx : ρ.lookup x = some (.val (.raw (DctS kvs)))) (hd : (x == ("__debug__" : Str)) = false) (hb : ∀ env, attributeBase (.Name x xp) "get" env (eval (.Name x xp) env) = eval (.Name x xp) env)
    (hline : (ap.endLine == pos.line) = true) (hpl : Plain [e]) (hk : Ev k sc ρ e (.str ky)) : Ev k sc ρ (.Call (.Attribute (.Name x xp) "get" ap) [e] [] pos) (optI (vat kvs ky)) := fun {w A env h₀ F₀ own s} R E S => by
  obtain ⟨_, v, sl, a, o, rfl, hF, ho, hr, hm1⟩ := S.vars x _ hx
  obtain ⟨vs, hD, hlen, hvs⟩ := hr
  have hD' : s.heap.DictOf (strKind prg w) a vs := Heap.dictOf_iff.mpr ⟨o, ho, hD⟩
  refine wpAny_Call_method_late (hb env) (by rw [hpl]; rfl) hline (hpl env pos) (wpAny_Name (sl.load E ?_) hd)
  refine ⟨"dict", "dict.get", PySem.F.plainAttrs_dict, PySem.F.slot_dict_get, PySem.F.type_dict_get, hD'.typeIs, hD'.mapOf.noDict, ?_⟩
  refine (EvL.cons hk .nil).call R E S (.inl ⟨_, rfl⟩) fun ws s₁ k₁ r₁ => ?_
  obtain ⟨u, r2, rfl, ⟨t, rfl⟩, e2⟩ := r₁
  rw [show r2 = [] from e2]
  have hD₁ : s₁.heap.DictOf (strKind prg w) a vs := Heap.dictOf_iff.mpr ⟨o, k₁.up _ _ ho, hD⟩
  have hkey : (strKind prg w).is ky (.str ky t) = true := by simp [PySem.strKind, Value.isStrOf]
  refine call_meetsIn PySem.F.slot_dict_get hD₁.typeIs PySem.F.entry_dict_get (PySem.F.args_dict_get_2 _ _) (meets_dict_get (strKind prg w) a hkey hm1.1) ⟨_, hD₁.mapOf, ?_⟩
  have hv := hvs ky
  cases e : vat kvs ky with
  | none => rw [e] at hv; rw [hv]; exact ⟨k₁.trans (Kp.tok s₁ _), rfl⟩
  | some i =>
    rw [e] at hv
    obtain ⟨t', hv⟩ := hv
    rw [hv]
    exact ⟨k₁.trans (Kp.tok s₁ _), t', rfl⟩
end
end Mine

namespace Mine
open PySem PySem.W PySem.Builtin PySem.Builtin.Str

section
variable {k : Nat} {sc : Scope} {ρ : Vars} {g : Bool}
-- [p] * n
theorem foldl_app (v : Value) : ∀ (n : Nat) (acc : Array Value), List.foldl (fun x1 x2 => x1 ++ x2) acc (List.replicate n #[v]) = acc ++ (List.replicate n v).toArray
  | 0, acc => by simp
  | n + 1, acc => by
    rw [List.replicate_succ, List.foldl_cons, foldl_app v n, List.replicate_succ]
    apply Array.toList_inj.mp
    simp
theorem RVs.rep {w : World} {h : Heap} {F : List Addr} {p : PV} {v : Value} (r : RV w h F p v) : ∀ n, RVs w h F (List.replicate n p) (List.replicate n v)
  | 0 => rfl
  | n + 1 => ⟨v, List.replicate n v, rfl, r, RVs.rep r n⟩
theorem Op2.mulL {p : PV} {i : Int} (h0 : 0 ≤ i) (hsz : i.toNat ≤ 2 ^ 24) : Op2 k (.list [p]) (.int i) (binaryOp .Mult) (.list (List.replicate i.toNat p)) := fun {w A F s u v} _ _ L hu hv => by
  obtain ⟨a, vs, n, rfl, _, ho, r⟩ := hu
  obtain ⟨t, rfl⟩ := hv
  obtain ⟨x, r2, rfl, rx, e⟩ := r
  rw [show r2 = [] from e] at ho
  refine wpAny_binaryOp_repeat_ref (T := "list") (U := "int") (by decide) ⟨_, ho, rfl⟩ (fun s' => typeIs_int s' i t) noFill_list_mul PySem.F.fills_int_mul PySem.F.slot_int_rmul repeat_list PySem.F.slot_int_index.lookup
    (call_meets PySem.F.slot_int_rmul (typeIs_int s i t) PySem.F.entry_int_rmul (PySem.F.args_int_rmul_2 _ _) (int___rmul___int_list i t a _ n)
      ⟨ho, rfl, ⟨_, ho, rfl⟩, call_meets PySem.F.slot_list_mul ⟨_, ho, rfl⟩ PySem.F.entry_list_mul (PySem.F.args_list_mul_2 _ _)
        (AutoListH.list___mul___list_int_3 a _ n i t (by simp [Builtin.List.listFitsIndex]; omega) (by simp; omega) (by simp [Builtin.List.listTooLong, sizeLine]; omega))
        ⟨ho, ?_⟩⟩)
  have e2 : (List.foldl (fun x1 x2 => x1 ++ x2) #[] (List.replicate (if ([x].toArray).isEmpty = true then 0 else i.toNat) [x].toArray)) = (List.replicate i.toNat x).toArray := by
    rw [if_neg (by simp)]
    rw [show [x].toArray = #[x] from rfl, foldl_app]
    simp
  rw [e2]
  have u1 : Up s.heap (s.heap.push { cls := .type "list", data := .seq (List.replicate i.toNat x).toArray }) := fun _ _ e => Heap.get?_push_of_some _ e
  exact ⟨Kp.heap s u1, _, _, 0, rfl, Live.new L, Heap.get?_push_size _ rfl, RVs.up u1 _ (RVs.rep rx _)⟩

theorem Op2.neNil {l : List PV} : Op2 k (.olist l) (.list []) (compareOp .NotEq) (.bool (!l.isEmpty)) := fun {w A F s u v} R _ _ hu hv => by
  obtain ⟨a, vs, rfl, hl, r⟩ := (RVl.of_olist hu).isList
  obtain ⟨b, ws, rfl, hl2, r2⟩ := (RVl.of_list hv).isList
  rw [show ws = [] from r2] at hl2
  cases l with
  | nil =>
    rw [show vs = [] from r] at hl
    exact SeqAt.RcNeAt.lists (e := fun _ => true) hl hl2 rfl R.units (fun j h1 _ => by simp at h1) _ _ _ _ ⟨Kp.refl s, rfl⟩
  | cons p l =>
    refine SeqAt.RcNeAt.lists_lengths hl hl2 ?_ R.units _ _ _ _ ⟨Kp.refl s, rfl⟩
    have := r.length
    simp [this]

/-- a frozen list of tuples, for a target of names -/
theorem EvIt.listT {elts : List PySem.Expr} {x1 : Nat} {px : Pos} {e : PySem.Expr} {ps : List PV} (hv : Ev k sc ρ e (.list ps)) (hf : PV.frozens ps = true) (ht : ∀ p ∈ ps, ∃ l, p = .tup l) : EvIt k sc ρ (.Tuple elts x1 px) true e ps := fun {w A env h₀ F₀ own s} R E S => by
  refine (hv R E S).bind fun v s₁ k₁ r => ?_
  obtain ⟨a, vs, n, rfl, hF, ho, r⟩ := r
  have hl : s₁.heap.IsList a vs.toArray := ⟨_, ho, rfl, n, rfl⟩
  have u1 : Up s₁.heap (s₁.heap.push { cls := .type "list_iterator", data := .fields #[.ref a, .int 0 0] }) := fun _ _ e => Heap.get?_push_of_some _ e
  have W := Walks.list (prog := prg) (w := w) R.hd s₁.heap.objs.size a (Nat.ne_of_lt (Heap.lt_size ho)) vs.toArray
  have esz : vs.toArray.size = ps.length := by rw [List.size_toArray, r.length]
  rw [esz] at W
  have W' := KTurns.ofWalks (target := .Tuple elts x1 px) W fun i v s Q E' hst h => by
    cases v with
    | ref T => exact wpAny_letOwnedTupleGo_listiter hst.1 h
    | _ => exact wpAny_pure h
  refine wpAny_pyIter_list hl ⟨k₁.trans (Kp.heap s₁ u1), s₁.heap.objs.size, [s₁.heap.objs.size, a], [s₁.heap.objs.size], _, _, _, rfl, W', ?_⟩
  · refine ⟨⟨⟨_, Heap.get?_push_size _ rfl, rfl, rfl⟩, hl.push _⟩, fun b hb => ?_, fun b hb => ?_, fun i h hst b hb => ?_, fun s' Q E' h hQ => W.self 0 s' Q E' h hQ, fun i v h p F' hP hp hk => ?_⟩
    · rcases List.mem_cons.mp hb with rfl | hb
      · exact ⟨⟨_, Heap.get?_push_size _ rfl⟩, Live.new (S.up k₁.up).live⟩
      · rw [List.mem_singleton.mp hb]
        exact ⟨⟨_, Heap.get?_push_of_some _ ho⟩, hF⟩
    · rw [List.mem_singleton.mp hb]
      cases e : s.heap.get? s₁.heap.objs.size with
      | none => rfl
      | some o => exact absurd (Heap.lt_size (k₁.up _ _ e)) (Nat.lt_irrefl _)
    · rw [List.mem_singleton.mp hb]
      obtain ⟨o, e, _⟩ := hst.1
      exact ⟨o, e⟩
    · have rv : RV w h F' p v := RV.mono (fun b o hb e => hk b o hb (fun q => by rw [List.mem_singleton.mp q, none_of_size] at e; cases e) (u1 _ _ e)) p (frozens_get hf hp) (r.item hp (by simpa using hP))
      obtain ⟨l, rfl⟩ := ht p (List.mem_of_getElem? hp)
      obtain ⟨T, us, m, rfl, _, hT, rr⟩ := rv
      exact ⟨T, us.toArray, rfl, ⟨_, hT, rfl, m, rfl⟩, by simpa using rr⟩

def pairUp : List PV → List PV → List PV
  | p :: ps, q :: qs => .tup [p, q] :: pairUp ps qs
  | _, _ => []
theorem pairUp_get : ∀ {ps qs : List PV} {i : Nat} {r : PV}, (pairUp ps qs)[i]? = some r → ∃ p q, ps[i]? = some p ∧ qs[i]? = some q ∧ r = .tup [p, q]
  | [], _, i, r, h => by simp [pairUp] at h
  | _ :: _, [], i, r, h => by simp [pairUp] at h
  | p :: ps, q :: qs, 0, r, h => by simp [pairUp] at h; exact ⟨p, q, rfl, rfl, h.symm⟩
  | p :: ps, q :: qs, i + 1, r, h => by
    have h' : (pairUp ps qs)[i]? = some r := by simpa [pairUp] using h
    obtain ⟨a, b, h1, h2, h3⟩ := pairUp_get h'
    exact ⟨a, b, by simpa using h1, by simpa using h2, h3⟩
theorem pairUp_length : ∀ {ps qs : List PV}, (pairUp ps qs).length = min ps.length qs.length
  | [], _ => by simp [pairUp]
  | _ :: _, [] => by simp [pairUp]
  | p :: ps, q :: qs => by simp [pairUp, pairUp_length (ps := ps) (qs := qs)]

/-- zip(xs, ys) of two frozen lists -/
theorem EvIt.zip {elts : List PySem.Expr} {x1 : Nat} {px fp pos : Pos} {ea eb : PySem.Expr} {ps qs : List PV} (hx : sc.names.lookup ("zip" : Str) = some .globalImplicit) (hpl : Plain [ea, eb]) (ha : Ev k sc ρ ea (.list ps)) (hb : Ev k sc ρ eb (.list qs)) (hf : PV.frozens ps = true) (hg : PV.frozens qs = true) :
    EvIt k sc ρ (.Tuple elts x1 px) true (.Call (.Name "zip" fp) [ea, eb] [] pos) (pairUp ps qs) := fun {w A env h₀ F₀ own s} R E S => by
  show wpAny (model prg w) A (do callWith pos (← eval (.Name "zip" fp) env) [] (backTo pos (starEach [ea, eb] env)) (backToKw pos (keywordEach [] env))) _ _ s
  rw [hpl]
  have G : GlobIs "zip" (.type "zip") := .inr ⟨fun w => rfl, rfl, by decide +kernel⟩
  refine wpAny_bind (G.load E hx (by decide +kernel) S.here ?_)
  refine (EvL.cons ha (.cons hb .nil)).call R E S (.inr (.inl ⟨_, rfl⟩)) fun vs s₁ k₁ r => ?_
  obtain ⟨v1, r1, rfl, rv1, v2, r2, rfl, rv2, e⟩ := r
  rw [show r2 = [] from e]
  obtain ⟨l1, us, n1, rfl, hF1, ho1, ru⟩ := rv1
  obtain ⟨l2, ws, n2, rfl, hF2, ho2, rw2⟩ := rv2
  have hl1 : s₁.heap.IsList l1 us.toArray := ⟨_, ho1, rfl, n1, rfl⟩
  have hl2 : s₁.heap.IsList l2 ws.toArray := ⟨_, ho2, rfl, n2, rfl⟩
  refine call_zip_2 hl1 hl2 fun h' hz hTI hTO hi1 hi2 hsize hkeep => ?_
  generalize hB : s₁.heap.objs.size = B at hz hTI hTO hi1 hi2 hsize ⊢
  have b1 : @LT.lt Nat _ l1 B := hB ▸ Heap.lt_size ho1
  have b2 : @LT.lt Nat _ l2 B := hB ▸ Heap.lt_size ho2
  have ne : ∀ x y : Nat, (x < y ∨ y < x) → x ≠ y := by omega
  have fresh1 : ∀ j, s₁.heap.get? (B + j) = none := fun j => by
    cases e : s₁.heap.get? (B + j) with
    | none => rfl
    | some o => exact absurd (Heap.lt_size e) (by rw [hB]; exact Nat.not_lt.mpr (Nat.le_add_right B j))
  have fresh0 : ∀ j, s.heap.get? (B + j) = none := fun j => by
    cases e : s.heap.get? (B + j) with
    | none => rfl
    | some o => have := k₁.up _ _ e; rw [fresh1] at this; cases this
  have hB0 : s.heap.get? B = none := by have := fresh0 0; simpa using this
  have hB1 : s₁.heap.get? B = none := by have := fresh1 0; simpa using this
  have k₂ : Kp s₁ { s₁ with heap := h' } := Kp.heap s₁ fun c o e => hkeep c o e
  have D : ZipApart (B + 4) (B + 2) (B + 3) B (B + 1) l1 l2 := by constructor <;> exact ne _ _ (by omega)
  have W := KTurns.ofWalksU (elts := elts) (k := x1) (pos := px) (WalksT.zip2 (prog := prg) (w := w) (A := A) R.hd (B + 4) (B + 2) (B + 3) B (B + 1) l1 l2 D us.toArray ws.toArray).toU
  have hlen : min us.toArray.size ws.toArray.size = (pairUp ps qs).length := by rw [pairUp_length, List.size_toArray, List.size_toArray, ru.length, rw2.length]
  rw [hlen] at W
  have hLive := (S.up k₁.up).live
  have hnF : ∀ b, s₁.heap.get? b = none → b ∉ Fof env F₀ own := fun b hb => Live.none hLive hb
  refine wpAny_pyIter_zip hz ⟨k₁.trans k₂, B + 4, _, _, _, _, _, rfl, W, ⟨hz, hTI, ⟨_, _, hTO⟩, hi1, hi2, hl1.at fun o e => hkeep _ o e, hl2.at fun o e => hkeep _ o e⟩, fun b hb => ?_, fun b hb => ?_, fun i h hst b hb => ?_, fun s' Q E' h hQ => wpAny_pyIter_zip h.1 hQ, fun i v h p F' hP hp hk => ?_⟩
  · simp only [List.mem_cons, List.not_mem_nil, or_false] at hb
    rcases hb with rfl | rfl | rfl | rfl | rfl | rfl | rfl
    · exact ⟨⟨_, hz⟩, hnF _ (fresh1 4)⟩
    · exact ⟨⟨_, hTI⟩, hnF _ (fresh1 2)⟩
    · exact ⟨⟨_, hTO⟩, hnF _ (fresh1 3)⟩
    · exact ⟨let ⟨o, e, _⟩ := hi1; ⟨o, e⟩, hnF _ hB1⟩
    · exact ⟨let ⟨o, e, _⟩ := hi2; ⟨o, e⟩, hnF _ (fresh1 1)⟩
    · exact ⟨⟨_, hkeep _ _ ho1⟩, hF1⟩
    · exact ⟨⟨_, hkeep _ _ ho2⟩, hF2⟩
  · simp only [List.mem_cons, List.not_mem_nil, or_false] at hb
    rcases hb with rfl | rfl | rfl | rfl
    · exact fresh0 4
    · exact fresh0 3
    · exact hB0
    · exact fresh0 1
  · obtain ⟨hz', _, ⟨a, b', hTO'⟩, hi1', hi2', _⟩ := hst
    simp only [List.mem_cons, List.not_mem_nil, or_false] at hb
    rcases hb with rfl | rfl | rfl | rfl
    · exact ⟨_, hz'⟩
    · exact ⟨_, hTO'⟩
    · obtain ⟨o, e, _⟩ := hi1'; exact ⟨o, e⟩
    · obtain ⟨o, e, _⟩ := hi2'; exact ⟨o, e⟩
  · obtain ⟨T, vals, rfl, ⟨x, y, hx', hy', rfl⟩, hT⟩ := hP
    obtain ⟨p1, q1, h1, h2, rfl⟩ := pairUp_get hp
    have fk : ∀ b o, b ∉ Fof env F₀ own → s₁.heap.get? b = some o → h.get? b = some o ∧ b ∉ F' := fun b o hb e => hk b o hb (fun q => by
      simp only [List.mem_cons, List.not_mem_nil, or_false] at q
      rcases q with rfl | rfl | rfl | rfl
      · rw [fresh1 4] at e; cases e
      · rw [fresh1 3] at e; cases e
      · rw [hB1] at e; cases e
      · rw [fresh1 1] at e; cases e) (hkeep _ _ e)
    refine ⟨T, #[x, y], rfl, hT, x, [y], rfl, RV.mono fk p1 (frozens_get hf h1) (ru.item h1 (by simpa using hx')), y, [], rfl, RV.mono fk q1 (frozens_get hg h2) (rw2.item h2 (by simpa using hy')), rfl⟩
end
end Mine

namespace Mine
open PySem PySem.W PySem.Builtin PySem.Builtin.Str

/-- what a generator's run may change: hs is the heap that its consumer had, gl its own frame -/
def Gd (hs : Heap) (gl : Addr) (s₀ s : Shared) : Prop := ∃ h tk, s = { s₀ with heap := h, toks := tk } ∧ (∀ b o, s₀.heap.get? b = some o → b ≠ gl → (DC o ∨ ∃ o₁, hs.get? b = some o₁) → h.get? b = some o) ∧ ((∃ o, s₀.heap.get? gl = some o) → ∃ o, h.get? gl = some o)
theorem Gd.refl {hs : Heap} {gl : Addr} (s : Shared) : Gd hs gl s s := ⟨s.heap, s.toks, rfl, fun _ _ e _ _ => e, fun h => h⟩
/-- what the consumer keeps for its generator -/
def As (h₀ : Heap) (hs : Heap) (ax gl : Addr) (s s'' : Shared) : Prop := Up h₀ s''.heap ∧ (∀ b o₁, hs.get? b = some o₁ → ∃ o, s''.heap.get? b = some o) ∧ ∀ b o, s.heap.get? b = some o → ((¬ DC o ∧ hs.get? b = Option.none) ∨ b = ax ∨ b = gl) → s''.heap.get? b = some o

def Yp (w : World) (h₀ : Heap) (hs : Heap) (ax gl : Addr) (fin tt : Bool) (all : List PV) : Protocol := fun n s₀ v s kap =>
  (∃ p, all.reverse[n]? = some p ∧ ∀ F, ItemR w tt s.heap F p v) ∧ Gd hs gl s₀ s ∧ ((fin = true ∨ 0 < n) → ∀ s'' : Shared, As h₀ hs ax gl s s'' → kap (.send .none) s'')
def Gn (hs : Heap) (gl : Addr) : GenEnd := fun n s₀ r s => r = .ok (.ret .none) ∧ (n = 0 ∧ Gd hs gl s₀ s)

/-- the parts of a step of the generator -/
theorem Gd.step {hs : Heap} {gl : Addr} {s₀ s s' : Shared} (x : Gd hs gl s₀ s) {h' : Heap} {tk : Nat} (e : s' = { s with heap := h', toks := tk }) (hk : ∀ b o, s.heap.get? b = some o → b ≠ gl → (DC o ∨ ∃ o₁, hs.get? b = some o₁) → h'.get? b = some o) (hg : (∃ o, s.heap.get? gl = some o) → ∃ o, h'.get? gl = some o) : Gd hs gl s₀ s' := by
  obtain ⟨h, t, rfl, k, kg⟩ := x
  subst e
  exact ⟨h', tk, rfl, fun b o eo hb hd => hk b o (k b o eo hb hd) hb hd, fun h => hg (kg h)⟩
theorem Gd.up {hs : Heap} {gl : Addr} {s₀ s s' : Shared} (x : Gd hs gl s₀ s) (k : Kp s s') : Gd hs gl s₀ s' := by
  obtain ⟨h, t, rfl, u⟩ := k
  exact x.step rfl (fun b o e _ _ => u b o e) fun ⟨o, e⟩ => ⟨o, u _ _ e⟩
theorem Gd.loc {hs : Heap} {gl : Addr} {s₀ s s' : Shared} (x : Gd hs gl s₀ s) (g : GK false s s') (b : But [gl] s.heap s'.heap) : Gd hs gl s₀ s' := by
  obtain ⟨h, t, gs, rfl, e, _⟩ := g
  rw [e rfl]
  exact x.step rfl (fun c o e hc _ => (b c o e).1 fun q => hc (List.mem_singleton.mp q)) fun ⟨o, e⟩ => (b _ o e).2

def atom : PV → Bool
  | .none | .bool _ | .int _ | .str _ => true
  | _ => false
theorem RV.atoms {w : World} {h h' : Heap} {F F' : List Addr} : ∀ {p : PV} {v : Value}, atom p = true → RV w h F p v → RV w h' F' p v
  | .none, _, _, x => x
  | .bool _, _, _, x => x
  | .int _, _, _, x => x
  | .str _, _, _, x => x
def Atoms (ρ : Vars) : Prop := ∀ x e, ρ.lookup x = some e → ∃ p, e = .val p ∧ atom p = true

structure FsOK (fs : List Frame) (gd : Bool → Bool) : Prop where
  split : splitAtGen fs = Option.none
  guard : gd false = false
  any : fs.any Frame.guarded = false

/-- the frame of the generator: only names that are local, no cells -/
structure GEnv (sc : Scope) (env : Env) (hs : Heap) (gl : Addr) : Prop where
  ok : EnvOK sc env
  loc : env.locals = gl
  cells : env.cells = []
  co : sc.isCoroutine = false

/-- a heap fact that neither the frame's changes nor the consumer disturb -/
structure Stable (tp : Bool) (h₀ : Heap) (hs : Heap) (ax gl : Addr) (I : Heap → Prop) : Prop where
  loc : ∀ h h', But [gl] h h' → I h → I h'
  as : ∀ s s'', As h₀ hs ax gl s s'' → I s.heap → I s''.heap
  own : tp = true → ∀ h h', (∀ b o, h.get? b = some o → b ≠ gl → (DC o ∨ ∃ o₁, hs.get? b = some o₁) → h'.get? b = some o) → ((∃ o, h.get? gl = some o) → ∃ o, h'.get? gl = some o) → I h → I h'
  lv : tp = true → ∀ h, I h → ∀ b o₁, hs.get? b = some o₁ → ∃ o, h.get? b = some o

section
variable {k : Nat} {sc : Scope} {w : World} {A : Around} {env : Env} {h₀ : Heap} {hs : Heap} {ax gl : Addr} {tp fin tt : Bool} {all : List PV}

theorem St.atomsTo {ρ : Vars} {h h' : Heap} (G : GEnv sc env hs gl) (S : St w env h₀ [] [] ρ h) (ha : Atoms ρ) (hu : Up h₀ h') (hl : ∀ o, h.get? gl = some o → h'.get? gl = some o) : St w env h₀ [] [] ρ h' := by
  obtain ⟨m, hns⟩ := S.ns
  have hns' : h'.Ns env.locals m := hns.at' fun o e => by rw [G.loc] at e ⊢; exact hl o e
  refine ⟨S.base, hu, (fun _ h => nomatch h), ⟨m, hns'⟩, fun p hp => ?_, (fun _ h => nomatch h), S.fresh, (fun _ h => nomatch h), S.nodup, fun y e hy => ?_⟩
  · rw [G.cells] at hp; cases hp
  · obtain ⟨p, rfl, hp⟩ := ha y e hy
    obtain ⟨f, v, sl, r⟩ := S.vars y _ hy
    refine ⟨f, v, ?_, RV.atoms hp r⟩
    rcases sl with ⟨a, m', n', e⟩ | ⟨a, c, e, _⟩
    · rw [nsUnique n' hns] at e
      exact .inl ⟨a, m, hns', e⟩
    · rw [G.cells] at e; cases e
theorem St.atAs {ρ : Vars} {s s'' : Shared} (G : GEnv sc env hs gl) (S : St w env h₀ [] [] ρ s.heap) (ha : Atoms ρ) (x : As h₀ hs ax gl s s'') : St w env h₀ [] [] ρ s''.heap :=
  S.atomsTo G ha x.1 fun o e => x.2.2 _ o e (.inr (.inr rfl))

/-- statements of a generator: what they yield, how they end; none: they are left in the midst of the yields -/
def GS (k : Nat) (w : World) (A : Around) (env : Env) (h₀ : Heap) (hs : Heap) (ax gl : Addr) (tp fin tt : Bool) (all : List PV) (ss : List Stmt) (ρ : Vars) (ys : List PV) (o : Option (Flow × Vars)) : Prop :=
  ∀ {I : Heap → Prop}, Stable tp h₀ hs ax gl I → ∀ {c : Code} {fs : List Frame} {K : Flow → Sem Fin} {H : Value → Sem Fin} {gd : Bool → Bool} {lv : List Value → List Value} {s₀ s : Shared} {rem : List PV},
    FsOK fs gd → Room k (A.over c fs) → St w env h₀ [] [] ρ s.heap → I s.heap → Gd hs gl s₀ s → (∃ pre, all = pre ++ (ys ++ rem)) → (o = Option.none → rem = []) →
    (∀ f ρ', o = some (f, ρ') → ∀ s₀' s', St w env h₀ [] [] ρ' s'.heap → I s'.heap → Gd hs gl s₀' s' → (fin = true ∨ 0 < rem.length ∨ ys = []) → Seg (model prg w) A (Gn hs gl) (Yp w h₀ hs ax gl fin tt all) rem.length s₀' c (K f) fs s') →
    Seg (model prg w) A (Gn hs gl) (Yp w h₀ hs ax gl fin tt all) (ys ++ rem).length s₀ c ((execs ss env).wrap K H gd lv) fs s
/-- one statement -/
def GS1 (k : Nat) (w : World) (A : Around) (env : Env) (h₀ : Heap) (hs : Heap) (ax gl : Addr) (tp fin tt : Bool) (all : List PV) (st : Stmt) (ρ : Vars) (ys : List PV) (o : Option (Flow × Vars)) : Prop :=
  ∀ {I : Heap → Prop}, Stable tp h₀ hs ax gl I → ∀ {c : Code} {fs : List Frame} {K : Flow → Sem Fin} {H : Value → Sem Fin} {gd : Bool → Bool} {lv : List Value → List Value} {s₀ s : Shared} {rem : List PV},
    FsOK fs gd → Room k (A.over c fs) → St w env h₀ [] [] ρ s.heap → I s.heap → Gd hs gl s₀ s → (∃ pre, all = pre ++ (ys ++ rem)) → (o = Option.none → rem = []) →
    (∀ f ρ', o = some (f, ρ') → ∀ s₀' s', St w env h₀ [] [] ρ' s'.heap → I s'.heap → Gd hs gl s₀' s' → (fin = true ∨ 0 < rem.length ∨ ys = []) → Seg (model prg w) A (Gn hs gl) (Yp w h₀ hs ax gl fin tt all) rem.length s₀' c (K f) fs s') →
    Seg (model prg w) A (Gn hs gl) (Yp w h₀ hs ax gl fin tt all) (ys ++ rem).length s₀ c ((exec st env).wrap K H gd lv) fs s

theorem GS.nil {ρ : Vars} : GS k w A env h₀ hs ax gl tp fin tt all [] ρ [] (some (.next, ρ)) := fun {I} _ {c fs K H gd lv s₀ s rem} _ _ S hI g _ _ hc => by
  show Seg _ _ _ _ rem.length _ _ _ _ _
  exact seg_execs_nil (hc _ _ rfl s₀ s S hI g (.inr (.inr rfl)))
theorem GS.cons {st : Stmt} {ss : List Stmt} {ρ ρ₁ : Vars} {ys zs : List PV} {o : Option (Flow × Vars)} (h : GS1 k w A env h₀ hs ax gl tp fin tt all st ρ ys (some (.next, ρ₁))) (hr : GS k w A env h₀ hs ax gl tp fin tt all ss ρ₁ zs o) : GS k w A env h₀ hs ax gl tp fin tt all (st :: ss) ρ (ys ++ zs) o := fun {I} hs {c fs K H gd lv s₀ s rem} F R S hI g hpre hn hc => by
  refine seg_execs_cons ?_
  rw [List.append_assoc]
  obtain ⟨pre, hpre⟩ := hpre
  rw [List.append_assoc] at hpre
  refine h hs F R S hI g ⟨pre, hpre⟩ (fun h => nomatch h) fun f₁ ρ₁' e₁ s₀' s' S' hI' g' h1 => ?_
  cases e₁
  refine hr hs F R S' hI' g' ⟨pre ++ ys, by rw [hpre, List.append_assoc]⟩ hn fun f₂ ρ₂ e₂ s₀'' s'' S'' hI'' g'' h2 => hc f₂ ρ₂ e₂ s₀'' s'' S'' hI'' g'' ?_
  rcases h2 with h2 | h2 | h2
  · exact .inl h2
  · exact .inr (.inl h2)
  · rcases h1 with h1 | h1 | h1
    · exact .inl h1
    · rw [h2, List.nil_append] at h1
      exact .inr (.inl h1)
    · exact .inr (.inr (by rw [h1, h2]; rfl))
theorem GS.stop {st : Stmt} {ss : List Stmt} {ρ : Vars} {ys : List PV} {o : Option (Flow × Vars)} (h : GS1 k w A env h₀ hs ax gl tp fin tt all st ρ ys o) (ho : ∀ f ρ', o = some (f, ρ') → ∃ v, f = .ret v) : GS k w A env h₀ hs ax gl tp fin tt all (st :: ss) ρ ys o := fun {I} hs {c fs K H gd lv s₀ s rem} F R S hI g hpre hn hc => by
  refine seg_execs_cons ?_
  refine h hs F R S hI g hpre hn fun f ρ' e s₀' s' S' hI' g' h1 => ?_
  obtain ⟨v, rfl⟩ := ho f ρ' e
  exact hc _ _ e s₀' s' S' hI' g' h1
theorem GS.one {st : Stmt} {ρ : Vars} {ys : List PV} {ρ₁ : Vars} (h : GS1 k w A env h₀ hs ax gl tp fin tt all st ρ ys (some (.next, ρ₁))) : GS k w A env h₀ hs ax gl tp fin tt all [st] ρ ys (some (.next, ρ₁)) := by
  have this : GS k w A env h₀ hs ax gl tp fin tt all [st] ρ (ys ++ []) (some (.next, ρ₁)) := GS.cons h GS.nil
  rwa [List.append_nil] at this
theorem GS1.assign {x : Str} {xp pos : Pos} {value : PySem.Expr} {p : PV} {ρ : Vars} (G : GEnv sc env hs gl) (hx : sc.names.lookup x = some .local) (hsw : ∀ env : Env, env.scope = sc → swapsWith value (some (.Name x xp)) pos.line env = pure false) (hv : Ev k sc ρ value p) (hf : p.frozen = true) :
    GS1 k w A env h₀ hs ax gl tp fin tt all (.Assign [.Name x xp] value pos) ρ [] (some (.next, (x, .val p) :: ρ)) := fun {I} hst {c fs K H gd lv s₀ s rem} F R S hI g _ _ hc => by
  refine seg_wrap (wpAny_Assign_Name (wpAny_mono (hv R G.ok S) (fun v s₁ h₁ => ?_) fun _ _ x => x.elim) (hsw env G.ok.scope))
  obtain ⟨k₁, r⟩ := h₁
  have S₁ := S.up k₁.up
  refine wpAny_mono (S₁.storeL (Q := fun _ s' => Seg (model prg w) A (Gn hs gl) (Yp w h₀ hs ax gl fin tt all) ([] ++ rem).length s₀ c (K .next) fs s') G.ok hx fun s' he hs' hl S' sl => ?_) (fun _ _ x => x) fun _ _ x => x.elim
  have hk := But.of_locals hs' hl
  have hkg : But [gl] s₁.heap s'.heap := G.loc ▸ hk
  have r' : RV w s'.heap (Fof env [] []) p v := RV.mono (fun b o hb e => ⟨(hk b o e).1 (fun q => hb (List.mem_append_right _ (by rw [List.mem_singleton.mp q]; exact mem_locals))), hb⟩) p hf r
  exact hc _ _ rfl s₀ s' (S'.addVal sl hf r') (hst.loc _ _ hkg (hst.loc _ _ (But.of_up k₁.up) hI)) ((g.up k₁).loc (.of_eq he) hkg) (.inr (.inr rfl))
theorem GS1.ifB {t : PySem.Expr} {b o : List Stmt} {pos : Pos} {ρ : Vars} {ys : List PV} {out : Option (Flow × Vars)} {cb : Bool} (G : GEnv sc env hs gl) (ht : Tst k sc ρ t cb) (hb : cb = true → GS k w A env h₀ hs ax gl tp fin tt all b ρ ys out) (ho : cb = false → GS k w A env h₀ hs ax gl tp fin tt all o ρ ys out) :
    GS1 k w A env h₀ hs ax gl tp fin tt all (.If t b o pos) ρ ys out := fun {I} hst {c fs K H gd lv s₀ s rem} F R S hI g hpre hn hc => by
  rw [exec_If]
  refine seg_bind_wrap (wpAny_standAt (seg_bind_wrap (wpAny_mono (ht R G.ok S) (fun c' s₁ h₁ => ?_) fun _ _ x => x.elim)))
  obtain ⟨rfl, k₁⟩ := h₁
  have hI₁ := hst.loc _ _ (But.of_up k₁.up) hI
  cases c' with
  | true => exact hb rfl hst F R (S.up k₁.up) hI₁ (g.up k₁) hpre hn hc
  | false => exact ho rfl hst F R (S.up k₁.up) hI₁ (g.up k₁) hpre hn hc

/-- the value of a yield -/
def YV (k : Nat) (sc : Scope) (ρ : Vars) (tt : Bool) (e : PySem.Expr) (p : PV) : Prop :=
  ∀ {w : World} {A : Around} {env : Env} {h₀ : Heap} {F₀ : List Addr} {own : List (Str × Addr)} {s : Shared}, Room k A → EnvOK sc env → St w env h₀ F₀ own ρ s.heap →
    wpAny (model prg w) A (eval e env) (fun v s' => Kp s s' ∧ ∀ F, ItemR w tt s'.heap F p v) NoE s
theorem YV.atom {ρ : Vars} {e : PySem.Expr} {p : PV} (h : Ev k sc ρ e p) (hp : Mine.atom p = true) : YV k sc ρ false e p := fun R E S => wpAny_mono (h R E S) (fun v s' x => ⟨x.1, fun F => RV.atoms hp x.2⟩) fun _ _ x => x
theorem YV.pair {ρ : Vars} {a b : PySem.Expr} {kd : Nat} {pos : Pos} {p q : PV} (hpl : Plain [a, b]) (ha : Ev k sc ρ a p) (hb : Ev k sc ρ b q) (hp : Mine.atom p = true) (hq : Mine.atom q = true) : YV k sc ρ true (.Tuple [a, b] kd pos) (.tup [p, q]) := fun {w A env h₀ F₀ own s} R E S => by
  refine PyProof.Rows.Tuple_ ?_
  rw [hpl]
  refine wpAny_mono ((EvL.cons ha (.cons hb .nil)).spl R E S) (fun vs s₁ h₁ => ?_) fun _ _ x => x
  obtain ⟨k₁, u1, r1, rfl, x1, u2, r2, rfl, x2, e⟩ := h₁
  rw [show r2 = [] from e]
  have up : Up s₁.heap (s₁.heap.push { cls := .type "tuple", data := .seq [u1, u2].toArray }) := fun _ _ e => Heap.get?_push_of_some _ e
  refine wpAny_newObj_type ⟨k₁.trans (Kp.heap s₁ up), fun F => ?_⟩ (by show 2 ≤ sizeLine; decide)
  exact ⟨_, #[u1, u2], rfl, ⟨_, Heap.get?_push_size _ rfl, rfl, 0, rfl⟩, u1, [u2], rfl, RV.atoms hp x1, u2, [], rfl, RV.atoms hq x2, rfl⟩

theorem rev_at {all pre rem : List PV} {p : PV} (h : all = pre ++ (p :: rem)) : all.reverse[rem.length]? = some p := by
  subst h
  rw [List.reverse_append, List.reverse_cons, List.append_assoc, List.getElem?_append_right (by simp)]
  simp

/-- a yield; ends: the generator is left there -/
theorem GS1.yield {e : PySem.Expr} {yp pos : Pos} {ρ : Vars} {p : PV} {o : Option (Flow × Vars)} (ho : o = some (.next, ρ) ∨ (o = Option.none ∧ fin = false)) (G : GEnv sc env hs gl) (ha : Atoms ρ) (hv : YV k sc ρ tt e p) : GS1 k w A env h₀ hs ax gl tp fin tt all (.Expr (.Yield (some e) yp) pos) ρ [p] o := fun {I} hst {c fs K H gd lv s₀ s rem} F R S hI g hpre hn hc => by
  obtain ⟨pre, hpre⟩ := hpre
  show Seg _ _ _ _ (rem.length + 1) _ _ _ _ _
  have hco : env.scope.isCoroutine = false := by rw [G.ok.scope]; exact G.co
  refine seg_Expr_Yield F.split F.guard F.any (wpAny_mono (hv R G.ok S) (fun v s₁ h₁ kap hkap => ?_) fun _ _ x => x.elim) hco (notInteractive G.ok)
  obtain ⟨k₁, hi⟩ := h₁
  have S₁ := S.up k₁.up
  have g₁ := g.up k₁
  have hI₁ := hst.loc _ _ (But.of_up k₁.up) hI
  refine ⟨⟨p, rev_at hpre, hi⟩, g₁, fun hgo s'' has => hkap .none s'' ?_⟩
  rcases ho with rfl | ⟨rfl, hfin⟩
  · exact hc _ _ rfl s'' s'' (S₁.atAs G ha has) (hst.as _ _ has hI₁) (Gd.refl s'') (hgo.imp id .inl)
  · rw [hn rfl] at hgo
    rcases hgo with h | h
    · rw [hfin] at h; cases h
    · exact absurd h (Nat.lt_irrefl _)
end
end Mine

namespace Mine
open PySem PySem.W PySem.Builtin PySem.Builtin.Str

/-- what an iterable draws in a generator's frame -/
def EvG (k : Nat) (sc : Scope) (ρ : Vars) (hs : Heap) (ax gl : Addr) (tgt : PySem.Expr) (tl : Bool) (e : PySem.Expr) (ps : List PV) : Prop :=
  ∀ {w : World} {A : Around} {env : Env} {h₀ : Heap} {s : Shared}, Room k A → EnvOK sc env → St w env h₀ [] [] ρ s.heap → env.locals = gl → (∀ b o₁, hs.get? b = some o₁ → ∃ o, s.heap.get? b = some o) →
    wpAny (model prg w) A (eval e env) (fun v s₁ => wpAny (model prg w) A (pyIter v) (fun it s₂ => Kp s s₂ ∧ ∃ I fp wr P Md Stt, it = .ref I ∧ (∀ A' : Around, A'.handled = Option.none → KTurns prg w A' tgt I fp wr ps.length P Md Stt) ∧ Stt 0 s₂.heap ∧
      (∀ i h, Stt i h → ∀ b ∈ fp, b = ax ∨ ∃ o, h.get? b = some o ∧ ¬ DC o) ∧ (∀ b ∈ fp, b ≠ gl ∧ (b = ax ∨ hs.get? b = Option.none)) ∧ (∀ b ∈ wr, b ≠ ax) ∧
      (∀ i v h p, P i v h → ps[i]? = some p → ∀ F, ItemR w tl h F p v)) NoE s₁) NoE s

section
variable {k : Nat} {sc : Scope} {w : World} {A : Around} {env : Env} {h₀ : Heap} {hs : Heap} {ax gl : Addr} {tp fin tt : Bool} {all : List PV}

inductive GLoop (k : Nat) (sc : Scope) (w : World) (A : Around) (env : Env) (h₀ : Heap) (hs : Heap) (ax gl : Addr) (tp fin tt : Bool) (all : List PV) (tgt : PySem.Expr) (tl : Bool) (body orelse : List Stmt) : List PV → Vars → List PV → Option (Flow × Vars) → Prop
  | done {ρ ys o} : Atoms ρ → GS k w A env h₀ hs ax gl tp fin tt all orelse ρ ys o → GLoop k sc w A env h₀ hs ax gl tp fin tt all tgt tl body orelse [] ρ ys o
  | next {ρ ρ₁ ρ₂ p ps ys zs o} : Atoms ρ → AsgL sc tgt tl p ρ ρ₁ → GS k w A env h₀ hs ax gl tp fin tt all body ρ₁ ys (some (.next, ρ₂)) → GLoop k sc w A env h₀ hs ax gl tp fin tt all tgt tl body orelse ps ρ₂ zs o → GLoop k sc w A env h₀ hs ax gl tp fin tt all tgt tl body orelse (p :: ps) ρ (ys ++ zs) o
  | ret {ρ ρ₁ ρ₂ p ps ys v} : Atoms ρ → AsgL sc tgt tl p ρ ρ₁ → GS k w A env h₀ hs ax gl tp fin tt all body ρ₁ ys (some (.ret v, ρ₂)) → GLoop k sc w A env h₀ hs ax gl tp fin tt all tgt tl body orelse (p :: ps) ρ ys (some (.ret v, ρ₂))
  | cut {ρ ρ₁ p ps ys} : Atoms ρ → AsgL sc tgt tl p ρ ρ₁ → GS k w A env h₀ hs ax gl tp fin tt all body ρ₁ ys Option.none → GLoop k sc w A env h₀ hs ax gl tp fin tt all tgt tl body orelse (p :: ps) ρ ys Option.none

theorem den_forLoop (target : PySem.Expr) (it : Value) (body orelse : List Stmt) : (model prg w).den (.forLoop target it body orelse env) = (forTurn target it body orelse env).onRaise (fun x => do noteFrame x env; theTreesLotGoes x) := rfl

/-- the turns of a for loop; the bodies hold no other for loop -/
theorem gloop_run {target : PySem.Expr} {tl : Bool} {body orelse : List Stmt} {I : Addr} {fp wr : List Addr} {P Md : Nat → Value → Heap → Prop} {Stt : Nat → Heap → Prop} {its : List PV} (G : GEnv sc env hs gl)
    (W : ∀ A' : Around, A'.handled = Option.none → KTurns prg w A' target I fp wr its.length P Md Stt) (hcl : ∀ i h, Stt i h → ∀ b ∈ fp, b = ax ∨ ∃ o, h.get? b = some o ∧ ¬ DC o) (hfp : ∀ b ∈ fp, b ≠ gl ∧ (b = ax ∨ hs.get? b = Option.none)) (hwr : ∀ b ∈ wr, b ≠ ax) (hbase : ∀ b o, h₀.get? b = some o → ∃ o₁, hs.get? b = some o₁)
    (hit : ∀ i v h p, P i v h → its[i]? = some p → ∀ F, ItemR w tl h F p v) {fs : List Frame} (hsp : splitAtGen fs = Option.none) (hany : fs.any Frame.guarded = false)
    (R : Room k (A.over (.forLoop target (.ref I) body orelse env) fs)) (R2 : Room k (A.over (.block orelse env) fs)) {J : Heap → Prop} (hJ : Stable true h₀ hs ax gl J) :
    ∀ {ps : List PV} {ρ : Vars} {ys : List PV} {o : Option (Flow × Vars)}, GLoop k sc w A env h₀ hs ax gl false fin tt all target tl body orelse ps ρ ys o → ∀ {i : Nat}, i ≤ its.length → ps = its.drop i → ∀ {s₀ s : Shared} {rem : List PV},
    St w env h₀ [] [] ρ s.heap → Stt i s.heap → J s.heap → Gd hs gl s₀ s → (∃ pre, all = pre ++ (ys ++ rem)) → (o = Option.none → rem = []) →
    (∀ f ρ', o = some (f, ρ') → ∀ c', (c' = .forLoop target (.ref I) body orelse env ∨ c' = .block orelse env) → ∀ s₀' s', St w env h₀ [] [] ρ' s'.heap → J s'.heap → Gd hs gl s₀' s' → (fin = true ∨ 0 < rem.length ∨ ys = []) → Seg (model prg w) A (Gn hs gl) (Yp w h₀ hs ax gl fin tt all) rem.length s₀' c' (.pure (.done f)) fs s') →
    Seg (model prg w) A (Gn hs gl) (Yp w h₀ hs ax gl fin tt all) (ys ++ rem).length s₀ (.forLoop target (.ref I) body orelse env) ((model prg w).den (.forLoop target (.ref I) body orelse env)) fs s := by
  intro ps ρ ys o hL
  have hwm : ∀ b ∈ wr, b ∉ muts env [] := fun b hb q => by
    rcases List.mem_cons.mp q with q | q
    · exact (hfp b ((W _ R.hd).sub b hb)).1 (q.trans G.loc)
    · rw [G.cells] at q; cases q
  have hwn : ∀ b ∈ wr, hs.get? b = Option.none := fun b hb => ((hfp b ((W _ R.hd).sub b hb)).2).resolve_left (hwr b hb)
  have hgw : gl ∉ wr := fun q => (hfp gl ((W _ R.hd).sub gl q)).1 rfl
  have hFof : Fof env [] [] = [gl] := by show muts env [] = [gl]; unfold muts; rw [G.cells, G.loc]; rfl
  have up0 : ∀ {h h' : Heap}, Up h₀ h → (∀ b o, b ∉ wr → h.get? b = some o → h'.get? b = some o) → Up h₀ h' := fun hu hk b o e => hk b o (fun q => by
    obtain ⟨o₁, e₁⟩ := hbase b o e
    rw [hwn b q] at e₁; cases e₁) (hu b o e)
  have drawGd : ∀ {i : Nat} {s₀ s : Shared} {h' : Heap} {tk : Nat}, Stt i s.heap → Gd hs gl s₀ s → (∀ b o, b ∉ wr → s.heap.get? b = some o → h'.get? b = some o) → Gd hs gl s₀ { s with heap := h', toks := tk } := fun {i s₀ s h' tk} st g hk => by
    refine g.step rfl (fun b o e hb hd => hk b o (fun q => ?_) e) fun ⟨o, e⟩ => ⟨o, hk _ o hgw e⟩
    rcases hcl i _ st b ((W _ R.hd).sub b q) with h | ⟨o', e', hnd⟩
    · exact hwr b q h
    · rw [e] at e'; cases e'
      rcases hd with hd | ⟨o₁, e₁⟩
      · exact hnd hd
      · rw [hwn b q] at e₁; cases e₁
  have drawJ : ∀ {i : Nat} {h h' : Heap}, Stt i h → J h → (∀ b o, b ∉ wr → h.get? b = some o → h'.get? b = some o) → J h' := fun {i h h'} st hj hk => by
    refine hJ.own rfl h h' (fun b o e hb hd => hk b o (fun q => ?_) e) (fun ⟨o, e⟩ => ⟨o, hk _ o hgw e⟩) hj
    rcases hcl i _ st b ((W _ R.hd).sub b q) with h | ⟨o', e', hnd⟩
    · exact hwr b q h
    · rw [e] at e'; cases e'
      rcases hd with hd | ⟨o₁, e₁⟩
      · exact hnd hd
      · rw [hwn b q] at e₁; cases e₁
  have inner : ∀ i, Stable false h₀ hs ax gl (fun h => Stt i h ∧ J h) := fun i => ⟨fun h h' b ⟨x, y⟩ => ⟨(W _ R.hd).frame _ _ _ x fun c hc o e => (b c o e).1 fun q => (hfp c hc).1 (List.mem_singleton.mp q), hJ.loc _ _ b y⟩,
    fun s s'' as ⟨x, y⟩ => ⟨(W _ R.hd).frame _ _ _ x fun c hc o e => as.2.2 c o e (by
      rcases hcl i _ x c hc with h | ⟨o', e', hnd⟩
      · exact .inr (.inl h)
      · rw [e] at e'; cases e'
        rcases (hfp c hc).2 with h | h
        · exact .inr (.inl h)
        · exact .inl ⟨hnd, h⟩), hJ.as _ _ as y⟩, (fun h => nomatch h), (fun h => nomatch h)⟩
  -- a draw and an assignment
  have turn : ∀ {ρ ρ₁ : Vars} {p : PV} {i : Nat} {s₀ s : Shared} {n : Nat}, Atoms ρ → AsgL sc target tl p ρ ρ₁ → (hi : i < its.length) → its[i]? = some p → St w env h₀ [] [] ρ s.heap → Stt i s.heap → J s.heap → Gd hs gl s₀ s →
      (∀ s₅ : Shared, St w env h₀ [] [] ρ₁ s₅.heap → Stt (i + 1) s₅.heap → J s₅.heap → Gd hs gl s₀ s₅ → Seg (model prg w) A (Gn hs gl) (Yp w h₀ hs ax gl fin tt all) n s₀ (.forLoop target (.ref I) body orelse env)
        ((execs body env).wrap (fun f => match f with
            | .next | .cont => .pure (.again (.forLoop target (.ref I) body orelse env))
            | .brk => .pure (.done .next)
            | .ret v => .pure (.done (.ret v))) (fun e => (do noteFrame e env; theTreesLotGoes e : Sem Unit).wrap (fun _ => .raise e) .raise id id) id id) fs s₅) →
      Seg (model prg w) A (Gn hs gl) (Yp w h₀ hs ax gl fin tt all) n s₀ (.forLoop target (.ref I) body orelse env) ((model prg w).den (.forLoop target (.ref I) body orelse env)) fs s := by
    intro ρ ρ₁ p i s₀ s n hat ha hi hp S st hj g hk
    rw [den_forLoop, Sem.onRaise_eq_wrap]
    unfold forTurn
    refine seg_bind_wrap (wpAny_standAt (seg_bind_wrap (wpAny_onRaise ((W _ R.hd).item i _ _ _ hi st fun v h₃ tk₃ hMd hk₃ => ?_))))
    refine seg_bind_wrap ((W _ R.hd).go i v { s with heap := h₃, toks := tk₃ } _ _ hMd fun h₄ hP st₄ hk₄ => ?_)
    have hkk : ∀ b o, b ∉ wr → s.heap.get? b = some o → h₄.get? b = some o := fun b o hb e => hk₄ b o hb (hk₃ b o hb e)
    have S₄ : St w env h₀ [] [] ρ h₄ := S.atomsTo G hat (up0 S.keep hkk) fun o e => hkk _ o hgw e
    refine seg_bind_wrap (wpAny_mono (ha (s := { s with heap := h₄, toks := tk₃ }) R G.ok S₄ (hit i v h₄ p hP hp _)) (fun _ s₅ h₅ => ?_) fun _ _ x => x.elim)
    obtain ⟨gk5, bt5, S5⟩ := h₅
    rw [G.loc] at bt5
    rw [Sem.bind_eq_wrap', Sem.wrap_wrap]
    have := hk s₅ S5 ((W _ R.hd).frame _ _ _ st₄ fun b hb o e => (bt5 b o e).1 fun q => (hfp b hb).1 (List.mem_singleton.mp q)) (hJ.loc _ _ bt5 (drawJ st hj hkk)) ((drawGd (tk := tk₃) st g hkk).loc gk5 bt5)
    rw [Sem.wrap_congr (execs body env) _ _ (K' := fun f => match f with
            | .next | .cont => .pure (.again (.forLoop target (.ref I) body orelse env))
            | .brk => .pure (.done .next)
            | .ret v => .pure (.done (.ret v))) (H' := fun e => (do noteFrame e env; theTreesLotGoes e : Sem Unit).wrap (fun _ => .raise e) .raise id id) (fun f => by cases f <;> rfl)
        (fun e => by first | exact Sem.bind_eq_wrap _ _ | (show (do noteFrame e env; theTreesLotGoes e : Sem Unit).bind (fun _ => .raise e) = _; rw [Sem.bind_eq_wrap]))]
    exact this
  induction hL with
  | @done ρ ys o hat ho =>
    intro i hi hps s₀ s rem S st hj g hpre hn hc
    have hie : i = its.length := by
      have := congrArg List.length hps
      rw [List.length_drop, List.length_nil] at this; omega
    subst hie
    rw [den_forLoop, Sem.onRaise_eq_wrap]
    unfold forTurn
    refine seg_bind_wrap (wpAny_standAt (seg_bind_wrap (wpAny_onRaise ((W _ R.hd).done s _ _ st fun h₃ tk₃ hk₃ => ?_))))
    have S₃ : St w env h₀ [] [] ρ h₃ := S.atomsTo G hat (up0 S.keep hk₃) fun o e => hk₃ _ o hgw e
    refine seg_again rfl ?_
    show Seg _ _ _ _ _ _ _ (((execs orelse env).onRaise (fun x => do noteFrame x env; theTreesLotGoes x)) >>= fun f => pure (Fin.done f)) _ _
    rw [Sem.onRaise_eq_wrap, Sem.bind_eq_wrap', Sem.wrap_wrap]
    have hJ' : Stable false h₀ hs ax gl J := ⟨hJ.loc, hJ.as, (fun h => nomatch h), (fun h => nomatch h)⟩
    exact ho hJ' ⟨hsp, rfl, hany⟩ R2 (s := { s with heap := h₃, toks := tk₃ }) S₃ (drawJ st hj hk₃) (drawGd (tk := tk₃) st g hk₃) hpre hn fun f ρ' e s₀' s' S' hI' g' hq => hc f ρ' e _ (.inr rfl) s₀' s' S' hI' g' hq
  | @next ρ ρ₁ ρ₂ p ps ys zs o hat ha hb hr ih =>
    intro i hi hps s₀ s rem S st hj g hpre hn hc
    have hlt : i < its.length := by
      have := congrArg List.length hps
      rw [List.length_drop, List.length_cons] at this; omega
    rw [List.drop_eq_getElem_cons hlt] at hps
    obtain ⟨rfl, hps2⟩ := List.cons.inj hps
    refine turn hat ha hlt (List.getElem?_eq_getElem hlt) S st hj g fun s₅ S5 st5 hj5 g5 => ?_
    rw [List.append_assoc]
    obtain ⟨pre, hpre⟩ := hpre
    rw [List.append_assoc] at hpre
    refine hb (inner (i + 1)) ⟨hsp, rfl, hany⟩ R S5 ⟨st5, hj5⟩ g5 ⟨pre, hpre⟩ (fun h => nomatch h) fun f ρ' e s₀' s' S' hI' g' h1 => ?_
    cases e
    refine seg_again rfl ?_
    refine ih hlt hps2 S' hI'.1 hI'.2 g' ⟨pre ++ ys, by rw [hpre, List.append_assoc]⟩ hn fun f ρ' e c' hc' s₀'' s'' S'' hj'' g'' h2 => hc f ρ' e c' hc' s₀'' s'' S'' hj'' g'' ?_
    rcases h2 with h2 | h2 | h2
    · exact .inl h2
    · exact .inr (.inl h2)
    · rcases h1 with h1 | h1 | h1
      · exact .inl h1
      · rw [h2, List.nil_append] at h1
        exact .inr (.inl h1)
      · exact .inr (.inr (by rw [h1, h2]; rfl))
  | @ret ρ ρ₁ ρ₂ p ps ys v hat ha hb =>
    intro i hi hps s₀ s rem S st hj g hpre hn hc
    have hlt : i < its.length := by
      have := congrArg List.length hps
      rw [List.length_drop, List.length_cons] at this; omega
    rw [List.drop_eq_getElem_cons hlt] at hps
    obtain ⟨rfl, hps2⟩ := List.cons.inj hps
    refine turn hat ha hlt (List.getElem?_eq_getElem hlt) S st hj g fun s₅ S5 st5 hj5 g5 => ?_
    refine hb (inner (i + 1)) ⟨hsp, rfl, hany⟩ R S5 ⟨st5, hj5⟩ g5 hpre (fun h => nomatch h) fun f ρ' e s₀' s' S' hI' g' h1 => ?_
    cases e
    exact hc _ _ rfl _ (.inl rfl) s₀' s' S' hI'.2 g' h1
  | @cut ρ ρ₁ p ps ys hat ha hb =>
    intro i hi hps s₀ s rem S st hj g hpre hn hc
    have hlt : i < its.length := by
      have := congrArg List.length hps
      rw [List.length_drop, List.length_cons] at this; omega
    rw [List.drop_eq_getElem_cons hlt] at hps
    obtain ⟨rfl, hps2⟩ := List.cons.inj hps
    refine turn hat ha hlt (List.getElem?_eq_getElem hlt) S st hj g fun s₅ S5 st5 hj5 g5 => ?_
    exact hb (inner (i + 1)) ⟨hsp, rfl, hany⟩ R S5 ⟨st5, hj5⟩ g5 hpre hn fun f ρ' e => nomatch e
end
end Mine

namespace Mine
open PySem PySem.W PySem.Builtin PySem.Builtin.Str

theorem over_room {k : Nat} {A : Around} {c c' : Code} {fs : List Frame} {kk : Result → Sem Fin} {g : Bool} {l : List Value} {p : Pos} {kp : List Value} (hw : c'.weight = 0) (hu : c'.cUnits = 0) (R : Room k (A.over c fs)) : Room k (A.over c' (.ret kk Option.none g l c p kp :: fs)) := by
  refine ⟨R.1, ?_, ?_⟩
  · have h := R.2.1
    show A.depth + frameCount ((c, p) :: fs.map Frame.where_) + c'.weight + _ < _
    have h' : A.depth + frameCount (fs.map Frame.where_) + c.weight + (20 * k + 20) < recursionLimit := h
    rw [frameCount_cons, hw]; omega
  · have h := R.2.2
    show A.units + unitsOf ((c, p) :: fs.map Frame.where_) + c'.cUnits + _ < _
    have h' : A.units + unitsOf (fs.map Frame.where_) + c.cUnits + (20 * k + 20) < cLine := h
    rw [unitsOf_cons, hu]; omega

section
variable {k : Nat} {sc : Scope} {w : World} {A : Around} {env : Env} {h₀ : Heap} {hs : Heap} {ax gl : Addr} {fin tt : Bool} {all : List PV}

theorem GS1.for_ {tgt iter : PySem.Expr} {tl : Bool} {body orelse : List Stmt} {pos : Pos} {ps : List PV} {ρ : Vars} {ys : List PV} {o : Option (Flow × Vars)} (G : GEnv sc env hs gl) (hbase : ∀ b o, h₀.get? b = some o → ∃ o₁, hs.get? b = some o₁)
    (hi : EvG k sc ρ hs ax gl tgt tl iter ps) (hl : GLoop k sc w A env h₀ hs ax gl false fin tt all tgt tl body orelse ps ρ ys o) (hfs : ∀ env x, foldedSetIterable iter env x = pure x) : GS1 k w A env h₀ hs ax gl true fin tt all (.For tgt iter body orelse pos) ρ ys o := fun {I} hst {c fs K H gd lv s₀ s rem} F R S hI g hpre hn hc => by
  rw [exec_For]
  refine seg_bind_wrap (wpAny_standAt (seg_bind_wrap (wpAny_mono (hi R G.ok S G.loc (hst.lv rfl _ hI)) (fun v s₁ h₁ => ?_) fun _ _ x => x.elim)))
  refine seg_bind_wrap (wpAny_of_eq (hfs env v) (seg_bind_wrap (wpAny_standAt (seg_bind_wrap (wpAny_holding (wpAny_mono h₁ (fun it s₂ h₂ => ?_) fun _ _ x => x.elim))))))
  obtain ⟨k₂, J, fp, wr, P, Md, Stt, rfl, W, st0, hcl, hfp, hwr, hit⟩ := h₂
  refine seg_call fun p => ?_
  refine gloop_run G W hcl hfp hwr hbase hit (by simp only [splitAtGen, F.split]; rfl) (by rw [List.any_cons, F.any, Bool.or_false]; exact F.guard) (over_room rfl rfl R) (over_room rfl rfl R) hst hl (Nat.zero_le _) rfl (S.up k₂.up) st0 (hst.loc _ _ (But.of_up k₂.up) hI) (g.up k₂) hpre hn fun f ρ' e c' hc' s₀' s' S' hI' g' hq => ?_
  exact seg_leaf (.ok f) (hc f ρ' e s₀' s' S' hI' g' hq)

/-- while True: yield e, never left -/
theorem gwhile_run {e : PySem.Expr} {yp ypos tp : Pos} {kd : Nat} {p : PV} {ρ : Vars} (G : GEnv sc env hs gl) (ha : Atoms ρ) (hv : YV k sc ρ tt e p) (hfin : fin = false) {fs : List Frame} (hsp : splitAtGen fs = Option.none) (hany : fs.any Frame.guarded = false) {tpb : Bool} {I : Heap → Prop} (hst : Stable tpb h₀ hs ax gl I)
    (R : Room k (A.over (.whileLoop (.Constant (.bool true) kd tp) [.Expr (.Yield (some e) yp) ypos] [] env) fs)) : ∀ {m : Nat} {s₀ s : Shared}, St w env h₀ [] [] ρ s.heap → I s.heap → Gd hs gl s₀ s → (∃ pre, all = pre ++ List.replicate (m + 1) p) →
    Seg (model prg w) A (Gn hs gl) (Yp w h₀ hs ax gl fin tt all) (m + 1) s₀ (.whileLoop (.Constant (.bool true) kd tp) [.Expr (.Yield (some e) yp) ypos] [] env) ((model prg w).den (.whileLoop (.Constant (.bool true) kd tp) [.Expr (.Yield (some e) yp) ypos] [] env)) fs s := by
  intro m
  induction m with
  | zero =>
    intro s₀ s S hI g hpre
    refine seg_whileLoop (wpAny_mono (Q := fun b s' => b = true ∧ Kp s s') (E := NoE) ?_ (fun b s' h => ?_) fun _ _ x => x.elim)
    · exact (Tst.plain (p := .bool true) (b := true) (fun env whole => rfl) Ev.bool Tru.bool) R G.ok S
    · obtain ⟨rfl, k₁⟩ := h
      rw [if_pos rfl]
      obtain ⟨pre, hpre⟩ := hpre
      have Y : GS k w A env h₀ hs ax gl tpb fin tt all [.Expr (.Yield (some e) yp) ypos] ρ [p] Option.none := GS.stop (GS1.yield (o := Option.none) (.inr ⟨rfl, hfin⟩) G ha hv) (fun f ρ' e => nomatch e)
      exact Y hst (rem := []) ⟨hsp, rfl, hany⟩ R (S.up k₁.up) (hst.loc _ _ (But.of_up k₁.up) hI) (g.up k₁) ⟨pre, hpre⟩ (fun _ => rfl) fun f ρ' e => nomatch e
  | succ m ih =>
    intro s₀ s S hI g hpre
    refine seg_whileLoop (wpAny_mono (Q := fun b s' => b = true ∧ Kp s s') (E := NoE) ?_ (fun b s' h => ?_) fun _ _ x => x.elim)
    · exact (Tst.plain (p := .bool true) (b := true) (fun env whole => rfl) Ev.bool Tru.bool) R G.ok S
    · obtain ⟨rfl, k₁⟩ := h
      rw [if_pos rfl]
      obtain ⟨pre, hpre⟩ := hpre
      have Y : GS k w A env h₀ hs ax gl tpb fin tt all [.Expr (.Yield (some e) yp) ypos] ρ [p] (some (.next, ρ)) := GS.one (GS1.yield (.inl rfl) G ha hv)
      have := Y hst (rem := List.replicate (m + 1) p) (K := fun f => match f with
            | .next | .cont => .pure (.again (.whileLoop (.Constant (.bool true) kd tp) [.Expr (.Yield (some e) yp) ypos] [] env))
            | .brk => .pure (.done .next)
            | .ret v => .pure (.done (.ret v))) (H := fun x => (do noteFrame x env; theTreesLotGoes x : Sem Unit).wrap (fun _ => .raise x) .raise id id) (gd := id) (lv := id) ⟨hsp, rfl, hany⟩ R (S.up k₁.up) (hst.loc _ _ (But.of_up k₁.up) hI) (g.up k₁) ⟨pre, hpre⟩ (fun h => nomatch h) fun f ρ' e s₀' s' S' hI' g' _ => by
        cases e
        refine seg_again rfl ?_
        rw [List.length_replicate]
        exact ih S' hI' g' ⟨pre ++ [p], by rw [hpre, List.append_assoc]; rfl⟩
      rw [List.singleton_append, List.length_cons, List.length_replicate] at this
      exact this
theorem GS1.forever {e : PySem.Expr} {yp ypos tp pos : Pos} {kd : Nat} {p : PV} {ρ : Vars} {m : Nat} {tpb : Bool} (G : GEnv sc env hs gl) (ha : Atoms ρ) (hv : YV k sc ρ tt e p) (hfin : fin = false) :
    GS1 k w A env h₀ hs ax gl tpb fin tt all (.While (.Constant (.bool true) kd tp) [.Expr (.Yield (some e) yp) ypos] [] pos) ρ (List.replicate (m + 1) p) Option.none := fun {I} hst {c fs K H gd lv s₀ s rem} F R S hI g hpre hn hc => by
  have hr := hn rfl
  subst hr
  rw [List.append_nil, List.length_replicate]
  rw [List.append_nil] at hpre
  refine seg_While fun q => ?_
  exact gwhile_run G ha hv hfin (by simp only [splitAtGen, F.split]; rfl) (by rw [List.any_cons, F.any, Bool.or_false]; exact F.guard) hst (over_room rfl rfl R) S hI g hpre
end
end Mine

namespace Mine
open PySem PySem.W PySem.Builtin PySem.Builtin.Str

mutual
theorem RV.monoD {w : World} {h h' : Heap} {F F' : List Addr} (k : ∀ b o, b ∉ F → DC o → h.get? b = some o → h'.get? b = some o ∧ b ∉ F') : ∀ (p : PV) {v : Value}, p.frozen = true → RV w h F p v → RV w h' F' p v
  | .none, _, _, x => x
  | .bool _, _, _, x => x
  | .int _, _, _, x => x
  | .str _, _, _, x => x
  | .tup l, _, f, ⟨a, vs, n, e, hF, ho, r⟩ => ⟨a, vs, n, e, (k _ _ hF (.inr (.inl rfl)) ho).2, (k _ _ hF (.inr (.inl rfl)) ho).1, RVs.monoD k l f r⟩
  | .list l, _, f, ⟨a, vs, n, e, hF, ho, r⟩ => ⟨a, vs, n, e, (k _ _ hF (.inl rfl) ho).2, (k _ _ hF (.inl rfl) ho).1, RVs.monoD k l f r⟩
  | .olist _, _, f, _ => nomatch f
  | .raw R, _, _, ⟨a, o, e, hF, ho, r, m, d⟩ => ⟨a, o, e, (k _ _ hF (.inr (.inr d)) ho).2, (k _ _ hF (.inr (.inr d)) ho).1, r, m, d⟩
  | .lat a l, _, f, ⟨e, hF, vs, n, ho, r⟩ => ⟨e, (k _ _ hF (.inl rfl) ho).2, vs, n, (k _ _ hF (.inl rfl) ho).1, RVs.monoD k l f r⟩
theorem RVs.monoD {w : World} {h h' : Heap} {F F' : List Addr} (k : ∀ b o, b ∉ F → DC o → h.get? b = some o → h'.get? b = some o ∧ b ∉ F') : ∀ (ps : List PV) {vs : List Value}, PV.frozens ps = true → RVs w h F ps vs → RVs w h' F' ps vs
  | [], _, _, x => x
  | p :: ps, _, f, ⟨v, r, e, x, y⟩ => by
    have f' : (PV.frozen p && PV.frozens ps) = true := f
    rw [Bool.and_eq_true] at f'
    exact ⟨v, r, e, RV.monoD k p f'.1 x, RVs.monoD k ps f'.2 y⟩
end

theorem pyNext_genB {w : World} {A : Around} {E : Value → Shared → Prop} {s : Shared} {a : Addr} {g n : Nat} {gs : GenState} {P : Nat → Shared → Shared → Prop} {Y : Protocol} {Q : Option Value → Shared → Prop} (hh : A.handled = Option.none)
    (hl : s.heap.NoLimit) (hroom : A.depth < recursionLimit) (hg : s.heap.IsGen a g) (hgs : s.gens[g]? = some gs)
    (hgo : gs.Goes (model prg w) A.in1 (fun n s₀ r s₁ => r = .ok (.ret .none) ∧ P n s₀ s₁) Y n (.send .none) (s.setGen g .running))
    (hY : ∀ v s₁ gs', gs'.bare = true → Y (n - 1) (s.setGen g .running) v s₁ (fun r' s'' => match n with
        | 0 => False
        | m + 1 => gs'.Goes (model prg w) A.in1 (fun n s₀ r s₁ => r = .ok (.ret .none) ∧ P n s₀ s₁) Y m r' s'') → Q (some v) (s₁.setGen g gs'))
    (hP : ∀ s₁, P n (s.setGen g .running) s₁ → ∀ h', (∀ b o, s₁.heap.get? b = some o → h'.get? b = some o) → Q Option.none { s₁.setGen g .finished with heap := h' }) :
    wpAny (model prg w) A (pyNext (.ref a)) Q E s := by
  unfold pyNext
  refine wpAny_bind (wpAny_attempt (wpAny_callSpecial?_slot (name := Str.ofString "__next__") hg.typeIs slot_gen_next
    (wpAny_call_entry slot_gen_next hg.typeIs entry_gen_next ?_ (args_gen_next _))))
  show wpAny _ A.in1 (Builtin.Generator.genWake (.ref a) (.send .none)) _ _ s
  unfold Builtin.Generator.genWake
  refine wpAny_bind (wpAny_holding (wpAny_genNumber hg (wpAny_bind (wpAny_genState hgs ?_))))
  cases gs with
  | running => exact hgo.elim
  | finished => exact hgo.elim
  | _ =>
    refine wpAny_bind (wpAny_roomToWake hl hroom ?_)
    show wpAny _ A.in1 (.resume g (.send .none) [] _) _ _ s
    refine wpAny_resumeQ hgs hgo (fun x s₁ hx => ?_) (fun v s₁ gs' hb hv => ?_)
    · obtain ⟨rfl, hp⟩ := hx
      show wpAny _ A.in1 (newExc (.type "StopIteration") [] >>= _) _ _ _
      refine wpAny_bind ?_
      simp only [newExc, newTuple]
      refine wpAny_bind (wpAny_newObj_type ?_ (by size_fits))
      refine wpAny_bind (m := firstArgMember _ _) (wpAny_of_eq (a := Value.none) (by first | rfl | (simp only [firstArgMember]; rfl)) ?_)
      refine wpAny_newObj_type ?_ (by size_fits)
      simp only [raiseNew]
      refine wpAny_bind (wpAny_bind (wpAny_handled ?_))
      first | rw [show A.in1.handled = Option.none from hh] | rw [hh]
      refine wpAny_throw ?_
      refine wpAny_bind (wpAny_isInstance (T := "StopIteration") (b := true) ⟨_, Heap.get?_push_size _ rfl, rfl⟩ isSubtype_stop ?_)
      exact wpAny_pure (hP s₁ hp _ fun b o hb => Heap.get?_push_of_some _ (Heap.get?_push_of_some _ hb))
    · exact wpAny_pure ⟨v, rfl, wpAny_pure (hY v s₁ gs' hb hv)⟩

/-- a loop that draws from a generator -/
inductive LoopG (k : Nat) (sc : Scope) (tgt : PySem.Expr) (tt : Bool) (fin : Bool) (body orelse : List Stmt) : List PV → Vars → Out → Prop
  | done {ρ o} : fin = true → Ex false k sc ρ orelse o → LoopG k sc tgt tt fin body orelse [] ρ o
  | next {ρ p ps ρ₁ ρ₂ o} : Asg sc tgt tt p ρ ρ₁ → Ex false k sc ρ₁ body (.next ρ₂) → LoopG k sc tgt tt fin body orelse ps ρ₂ o → LoopG k sc tgt tt fin body orelse (p :: ps) ρ o
  | brk {ρ p ps ρ₁ ρ₂} : Asg sc tgt tt p ρ ρ₁ → Ex false k sc ρ₁ body (.brk ρ₂) → LoopG k sc tgt tt fin body orelse (p :: ps) ρ (.next ρ₂)
  | ret {ρ p ps ρ₁ q} : Asg sc tgt tt p ρ ρ₁ → Ex false k sc ρ₁ body (.ret q) → LoopG k sc tgt tt fin body orelse (p :: ps) ρ (.ret q)

/-- what a generator's def yields -/
def GenOK (k : Nat) (sc : Scope) (body : List Stmt) (x : Str) (gp : Addr → PV) (fin tt : Bool) (all : List PV) : Prop :=
  ∀ {w : World} {A : Around} {env : Env} {h₀ hs : Heap} {ax gl : Addr}, GEnv sc env hs gl → (∀ b o, h₀.get? b = some o → ∃ o₁, hs.get? b = some o₁) → (∃ o, hs.get? ax = some o) →
    ∃ o, GS k w A env h₀ hs ax gl true fin tt all body [(x, .val (gp ax))] all o ∧ (∀ f ρ', o = some (f, ρ') → fin = true ∧ (f = .next ∨ f = .ret .none)) ∧ (o = Option.none → all ≠ [])

theorem GK.setGen {s : Shared} {g : Nat} {x : GenState} (hb : x.bare = true) : GK true s (s.setGen g x) := by
  refine ⟨s.heap, s.toks, (s.setGen g x).gens, rfl, (fun h => nomatch h), fun hall => ?_⟩
  intro y hy
  rcases Array.mem_or_eq_of_mem_setIfInBounds (show y ∈ s.gens.setIfInBounds g x from hy) with h | h
  · exact hall y h
  · rw [h]; exact hb

/-- the consumer's state over a step of its generator -/
theorem St.overGen {w : World} {env : Env} {h₀ hs : Heap} {F₀ : List Addr} {own : List (Str × Addr)} {ρ : Vars} {h h' : Heap} {gl : Addr} (S : St w env h₀ (gl :: F₀) own ρ h) (hgl : gl ∉ muts env own) (hgF : gl ∉ F₀) (hbase : ∀ b o, h₀.get? b = some o → ∃ o₁, hs.get? b = some o₁) (hg0 : h₀.get? gl = Option.none)
    (hL : ∀ b ∈ env.locals :: env.cells.map (·.2), ∃ o₁, hs.get? b = some o₁) (hF : ∀ b ∈ F₀, ∃ o₁, hs.get? b = some o₁) (hk : ∀ b o, h.get? b = some o → b ≠ gl → (DC o ∨ ∃ o₁, hs.get? b = some o₁) → h'.get? b = some o) (hgv : (∃ o, h.get? gl = some o) → ∃ o, h'.get? gl = some o) : St w env h₀ (gl :: F₀) own ρ h' := by
  have neL : env.locals ≠ gl := fun q => hgl (q ▸ mem_locals)
  have neC : ∀ p ∈ env.cells, p.2 ≠ gl := fun p hp q => hgl (q ▸ mem_cell hp)
  have neO : ∀ p ∈ own, p.2 ≠ gl := fun p hp q => hgl (q ▸ mem_own hp)
  have kL : ∀ o, h.get? env.locals = some o → h'.get? env.locals = some o := fun o e => hk _ o e neL (.inr (hL _ List.mem_cons_self))
  have kC : ∀ p ∈ env.cells, ∀ o, h.get? p.2 = some o → h'.get? p.2 = some o := fun p hp o e => hk _ o e (neC p hp) (.inr (hL _ (List.mem_cons_of_mem _ (List.mem_map_of_mem hp))))
  refine ⟨S.base, fun b o e => hk b o (S.keep b o e) (fun q => by rw [q, hg0] at e; cases e) (.inr (hbase b o e)), fun b hb => ?_, ?_, fun p hp => ?_, fun p hp => ?_, S.fresh, S.apart, S.nodup, fun y e hy => ?_⟩
  · rcases List.mem_cons.mp hb with q | q
    · exact q ▸ hgv (q ▸ S.alive b hb)
    · obtain ⟨o, e⟩ := S.alive b hb
      exact ⟨o, hk b o e (fun z => hgF (z ▸ q)) (.inr (hF b q))⟩
  · obtain ⟨m, n⟩ := S.ns
    exact ⟨m, n.at' kL⟩
  · obtain ⟨v, o, ho, r⟩ := S.cells p hp
    exact ⟨v, o, kC p hp o ho, r⟩
  · obtain ⟨o, ho, hd⟩ := S.ownlive p hp
    exact ⟨o, hk _ o ho (neO p hp) (.inl hd), hd⟩
  · have fk : ∀ b o, b ∉ Fof env (gl :: F₀) own → DC o → h.get? b = some o → h'.get? b = some o ∧ b ∉ Fof env (gl :: F₀) own := fun b o hb hd e => ⟨hk b o e (fun q => hb (q ▸ List.mem_append_left _ List.mem_cons_self)) (.inl hd), hb⟩
    have slot : ∀ x v, SlotIs env h x v → SlotIs env h' x v := fun x v sl => by
      rcases sl with ⟨a, m, n, e⟩ | ⟨a, c, e, o, ho, r⟩
      · exact .inl ⟨a, m, n.at' kL, e⟩
      · exact .inr ⟨a, c, e, o, kC _ (mem_of_lookup e) o ho, r⟩
    have old := S.vars y e hy
    cases e with
    | val p' => exact let ⟨f, u, su, r⟩ := old; ⟨f, u, slot _ _ su, RV.monoD fk p' f r⟩
    | own l => exact let ⟨a, vs, n, su, hm', ho, f, r⟩ := old; ⟨a, vs, n, slot _ _ su, hm', hk _ _ ho (neO _ hm') (.inl (.inl rfl)), f, RVs.monoD fk l f r⟩
    | ownR R => exact let ⟨a, o, su, hm', ho, r, hm1, hd⟩ := old; ⟨a, o, slot _ _ su, hm', hk _ _ ho (neO _ hm') (.inl (.inr (.inr hd))), r, hm1, hd⟩
end Mine

namespace Mine
open PySem PySem.W PySem.Builtin PySem.Builtin.Str

theorem liveHs_stable {h₀ hs : Heap} {ax gl : Addr} : Stable true h₀ hs ax gl (fun h => ∀ b o₁, hs.get? b = some o₁ → ∃ o, h.get? b = some o) where
  loc := fun h h' b hl c o₁ e => let ⟨o, e'⟩ := hl c o₁ e; (b c o e').2
  as := fun s s'' x _ => x.2.1
  own := fun _ h h' hk hg hl b o₁ e => by
    obtain ⟨o, e'⟩ := hl b o₁ e
    by_cases q : b = gl
    · subst q; exact hg ⟨o, e'⟩
    · exact ⟨o, hk b o e' q (.inr ⟨o₁, e⟩)⟩
  lv := fun _ _ hl => hl

/-- the loop over a generator that was just made -/
theorem gen_loop {k : Nat} {sc : Scope} {tgt : PySem.Expr} {tt fin : Bool} {body orelse : List Stmt} {all : List PV} {ρ : Vars} {o : Out} {w : World} {A : Around} {env : Env} {h₀ : Heap} {F₀ : List Addr} {own : List (Str × Addr)} {s₂ : Shared} {a gl ax : Addr} {g : Nat} {gs : GenState} {R : Result → Shared → Prop}
    (Rm : Room k A) (hh : A.handled = Option.none) (hroom : A.depth < recursionLimit) (E : EnvOK sc env) (C : CellsOK sc env) (S : St w env h₀ (gl :: F₀) own ρ s₂.heap) (hgm : gl ∉ muts env own) (hgF : gl ∉ F₀) (hg0 : h₀.get? gl = Option.none) (hag : a ≠ gl) (ham : a ∉ muts env own) (haxm : ax ∉ muts env own) (haxl : ∃ o, s₂.heap.get? ax = some o)
    (hgen : s₂.heap.IsGen a g) (hgs : s₂.gens[g]? = some gs) (hgo : ∀ s'' : Shared, s''.heap = s₂.heap → gs.Goes (model prg w) A.in1 (fun n s₀ r s₁ => r = .ok (.ret .none) ∧ (n = 0 ∧ Gd s₂.heap gl s₀ s₁)) (Yp w h₀ s₂.heap ax gl fin tt all) all.length (.send .none) s'')
    (hl : LoopG k sc tgt tt fin body orelse all ρ o) (htt : ∀ (v : Value) (s : Shared) (Q : Unit → Shared → Prop) (E' : Value → Shared → Prop), s.heap.IsGen a g → Q () s → wpAny (model prg w) A (letOwnedTupleGo tgt (.ref a) v) Q E' s)
    (hR : ∀ f s', GK true s₂ s' → (∀ b ob, s₂.heap.get? b = some ob → b ≠ gl → (b ∉ muts env own → s'.heap.get? b = some ob) ∧ ∃ o', s'.heap.get? b = some o') → (match o, f with
      | .next ρ', .next => ∃ own', OwnExt own own' s₂.heap ∧ St w env h₀ F₀ own' ρ' s'.heap
      | .brk ρ', .brk => ∃ own', OwnExt own own' s₂.heap ∧ St w env h₀ F₀ own' ρ' s'.heap
      | .ret p, .ret v => RV w s'.heap F₀ p v
      | _, _ => False) → R (.ok f) s') :
    codeAny (model prg w) A (.forLoop tgt (.ref a) body orelse env) R s₂ := by
  have hbase : ∀ b o, h₀.get? b = some o → ∃ o₁, s₂.heap.get? b = some o₁ := fun b o e => ⟨o, S.keep b o e⟩
  have hLC : ∀ b ∈ env.locals :: env.cells.map (·.2), ∃ o₁, s₂.heap.get? b = some o₁ := fun b hb => S.live b (List.mem_append_right _ (by
    rcases List.mem_cons.mp hb with q | q
    · exact q ▸ mem_locals
    · exact List.mem_cons_of_mem _ (List.mem_append_left _ q)))
  have hF : ∀ b ∈ F₀, ∃ o₁, s₂.heap.get? b = some o₁ := fun b hb => S.alive b (List.mem_cons_of_mem _ hb)
  refine codeAny_forLoop_any (fun n s' => ∃ i ρ' own' gs', n = all.length - i ∧ i ≤ all.length ∧ LoopG k sc tgt tt fin body orelse (all.drop i) ρ' o ∧ St w env h₀ (gl :: F₀) own' ρ' s'.heap ∧ GK true s₂ s' ∧ (∀ b ob, s₂.heap.get? b = some ob → b ≠ gl → (b ∉ muts env own → s'.heap.get? b = some ob) ∧ ∃ o', s'.heap.get? b = some o') ∧ OwnExt own own' s₂.heap ∧
    s'.gens[g]? = some gs' ∧ ((fin = true ∨ i < all.length) → ∀ s'' : Shared, s''.heap = s'.heap → gs'.Goes (model prg w) A.in1 (fun n s₀ r s₁ => r = .ok (.ret .none) ∧ (n = 0 ∧ Gd s₂.heap gl s₀ s₁)) (Yp w h₀ s₂.heap ax gl fin tt all) (all.length - i) (.send .none) s'')) ?_ all.length
    ⟨0, ρ, own, gs, rfl, Nat.zero_le _, hl, S, .refl _ _, fun b ob e _ => ⟨fun _ => e, ob, e⟩, .refl _ _, hgs, fun _ => hgo⟩
  rintro n s' ⟨i, ρ', own', gs', rfl, hile, hL, S', gk, bt, oe, hgs', hgo'⟩
  have hgm' : gl ∉ muts env own' := fun hm => by
    rcases List.mem_cons.mp hm with q | q
    · exact hgm (q ▸ mem_locals)
    · rcases List.mem_append.mp q with q | q
      · exact hgm (List.mem_cons_of_mem _ (List.mem_append_left _ q))
      · exact S'.apart gl q List.mem_cons_self
  have out : ∀ {b : Addr} {ob : Obj}, s₂.heap.get? b = some ob → b ∉ muts env own → b ∉ muts env own' := fun e hb => oe.muts hb e
  have hgen' : s'.heap.IsGen a g := by
    obtain ⟨ob, nm, qn, e, r⟩ := hgen
    exact ⟨ob, nm, qn, (bt a ob e hag).1 ham, r⟩
  have hnl : s'.heap.NoLimit := let ⟨_, _, _, _, T⟩ := S'.here; T.nolimit
  -- what a step of the generator leaves
  have over : ∀ {s₁ : Shared}, Gd s₂.heap gl (s'.setGen g .running) s₁ → St w env h₀ (gl :: F₀) own' ρ' s₁.heap ∧ GK true s₂ s₁ ∧ (∀ b ob, s₂.heap.get? b = some ob → b ≠ gl → (b ∉ muts env own → s₁.heap.get? b = some ob) ∧ ∃ o', s₁.heap.get? b = some o') ∧ s₁.gens[g]? = some .running := fun {s₁} gd => by
    obtain ⟨h, t, rfl, kk, kg⟩ := gd
    refine ⟨S'.overGen hgm' hgF hbase hg0 hLC hF kk kg, (gk.trans (GK.setGen rfl)).trans (.of_eq ⟨h, t, rfl⟩), fun b ob e hb => ?_, setGen_self hgs'⟩
    obtain ⟨b1, o', b2⟩ := bt b ob e hb
    exact ⟨fun hm => kk b ob (b1 hm) hb (.inr ⟨ob, e⟩), o', kk b o' b2 hb (.inr ⟨ob, e⟩)⟩
  by_cases hlt : i < all.length
  · have hdrop : all.drop i = all[i] :: all.drop (i + 1) := List.drop_eq_getElem_cons hlt
    rw [hdrop] at hL
    obtain ⟨m, hm⟩ : ∃ m, all.length - i = m + 1 := ⟨all.length - i - 1, by omega⟩
    have hgo'' := hgo' (.inr hlt) (s'.setGen g .running) rfl
    rw [hm] at hgo''
    refine pyNext_genB (P := fun n s₀ s₁ => n = 0 ∧ Gd s₂.heap gl s₀ s₁) hh hnl hroom hgen' hgs' hgo'' (fun v s₁ gs₁ hbare hY => ?_) fun s₁ hp => absurd hp.1 (Nat.succ_ne_zero m)
    obtain ⟨⟨p, hp, hitem⟩, gd, hkap⟩ := hY
    rw [Nat.add_sub_cancel] at hp hkap
    have hpe : p = all[i] := by
      rw [List.getElem?_reverse (by omega)] at hp
      have : all.length - 1 - m = i := by omega
      rw [this, List.getElem?_eq_getElem hlt] at hp
      exact (Option.some.inj hp).symm
    subst hpe
    obtain ⟨S₁, gk₁, bt₁, hgr⟩ := over gd
    have hgen₁ : (s₁.setGen g gs₁).heap.IsGen a g := by
      obtain ⟨ob, nm, qn, e, r⟩ := hgen
      exact ⟨ob, nm, qn, (bt₁ a ob e hag).1 ham, r⟩
    refine htt v _ _ _ hgen₁ ?_
    have gk₂ : GK true s₂ (s₁.setGen g gs₁) := gk₁.trans (GK.setGen hbare)
    have hg₂ : (s₁.setGen g gs₁).gens[g]? = some gs₁ := setGen_self hgr
    -- after the assignment and the body
    have fin_ : ∀ {out' : Out} {f : Flow} {s₅ s₆ : Shared} {ρ₁ : Vars}, GK false (s₁.setGen g gs₁) s₅ → But (muts env own') s₁.heap s₅.heap → OutIs false w env h₀ (gl :: F₀) own' out' f s₅ s₆ →
        GK false (s₁.setGen g gs₁) s₆ ∧ (∀ b ob, s₁.heap.get? b = some ob → (b ∉ muts env own' → s₆.heap.get? b = some ob) ∧ ∃ o', s₆.heap.get? b = some o') ∧ (∀ b ob, s₂.heap.get? b = some ob → b ≠ gl → (b ∉ muts env own → s₆.heap.get? b = some ob) ∧ ∃ o', s₆.heap.get? b = some o') := fun {out' f s₅ s₆ ρ₁} g5 b5 q => by
      obtain ⟨g6, b6, _⟩ := q
      have b16 := b5.trans b6
      refine ⟨g5.trans g6, b16, fun b ob e hb => ?_⟩
      obtain ⟨y1, o', y2⟩ := bt₁ b ob e hb
      exact ⟨fun hm => (b16 b ob (y1 hm)).1 (out e hm), (b16 b o' y2).2⟩
    cases hL with
    | @next _ _ _ ρ₁ ρ₂ _ ha hb hr =>
      refine wpAny_mono (ha (s := s₁.setGen g gs₁) Rm E C S₁ (hitem _)) (fun _ s₅ h₅ => ?_) fun _ _ x => x.elim
      obtain ⟨gk5, bt5, S5⟩ := h₅
      refine wpAny_mono (hb Rm E C S5) (fun f s₆ h₆ => ?_) fun _ _ x => x.elim
      obtain ⟨g6, b16, b26⟩ := fin_ (ρ₁ := ρ₁) gk5 bt5 h₆
      obtain ⟨gk6, bt6, q⟩ := h₆
      cases f with
      | next =>
        obtain ⟨own₆, oe6, S6⟩ := q
        have hgens : s₆.gens = (s₁.setGen g gs₁).gens := by
          obtain ⟨h, t, gg, rfl, e, _⟩ := g6
          exact e rfl
        refine ⟨all.length - (i + 1), by omega, i + 1, ρ₂, own₆, gs₁, rfl, hlt, hr, S6, gk₂.trans g6.wide, b26, ?_, by rw [hgens]; exact hg₂, fun hcond s'' hs'' => ?_⟩
        · intro p hp
          rcases oe6 p hp with h1 | h1
          · exact oe p h1
          · refine .inr ?_
            cases e' : s₂.heap.get? p.2 with
            | none => rfl
            | some ob =>
              have hne : p.2 ≠ gl := fun q => S6.apart p.2 (List.mem_map_of_mem hp) (q ▸ List.mem_cons_self)
              obtain ⟨_, o', y2⟩ := bt₁ _ _ e' hne
              obtain ⟨_, o'', y3⟩ := bt5 _ _ y2
              rw [h1] at y3; cases y3
        · have hm0 : fin = true ∨ 0 < m := hcond.imp id fun h => by omega
          have hAs : As h₀ s₂.heap ax gl s₁ s'' := by
            refine ⟨fun b o e => by rw [hs'']; exact S6.keep b o e, fun b o₁ e => ?_, fun b ob e hb => ?_⟩
            · rw [hs'']
              by_cases q : b = gl
              · exact q ▸ S6.alive gl List.mem_cons_self
              · exact (b26 b o₁ e q).2
            · rw [hs'']
              refine (b16 b ob e).1 fun hm => ?_
              rcases hb with ⟨hd, hn⟩ | rfl | rfl
              · rcases List.mem_cons.mp hm with q | q
                · obtain ⟨o₁, e₁⟩ := hLC _ List.mem_cons_self
                  rw [q, e₁] at hn; cases hn
                · rcases List.mem_append.mp q with q | q
                  · obtain ⟨o₁, e₁⟩ := hLC _ (List.mem_cons_of_mem _ q)
                    rw [e₁] at hn; cases hn
                  · obtain ⟨pr, hpr, rfl⟩ := List.mem_map.mp q
                    obtain ⟨o', e', hd'⟩ := S₁.ownlive pr hpr
                    rw [e] at e'; cases e'
                    exact hd hd'
              · obtain ⟨oa, ea⟩ := haxl
                exact out ea haxm hm
              · exact hgm' hm
          have := hkap hm0 s'' hAs
          have e2 : all.length - (i + 1) = m := by omega
          rw [e2]
          exact this
      | brk => exact q.elim
      | cont => exact q.elim
      | ret v => exact q.elim
    | @brk _ _ _ ρ₁ ρ₂ ha hb =>
      refine wpAny_mono (ha (s := s₁.setGen g gs₁) Rm E C S₁ (hitem _)) (fun _ s₅ h₅ => ?_) fun _ _ x => x.elim
      obtain ⟨gk5, bt5, S5⟩ := h₅
      refine wpAny_mono (hb Rm E C S5) (fun f s₆ h₆ => ?_) fun _ _ x => x.elim
      obtain ⟨g6, b16, b26⟩ := fin_ (ρ₁ := ρ₁) gk5 bt5 h₆
      obtain ⟨gk6, bt6, q⟩ := h₆
      cases f with
      | brk =>
        obtain ⟨own₆, oe6, S6⟩ := q
        refine hR .next s₆ (gk₂.trans g6.wide) b26 ⟨own₆, fun p hp => ?_, S6.unforbid fun b hb => List.mem_cons_of_mem _ hb⟩
        rcases oe6 p hp with h1 | h1
        · exact oe p h1
        · refine .inr ?_
          cases e' : s₂.heap.get? p.2 with
          | none => rfl
          | some ob =>
            have hne : p.2 ≠ gl := fun q => S6.apart p.2 (List.mem_map_of_mem hp) (q ▸ List.mem_cons_self)
            obtain ⟨_, o', y2⟩ := bt₁ _ _ e' hne
            obtain ⟨_, o'', y3⟩ := bt5 _ _ y2
            rw [h1] at y3; cases y3
      | next => exact q.elim
      | cont => exact q.elim
      | ret v => exact q.elim
    | @ret _ _ _ ρ₁ q₀ ha hb =>
      refine wpAny_mono (ha (s := s₁.setGen g gs₁) Rm E C S₁ (hitem _)) (fun _ s₅ h₅ => ?_) fun _ _ x => x.elim
      obtain ⟨gk5, bt5, S5⟩ := h₅
      refine wpAny_mono (hb Rm E C S5) (fun f s₆ h₆ => ?_) fun _ _ x => x.elim
      obtain ⟨g6, b16, b26⟩ := fin_ (ρ₁ := ρ₁) gk5 bt5 h₆
      obtain ⟨gk6, bt6, q⟩ := h₆
      cases f with
      | ret v => exact hR (.ret v) s₆ (gk₂.trans g6.wide) b26 (RV.weak (fun b hb hm => hb (List.mem_cons_of_mem _ hm)) _ q)
      | next => exact q.elim
      | cont => exact q.elim
      | brk => exact q.elim
  · have hie : i = all.length := by omega
    subst hie
    rw [List.drop_length] at hL
    cases hL with
    | done hfin ho =>
      have hgo'' := hgo' (.inl hfin) (s'.setGen g .running) rfl
      rw [Nat.sub_self] at hgo''
      have hself : ∀ {s₁ : Shared}, St w env h₀ (gl :: F₀) own' ρ' s₁.heap → (∀ b ob, s₂.heap.get? b = some ob → b ≠ gl → (b ∉ muts env own → s₁.heap.get? b = some ob) ∧ ∃ o', s₁.heap.get? b = some o') → As h₀ s₂.heap ax gl s₁ s₁ := fun {s₁} S₁ bt₁ => ⟨S₁.keep, fun b o₁ e => by
        by_cases q : b = gl
        · exact q ▸ S₁.alive gl List.mem_cons_self
        · exact (bt₁ b o₁ e q).2, fun b ob e _ => e⟩
      refine pyNext_genB (P := fun n s₀ s₁ => n = 0 ∧ Gd s₂.heap gl s₀ s₁) hh hnl hroom hgen' hgs' hgo'' (fun v s₁ gs₁ hbare hY => ?_) fun s₁ hp h' hk => ?_
      · obtain ⟨_, gd, hkap⟩ := hY
        obtain ⟨S₁, _, bt₁, _⟩ := over gd
        exact (hkap (.inl hfin) s₁ (hself S₁ bt₁)).elim
      · obtain ⟨S₁, gk₁, bt₁, hgr⟩ := over hp.2
        have S₂ : St w env h₀ F₀ own' ρ' h' := (S₁.up hk).unforbid fun b hb => List.mem_cons_of_mem _ hb
        refine wpAny_mono (ho (s := { s₁.setGen g .finished with heap := h' }) Rm E C S₂) (fun f s₆ h₆ => ?_) fun _ _ x => x.elim
        obtain ⟨gk6, bt6, q⟩ := h₆
        refine hR f s₆ (((gk₁.trans (GK.setGen rfl)).trans (.of_eq ⟨h', _, rfl⟩)).trans gk6.wide) (fun b ob e hb => ?_) ?_
        · obtain ⟨y1, o', y2⟩ := bt₁ b ob e hb
          exact ⟨fun hm => (bt6 b ob (hk _ _ (y1 hm))).1 (out e hm), (bt6 b o' (hk _ _ y2)).2⟩
        · have oe' : ∀ own₆, OwnExt own' own₆ h' → OwnExt own own₆ s₂.heap := fun own₆ oe6 p hp => by
            rcases oe6 p hp with h1 | h1
            · exact oe p h1
            · by_cases hne : p.2 = gl
              · exfalso
                obtain ⟨o', e'⟩ := S₁.alive gl List.mem_cons_self
                rw [hne, hk _ _ e'] at h1; cases h1
              · refine .inr ?_
                cases e' : s₂.heap.get? p.2 with
                | none => rfl
                | some ob =>
                  obtain ⟨_, o', y2⟩ := bt₁ _ _ e' hne
                  rw [hk _ _ y2] at h1; cases h1
          cases o <;> cases f <;> first | exact q | exact q.elim | exact let ⟨own₆, e, S6⟩ := q; ⟨own₆, oe' _ e, S6⟩
end Mine

namespace Mine
open PySem PySem.W PySem.Builtin PySem.Builtin.Str

theorem notOwned_gen {elts : List PySem.Expr} {x1 : Nat} {px : Pos} {w : World} {A : Around} {a : Addr} {g : Nat} (v : Value) (s : Shared) (Q : Unit → Shared → Prop) (E : Value → Shared → Prop) (hg : s.heap.IsGen a g) (h : Q () s) : wpAny (model prg w) A (letOwnedTupleGo (.Tuple elts x1 px) (.ref a) v) Q E s := by
  cases v with
  | ref T =>
    obtain ⟨o, nm, qn, ho, hc, hd, _⟩ := hg
    unfold letOwnedTupleGo
    refine wpAny_bind (wpAny_load ho ?_)
    rw [hc, hd]
    show wpAny _ A (if (["enumerate", "zip", "dict_itemiterator", "dict_reverseitemiterator", "odict_iterator", "itertools.zip_longest", "itertools.pairwise"].contains "generator" && _) = true then _ else _) Q E s
    rw [if_neg (by
      intro h
      rw [show (["enumerate", "zip", "dict_itemiterator", "dict_reverseitemiterator", "odict_iterator", "itertools.zip_longest", "itertools.pairwise"].contains "generator") = false from by decide, Bool.false_and] at h
      cases h)]
    exact wpAny_pure h
  | _ => exact wpAny_pure h

theorem Ex1.forGen {k : Nat} {sc gsc : Scope} {ρ : Vars} {tgt e : PySem.Expr} {f x : Str} {fa : Addr} {fp cpos pos : Pos} {tt fin : Bool} {body orelse gbody : List Stmt} {fd : FuncData} {all : List PV} {p : PV} {gp : Addr → PV} {o : Out}
    (G : GlobIs f (.ref fa)) (hx : sc.names.lookup f = some .globalImplicit) (hd : (f == ("__debug__" : Str)) = false) (c : Callee (.ref fa)) (hpl : Plain [e]) (he : Ev (k + 1) sc ρ e p) (hgf : ∀ a, (gp a).frozen = true)
    (hgp : ∀ {w : World} {h : Heap} {F : List Addr} {v : Value}, RV w h F p v → (∀ a, RV w h F (gp a) v) ∨ ∃ a, a ∉ F ∧ (∃ ob, h.get? a = some ob) ∧ RV w h F (gp a) v)
    (ho : ∀ w : World, ∃ ob, (K w).lookup fa = some ob ∧ ob.data = .func fd) (hb : fd.body = .stmts gbody) (hsc : fd.scope = gsc) (hco : gsc.isCoroutine = false) (hgen : gsc.isGenerator = true) (hk : gsc.kind = .function)
    (hcl : fd.closure = []) (hgl : fd.globals = mainGlobals) (hbi : fd.builtins = builtinsNs) (hcd : ∀ w : World, codeIn (K w) fd.code fd.qualname = true)
    (hbind : ∀ v : Value, bindArgs fd ⟨[v], []⟩ = pure [(x, v)]) (hxl : gsc.names.lookup x = some .local) (hnc : ∀ y ∈ gsc.names, y.2 ≠ .cell)
    (hok : GenOK k gsc gbody x gp fin tt all) (hl : LoopG k sc tgt tt fin body orelse all ρ o) (hfs : ∀ env v, foldedSetIterable (.Call (.Name f fp) [e] [] cpos) env v = pure v)
    (htt : ∀ {w : World} {A : Around} {a : Addr} {g : Nat} (v : Value) (s : Shared) (Q : Unit → Shared → Prop) (E' : Value → Shared → Prop), s.heap.IsGen a g → Q () s → wpAny (model prg w) A (letOwnedTupleGo tgt (.ref a) v) Q E' s) :
    Ex1 true (k + 1) sc ρ (.For tgt (.Call (.Name f fp) [e] [] cpos) body orelse pos) o := fun {w A env h₀ F₀ own s} R E C S => by
  refine wpAny_For ?_ (hfs env)
  show wpAny (model prg w) A (do callWith cpos (← PySem.eval (.Name f fp) env) [] (backTo cpos (starEach [e] env)) (backToKw cpos (keywordEach [] env))) _ _ s
  rw [hpl]
  refine wpAny_bind (wpAny_mono (G.load (Q := fun v s' => v = .ref fa ∧ s' = s) E hx hd S.here ⟨rfl, rfl⟩) (fun v s' h => ?_) fun _ _ x => x.elim)
  obtain ⟨rfl, hss⟩ := h
  rw [hss]
  refine wpAny_mono ((EvL.cons he .nil).call (Q := fun it s₃ => wpAny (model prg w) A (pyIter it) (fun it s₄ => codeAny (model prg w) A (.forLoop tgt it body orelse env) (fun r s' => match r with | .ok fl => OutIs true w env h₀ F₀ own o fl s s' | .error e => cameBackBy (model prg w) A env NoE e s') s₄) NoE s₃) R E S c fun vs s₁ k₁ r => ?_) (fun it s₃ h => wpAny_mono h (fun _ _ x => x) fun _ _ x => x.elim) fun _ _ x => x.elim
  obtain ⟨v, r2, rfl, rv, e2⟩ := r
  rw [show r2 = [] from e2]
  have S₁ := S.up k₁.up
  obtain ⟨ob, hlo, hdata⟩ := ho w
  obtain ⟨X, mean, mg, mb, T⟩ := S₁.here
  subst hsc
  refine wpAny_call (codeAny_call_generator R.depth (X _ _ hlo) hdata hco hgen hb (codeRec_of X (hcd w)) (wpAny_of_eq (hbind v) ?_))
  rw [hcl]
  refine wpAny_newFunctionEnv hnc (fun y hy => by rw [List.mem_singleton.mp hy]; exact hxl) (fun h₁ hns hsb => ?_) hk
  generalize hgl' : s₁.heap.objs.size = gl at hns hsb ⊢
  have hgl1 : s₁.heap.get? gl = Option.none := hgl' ▸ none_of_size _
  have hgl0 : s.heap.get? gl = Option.none := by
    cases e : s.heap.get? gl with
    | none => rfl
    | some ob => rw [k₁.up _ _ e] at hgl1; cases hgl1
  have hg0 : h₀.get? gl = Option.none := by
    cases e : h₀.get? gl with
    | none => rfl
    | some ob => rw [S.keep _ _ e] at hgl0; cases hgl0
  have u1 : Up s₁.heap h₁ := fun b ob e => hsb.extBut b ob (fun q => by rw [q, hgl1] at e; cases e) (Heap.get?_push_of_some _ e)
  refine ⟨T.nolimit.keeps u1, ?_⟩
  generalize hge : newEnv fd.scope gl fd.globals [] (fd.qualname ++ ".<locals>.") (some fa) fd.code Option.none fd.builtins = genv
  have eL : genv.locals = gl := by rw [← hge]; rfl
  have hGE : EnvOK fd.scope genv := ⟨by rw [← hge]; rfl, hk, by rw [← hge]; exact hgl, by rw [← hge]; exact hbi⟩
  have eC : genv.cells = [] := by rw [← hge]; rfl
  dsimp only
  generalize haA : h₁.objs.size = a
  generalize hs2 : (h₁.push { cls := .type "generator", data := .fields #[.int s₁.gens.size 0, .str fd.name (s₁.toks + [(x, v)].length), .str fd.qualname (s₁.toks + [(x, v)].length + 1)] }) = h₂
  have u2 : Up h₁ h₂ := fun b ob e => hs2 ▸ Heap.get?_push_of_some _ e
  have ha2 : h₂.get? a = some { cls := .type "generator", data := .fields #[.int s₁.gens.size 0, .str fd.name (s₁.toks + [(x, v)].length), .str fd.qualname (s₁.toks + [(x, v)].length + 1)] } := by rw [← hs2, ← haA]; exact Heap.get?_push_size _ rfl
  have ha1 : h₁.get? a = Option.none := haA ▸ none_of_size _
  obtain ⟨oL, hoL⟩ : ∃ o', h₁.get? gl = some o' := let ⟨o', _, _, e, _⟩ := hns; ⟨o', e⟩
  have hag : a ≠ gl := fun q => by rw [q, hoL] at ha1; cases ha1
  have ha0 : s.heap.get? a = Option.none := by
    cases e : s.heap.get? a with
    | none => rfl
    | some ob => rw [u1 _ _ (k₁.up _ _ e)] at ha1; cases ha1
  have u02 : Up s.heap h₂ := fun b ob e => u2 _ _ (u1 _ _ (k₁.up _ _ e))
  have notm : ∀ b, s.heap.get? b = Option.none → b ∉ muts env own := fun b hb hm => Live.none S.live hb (List.mem_append_right _ hm)
  have hgF : gl ∉ F₀ := fun hm => Live.none S.live hgl0 (List.mem_append_left _ hm)
  have hgen2 : h₂.IsGen a s₁.gens.size := ⟨_, _, _, ha2, rfl, rfl, rfl⟩
  refine wpAny_pyIter_gen (s := { s₁ with gens := s₁.gens.push (.fresh (.func gbody genv)), heap := h₂, toks := s₁.toks + [(x, v)].length + 1 + 1 }) hgen2 ?_
  have S₂ : St w env h₀ (gl :: F₀) own ρ h₂ := S.forbid u02 (wr := [gl]) (fun b hb => by rw [List.mem_singleton.mp hb]; exact hgl0) fun b hb => ⟨oL, by rw [List.mem_singleton.mp hb]; exact u2 _ _ hoL⟩
  -- the address that the generator's argument needs
  obtain ⟨ax, haxm, haxl, rax⟩ : ∃ ax, ax ∉ muts env own ∧ (∃ ob, h₂.get? ax = some ob) ∧ RV w s₁.heap (Fof env F₀ own) (gp ax) v := by
    rcases hgp rv with h | ⟨ax, h1, ⟨ob, h2⟩, h3⟩
    · exact ⟨a, notm a ha0, ⟨_, ha2⟩, h a⟩
    · exact ⟨ax, fun hm => h1 (List.mem_append_right _ hm), ⟨ob, u2 _ _ (u1 _ _ h2)⟩, h3⟩
  have Rg : Room k (A.in1.over (.func gbody genv) []) := by
    refine ⟨R.1, ?_, ?_⟩
    · have := R.2.1
      show A.depth + 0 + 1 + _ < _
      omega
    · have := R.2.2
      show A.units + 1 + 0 + 3 + _ < _
      omega
  have GE : GEnv fd.scope genv h₂ gl := ⟨hGE, eL, eC, hco⟩
  have hbase : ∀ b ob, h₀.get? b = some ob → ∃ o₁, h₂.get? b = some o₁ := fun b ob e => ⟨ob, u02 _ _ (S.keep _ _ e)⟩
  have Sg : St w genv h₀ [] [] [(x, .val (gp ax))] h₂ := by
    refine ⟨S.base, fun b ob e => u02 _ _ (S.keep _ _ e), (fun _ h => nomatch h), ⟨_, by rw [eL]; exact hns.keeps u2⟩, (fun pr hp => by rw [eC] at hp; cases hp), (fun _ h => nomatch h), fun b hb => ?_, (fun _ h => nomatch h), ?_, fun y ev hy => ?_⟩
    · rcases List.mem_cons.mp hb with q | q
      · rw [q, eL]; exact hg0
      · rw [eC] at q; cases q
    · show (genv.locals :: (genv.cells.map (·.2) ++ [])).Nodup
      rw [eC]; exact List.nodup_cons.mpr ⟨(fun h => nomatch h), List.nodup_nil⟩
    · rw [List.lookup_cons] at hy
      by_cases q : (y == x) = true
      · rw [q] at hy
        cases hy
        rw [beq_iff_eq.mp q]
        refine ⟨hgf ax, v, .inl ⟨by show genv.scope.names.lookup x = _; rw [hGE.scope]; exact hxl, _, by rw [eL]; exact hns.keeps u2, by simp⟩, ?_⟩
        refine RV.mono (fun b ob hb e => ⟨u2 _ _ (u1 _ _ e), fun hm => ?_⟩) _ (hgf ax) rax
        rcases List.mem_append.mp hm with hm | hm
        · cases hm
        · rcases List.mem_cons.mp hm with z | z
          · rw [z, eL, hgl1] at e; cases e
          · rw [eC] at z; cases z
      · simp only [q] at hy
        cases hy
  obtain ⟨og, hGS, hfin, hcut⟩ := hok (w := w) (A := A.in1) (h₀ := h₀) (hs := h₂) (ax := ax) (gl := gl) GE hbase haxl
  have hgo : ∀ s'' : Shared, s''.heap = h₂ → (GenState.fresh (.func gbody genv)).Goes (model prg w) A.in1 (fun n s₀ r s₁ => r = .ok (.ret .none) ∧ (n = 0 ∧ Gd h₂ gl s₀ s₁)) (Yp w h₀ h₂ ax gl fin tt all) all.length (.send .none) s'' := fun s'' hs'' => by
    refine ⟨rfl, seg_func ?_⟩
    have := hGS (rem := []) liveHs_stable (c := .func gbody genv) (fs := []) (K := fun f => .pure (.done (.ret (match f with | .ret v => v | _ => .none)))) (H := fun e => (leaving genv e).wrap (fun _ => .raise e) .raise id id) (gd := id) (lv := id) (s₀ := s'') (s := s'') ⟨rfl, rfl, rfl⟩ Rg (by rw [hs'']; exact Sg) (by rw [hs'']; exact fun b o₁ e => ⟨o₁, e⟩) (Gd.refl s'') ⟨[], by simp⟩ (fun _ => rfl) fun f ρ' e s₀' s' S' _ g' _ => by
      obtain ⟨_, hf⟩ := hfin f ρ' e
      rcases hf with rfl | rfl
      · exact seg_end (.ok (.ret .none)) ⟨rfl, rfl, g'⟩
      · exact seg_end (.ok (.ret .none)) ⟨rfl, rfl, g'⟩
    rw [List.append_nil] at this
    exact this
  refine gen_loop (g := s₁.gens.size) (ax := ax) (gs := .fresh (.func gbody genv)) (s₂ := { s₁ with gens := s₁.gens.push (.fresh (.func gbody genv)), heap := h₂, toks := s₁.toks + [(x, v)].length + 1 + 1 }) R.le R.hd R.depth E C S₂ (notm gl hgl0) hgF hg0 hag (notm a ha0) haxm haxl hgen2 (Array.getElem?_push_size ..) hgo hl (htt (w := w) (A := A)) fun fl s' gk bt q => ?_
  have gks : GK true s s' := by
    refine GK.trans (.of_kp k₁) (GK.trans ?_ gk)
    refine ⟨h₂, _, s₁.gens.push (.fresh (.func gbody genv)), rfl, (fun h => nomatch h), fun hall y hy => ?_⟩
    rcases Array.mem_push.mp hy with h | h
    · exact hall y h
    · rw [h]; rfl
  refine ⟨gks, fun b ob e => bt b ob (u02 _ _ e) (fun q => by rw [q, hgl0] at e; cases e), ?_⟩
  have oe : ∀ own', OwnExt own own' h₂ → OwnExt own own' s.heap := fun own' oe p hp => (oe p hp).imp id fun h1 => by
    cases e' : s.heap.get? p.2 with
    | none => rfl
    | some ob => rw [u02 _ _ e'] at h1; cases h1
  cases o <;> cases fl <;> first | exact q | exact q.elim | exact let ⟨own', e, S'⟩ := q; ⟨own', oe _ e, S'⟩
end Mine

namespace Mine
open PySem PySem.Sre

def rc1 : Array Nat := #[14, 4, 0, 1, 1, 6, 1, 16, 46, 1]
def rc2 : Array Nat := #[14, 9, 4, 1, 2, 16, 10, 16, 13, 0, 7, 7, 16, 13, 16, 10, 15, 18, 5, 16, 10, 15, 13, 11, 16, 13, 5, 5, 0, 16, 10, 1, 15, 2, 0, 1]

/-- the machine at a place of the text -/
def mat (code : Array Nat) (b : Nat) (text : Array Nat) (start pc pos handed : Nat) (first must : Bool) (frames : List Sre.Frame) (wt : Nat) (ans : Option Bool) (seen : Seen) (out : Option Sre.Outcome) : Sre.M :=
  { code, text, lim := text.size, start, lastStart := text.size, wholeText := false, mustAdvance := must, pc, pos, handed, outermost := first, marks := #[], lastmark := -1, lastindex := -1, loops := #[], inner := none, frames, weight := wt, answer := ans, seen, outcome := out }
def fr0 (b s : Nat) (first : Bool) : Sre.Frame := { wait := .nextStart, pc := b, pos := s, outermost := first }

theorem s1_at {text : Array Nat} {s : Nat} {first must : Bool} {seen : Seen} : (mat rc1 5 text s 5 s s first must [fr0 5 s first] 1 none seen none).step =
    if (s == 0 || text.getD (s - 1) 0 == 10) = true then mat rc1 5 text s 7 s s first must [fr0 5 s first] 1 none ((seen.add 6).add 44) none else mat rc1 5 text s 5 s s first must [fr0 5 s first] 1 (some false) ((seen.add 6).add 44) none := by
  rfl
theorem s1_lit {text : Array Nat} {s : Nat} {first must : Bool} {seen : Seen} : (mat rc1 5 text s 7 s s first must [fr0 5 s first] 1 none seen none).step =
    if s ≥ text.size then mat rc1 5 text s 7 s s first must [fr0 5 s first] 1 (some false) (seen.add 16) none else
    if (text.getD s 0 == 46) = true then mat rc1 5 text s 9 (s + 1) s first must [fr0 5 s first] 1 none (seen.add 16) none else mat rc1 5 text s 7 s s first must [fr0 5 s first] 1 (some false) (seen.add 16) none := by
  cases h : (text.getD s 0 == 46) with
  | true => 
    show (if _ then _ else (match (Except.ok ((text.getD s 0 == 46), _) : Except String (Bool × Seen)) with | .error _ => _ | .ok (false, _) => _ | .ok (true, _) => _)) = _
    rw [h]
    rfl
  | false =>
    show (if _ then _ else (match (Except.ok ((text.getD s 0 == 46), _) : Except String (Bool × Seen)) with | .error _ => _ | .ok (false, _) => _ | .ok (true, _) => _)) = _
    rw [h]
    rfl
theorem s1_ok {text : Array Nat} {s : Nat} {first must : Bool} {seen : Seen} : (mat rc1 5 text s 9 (s + 1) s first must [fr0 5 s first] 1 none seen none).step = mat rc1 5 text s 9 (s + 1) (s + 1) first must [fr0 5 s first] 1 (some true) (seen.add 1) none := by
  have h : (first && ((false && (s + 1) != text.size) || (must && (s + 1) == s))) = false := by
    have : ((s + 1) == s) = false := by simp
    rw [this]; cases first <;> cases must <;> rfl
  show (if (first && ((false && (s + 1) != text.size) || (must && (s + 1) == s))) = true then _ else _) = _
  rw [h]
  rfl
theorem s1_yes {text : Array Nat} {s pc pos handed : Nat} {first first' must : Bool} {seen : Seen} : (mat rc1 5 text s pc pos handed first must [fr0 5 s first'] 1 (some true) seen none).step = mat rc1 5 text s 5 s handed first' must [] 0 (some true) seen none := rfl
theorem s_fin {code : Array Nat} {b : Nat} {text : Array Nat} {s pc pos handed : Nat} {first must : Bool} {seen : Seen} : (mat code b text s pc pos handed first must [] 0 (some true) seen none).step = mat code b text s pc pos handed first must [] 0 (some true) seen (some .matched) := rfl
theorem s_finN {code : Array Nat} {b : Nat} {text : Array Nat} {s pc pos handed : Nat} {first must : Bool} {seen : Seen} : (mat code b text s pc pos handed first must [] 0 (some false) seen none).step = mat code b text s pc pos handed first must [] 0 (some false) seen (some .failed) := rfl
theorem s1_no {text : Array Nat} {s pc pos handed : Nat} {first first' must : Bool} {seen : Seen} : (mat rc1 5 text s pc pos handed first must [fr0 5 s first'] 1 (some false) seen none).step =
    if s < text.size then mat rc1 5 text (s + 1) 5 (s + 1) (s + 1) false false [fr0 5 (s + 1) false] 1 none seen none else mat rc1 5 text s 5 s handed first' must [] 0 (some false) seen none := rfl
end Mine

namespace Mine
open PySem PySem.Sre

def Rch (n : Nat) (m m' : Sre.M) : Prop := ∀ k, M.runFor (n + k) m = M.runFor k m'
theorem Rch.step {m : Sre.M} (h : m.outcome = Option.none) : Rch 1 m m.step := fun k => by
  rw [Nat.add_comm]
  show (if m.outcome.isSome = true then m else M.runFor k m.step) = _
  rw [h]; rfl
theorem Rch.trans {a b : Nat} {m m' m'' : Sre.M} (x : Rch a m m') (y : Rch b m' m'') : Rch (a + b) m m'' := fun k => by rw [Nat.add_assoc, x, y]
theorem Rch.to {m m' : Sre.M} (h : m.outcome = Option.none) (e : m.step = m') : Rch 1 m m' := e ▸ Rch.step h
theorem runFor_fin {m : Sre.M} (h : m.outcome.isSome = true) : ∀ k, M.runFor k m = m
  | 0 => rfl
  | k + 1 => by show (if m.outcome.isSome = true then m else _) = _; rw [if_pos h]
theorem runFor_add : ∀ (a b : Nat) (m : Sre.M), M.runFor (a + b) m = M.runFor b (M.runFor a m)
  | 0, b, m => by rw [Nat.zero_add]; rfl
  | a + 1, b, m => by
    rw [show a + 1 + b = (a + b) + 1 by omega]
    show (if m.outcome.isSome = true then m else M.runFor (a + b) m.step) = M.runFor b (if m.outcome.isSome = true then m else M.runFor a m.step)
    by_cases h : m.outcome.isSome = true
    · rw [if_pos h, if_pos h, runFor_fin h]
    · rw [if_neg h, if_neg h, runFor_add]

section
variable {w : World} {A : Around} {E : Value → Shared → Prop} {s : Shared}
theorem drive_ok {Q : Sre.M → Shared → Prop} {m' : Sre.M} (hf : m'.outcome.isSome = true) : ∀ (T n : Nat) {m : Sre.M}, Rch n m m' → n ≤ 4 * T → 0 < T → Q m' s → wpAny (model prg w) A (Builtin.Re.reDrive T m) Q E s
  | 0, _, _, _, _, h0, _ => absurd h0 (Nat.lt_irrefl _)
  | T + 1, n, m, hr, hn, _, hQ => by
    unfold Builtin.Re.reDrive
    show wpAny _ _ (if (M.runFor 4 m).outcome.isSome = true then pure (M.runFor 4 m) else _) _ _ _
    by_cases h : (M.runFor 4 m).outcome.isSome = true
    · rw [if_pos h]
      have e : M.runFor 4 m = m' := by
        have h1 := hr 4
        rw [Nat.add_comm, runFor_add, runFor_fin h, runFor_fin hf] at h1
        exact h1
      rw [e]
      exact wpAny_pure hQ
    · rw [if_neg h]
      refine wpAny_bind (wpAny_rule ?_)
      have h4 : 4 < n := by
        rcases Nat.lt_or_ge 4 n with h4 | h4
        · exact h4
        · exfalso
          have e := hr (4 - n)
          rw [show n + (4 - n) = 4 by omega, runFor_fin hf] at e
          rw [e] at h; exact h hf
      refine drive_ok hf T (n - 4) (fun k => ?_) (by omega) (by omega) hQ
      rw [← runFor_add]
      show M.runFor (4 + (n - 4 + k)) m = _
      rw [show 4 + (n - 4 + k) = n + k by omega]
      exact hr k
theorem run_ok {Q : Option Sre.M → Shared → Prop} {n : Nat} {m m' : Sre.M} (hr : Rch n m m') (hn : n ≤ 2 ^ 60) (ho : m'.outcome = some .matched ∨ m'.outcome = some .failed) (hQ : Q (if m'.outcome matches some .matched then some m' else Option.none) s) : wpAny (model prg w) A (Builtin.Re.reRunToEnd m) Q E s := by
  unfold Builtin.Re.reRunToEnd
  have hf : m'.outcome.isSome = true := by rcases ho with h | h <;> rw [h] <;> rfl
  refine wpAny_bind (drive_ok hf (2 ^ 64) n hr (by omega) (by decide) ?_)
  refine wpAny_bind (wpAny_mono (wpAny_forIn_list _ (fun _ _ s' => s' = s) (fun _ s' => s' = s) (fun i rest b s' h => ?_) (fun _ _ h => h) _ _ rfl) (fun _ s' e => ?_) fun _ _ x => x)
  · subst h
    split
    · exact wpAny_bind (wpAny_rule (wpAny_pure rfl))
    · exact wpAny_pure rfl
  · subst e
    rcases ho with h | h
    · rw [h] at hQ ⊢; exact wpAny_pure hQ
    · rw [h] at hQ ⊢; exact wpAny_pure hQ
end

-- pattern 1
/-- where a dot begins a row -/
def hit1 (text : Array Nat) (s : Nat) : Bool := (s == 0 || text.getD (s - 1) 0 == 10) && (decide (s < text.size) && text.getD s 0 == 46)
theorem try1_yes {text : Array Nat} {s : Nat} {first must : Bool} {seen : Seen} (h : hit1 text s = true) : ∃ seen', Rch 5 (mat rc1 5 text s 5 s s first must [fr0 5 s first] 1 none seen none) (mat rc1 5 text s 5 s (s + 1) first must [] 0 (some true) seen' (some .matched)) := by
  unfold hit1 at h
  rw [Bool.and_eq_true, Bool.and_eq_true] at h
  obtain ⟨h1, h2, h3⟩ := h
  have h2' : s < text.size := of_decide_eq_true h2
  refine ⟨_, ((((Rch.to rfl (s1_at.trans (if_pos h1))).trans (Rch.to rfl (s1_lit.trans ((if_neg (Nat.not_le.mpr h2')).trans (if_pos h3))))).trans (Rch.to rfl s1_ok)).trans (Rch.to rfl s1_yes)).trans (Rch.to rfl s_fin)⟩
theorem try1_no {text : Array Nat} {s : Nat} {first must : Bool} {seen : Seen} (h : hit1 text s = false) : ∃ n seen' pc, n ≤ 2 ∧ Rch n (mat rc1 5 text s 5 s s first must [fr0 5 s first] 1 none seen none) (mat rc1 5 text s pc s s first must [fr0 5 s first] 1 (some false) seen' none) := by
  by_cases h1 : (s == 0 || text.getD (s - 1) 0 == 10) = true
  · have hs := Rch.to (m := mat rc1 5 text s 5 s s first must [fr0 5 s first] 1 none seen none) rfl (s1_at.trans (if_pos h1))
    by_cases h2 : s ≥ text.size
    · exact ⟨2, _, 7, Nat.le_refl _, hs.trans (Rch.to rfl (s1_lit.trans (if_pos h2)))⟩
    · by_cases h3 : (text.getD s 0 == 46) = true
      · unfold hit1 at h
        rw [h1, h3, Bool.true_and, Bool.and_true, decide_eq_true (Nat.lt_of_not_le h2)] at h
        cases h
      · exact ⟨2, _, 7, Nat.le_refl _, hs.trans (Rch.to rfl (s1_lit.trans ((if_neg h2).trans (if_neg h3))))⟩
  · exact ⟨1, _, 5, by omega, Rch.to rfl (s1_at.trans (if_neg h1))⟩

def find1 (text : Array Nat) : (fuel s : Nat) → Option Nat
  | 0, s => if hit1 text s = true then some s else Option.none
  | fuel + 1, s => if hit1 text s = true then some s else find1 text fuel (s + 1)
theorem search1 {text : Array Nat} : ∀ (fuel : Nat) {s : Nat} {first must : Bool} {seen : Seen}, s + fuel = text.size → ∃ n m', n ≤ 6 * (fuel + 1) ∧ Rch n (mat rc1 5 text s 5 s s first must [fr0 5 s first] 1 none seen none) m' ∧
    match find1 text fuel s with
    | some e => m'.outcome = some .matched ∧ m'.start = e ∧ m'.handed = e + 1
    | Option.none => m'.outcome = some .failed
  | 0, s, first, must, seen, hs => by
    unfold find1
    by_cases h : hit1 text s = true
    · rw [if_pos h]
      obtain ⟨seen', hr⟩ := try1_yes (first := first) (must := must) (seen := seen) h
      exact ⟨5, _, by omega, hr, rfl, rfl, rfl⟩
    · rw [if_neg h]
      obtain ⟨n, seen', pc, hn, hr⟩ := try1_no (first := first) (must := must) (seen := seen) (Bool.eq_false_iff.mpr h)
      exact ⟨n + 1 + 1, _, by omega, (hr.trans (Rch.to rfl (s1_no.trans (if_neg (show ¬ s < text.size by omega))))).trans (Rch.to rfl s_finN), rfl⟩
  | fuel + 1, s, first, must, seen, hs => by
    unfold find1
    by_cases h : hit1 text s = true
    · rw [if_pos h]
      obtain ⟨seen', hr⟩ := try1_yes (first := first) (must := must) (seen := seen) h
      exact ⟨5, _, by omega, hr, rfl, rfl, rfl⟩
    · rw [if_neg h]
      obtain ⟨n, seen', pc, hn, hr⟩ := try1_no (first := first) (must := must) (seen := seen) (Bool.eq_false_iff.mpr h)
      obtain ⟨n', m', hn', hr', hm⟩ := search1 (text := text) fuel (s := s + 1) (first := false) (must := false) (seen := seen') (by omega)
      exact ⟨n + 1 + n', m', by omega, (hr.trans (Rch.to rfl (s1_no.trans (if_pos (show s < text.size by omega))))).trans hr', hm⟩
end Mine

namespace Mine
open PySem PySem.Sre

def brf (s pc : Nat) (first : Bool) : Sre.Frame := { wait := .nextBranch, pc, pos := s, outermost := first }
def lnf (pos : Nat) (first : Bool) : Sre.Frame := { wait := .lookNot, pc := 26, pos, outermost := first }
section
variable {text : Array Nat} {s p : Nat} {first must : Bool} {seen : Seen} {fs : List Sre.Frame} {wt h : Nat}
theorem s2_br : (mat rc2 10 text s 10 s s first must [fr0 10 s first] 1 none seen none).step = mat rc2 10 text s 12 s s first must [brf s 11 first, fr0 10 s first] 2 none (seen.add 7) none := rfl
theorem s2_lit12 : (mat rc2 10 text s 12 p h first must fs wt none seen none).step =
    if p ≥ text.size then mat rc2 10 text s 12 p h first must fs wt (some false) (seen.add 16) none else
    if (text.getD p 0 == 13) = true then mat rc2 10 text s 14 (p + 1) h first must fs wt none (seen.add 16) none else mat rc2 10 text s 12 p h first must fs wt (some false) (seen.add 16) none := by
  cases e : (text.getD p 0 == 13) with
  | true =>
    show (if _ then _ else (match (Except.ok ((text.getD p 0 == 13), _) : Except String (Bool × Seen)) with | .error _ => _ | .ok (false, _) => _ | .ok (true, _) => _)) = _
    rw [e]
    rfl
  | false =>
    show (if _ then _ else (match (Except.ok ((text.getD p 0 == 13), _) : Except String (Bool × Seen)) with | .error _ => _ | .ok (false, _) => _ | .ok (true, _) => _)) = _
    rw [e]
    rfl
theorem s2_lit14 : (mat rc2 10 text s 14 p h first must fs wt none seen none).step =
    if p ≥ text.size then mat rc2 10 text s 14 p h first must fs wt (some false) (seen.add 16) none else
    if (text.getD p 0 == 10) = true then mat rc2 10 text s 16 (p + 1) h first must fs wt none (seen.add 16) none else mat rc2 10 text s 14 p h first must fs wt (some false) (seen.add 16) none := by
  cases e : (text.getD p 0 == 10) with
  | true =>
    show (if _ then _ else (match (Except.ok ((text.getD p 0 == 10), _) : Except String (Bool × Seen)) with | .error _ => _ | .ok (false, _) => _ | .ok (true, _) => _)) = _
    rw [e]
    rfl
  | false =>
    show (if _ then _ else (match (Except.ok ((text.getD p 0 == 10), _) : Except String (Bool × Seen)) with | .error _ => _ | .ok (false, _) => _ | .ok (true, _) => _)) = _
    rw [e]
    rfl
theorem s2_lit19 : (mat rc2 10 text s 19 p h first must fs wt none seen none).step =
    if p ≥ text.size then mat rc2 10 text s 19 p h first must fs wt (some false) (seen.add 16) none else
    if (text.getD p 0 == 10) = true then mat rc2 10 text s 21 (p + 1) h first must fs wt none (seen.add 16) none else mat rc2 10 text s 19 p h first must fs wt (some false) (seen.add 16) none := by
  cases e : (text.getD p 0 == 10) with
  | true =>
    show (if _ then _ else (match (Except.ok ((text.getD p 0 == 10), _) : Except String (Bool × Seen)) with | .error _ => _ | .ok (false, _) => _ | .ok (true, _) => _)) = _
    rw [e]
    rfl
  | false =>
    show (if _ then _ else (match (Except.ok ((text.getD p 0 == 10), _) : Except String (Bool × Seen)) with | .error _ => _ | .ok (false, _) => _ | .ok (true, _) => _)) = _
    rw [e]
    rfl
theorem s2_lit24 : (mat rc2 10 text s 24 p h first must fs wt none seen none).step =
    if p ≥ text.size then mat rc2 10 text s 24 p h first must fs wt (some false) (seen.add 16) none else
    if (text.getD p 0 == 13) = true then mat rc2 10 text s 26 (p + 1) h first must fs wt none (seen.add 16) none else mat rc2 10 text s 24 p h first must fs wt (some false) (seen.add 16) none := by
  cases e : (text.getD p 0 == 13) with
  | true =>
    show (if _ then _ else (match (Except.ok ((text.getD p 0 == 13), _) : Except String (Bool × Seen)) with | .error _ => _ | .ok (false, _) => _ | .ok (true, _) => _)) = _
    rw [e]
    rfl
  | false =>
    show (if _ then _ else (match (Except.ok ((text.getD p 0 == 13), _) : Except String (Bool × Seen)) with | .error _ => _ | .ok (false, _) => _ | .ok (true, _) => _)) = _
    rw [e]
    rfl
theorem s2_lit29 : (mat rc2 10 text s 29 p h first must fs wt none seen none).step =
    if p ≥ text.size then mat rc2 10 text s 29 p h first must fs wt (some false) (seen.add 16) none else
    if (text.getD p 0 == 10) = true then mat rc2 10 text s 31 (p + 1) h first must fs wt none (seen.add 16) none else mat rc2 10 text s 29 p h first must fs wt (some false) (seen.add 16) none := by
  cases e : (text.getD p 0 == 10) with
  | true =>
    show (if _ then _ else (match (Except.ok ((text.getD p 0 == 10), _) : Except String (Bool × Seen)) with | .error _ => _ | .ok (false, _) => _ | .ok (true, _) => _)) = _
    rw [e]
    rfl
  | false =>
    show (if _ then _ else (match (Except.ok ((text.getD p 0 == 10), _) : Except String (Bool × Seen)) with | .error _ => _ | .ok (false, _) => _ | .ok (true, _) => _)) = _
    rw [e]
    rfl
theorem s2_jump16 : (mat rc2 10 text s 16 p h first must fs wt none seen none).step = mat rc2 10 text s 35 p h first must fs wt none (seen.add 15) none := rfl
theorem s2_jump21 : (mat rc2 10 text s 21 p h first must fs wt none seen none).step = mat rc2 10 text s 35 p h first must fs wt none (seen.add 15) none := rfl
theorem s2_jump32 : (mat rc2 10 text s 32 p h first must fs wt none seen none).step = mat rc2 10 text s 35 p h first must fs wt none (seen.add 15) none := rfl
theorem s2_ok : (mat rc2 10 text s 35 p h first false fs wt none seen none).step = mat rc2 10 text s 35 p p first false fs wt (some true) (seen.add 1) none := by
  have e : (first && ((false && p != text.size) || (false && p == s))) = false := by cases first <;> rfl
  show (if (first && ((false && p != text.size) || (false && p == s))) = true then _ else _) = _
  rw [e]
  rfl
theorem s2_yesB {pc pc' : Nat} {f0 : Bool} : (mat rc2 10 text s pc p h f0 must [brf s pc' first, fr0 10 s first] 2 (some true) seen none).step = mat rc2 10 text s pc' s h first must [fr0 10 s first] 1 (some true) seen none := rfl
theorem s2_yes {pc pos : Nat} {f0 : Bool} : (mat rc2 10 text s pc pos h f0 must [fr0 10 s first] 1 (some true) seen none).step = mat rc2 10 text s 10 s h first must [] 0 (some true) seen none := rfl
theorem s2_noB11 {pc : Nat} {f0 : Bool} : (mat rc2 10 text s pc p h f0 must [brf s 11 first, fr0 10 s first] 2 (some false) seen none).step = mat rc2 10 text s 19 s s first must [brf s 18 first, fr0 10 s first] 2 none seen none := rfl
theorem s2_noB18 {pc : Nat} {f0 : Bool} : (mat rc2 10 text s pc p h f0 must [brf s 18 first, fr0 10 s first] 2 (some false) seen none).step = mat rc2 10 text s 24 s s first must [brf s 23 first, fr0 10 s first] 2 none seen none := rfl
theorem s2_look : (mat rc2 10 text s 26 p h first must [brf s 23 first, fr0 10 s first] 2 none seen none).step = mat rc2 10 text s 29 p p false must [lnf p first, brf s 23 first, fr0 10 s first] 3 none (seen.add 5) none := by
  rfl
theorem s2_lookNo {q : Nat} {f0 : Bool} : (mat rc2 10 text s 29 q h f0 must [lnf p first, brf s 23 first, fr0 10 s first] 3 (some false) seen none).step = mat rc2 10 text s 32 p h first must [brf s 23 first, fr0 10 s first] 2 none seen none := rfl

/-- a line feed -/
theorem try2_lf (hs : s < text.size) (hc : text.getD s 0 = 10) : ∃ seen', Rch 9 (mat rc2 10 text s 10 s s first false [fr0 10 s first] 1 none seen none) (mat rc2 10 text s 10 s (s + 1) first false [] 0 (some true) seen' (some .matched)) := by
  have h1 : ¬ (text.getD s 0 == 13) = true := by rw [hc]; decide
  have h2 : (text.getD s 0 == 10) = true := by rw [hc]; decide
  have ng : ¬ s ≥ text.size := Nat.not_le.mpr hs
  exact ⟨_, ((((((((Rch.to rfl s2_br).trans (Rch.to rfl (s2_lit12.trans ((if_neg ng).trans (if_neg h1))))).trans (Rch.to rfl s2_noB11)).trans (Rch.to rfl (s2_lit19.trans ((if_neg ng).trans (if_pos h2))))).trans (Rch.to rfl s2_jump21)).trans (Rch.to rfl s2_ok)).trans (Rch.to rfl s2_yesB)).trans (Rch.to rfl s2_yes)).trans (Rch.to rfl s_fin)⟩
/-- a return and a feed -/
theorem try2_crlf (hs : s < text.size) (hc : text.getD s 0 = 13) (hs' : s + 1 < text.size) (hc' : text.getD (s + 1) 0 = 10) : ∃ seen', Rch 8 (mat rc2 10 text s 10 s s first false [fr0 10 s first] 1 none seen none) (mat rc2 10 text s 10 s (s + 2) first false [] 0 (some true) seen' (some .matched)) := by
  have h1 : (text.getD s 0 == 13) = true := by rw [hc]; decide
  have h2 : (text.getD (s + 1) 0 == 10) = true := by rw [hc']; decide
  have ng : ¬ s ≥ text.size := Nat.not_le.mpr hs
  have ng' : ¬ s + 1 ≥ text.size := Nat.not_le.mpr hs'
  exact ⟨_, (((((((Rch.to rfl s2_br).trans (Rch.to rfl (s2_lit12.trans ((if_neg ng).trans (if_pos h1))))).trans (Rch.to rfl (s2_lit14.trans ((if_neg ng').trans (if_pos h2))))).trans (Rch.to rfl s2_jump16)).trans (Rch.to rfl s2_ok)).trans (Rch.to rfl s2_yesB)).trans (Rch.to rfl s2_yes)).trans (Rch.to rfl s_fin)⟩
/-- a return alone -/
theorem try2_cr (hs : s < text.size) (hc : text.getD s 0 = 13) (hn : ¬ (s + 1 < text.size ∧ text.getD (s + 1) 0 = 10)) : ∃ seen', Rch 15 (mat rc2 10 text s 10 s s first false [fr0 10 s first] 1 none seen none) (mat rc2 10 text s 10 s (s + 1) first false [] 0 (some true) seen' (some .matched)) := by
  have h1 : (text.getD s 0 == 13) = true := by rw [hc]; decide
  have h10 : ¬ (text.getD s 0 == 10) = true := by rw [hc]; decide
  have ng : ¬ s ≥ text.size := Nat.not_le.mpr hs
  have a14 : ∀ {seen : Seen} {f0 : Bool} {h : Nat} {fs : List Sre.Frame} {wt : Nat}, (mat rc2 10 text s 14 (s + 1) h f0 false fs wt none seen none).step = mat rc2 10 text s 14 (s + 1) h f0 false fs wt (some false) (seen.add 16) none := by
    intros
    by_cases q : s + 1 ≥ text.size
    · exact s2_lit14.trans (if_pos q)
    · refine s2_lit14.trans ((if_neg q).trans (if_neg fun e => hn ⟨Nat.lt_of_not_le q, by simpa using e⟩))
  have a29 : ∀ {seen : Seen} {f0 : Bool} {h : Nat} {fs : List Sre.Frame} {wt : Nat}, (mat rc2 10 text s 29 (s + 1) h f0 false fs wt none seen none).step = mat rc2 10 text s 29 (s + 1) h f0 false fs wt (some false) (seen.add 16) none := by
    intros
    by_cases q : s + 1 ≥ text.size
    · exact s2_lit29.trans (if_pos q)
    · refine s2_lit29.trans ((if_neg q).trans (if_neg fun e => hn ⟨Nat.lt_of_not_le q, by simpa using e⟩))
  exact ⟨_, (((((((((((((((Rch.to rfl s2_br).trans (Rch.to rfl (s2_lit12.trans ((if_neg ng).trans (if_pos h1))))).trans (Rch.to rfl a14)).trans (Rch.to rfl s2_noB11)).trans (Rch.to rfl (s2_lit19.trans ((if_neg ng).trans (if_neg h10))))).trans (Rch.to rfl s2_noB18)).trans (Rch.to rfl (s2_lit24.trans ((if_neg ng).trans (if_pos h1))))).trans (Rch.to rfl s2_look)).trans (Rch.to rfl a29)).trans (Rch.to rfl s2_lookNo)).trans (Rch.to rfl s2_jump32)).trans (Rch.to rfl s2_ok)).trans (Rch.to rfl s2_yesB)).trans (Rch.to rfl s2_yes)).trans (Rch.to rfl s_fin))⟩
end
end Mine

namespace Mine
open PySem PySem.Sre

theorem inSet2 (c : Nat) (seen : Seen) : ∃ seen', inSet rc2 c 36 5 true seen = .ok (c == 10 || c == 13, seen') := by
  by_cases h : (c == 10) = true
  · exact ⟨_, by
      show (if (c == 10) = true then _ else _) = _
      rw [if_pos h, h]; rfl⟩
  · by_cases h' : (c == 13) = true
    · exact ⟨_, by
        show (if (c == 10) = true then _ else if (c == 13) = true then _ else _) = _
        rw [if_neg h, if_pos h', h', Bool.or_true]⟩
    · exact ⟨_, by
        show (if (c == 10) = true then _ else if (c == 13) = true then _ else _) = _
        rw [if_neg h, if_neg h']
        rw [Bool.eq_false_iff.mpr h, Bool.eq_false_iff.mpr h']; rfl⟩

def isNl (c : Nat) : Bool := c == 10 || c == 13
def find2 (text : Array Nat) : (fuel s : Nat) → Option Nat
  | 0, _ => Option.none
  | fuel + 1, s => if s ≥ text.size then Option.none else if isNl (text.getD s 0) = true then some s else find2 text fuel (s + 1)
theorem adm2 {text : Array Nat} {m : Sre.M} (hc : m.code = rc2) (ht : m.text = text) (hl : m.lim = text.size) : ∀ (fuel s : Nat) (seen : Seen), ∃ seen', M.admitted m fuel s seen = .ok (find2 text fuel s, seen')
  | 0, s, seen => ⟨seen, rfl⟩
  | fuel + 1, s, seen => by
    unfold M.admitted find2
    rw [hl, hc, ht]
    by_cases q : s ≥ text.size
    · rw [if_pos q, if_pos q]; exact ⟨seen, rfl⟩
    · rw [if_neg q, if_neg q]
      obtain ⟨seen', e⟩ := inSet2 (text.getD s 0) seen
      rw [show rc2.size = 36 from rfl, e]
      by_cases h : isNl (text.getD s 0) = true
      · rw [if_pos h]
        unfold isNl at h
        rw [h]
        exact ⟨seen', rfl⟩
      · rw [if_neg h]
        obtain ⟨seen'', e'⟩ := adm2 hc ht hl fuel (s + 1) seen'
        unfold isNl at h
        rw [Bool.eq_false_iff.mpr h]
        exact ⟨seen'', e'⟩

theorem find2_lt {text : Array Nat} : ∀ {fuel s e : Nat}, find2 text fuel s = some e → s ≤ e ∧ e < text.size ∧ isNl (text.getD e 0) = true ∧ ∀ i, s ≤ i → i < e → isNl (text.getD i 0) = false
  | fuel + 1, s, e, h => by
    unfold find2 at h
    by_cases q : s ≥ text.size
    · rw [if_pos q] at h; cases h
    · rw [if_neg q] at h
      by_cases z : isNl (text.getD s 0) = true
      · rw [if_pos z] at h
        cases h
        exact ⟨Nat.le_refl _, Nat.lt_of_not_le q, z, fun i h1 h2 => absurd h2 (Nat.not_lt.mpr h1)⟩
      · rw [if_neg z] at h
        obtain ⟨a, b, c, d⟩ := find2_lt h
        refine ⟨by omega, b, c, fun i h1 h2 => ?_⟩
        rcases Nat.eq_or_lt_of_le h1 with rfl | h1
        · exact Bool.eq_false_iff.mpr z
        · exact d i h1 h2
theorem find2_none {text : Array Nat} : ∀ {fuel s : Nat}, find2 text fuel s = Option.none → text.size ≤ s + fuel → ∀ i, s ≤ i → i < text.size → isNl (text.getD i 0) = false
  | 0, s, _, hf, i, h1, h2 => by omega
  | fuel + 1, s, h, hf, i, h1, h2 => by
    unfold find2 at h
    by_cases q : s ≥ text.size
    · omega
    · rw [if_neg q] at h
      by_cases z : isNl (text.getD s 0) = true
      · rw [if_pos z] at h; cases h
      · rw [if_neg z] at h
        rcases Nat.eq_or_lt_of_le h1 with rfl | h1
        · exact Bool.eq_false_iff.mpr z
        · exact find2_none h (by omega) i h1 h2

/-- where a line end ends -/
def end2 (text : Array Nat) (s : Nat) : Nat := if text.getD s 0 = 13 ∧ s + 1 < text.size ∧ text.getD (s + 1) 0 = 10 then s + 2 else s + 1
theorem try2 {text : Array Nat} {s : Nat} {first : Bool} {seen : Seen} (hs : s < text.size) (hc : isNl (text.getD s 0) = true) : ∃ n seen', n ≤ 15 ∧ Rch n (mat rc2 10 text s 10 s s first false [fr0 10 s first] 1 none seen none) (mat rc2 10 text s 10 s (end2 text s) first false [] 0 (some true) seen' (some .matched)) := by
  unfold isNl at hc
  rw [Bool.or_eq_true] at hc
  unfold end2
  rcases hc with hc | hc
  · have hc' : text.getD s 0 = 10 := by simpa using hc
    rw [if_neg (by rw [hc']; omega)]
    obtain ⟨seen', h⟩ := try2_lf (first := first) (seen := seen) hs hc'
    exact ⟨9, seen', by omega, h⟩
  · have hc' : text.getD s 0 = 13 := by simpa using hc
    by_cases q : s + 1 < text.size ∧ text.getD (s + 1) 0 = 10
    · rw [if_pos ⟨hc', q⟩]
      obtain ⟨seen', h⟩ := try2_crlf (first := first) (seen := seen) hs hc' q.1 q.2
      exact ⟨8, seen', by omega, h⟩
    · rw [if_neg fun x => q x.2]
      obtain ⟨seen', h⟩ := try2_cr (first := first) (seen := seen) hs hc' q
      exact ⟨15, seen', by omega, h⟩

theorem said_no {X : Sre.M} (hf : X.frames = []) (ho : X.outcome = Option.none) : ∃ m', Rch 1 (X.say false) m' ∧ m'.outcome = some .failed := by
  refine ⟨_, Rch.step ho, ?_⟩
  unfold M.step
  show (if X.outcome.isSome = true then _ else match (some false : Option Bool), X.frames with | some yes, [] => _ | some yes, f :: rest => _ | Option.none, _ => _ : Sre.M).outcome = _
  rw [ho, hf]
  rfl
theorem search2 {text : Array Nat} {start : Nat} (hst : start ≤ text.size) : ∃ n m', n ≤ 20 ∧ Rch n (forSearch rc2 text 0 start text.size false) m' ∧
    match find2 text (text.size + 1 - start) start with
    | some e => m'.outcome = some .matched ∧ m'.start = e ∧ m'.handed = end2 text e
    | Option.none => m'.outcome = some .failed := by
  by_cases hlt : (decide (start > text.size) || decide (text.size - start < 1)) = true
  · have he : start = text.size := by
      rw [Bool.or_eq_true, decide_eq_true_eq, decide_eq_true_eq] at hlt; omega
    have hf : find2 text (text.size + 1 - start) start = Option.none := by
      rw [he, Nat.add_sub_cancel_left]; unfold find2; rw [if_pos (Nat.le_refl _)]
    rw [hf]
    have e1 : ∃ X : Sre.M, X.frames = [] ∧ X.outcome = Option.none ∧ forSearch rc2 text 0 start text.size false = X.say false := ⟨_, rfl, rfl, by unfold forSearch; exact if_pos hlt⟩
    obtain ⟨X, h1, h2, h3⟩ := e1
    rw [h3]
    obtain ⟨m', h4, h5⟩ := said_no h1 h2
    exact ⟨1, m', by omega, h4, h5⟩
  · have e1 : forSearch rc2 text 0 start text.size false = M.attemptFrom (mat rc2 10 text start 10 start start true false [] 0 Option.none (({} : Seen).add 14) Option.none) start true := by
      unfold forSearch; exact if_neg hlt
    rw [e1]
    obtain ⟨seen', e2⟩ := adm2 (text := text) (m := mat rc2 10 text start 10 start start true false [] 0 Option.none (({} : Seen).add 14) Option.none) rfl rfl rfl (text.size + 1 - start) start (({} : Seen).add 14)
    have e3 : M.attemptFrom (mat rc2 10 text start 10 start start true false [] 0 Option.none (({} : Seen).add 14) Option.none) start true = (match find2 text (text.size + 1 - start) start with
        | some e => mat rc2 10 text e 10 e e true false [fr0 10 e true] 1 Option.none seen' Option.none
        | Option.none => mat rc2 10 text start 10 start start true false [] 0 (some false) seen' Option.none) := by
      show (match M.admitted (mat rc2 10 text start 10 start start true false [] 0 Option.none (({} : Seen).add 14) Option.none) (text.size + 1 - start) start (({} : Seen).add 14) with
        | .ok (some s, seen) => M.attemptAt { mat rc2 10 text start 10 start start true false [] 0 Option.none (({} : Seen).add 14) Option.none with mustAdvance := false, seen } s true
        | .ok (Option.none, seen) => M.say { mat rc2 10 text start 10 start start true false [] 0 Option.none (({} : Seen).add 14) Option.none with seen } false
        | .error why => M.stick (mat rc2 10 text start 10 start start true false [] 0 Option.none (({} : Seen).add 14) Option.none) why) = _
      rw [e2]
      cases find2 text (text.size + 1 - start) start <;> rfl
    rw [e3]
    cases hf : find2 text (text.size + 1 - start) start with
    | none => exact ⟨1, _, by omega, Rch.to rfl s_finN, rfl⟩
    | some e =>
      obtain ⟨_, h1, h2, _⟩ := find2_lt hf
      obtain ⟨n, seen'', hn, hr⟩ := try2 (first := true) (seen := seen') h1 h2
      exact ⟨n, _, by omega, hr, rfl, rfl, rfl⟩

theorem search1' {text : Array Nat} {start : Nat} (hst : start ≤ text.size) : ∃ n m', n ≤ 6 * (text.size + 2) ∧ Rch n (forSearch rc1 text 0 start text.size false) m' ∧
    match find1 text (text.size - start) start with
    | some e => m'.outcome = some .matched ∧ m'.start = e ∧ m'.handed = e + 1
    | Option.none => m'.outcome = some .failed := by
  by_cases hlt : (decide (start > text.size) || decide (text.size - start < 1)) = true
  · have he : start = text.size := by
      rw [Bool.or_eq_true, decide_eq_true_eq, decide_eq_true_eq] at hlt; omega
    have hf : find1 text (text.size - start) start = Option.none := by
      rw [he, Nat.sub_self]; unfold find1 hit1
      rw [decide_eq_false (Nat.lt_irrefl _), Bool.false_and, Bool.and_false, if_neg Bool.false_ne_true]
    rw [hf]
    have e1 : ∃ X : Sre.M, X.frames = [] ∧ X.outcome = Option.none ∧ forSearch rc1 text 0 start text.size false = X.say false := ⟨_, rfl, rfl, by unfold forSearch; exact if_pos hlt⟩
    obtain ⟨X, h1, h2, h3⟩ := e1
    rw [h3]
    obtain ⟨m', h4, h5⟩ := said_no h1 h2
    exact ⟨1, m', by omega, h4, h5⟩
  · have e1 : forSearch rc1 text 0 start text.size false = mat rc1 5 text start 5 start start true false [fr0 5 start true] 1 Option.none (({} : Seen).add 14) Option.none := by
      unfold forSearch; exact if_neg hlt
    rw [e1]
    obtain ⟨n, m', hn, hr, hm⟩ := search1 (text := text) (text.size - start) (s := start) (first := true) (must := false) (seen := (({} : Seen).add 14)) (by omega)
    exact ⟨n, m', by omega, hr, hm⟩
end Mine

namespace Mine
open PySem PySem.W PySem.Builtin PySem.Builtin.Str

theorem re_attrs : PlainAttrs "re.Pattern" := ⟨⟨"object.__getattribute__", by rw [typeLookup_type, builtinLookup_eq_fast]; kernel_rfl, by decide +kernel⟩, by rw [typeLookup_type, builtinLookup_eq_fast]; kernel_rfl⟩
theorem re_slot : Slot "re.Pattern" "sub" "re.Pattern.sub" :=
  .of (owner := "re.Pattern") (n := "sub") (by rw [typeLookup_type, builtinLookup_eq_fast]; kernel_rfl) (by decide +kernel) (by decide +kernel) (by decide +kernel)
    (by first | exact .inl (by decide +kernel) | exact .inr (by decide +kernel)) (by rw [isSubtype_type]; kernel_rfl)
theorem re_type : typeOf (.builtin "re.Pattern.sub") = pure (.type "method_descriptor") := by show builtinType _ = _; rw [builtinType_eq_fast]; kernel_rfl
theorem re_entry : entryFor table "re.Pattern.sub" = some Builtin.«re.Pattern.sub» := entryFor_of_tree (by kernel_rfl)
theorem re_entry_loop : entryFor table "re.Pattern.sub.loop" = some Builtin.«re.Pattern.sub.loop» := entryFor_of_tree (by kernel_rfl)
theorem re_plain : plainId "re.Pattern.sub.loop" = true := by decide +kernel
theorem re_args (a b c : Value) : argsOk "re.Pattern.sub" ⟨[a, b, c], []⟩ := by
  unfold argsOk; kernel_rfl
end Mine

namespace Mine
open PySem PySem.W PySem.Builtin PySem.Builtin.Str

/-- a pattern of the top -/
structure PatAt (h : Heap) (P C : Addr) (rc : Array Nat) : Prop where
  obj : ∃ v0 v1 v3 v4, h.get? P = some { cls := .type "re.Pattern", data := .fields #[v0, v1, .int 0 0, v3, v4, .ref C, .int 0 0] }
  code : ∃ o items n, h.get? C = some o ∧ o.cls = .type "tuple" ∧ o.data = .seq items n ∧ (items.map Builtin.Re.reRawOf).map (·.toNat) = rc
theorem PatAt.up {h h' : Heap} {P C : Addr} {rc : Array Nat} (x : PatAt h P C rc) (u : Up h h') : PatAt h' P C rc :=
  ⟨let ⟨a, b, c, d, e⟩ := x.obj; ⟨a, b, c, d, u _ _ e⟩, let ⟨o, i, n, e, r⟩ := x.code; ⟨o, i, n, u _ _ e, r⟩⟩

section
variable {w : World} {A : Around} {E : Value → Shared → Prop} {s : Shared}
theorem re_target {P C : Addr} {rc : Array Nat} {x : Str} {t : Tok} {Q : Builtin.Re.ReTarget → Shared → Prop} (p : PatAt s.heap P C rc)
    (h : Q { pattern := .ref P, string := .str x t, code := rc, text := x.cps, kind := 0, groups := 0, pos := 0, lim := x.cps.size } s) : wpAny (model prg w) A (Builtin.Re.reWholeTarget (.ref P) (.str x t)) Q E s := by
  obtain ⟨v0, v1, v3, v4, ho⟩ := p.obj
  obtain ⟨o, items, n, hC, _, hd, hr⟩ := p.code
  unfold Builtin.Re.reWholeTarget
  refine wpAny_bind (wpAny_fieldsOf ho rfl ?_)
  refine wpAny_bind (wpAny_of_eq (show Builtin.Re.reTextOf (.str x t) = pure (x.cps, 0) from rfl) ?_)
  show wpAny _ _ (do Builtin.Re.reNoCollectionInside (.str x t) 0; let c ← Builtin.Re.reRawItems (.ref C); pure (_ : Builtin.Re.ReTarget)) _ _ s
  refine wpAny_bind (wpAny_of_eq (show Builtin.Re.reNoCollectionInside (.str x t) 0 = pure () from rfl) ?_)
  unfold Builtin.Re.reRawItems
  refine wpAny_bind (wpAny_bind (wpAny_seqItems hC hd (wpAny_pure ?_)))
  refine wpAny_pure ?_
  have e : ((Option.getD (some items) #[]).map Builtin.Re.reRawOf).map (fun x => x.toNat) = rc := hr
  rw [e]
  exact h

def subR (rep : Str) (nxt : Nat → Option (Nat × Nat)) (text : Array Nat) : Nat → Nat → List Str
  | 0, _ => []
  | fuel + 1, done => match nxt done with
    | some (a, b) => (if done < a then [⟨text.extract done a⟩] else []) ++ rep :: subR rep nxt text fuel b
    | Option.none => if done < text.size then [⟨text.extract done text.size⟩] else []
def Finds (rc : Array Nat) (text : Array Nat) (nxt : Nat → Option (Nat × Nat)) : Prop := ∀ start, start ≤ text.size → ∃ n m', n ≤ 2 ^ 60 ∧ Rch n (Sre.forSearch rc text 0 start text.size false) m' ∧
  match nxt start with
  | some (a, b) => m'.outcome = some .matched ∧ m'.start = a ∧ m'.handed = b ∧ start ≤ a ∧ a < b ∧ b ≤ text.size
  | Option.none => m'.outcome = some .failed

theorem push_seq {D : Addr} {vs : List Value} {cnt : Nat} {v : Value} {Q : Unit → Shared → Prop} (ho : s.heap.get? D = some (lstObj vs cnt)) (hsz : vs.length ≤ sizeLine) (h : ∀ h', Heap.SameBut D s.heap h' → h'.get? D = some (lstObj (vs ++ [v]) (cnt + 1)) → Q () { s with heap := h' }) : wpAny (model prg w) A (updateSeq D (·.push v)) Q E s := by
  have hz : vs.toArray.size ≤ sizeLine := by rw [List.size_toArray]; exact hsz
  have e : Obj.mapSeq (·.push v) (lstObj vs cnt) = lstObj (vs ++ [v]) (cnt + 1) := by
    show Obj.mapSeq (·.push v) { cls := .type "list", data := .seq vs.toArray cnt } = _
    rw [PyProof.Rows.mapSeq_push, lstObj_push]
  refine wpAny_updateSeq ho rfl (h _ (Heap.SameBut.update ..) ?_) hz (by show (vs.toArray.push v).size ≤ sizeLine + 1; rw [Array.size_push]; omega)
  rw [Heap.get?_update_self _ ho (by rw [e]; rfl), e]

def subTail (D : Addr) (text : Array Nat) : Sem Fin := Builtin.Re.reSlice text 0 0 0 >>= fun joiner => seqItems? (.ref D) >>= fun its => if (its.getD #[]).isEmpty = true then (pure joiner >>= fun text => ret text) else (call (.builtin "str.join") [joiner, .ref D] >>= fun text => ret text)
theorem sub_tail {D : Addr} {text : Array Nat} {ps : List (Str × Tok)} {cnt : Nat} {Q : Fin → Shared → Prop} (ho : s.heap.get? D = some (lstObj (strValues ps) cnt)) (hj : JoinOk "" (ps.map (·.1)) = true) (h : ∀ t' tk, Q (.done (.ret (.str (Txt.join "" (ps.map (·.1))) t'))) { s with toks := tk }) : wpAny (model prg w) A (subTail D text) Q E s := by
  unfold subTail
  have e0 : (⟨text.extract 0 0⟩ : Str) = "" := by
    have : text.extract 0 0 = #[] := by simp
    rw [this]; rfl
  refine wpAny_bind ?_
  show wpAny _ _ (mkStr ⟨text.extract 0 0⟩) _ _ s
  rw [e0]
  refine wpAny_mkStr (wpAny_bind (wpAny_seqItems ho rfl ?_)) (by show (0 : Nat) ≤ sizeLine; exact Nat.zero_le _)
  by_cases q : ((Option.getD (some (strValues ps).toArray) #[]).isEmpty) = true
  · rw [if_pos q]
    have : ps = [] := by
      cases ps with
      | nil => rfl
      | cons a b => simp [strValues] at q
    subst this
    exact wpAny_bind (wpAny_pure (wpAny_pure (h _ _)))
  · rw [if_neg q]
    exact wpAny_bind (PySem.SC.join ⟨_, ho, rfl, cnt, rfl⟩ rfl hj fun t' k => wpAny_pure (h t' k))
theorem strValues_snoc {ps : List (Str × Tok)} {y : Str} {k : Tok} : strValues ps ++ [.str y k] = strValues (ps ++ [(y, k)]) := by simp [strValues]

abbrev subArgs (P D : Addr) (x rep : Str) (t tr : Tok) (n done : Nat) : Args := ⟨[.ref P, .str x t, .str rep tr, rawInt 0, rawInt 0, rawInt n, rawInt done, rawInt done, .bool false, .ref D, .bool false], []⟩
theorem sub_loop {P C D : Addr} {rc : Array Nat} {x rep : Str} {t tr : Tok} {nxt : Nat → Option (Nat × Nat)} {R : Result → Shared → Prop} (hF : Finds rc x.cps nxt) : ∀ (fuel : Nat) {done n : Nat} {s : Shared} {ps : List (Str × Tok)} {cnt : Nat}, x.cps.size < done + fuel → done ≤ x.cps.size → PatAt s.heap P C rc → s.heap.get? D = some (lstObj (strValues ps) cnt) → 
    x.length ≤ sizeLine → ps.length + (subR rep nxt x.cps fuel done).length ≤ sizeLine → JoinOk "" (ps.map (·.1) ++ subR rep nxt x.cps fuel done) = true →
    (∀ h' tk t', (∀ b o, b ≠ D → s.heap.get? b = some o → h'.get? b = some o) → R (.ok (.ret (.str (Txt.join "" (ps.map (·.1) ++ subR rep nxt x.cps fuel done)) t'))) { s with heap := h', toks := tk }) →
    codeAny (model prg w) A (.builtin "re.Pattern.sub.loop" (subArgs P D x rep t tr n done)) R s
  | 0, done, n, s, ps, cnt, h1, h2, _, _, _, _, _, _ => absurd h1 (by omega)
  | fuel + 1, done, n, s, ps, cnt, h1, h2, hp, hD, hx, hsz, hj, hR => by
    refine codeAny_builtin re_entry_loop ?_
    rw [Around.under_plainId re_plain _]
    show wpAny _ _ (Builtin.Re.reWholeTarget (.ref P) (.str x t) >>= _) _ _ s
    refine wpAny_bind (re_target hp ?_)
    show wpAny _ _ (Builtin.Re.reLiteralCannotBeTurned (.str rep tr) >>= _) _ _ s
    refine wpAny_bind (wpAny_of_eq (show Builtin.Re.reLiteralCannotBeTurned (.str rep tr) = pure () from rfl) ?_)
    obtain ⟨n', m', hn, hr, hm⟩ := hF done h2
    show wpAny _ _ (Builtin.Re.reRunToEnd (Sre.forSearch rc x.cps 0 ((done : Int).toNat) x.cps.size false) >>= _) _ _ s
    rw [Int.toNat_natCast]
    cases e : nxt done with
    | none =>
      rw [e] at hm
      refine wpAny_bind (run_ok hr hn (.inr hm) ?_)
      rw [hm]
      show wpAny _ _ (if done < x.cps.size then (Builtin.Re.reSlice x.cps 0 done x.cps.size >>= fun v => updateSeq D (fun y => y.push v) >>= fun _ => subTail D x.cps) else subTail D x.cps) _ _ s
      have es : subR rep nxt x.cps (fuel + 1) done = if done < x.cps.size then [⟨x.cps.extract done x.cps.size⟩] else [] := by
        show (match nxt done with | some (a, b) => _ | Option.none => _) = _
        rw [e]
      rw [es] at hsz hj hR
      by_cases q : done < x.cps.size
      · rw [if_pos q]
        rw [if_pos q] at hsz hj hR
        refine wpAny_bind ?_
        show wpAny _ _ (mkStr ⟨x.cps.extract done x.cps.size⟩) _ _ s
        refine wpAny_mkStr (wpAny_bind (push_seq hD (by rw [strValues, List.length_map]; omega) fun h' hs' ho' => ?_)) ?_
        · rw [strValues_snoc] at ho'
          refine sub_tail ho' (by rw [List.map_append]; exact hj) fun t' tk => ?_
          rw [List.map_append]
          exact hR h' tk t' fun b o hb e => hs'.extBut b o hb e
        · show (x.cps.extract done x.cps.size).size ≤ sizeLine
          have : x.cps.size ≤ sizeLine := hx
          simp; omega
      · rw [if_neg q]
        rw [if_neg q, List.append_nil] at hj hR
        exact sub_tail hD hj fun t' tk => hR s.heap tk t' fun _ _ _ e => e
    | some ab => 
      obtain ⟨a, b⟩ := ab
      rw [e] at hm
      obtain ⟨hm1, hm2, hm3, hab1, hab2, hab3⟩ := hm
      refine wpAny_bind (run_ok hr hn (.inl hm1) ?_)
      rw [hm1]
      have es : subR rep nxt x.cps (fuel + 1) done = (if done < a then [⟨x.cps.extract done a⟩] else []) ++ rep :: subR rep nxt x.cps fuel b := by
        show (match nxt done with | some (a, b) => _ | Option.none => _) = _
        rw [e]
      rw [es] at hsz hj hR
      have em : (m'.handed == m'.start) = false := by rw [hm2, hm3]; simp; omega
      show wpAny _ _ (if done < m'.start then (Builtin.Re.reSlice x.cps 0 done m'.start >>= fun v => updateSeq D (fun y => y.push v) >>= fun _ => (updateSeq D (fun y => y.push (.str rep tr)) >>= fun _ => again (.builtin "re.Pattern.sub.loop" ⟨[.ref P, .str x t, .str rep tr, rawInt 0, rawInt 0, rawInt ((n : Int) + 1), rawInt m'.handed, rawInt m'.handed, .bool (m'.handed == m'.start), .ref D, .bool false], []⟩)))
        else (updateSeq D (fun y => y.push (.str rep tr)) >>= fun _ => again (.builtin "re.Pattern.sub.loop" ⟨[.ref P, .str x t, .str rep tr, rawInt 0, rawInt 0, rawInt ((n : Int) + 1), rawInt m'.handed, rawInt m'.handed, .bool (m'.handed == m'.start), .ref D, .bool false], []⟩))) _ _ s
      rw [em, hm2, hm3]
      have pn : ∀ {h : Heap} {v : List Value} {c : Nat}, PatAt h P C rc → h.get? D = some (lstObj v c) → ∀ h', Heap.SameBut D h h' → PatAt h' P C rc := fun {h v c} p hd h' hs' => by
        refine ⟨let ⟨v0, v1, v3, v4, e⟩ := p.obj; ⟨v0, v1, v3, v4, hs'.extBut _ _ (fun q => by
          rw [q, hd] at e
          have := congrArg Obj.cls (Option.some.inj e)
          simp at this) e⟩, ?_⟩
        obtain ⟨o, items, c, e, hcl, r⟩ := p.code
        refine ⟨o, items, c, hs'.extBut _ _ (fun q => ?_) e, hcl, r⟩
        rw [q, hd] at e
        have := congrArg Obj.cls (Option.some.inj e)
        rw [hcl] at this
        simp at this
      have step : ∀ {s : Shared} {ps : List (Str × Tok)} {cnt : Nat}, PatAt s.heap P C rc → s.heap.get? D = some (lstObj (strValues ps) cnt) → ps.length + (rep :: subR rep nxt x.cps fuel b).length ≤ sizeLine → JoinOk "" (ps.map (·.1) ++ rep :: subR rep nxt x.cps fuel b) = true →
          (∀ h' tk t', (∀ b o, b ≠ D → s.heap.get? b = some o → h'.get? b = some o) → R (.ok (.ret (.str (Txt.join "" (ps.map (·.1) ++ rep :: subR rep nxt x.cps fuel b)) t'))) { s with heap := h', toks := tk }) →
          wpAny (model prg w) A.in1 (updateSeq D (fun y => y.push (.str rep tr)) >>= fun _ => again (.builtin "re.Pattern.sub.loop" (subArgs P D x rep t tr (n + 1) b))) (fun fin s' => match fin with | .done f => R (.ok f) s' | .again c' => c'.quiet = true ∧ codeAny (model prg w) A c' R s') (fun e s' => R (.error e) s') s := fun {s ps cnt} hp hD hsz hj hR => by
        rw [List.length_cons] at hsz
        refine wpAny_bind (push_seq hD (by rw [strValues, List.length_map]; omega) fun h' hs' ho' => wpAny_pure ⟨plainId_quiet re_plain _, ?_⟩)
        rw [strValues_snoc] at ho'
        have ee : ps.map (·.1) ++ rep :: subR rep nxt x.cps fuel b = (ps ++ [(rep, tr)]).map (·.1) ++ subR rep nxt x.cps fuel b := by simp
        rw [ee] at hj hR
        exact sub_loop hF fuel (by omega) hab3 (pn hp hD h' hs') ho' hx (by rw [List.length_append, List.length_singleton]; omega) hj fun h'' tk t' hk => hR h'' tk t' fun b o hb e => hk b o hb (hs'.extBut b o hb e)
      by_cases q : done < a
      · rw [if_pos q]
        rw [if_pos q] at hsz hj hR
        refine wpAny_bind ?_
        show wpAny _ _ (mkStr ⟨x.cps.extract done a⟩) _ _ s
        refine wpAny_mkStr (wpAny_bind (push_seq hD (by rw [strValues, List.length_map]; omega) fun h' hs' ho' => ?_)) ?_
        · rw [strValues_snoc] at ho'
          have ee : ps.map (·.1) ++ ([⟨x.cps.extract done a⟩] ++ rep :: subR rep nxt x.cps fuel b) = (ps ++ [((⟨x.cps.extract done a⟩ : Str), s.toks)]).map (fun p => p.1) ++ rep :: subR rep nxt x.cps fuel b := by simp
          rw [ee] at hj hR
          refine step (s := { s with toks := s.toks + 1, heap := h' }) (pn hp hD h' hs') ho' (by rw [List.length_append, List.length_singleton]; rw [List.length_append, List.length_singleton] at hsz; omega) hj fun h'' tk t' hk => hR h'' tk t' fun b o hb e => hk b o hb (hs'.extBut b o hb e)
        · show (x.cps.extract done a).size ≤ sizeLine
          have : x.cps.size ≤ sizeLine := hx
          simp; omega
      · rw [if_neg q]
        rw [if_neg q, List.nil_append] at hsz hj hR
        exact step hp hD hsz hj hR
end
end Mine

namespace Mine
open PySem PySem.W PySem.Builtin PySem.Builtin.Str

theorem no_call : typeLookup (.type "str") "__call__" = pure Option.none := by rw [typeLookup_type, builtinLookup_eq_fast]; kernel_rfl
theorem re_named (a b : Value) : Builtin.Re.reNamed "re.Pattern.sub" "sub" ["repl", "string", "count"] 2 [a, b] [] = pure [some a, some b, Option.none] := by rfl

section
variable {w : World} {A : Around} {E : Value → Shared → Prop} {s : Shared}
theorem re_sub {P C : Addr} {rc : Array Nat} {x rep : Str} {t tr : Tok} {nxt : Nat → Option (Nat × Nat)} {Q : Value → Shared → Prop} (hp : PatAt s.heap P C rc) (hF : Finds rc x.cps nxt) (hrep : rep.cps.contains 92 = false) (hx : x.length ≤ sizeLine) (hsz : (subR rep nxt x.cps (x.cps.size + 1) 0).length ≤ sizeLine) (hj : JoinOk "" (subR rep nxt x.cps (x.cps.size + 1) 0) = true)
    (h : ∀ h' tk t', Up s.heap h' → Q (.str (Txt.join "" (subR rep nxt x.cps (x.cps.size + 1) 0)) t') { s with heap := h', toks := tk }) : wpAny (model prg w) A (call (.builtin "re.Pattern.sub") [.ref P, .str rep tr, .str x t]) Q E s := by
  obtain ⟨v0, v1, v3, v4, ho⟩ := hp.obj
  refine wpAny_call (codeAny_call_builtin re_slot.plain re_entry (re_slot.check _ _ _ _ _ _ _ _ ⟨_, ho, rfl⟩ (re_args _ _ _) ?_))
  unfold Builtin.«re.Pattern.sub» Builtin.Re.reSubstitute
  show wpAny _ _ (Builtin.Re.reNamed "re.Pattern.sub" "sub" ["repl", "string", "count"] 2 [.str rep tr, .str x t] [] >>= _) _ _ s
  refine wpAny_bind (wpAny_of_eq (re_named _ _) ?_)
  refine wpAny_bind (wpAny_pure ?_)
  refine wpAny_bind (wpAny_specialOf (typeIs_str _ _ _) no_call ?_)
  show wpAny _ _ (asStr? (.str rep tr) >>= _) _ _ s
  refine wpAny_bind (wpAny_of_eq (show asStr? (.str rep tr) = pure (some rep) from rfl) (wpAny_bind (wpAny_pure ?_)))
  rw [hrep]
  refine wpAny_bind (m := (pure (Value.str rep tr, (0 : Int)) : Sem (Value × Int))) (wpAny_pure ?_)
  show wpAny _ _ (holding [.str rep tr] (Builtin.Re.reWholeTarget (.ref P) (.str x t)) >>= _) _ _ s
  refine wpAny_bind (wpAny_holding (re_target hp ?_))
  show wpAny _ _ (newList [] >>= fun l => again (.builtin "re.Pattern.sub.loop" ⟨[.ref P, .str x t, .str rep tr, rawInt 0, rawInt 0, rawInt 0, rawInt 0, rawInt 0, .bool false, l, .bool false], []⟩)) _ _ s
  refine wpAny_bind (wpAny_newList (wpAny_pure ⟨plainId_quiet re_plain _, ?_⟩) (Nat.zero_le _))
  have u : Up s.heap (s.heap.push { cls := .type "list", data := .seq ([] : List Value).toArray }) := fun _ _ e => Heap.get?_push_of_some _ e
  refine sub_loop (ps := []) (cnt := 0) (done := 0) (n := 0) hF (x.cps.size + 1) (by omega) (Nat.zero_le _) (hp.up u) (Heap.get?_push_size _ rfl) hx (by simpa using hsz) (by simpa using hj) fun h' tk t' hk => ?_
  exact h h' tk t' fun b o e => hk b o (Nat.ne_of_lt (Heap.lt_size e)) (u _ _ e)
end
end Mine

namespace Mine
open PySem PySem.W PySem.Builtin PySem.Builtin.Str

def crlf : List Nat → List Nat
  | [] => []
  | [c] => if isNl c = true then [13, 10] else [c]
  | c :: d :: r => if c = 13 ∧ d = 10 then 13 :: 10 :: crlf r else (if isNl c = true then [13, 10] else [c]) ++ crlf (d :: r)
theorem crlf_cons {c : Nat} {r : List Nat} (h : ¬ (c = 13 ∧ ∃ r', r = 10 :: r')) : crlf (c :: r) = (if isNl c = true then [13, 10] else [c]) ++ crlf r := by
  cases r with
  | nil => simp [crlf]
  | cons d r =>
    show (if c = 13 ∧ d = 10 then _ else _) = _
    rw [if_neg fun e => h ⟨e.1, r, by rw [e.2]⟩]
theorem crlf_skip : ∀ (l : List Nat) {r : List Nat}, (∀ c ∈ l, isNl c = false) → crlf (l ++ r) = l ++ crlf r
  | [], _, _ => rfl
  | c :: l, r, h => by
    have hc := h c List.mem_cons_self
    rw [List.cons_append, crlf_cons (fun e => by rw [e.1] at hc; cases hc), hc, crlf_skip l fun d hd => h d (List.mem_cons_of_mem _ hd)]
    rfl
def dotq : Bool → List Nat → List Nat
  | _, [] => []
  | b, c :: r => (if (b && c == 46) = true then [46, 46] else [c]) ++ dotq (c == 10) r

theorem join_flat : ∀ (ps : List Str), (Txt.join "" ps).cps.toList = (ps.map (·.cps.toList)).flatten := by
  intro ps
  show (Builtin.Str.glued "" ps).cps.toList = _
  rw [StrLaws.glued_eq_join]
  induction ps with
  | nil => rfl
  | cons x r ih =>
    cases r with
    | nil => show x.cps.toList = _; simp
    | cons y r =>
      have e : Str.join "" (x :: y :: r) = x ++ ("" : Str) ++ Str.join "" (y :: r) := rfl
      rw [e]
      show ((x.cps ++ ("" : Str).cps) ++ (Str.join "" (y :: r)).cps).toList = _
      rw [Array.toList_append, Array.toList_append, ih]
      simp [show ("" : Str).cps = #[] from rfl]
def nxt2 (text : Array Nat) (start : Nat) : Option (Nat × Nat) := (find2 text (text.size + 1 - start) start).map fun e => (e, end2 text e)
def nxt1 (text : Array Nat) (start : Nat) : Option (Nat × Nat) := (find1 text (text.size - start) start).map fun e => (e, e + 1)

theorem drop_split {l : List Nat} {a b : Nat} (h : a ≤ b) : l.drop a = (l.drop a).take (b - a) ++ l.drop b := by
  have := List.take_append_drop (b - a) (l.drop a)
  rw [List.drop_drop, show a + (b - a) = b by omega] at this
  exact this.symm
theorem ext_toList {text : Array Nat} {a b : Nat} : (⟨text.extract a b⟩ : Str).cps.toList = (text.toList.drop a).take (b - a) := by
  simp [List.extract_eq_take_drop]
theorem mem_cut {text : Array Nat} {a b c : Nat} (h : c ∈ (text.toList.drop a).take (b - a)) : ∃ i, a ≤ i ∧ i < b ∧ i < text.size ∧ text.getD i 0 = c := by
  obtain ⟨j, hj, e⟩ := List.getElem_of_mem h
  rw [List.length_take, List.length_drop, Array.length_toList] at hj
  refine ⟨a + j, by omega, by omega, by omega, ?_⟩
  rw [List.getElem_take, List.getElem_drop] at e
  have hlt : a + j < text.size := by omega
  rw [show text.getD (a + j) 0 = text[a + j] from by simp [Array.getD, hlt]]
  simpa using e
theorem getD_toList {text : Array Nat} {i : Nat} (h : i < text.size) : text.toList.drop i = text.getD i 0 :: text.toList.drop (i + 1) := by
  have h' : i < text.toList.length := by simpa using h
  rw [List.drop_eq_getElem_cons h']
  congr 1
  simp [Array.getD, h]

theorem sub2_is {text : Array Nat} : ∀ (fuel done : Nat), text.size < done + fuel → done ≤ text.size → ((subR "\r\n" (nxt2 text) text fuel done).map (·.cps.toList)).flatten = crlf (text.toList.drop done)
  | 0, done, h, h' => absurd h (by omega)
  | fuel + 1, done, h, h' => by
    unfold subR
    unfold nxt2
    cases e : find2 text (text.size + 1 - done) done with
    | none =>
      have hno := find2_none e (by omega)
      have hall : ∀ c ∈ text.toList.drop done, isNl c = false := fun c hc => by
        have hc' : c ∈ (text.toList.drop done).take (text.size - done) := by
          rw [List.take_of_length_le (by simp)]; exact hc
        obtain ⟨i, h1, h2, h3, h4⟩ := mem_cut hc'
        rw [← h4]; exact hno i h1 h3
      have e2 : crlf (text.toList.drop done) = text.toList.drop done := by
        have := crlf_skip (text.toList.drop done) (r := []) hall
        rw [List.append_nil] at this
        rw [this]; simp [crlf]
      rw [e2]
      show (List.map _ (if done < text.size then [(⟨text.extract done text.size⟩ : Str)] else [])).flatten = _
      by_cases q : done < text.size
      · rw [if_pos q, List.map_singleton, List.flatten_singleton, ext_toList, List.take_of_length_le (by simp)]
      · rw [if_neg q]
        rw [List.drop_of_length_le (by simp; omega)]; rfl
    | some a =>
      obtain ⟨h1, h2, h3, h4⟩ := find2_lt e
      show (List.map _ ((if done < a then [(⟨text.extract done a⟩ : Str)] else []) ++ ("\r\n" : Str) :: subR "\r\n" (nxt2 text) text fuel (end2 text a))).flatten = _
      have hend : a < end2 text a ∧ end2 text a ≤ text.size := by
        unfold end2
        by_cases q : text.getD a 0 = 13 ∧ a + 1 < text.size ∧ text.getD (a + 1) 0 = 10
        · rw [if_pos q]; omega
        · rw [if_neg q]; omega
      have ih := sub2_is fuel (end2 text a) (by omega) hend.2
      rw [List.map_append, List.flatten_append, List.map_cons, List.flatten_cons, ih]
      have e1 : (List.map (fun x : Str => x.cps.toList) (if done < a then [(⟨text.extract done a⟩ : Str)] else [])).flatten = (text.toList.drop done).take (a - done) := by
        by_cases q : done < a
        · rw [if_pos q, List.map_singleton, List.flatten_singleton, ext_toList]
        · rw [if_neg q, show a - done = 0 by omega, List.take_zero]; rfl
      rw [e1, drop_split h1 (l := text.toList), crlf_skip _ (fun c hc => by
        obtain ⟨i, i1, i2, i3, i4⟩ := mem_cut hc
        rw [← i4]; exact h4 i i1 i2)]
      rw [← drop_split h1 (l := text.toList)]
      congr 1
      rw [getD_toList h2]
      show [13, 10] ++ crlf (text.toList.drop (end2 text a)) = _
      unfold end2
      by_cases q : text.getD a 0 = 13 ∧ a + 1 < text.size ∧ text.getD (a + 1) 0 = 10
      · rw [if_pos q, getD_toList q.2.1, q.1, q.2.2]
        rfl
      · rw [if_neg q, crlf_cons (fun x => q ⟨x.1, ?_⟩), h3]
        · rfl
        · obtain ⟨_, r', hr⟩ := x
          have hlt : a + 1 < text.size := by
            rcases Nat.lt_or_ge (a + 1) text.size with z | z
            · exact z
            · rw [List.drop_of_length_le (by simp; omega)] at hr; cases hr
          rw [getD_toList hlt] at hr
          exact ⟨hlt, (List.cons.inj hr).1⟩

def bol (text : Array Nat) (d : Nat) : Bool := d == 0 || text.getD (d - 1) 0 == 10
theorem find1_lt {text : Array Nat} : ∀ {fuel s e : Nat}, find1 text fuel s = some e → s ≤ e ∧ hit1 text e = true ∧ ∀ i, s ≤ i → i < e → hit1 text i = false
  | 0, s, e, h => by
    unfold find1 at h
    by_cases z : hit1 text s = true
    · rw [if_pos z] at h
      cases h
      exact ⟨Nat.le_refl _, z, fun i h1 h2 => absurd h2 (Nat.not_lt.mpr h1)⟩
    · rw [if_neg z] at h; cases h
  | fuel + 1, s, e, h => by
    unfold find1 at h
    by_cases z : hit1 text s = true
    · rw [if_pos z] at h
      cases h
      exact ⟨Nat.le_refl _, z, fun i h1 h2 => absurd h2 (Nat.not_lt.mpr h1)⟩
    · rw [if_neg z] at h
      obtain ⟨a, b, d⟩ := find1_lt h
      refine ⟨by omega, b, fun i h1 h2 => ?_⟩
      rcases Nat.eq_or_lt_of_le h1 with rfl | h1
      · exact Bool.eq_false_iff.mpr z
      · exact d i h1 h2
theorem find1_none {text : Array Nat} : ∀ {fuel s : Nat}, find1 text fuel s = Option.none → ∀ i, s ≤ i → i ≤ s + fuel → hit1 text i = false
  | 0, s, h, i, h1, h2 => by
    unfold find1 at h
    by_cases z : hit1 text s = true
    · rw [if_pos z] at h; cases h
    · have : i = s := by omega
      subst this; exact Bool.eq_false_iff.mpr z
  | fuel + 1, s, h, i, h1, h2 => by
    unfold find1 at h
    by_cases z : hit1 text s = true
    · rw [if_pos z] at h; cases h
    · rw [if_neg z] at h
      rcases Nat.eq_or_lt_of_le h1 with rfl | h1
      · exact Bool.eq_false_iff.mpr z
      · exact find1_none h i h1 (by omega)
theorem hit1_lt {text : Array Nat} {e : Nat} (h : hit1 text e = true) : e < text.size ∧ bol text e = true ∧ text.getD e 0 = 46 := by
  unfold hit1 at h
  rw [Bool.and_eq_true, Bool.and_eq_true] at h
  exact ⟨of_decide_eq_true h.2.1, h.1, by simpa using h.2.2⟩
theorem bol_next {text : Array Nat} {d : Nat} : bol text (d + 1) = (text.getD d 0 == 10) := by unfold bol; simp
theorem dotq_skip {text : Array Nat} : ∀ (m : Nat) {d : Nat}, d + m ≤ text.size → (∀ i, d ≤ i → i < d + m → hit1 text i = false) → dotq (bol text d) (text.toList.drop d) = (text.toList.drop d).take m ++ dotq (bol text (d + m)) (text.toList.drop (d + m))
  | 0, d, _, _ => by simp
  | m + 1, d, h, hn => by
    have hlt : d < text.size := by omega
    rw [getD_toList hlt]
    have h0 := hn d (Nat.le_refl _) (by omega)
    have hb : (bol text d && text.getD d 0 == 46) = false := by
      unfold hit1 at h0
      rw [decide_eq_true hlt, Bool.true_and] at h0
      exact h0
    show (if (bol text d && text.getD d 0 == 46) = true then [46, 46] else [text.getD d 0]) ++ dotq (text.getD d 0 == 10) (text.toList.drop (d + 1)) = _
    rw [hb, if_neg Bool.false_ne_true, ← bol_next, dotq_skip m (by omega) (fun i h1 h2 => hn i (by omega) (by omega)), List.take_succ_cons, show d + 1 + m = d + (m + 1) by omega]
    rfl
theorem sub1_is {text : Array Nat} : ∀ (fuel done : Nat), text.size < done + fuel → done ≤ text.size → ((subR ".." (nxt1 text) text fuel done).map (·.cps.toList)).flatten = dotq (bol text done) (text.toList.drop done)
  | 0, done, h, h' => absurd h (by omega)
  | fuel + 1, done, h, h' => by
    unfold subR
    unfold nxt1
    cases e : find1 text (text.size - done) done with
    | none =>
      have hno := find1_none e
      have hs := dotq_skip (text := text) (text.size - done) (d := done) (by omega) fun i h1 h2 => hno i h1 (by omega)
      rw [hs, show done + (text.size - done) = text.size by omega, List.drop_of_length_le (i := text.size) (by simp)]
      show (List.map _ (if done < text.size then [(⟨text.extract done text.size⟩ : Str)] else [])).flatten = _ ++ dotq _ []
      rw [show dotq (bol text text.size) [] = [] by unfold dotq; rfl, List.append_nil]
      by_cases q : done < text.size
      · rw [if_pos q, List.map_singleton, List.flatten_singleton, ext_toList]
      · rw [if_neg q, show text.size - done = 0 by omega, List.take_zero]; rfl
    | some a =>
      obtain ⟨h1, h2, h3⟩ := find1_lt e
      obtain ⟨b1, b2, b3⟩ := hit1_lt h2
      show (List.map _ ((if done < a then [(⟨text.extract done a⟩ : Str)] else []) ++ (".." : Str) :: subR ".." (nxt1 text) text fuel (a + 1))).flatten = _
      have ih := sub1_is (text := text) fuel (a + 1) (by omega) (by omega)
      rw [List.map_append, List.flatten_append, List.map_cons, List.flatten_cons, ih]
      have e1 : (List.map (fun x : Str => x.cps.toList) (if done < a then [(⟨text.extract done a⟩ : Str)] else [])).flatten = (text.toList.drop done).take (a - done) := by
        by_cases q : done < a
        · rw [if_pos q, List.map_singleton, List.flatten_singleton, ext_toList]
        · rw [if_neg q, show a - done = 0 by omega, List.take_zero]; rfl
      rw [e1, dotq_skip (text := text) (a - done) (d := done) (by omega) fun i i1 i2 => h3 i i1 (by omega)]
      rw [show done + (a - done) = a by omega, getD_toList b1]
      congr 1
      show [46, 46] ++ dotq (bol text (a + 1)) (text.toList.drop (a + 1)) = (if (bol text a && text.getD a 0 == 46) = true then [46, 46] else _) ++ dotq (text.getD a 0 == 10) _
      rw [b2, b3, bol_next, b3]
      rfl
end Mine

namespace Mine
open PySem PySem.W PySem.Builtin PySem.Builtin.Str

theorem str_ext {x y : Str} (h : x.cps.toList = y.cps.toList) : x = y := by
  cases x; cases y
  simp only [Str.mk.injEq]
  exact Array.toList_inj.mp h
theorem flat_len : ∀ (ps : List Str), ((ps.map (·.cps.toList)).flatten).length = (ps.map (·.length)).sum
  | [] => rfl
  | p :: ps => by
    rw [List.map_cons, List.flatten_cons, List.length_append, flat_len ps, List.map_cons, List.sum_cons]
    rfl
theorem len_le_sum : ∀ (ps : List Str), (∀ y ∈ ps, 1 ≤ y.length) → ps.length ≤ (ps.map (·.length)).sum
  | [], _ => Nat.le_refl _
  | p :: ps, h => by
    have h1 := h p List.mem_cons_self
    have h2 := len_le_sum ps fun y hy => h y (List.mem_cons_of_mem _ hy)
    rw [List.length_cons, List.map_cons, List.sum_cons]; omega
theorem parts_ok {ps : List Str} (h : ∀ y ∈ ps, 1 ≤ y.length) (hl : ((ps.map (·.cps.toList)).flatten).length ≤ sizeLine) : ps.length ≤ sizeLine ∧ JoinOk "" ps = true := by
  rw [flat_len] at hl
  refine ⟨Nat.le_trans (len_le_sum ps h) hl, ?_⟩
  unfold JoinOk tooLong
  have e : ps.toArray.foldl (fun a p => a + p.length + ("" : Str).length) 0 = (ps.map (·.length)).sum + ps.length * ("" : Str).length := StrLaws.joinTotal "" ps
  rw [e, show ("" : Str).length = 0 from rfl, Nat.mul_zero, Nat.add_zero]
  simp; exact hl
theorem subR_ne {rep : Str} {nxt : Nat → Option (Nat × Nat)} {text : Array Nat} (hr : 1 ≤ rep.length) (hn : ∀ d a b, nxt d = some (a, b) → a < text.size) : ∀ (fuel d : Nat), ∀ y ∈ subR rep nxt text fuel d, 1 ≤ y.length
  | 0, d, y, h => by cases h
  | fuel + 1, d, y, h => by
    unfold subR at h
    cases e : nxt d with
    | none =>
      rw [e] at h
      have h : y ∈ (if d < text.size then [(⟨text.extract d text.size⟩ : Str)] else []) := h
      by_cases q : d < text.size
      · rw [if_pos q] at h
        rw [List.mem_singleton.mp h]
        show 1 ≤ (text.extract d text.size).size
        simp; omega
      · rw [if_neg q] at h; cases h
    | some ab =>
      obtain ⟨a, b⟩ := ab
      rw [e] at h
      have h : y ∈ (if d < a then [(⟨text.extract d a⟩ : Str)] else []) ++ rep :: subR rep nxt text fuel b := h
      rcases List.mem_append.mp h with h | h
      · by_cases q : d < a
        · rw [if_pos q] at h
          rw [List.mem_singleton.mp h]
          have := hn d a b e
          show 1 ≤ (text.extract d a).size
          simp; omega
        · rw [if_neg q] at h; cases h
      · rcases List.mem_cons.mp h with rfl | h
        · exact hr
        · exact subR_ne hr hn fuel b y h

theorem finds1 {text : Array Nat} (hsz : text.size ≤ sizeLine) : Finds rc1 text (nxt1 text) := fun start hst => by
  obtain ⟨n, m', hn, hr, hm⟩ := search1' (text := text) hst
  refine ⟨n, m', ?_, hr, ?_⟩
  · rw [sizeLine_eq] at hsz; omega
  · unfold nxt1
    cases e : find1 text (text.size - start) start with
    | none => rw [e] at hm; exact hm
    | some a =>
      rw [e] at hm
      obtain ⟨h1, h2, _⟩ := find1_lt e
      obtain ⟨b1, _, _⟩ := hit1_lt h2
      exact ⟨hm.1, hm.2.1, hm.2.2, h1, Nat.lt_succ_self _, b1⟩
theorem finds2 {text : Array Nat} (hsz : text.size ≤ sizeLine) : Finds rc2 text (nxt2 text) := fun start hst => by
  obtain ⟨n, m', hn, hr, hm⟩ := search2 (text := text) hst
  refine ⟨n, m', by omega, hr, ?_⟩
  unfold nxt2
  cases e : find2 text (text.size + 1 - start) start with
  | none => rw [e] at hm; exact hm
  | some a =>
    rw [e] at hm
    obtain ⟨h1, h2, _, _⟩ := find2_lt e
    have hend : a < end2 text a ∧ end2 text a ≤ text.size := by
      unfold end2
      by_cases q : text.getD a 0 = 13 ∧ a + 1 < text.size ∧ text.getD (a + 1) 0 = 10
      · rw [if_pos q]; omega
      · rw [if_neg q]; omega
    exact ⟨hm.1, hm.2.1, hm.2.2, h1, hend.1, hend.2⟩
theorem pat1 {w : World} {h : Heap} (X : (K w).In h) : PatAt h 79 78 rc1 := ⟨⟨_, _, _, _, X 79 _ rfl⟩, ⟨_, _, _, X 78 _ rfl, rfl, rfl, by decide +kernel⟩⟩
theorem pat2 {w : World} {h : Heap} (X : (K w).In h) : PatAt h 84 83 rc2 := ⟨⟨_, _, _, _, X 84 _ rfl⟩, ⟨_, _, _, X 83 _ rfl, rfl, rfl, by decide +kernel⟩⟩

def crlfS (x : Str) : Str := ⟨(crlf x.cps.toList).toArray⟩
def dotS (x : Str) : Str := ⟨(dotq true x.cps.toList).toArray⟩
section
variable {w : World} {A : Around} {s : Shared}
theorem sub2_call {x : Str} {t tr : Tok} {F : List Addr} (X : (K w).In s.heap) (hx : x.length ≤ sizeLine) (hr : (crlfS x).length ≤ sizeLine) : Gives A w F (call (.builtin "re.Pattern.sub") [.ref 84, .str "\r\n" tr, .str x t]) (.str (crlfS x)) s := by
  have e0 := sub2_is (text := x.cps) (x.cps.size + 1) 0 (by omega) (Nat.zero_le _)
  rw [List.drop_zero] at e0
  have hl : (((subR "\r\n" (nxt2 x.cps) x.cps (x.cps.size + 1) 0).map (·.cps.toList)).flatten).length ≤ sizeLine := by
    rw [e0]
    have : (crlfS x).length = (crlf x.cps.toList).length := by show (crlf x.cps.toList).toArray.size = _; simp
    omega
  obtain ⟨h1, h2⟩ := parts_ok (subR_ne (rep := "\r\n") (nxt := nxt2 x.cps) (text := x.cps) (by decide) (fun d a b e => by
    unfold nxt2 at e
    cases e' : find2 x.cps (x.cps.size + 1 - d) d with
    | none => rw [e'] at e; cases e
    | some z => rw [e'] at e; cases e; exact (find2_lt e').2.1) _ _) hl
  refine re_sub (pat2 X) (finds2 hx) (by decide +kernel) hx h1 h2 fun h' tk t' u => ⟨Kp.both s u, t', ?_⟩
  congr 1
  refine str_ext ?_
  rw [join_flat, e0]
  show _ = (crlf x.cps.toList).toArray.toList
  simp
theorem sub1_call {x : Str} {t tr : Tok} {F : List Addr} (X : (K w).In s.heap) (hx : x.length ≤ sizeLine) (hr : (dotS x).length ≤ sizeLine) : Gives A w F (call (.builtin "re.Pattern.sub") [.ref 79, .str ".." tr, .str x t]) (.str (dotS x)) s := by
  have e0 := sub1_is (text := x.cps) (x.cps.size + 1) 0 (by omega) (Nat.zero_le _)
  rw [List.drop_zero, show bol x.cps 0 = true from rfl] at e0
  have hl : (((subR ".." (nxt1 x.cps) x.cps (x.cps.size + 1) 0).map (·.cps.toList)).flatten).length ≤ sizeLine := by
    rw [e0]
    have : (dotS x).length = (dotq true x.cps.toList).length := by show (dotq true x.cps.toList).toArray.size = _; simp
    omega
  obtain ⟨h1, h2⟩ := parts_ok (subR_ne (rep := "..") (nxt := nxt1 x.cps) (text := x.cps) (by decide) (fun d a b e => by
    unfold nxt1 at e
    cases e' : find1 x.cps (x.cps.size - d) d with
    | none => rw [e'] at e; cases e
    | some z => rw [e'] at e; cases e; exact (hit1_lt (find1_lt e').2.1).1) _ _) hl
  refine re_sub (pat1 X) (finds1 hx) (by decide +kernel) hx h1 h2 fun h' tk t' u => ⟨Kp.both s u, t', ?_⟩
  congr 1
  refine str_ext ?_
  rw [join_flat, e0]
  show _ = (dotq true x.cps.toList).toArray.toList
  simp
end
end Mine

namespace Mine
open PySem PySem.W PySem.Builtin PySem.Builtin.Str

section
variable {k : Nat} {sc : Scope} {ρ : Vars}
theorem Ev.reSub {x : Str} {xp ap pos : Pos} {e1 e2 : PySem.Expr} {P : Addr} {rep y z : Str} (G : GlobIs x (.ref P)) (hx : sc.names.lookup x = some .globalImplicit) (hd : (x == ("__debug__" : Str)) = false) (hb : ∀ env, attributeBase (.Name x xp) "sub" env (eval (.Name x xp) env) = eval (.Name x xp) env)
    (hline : (ap.endLine == pos.line) = true) (hpl : Plain [e1, e2]) (h1 : Ev k sc ρ e1 (.str rep)) (h2 : Ev k sc ρ e2 (.str y)) (hobj : ∀ {w : World} {h : Heap}, (K w).In h → ∃ o, h.get? P = some o ∧ o.cls = .type "re.Pattern" ∧ o.dict = Option.none)
    (hcall : ∀ {w : World} {A : Around} {s : Shared} {F : List Addr} {t tr : Tok}, (K w).In s.heap → Gives A w F (PySem.call (.builtin "re.Pattern.sub") [.ref P, .str rep tr, .str y t]) (.str z) s) :
    Ev k sc ρ (.Call (.Attribute (.Name x xp) "sub" ap) [e1, e2] [] pos) (.str z) := fun {w A env h₀ F₀ own s} R E S => by
  refine wpAny_Call_method_late (hb env) (by rw [hpl]; rfl) hline (hpl env pos) (G.load E hx hd S.here ?_)
  obtain ⟨o, ho, hc, hdict⟩ := hobj S.here.1
  refine ⟨"re.Pattern", "re.Pattern.sub", re_attrs, re_slot, re_type, ⟨o, ho, hc⟩, fun a e => by cases e; exact ⟨o, ho, hdict⟩, ?_⟩
  refine (EvL.cons h1 (.cons h2 .nil)).call R E S (.inl ⟨_, rfl⟩) fun vs s₁ k₁ r => ?_
  obtain ⟨v1, r1, rfl, ⟨t1, rfl⟩, v2, r2, rfl, ⟨t2, rfl⟩, e⟩ := r
  rw [show r2 = [] from e]
  exact (hcall (S.up k₁.up).here.1).bind fun v s₂ k₂ rv => ⟨k₁.trans k₂, rv⟩
end

def quoteS (x : Str) : Str := dotS (crlfS x)
theorem quotedata_call {k : Nat} {x : Str} (hx : x.length ≤ sizeLine) (h1 : (crlfS x).length ≤ sizeLine) (h2 : (quoteS x).length ≤ sizeLine) : OpN (k + 1) [.str x] (fun vs => PySem.call (.ref 91) vs) (.str (quoteS x)) := by
  refine OpN.of_call fun {w A F s vs} R B L r => ?_
  refine Call.intro (fun w => ⟨_, rfl, rfl⟩) rfl (sc := ⟨_, _, _, _, _⟩) rfl rfl rfl rfl rfl rfl rfl (fun w => rfl) (names := ["data"]) (ps := [.str x]) ?_ rfl (by decide +kernel) ?_ (by decide +kernel) rfl ?_ R B L r
  · intro vs h
    match vs, h with
    | [u], _ => rfl
  · intro z hz
    rw [List.mem_singleton.mp hz]
    exact .inl rfl
  · refine Ex.ret (Ex1.retE ?_ rfl)
    refine Ev.reSub (P := 79) (.inl fun w => rfl) rfl (by decide +kernel) (fun _ => rfl) (by decide +kernel) (fun _ _ => rfl) Ev.str ?_ (fun X => ⟨_, X 79 _ rfl, rfl, rfl⟩) (fun X => sub1_call X h1 h2)
    refine Ev.reSub (P := 84) (.inl fun w => rfl) rfl (by decide +kernel) (fun _ => rfl) (by decide +kernel) (fun _ _ => rfl) (Ev.glob (p := .str "\r\n") (.inl fun w => rfl) rfl (by decide +kernel) (fun w h F => ⟨_, rfl⟩)) (Ev.name rfl (by decide +kernel)) (fun X => ⟨_, X 84 _ rfl, rfl, rfl⟩) (fun X => sub2_call X hx h1)
end Mine

namespace Mine
open PySem PySem.W PySem.Builtin PySem.Builtin.Str

def collI (x y : Str) : Int := PyProof.Rows.b2i (decide (y.cps.toList < x.cps.toList)) - PyProof.Rows.b2i (decide (x.cps.toList < y.cps.toList))
theorem strcoll_call {k : Nat} {x y : Str} : OpN (k + 1) [.str x, .str y] (fun vs => PySem.call (.ref 67) vs) (.int (collI x y)) := by
  refine OpN.of_call fun {w A F s vs} R B L r => ?_
  refine Call.intro (fun w => ⟨_, rfl, rfl⟩) rfl (sc := ⟨_, _, _, _, _⟩) rfl rfl rfl rfl rfl rfl rfl (fun w => rfl) (names := ["a", "b"]) (ps := [.str x, .str y]) ?_ rfl (by decide +kernel) ?_ (by decide +kernel) rfl ?_ R B L r
  · intro vs h
    match vs, h with
    | [u, v], _ => rfl
  · intro z hz
    simp only [List.mem_cons, List.not_mem_nil, or_false] at hz
    rcases hz with rfl | rfl
    · exact .inl rfl
    · exact .inl (by decide +kernel)
  · refine Ex.ret (Ex1.retE ?_ rfl)
    refine Ev.bin (q := .bool _) (p := .bool _) ?_ ?_ Op2.subB
    · exact Ev.cmp (Ev.name rfl (by decide +kernel)) (Ev.name rfl (by decide +kernel)) Op2.gtS rfl
    · exact Ev.cmp (Ev.name rfl (by decide +kernel)) (Ev.name rfl (by decide +kernel)) Op2.ltS rfl

-- COMPILER_FLAG_NAMES
def flagNames : List (Int × String) := [(1, "OPTIMIZED"), (2, "NEWLOCALS"), (4, "VARARGS"), (8, "VARKEYWORDS"), (16, "NESTED"), (32, "GENERATOR"), (64, "NOFREE"), (128, "COROUTINE"), (256, "ITERABLE_COROUTINE"), (512, "ASYNC_GENERATOR")]
def flagGet (i : Int) (d : Str) : Str := ((flagNames.find? fun p => p.1 == i).map fun p => Str.ofString p.2).getD d
inductive NamesAre : List (Int × Value) → List (Int × String) → Prop
  | nil : NamesAre [] []
  | cons {i : Int} {n : String} {t : Tok} {vs ns} : NamesAre vs ns → NamesAre ((i, .str (Str.ofString n) t) :: vs) ((i, n) :: ns)
theorem flags_obj (w : World) : ∃ (o : Obj) (vs : List (Int × Value)), (K w).lookup 53 = some o ∧ o.IsDictOf (intKind prg w) vs ∧ NamesAre vs flagNames := by
  refine ⟨_, [(1, .str "OPTIMIZED" 319), (2, .str "NEWLOCALS" 321), (4, .str "VARARGS" 323), (8, .str "VARKEYWORDS" 325), (16, .str "NESTED" 327), (32, .str "GENERATOR" 329), (64, .str "NOFREE" 331), (128, .str "COROUTINE" 333), (256, .str "ITERABLE_COROUTINE" 335), (512, .str "ASYNC_GENERATOR" 337)], rfl, ⟨_, _, ⟨rfl, rfl, rfl⟩, rfl, ?_, ?_, ?_⟩, ?_⟩
  · intro e he
    simp only [List.mem_toArray, List.mem_cons, List.not_mem_nil, or_false] at he
    rcases he with rfl | rfl | rfl | rfl | rfl | rfl | rfl | rfl | rfl | rfl
    · exact ⟨1, rfl, rfl⟩
    · exact ⟨2, rfl, rfl⟩
    · exact ⟨4, rfl, rfl⟩
    · exact ⟨8, rfl, rfl⟩
    · exact ⟨16, rfl, rfl⟩
    · exact ⟨32, rfl, rfl⟩
    · exact ⟨64, rfl, rfl⟩
    · exact ⟨128, rfl, rfl⟩
    · exact ⟨256, rfl, rfl⟩
    · exact ⟨512, rfl, rfl⟩
  · exact .cons rfl rfl (.cons rfl rfl (.cons rfl rfl (.cons rfl rfl (.cons rfl rfl (.cons rfl rfl (.cons rfl rfl (.cons rfl rfl (.cons rfl rfl (.cons rfl rfl .nil)))))))))
  · decide
  · exact .cons (.cons (.cons (.cons (.cons (.cons (.cons (.cons (.cons (.cons .nil)))))))))
theorem names_at {i : Int} : ∀ {vs : List (Int × Value)} {ns : List (Int × String)}, NamesAre vs ns → match ns.find? (fun p => p.1 == i) with
    | Option.none => valueAt vs i = Option.none
    | some q => ∃ t, valueAt vs i = some (.str (Str.ofString q.2) t)
  | _, _, .nil => rfl
  | _, _, @NamesAre.cons j n t vs ns h => by
    have ih := names_at (i := i) h
    by_cases q : j = i
    · subst q
      rw [List.find?_cons, show ((j, n).1 == j) = true from by simp]
      exact ⟨t, by simp [valueAt]⟩
    · have q' : (j == i) = false := by simpa using q
      have e : valueAt ((j, Value.str (Str.ofString n) t) :: vs) i = valueAt vs i := by simp [valueAt, List.find?_cons, q]
      rw [List.find?_cons, show ((j, n).1 == i) = false from q', e]
      exact ih

section
variable {k : Nat} {sc : Scope} {ρ : Vars}
theorem Ev.flags {xp ap pos : Pos} {e1 e2 : PySem.Expr} {i : Int} {d : Str} (hx : sc.names.lookup ("COMPILER_FLAG_NAMES" : Str) = some .globalImplicit) (hb : ∀ env, attributeBase (.Name "COMPILER_FLAG_NAMES" xp) "get" env (eval (.Name "COMPILER_FLAG_NAMES" xp) env) = eval (.Name "COMPILER_FLAG_NAMES" xp) env)
    (hline : (ap.endLine == pos.line) = true) (hpl : Plain [e1, e2]) (h1 : Ev k sc ρ e1 (.int i)) (h2 : Ev k sc ρ e2 (.str d)) : Ev k sc ρ (.Call (.Attribute (.Name "COMPILER_FLAG_NAMES" xp) "get" ap) [e1, e2] [] pos) (.str (flagGet i d)) := fun {w A env h₀ F₀ own s} R E S => by
  have G : GlobIs "COMPILER_FLAG_NAMES" (.ref 53) := .inl fun w => rfl
  refine wpAny_Call_method_late (hb env) (by rw [hpl]; rfl) hline (hpl env pos) (G.load E hx (by decide +kernel) S.here ?_)
  obtain ⟨o, vs, hlo, hD, hn⟩ := flags_obj w
  have hD0 : s.heap.DictOf (intKind prg w) 53 vs := Heap.dictOf_iff.mpr ⟨o, S.here.1 _ _ hlo, hD⟩
  refine ⟨"dict", "dict.get", PySem.F.plainAttrs_dict, PySem.F.slot_dict_get, PySem.F.type_dict_get, hD0.typeIs, hD0.mapOf.noDict, ?_⟩
  refine (EvL.cons h1 (.cons h2 .nil)).call R E S (.inl ⟨_, rfl⟩) fun ws s₁ k₁ r => ?_
  obtain ⟨v1, r1, rfl, ⟨t1, rfl⟩, v2, r2, rfl, ⟨t2, rfl⟩, e⟩ := r
  rw [show r2 = [] from e]
  have hD1 : s₁.heap.DictOf (intKind prg w) 53 vs := Heap.dictOf_iff.mpr ⟨o, k₁.up _ _ (S.here.1 _ _ hlo), hD⟩
  have hkey : (intKind prg w).is i (.int i t1) = true := by simp [intKind, Value.isInt]
  refine call_meetsIn PySem.F.slot_dict_get hD1.typeIs PySem.F.entry_dict_get (PySem.F.args_dict_get_3 _ _ _) (meets_dict_get_default (intKind prg w) 53 hkey (by decide) _) ⟨_, hD1.mapOf, ?_⟩
  have hv := names_at (i := i) hn
  unfold flagGet
  cases e : flagNames.find? (fun p => p.1 == i) with
  | none => rw [e] at hv; rw [hv]; exact ⟨k₁.trans (Kp.tok s₁ _), t2, rfl⟩
  | some q =>
    rw [e] at hv
    obtain ⟨t', hv⟩ := hv
    rw [hv]
    exact ⟨k₁.trans (Kp.tok s₁ _), t', rfl⟩
end
end Mine

namespace Mine
open PySem PySem.W PySem.Builtin PySem.Builtin.Str

def wordN (i : Nat) : Str := flagGet ((2 ^ i : Nat) : Int) (baseText "0x" 16 ((2 ^ i : Nat) : Int))
def wordsR : Nat → Nat → Nat → List Str
  | 0, _, _ => []
  | n + 1, i, q => if q % 2 = 1 then wordN i :: wordsR n (i + 1) (q / 2) else wordsR n (i + 1) (q / 2)

theorem band (m i : Nat) : Builtin.bitAnd ((m : Nat) : Int) ((2 ^ i : Nat) : Int) = ((m &&& 2 ^ i : Nat) : Int) := by
  rw [← PyProof.Rows.bitAnd_eq]
  unfold Spec.bitAnd
  rw [decide_eq_true (Int.natCast_nonneg _), decide_eq_true (Int.natCast_nonneg _)]
  simp only [Int.toNat_natCast]
theorem and_pow (i q : Nat) : (2 ^ i * q) &&& 2 ^ i = (q % 2) * 2 ^ i := by
  apply Nat.eq_of_testBit_eq
  intro j
  rw [Nat.testBit_and, Nat.mul_comm, Nat.testBit_mul_two_pow, Nat.testBit_two_pow, Nat.testBit_mul_two_pow]
  by_cases h : i = j
  · subst h
    simp
  · simp [h]
    intro h1
    have : j - i ≠ 0 := by omega
    rcases Nat.mod_two_eq_zero_or_one q with e | e
    · simp [e]
    · rw [e]
      exact Nat.testBit_lt_two_pow (i := j - i) (x := 1) (Nat.one_lt_two_pow this)
theorem bitXorA (x y : Int) : Builtin.bitXor x y = x + y - 2 * Builtin.bitAnd x y := by
  unfold Builtin.bitXor
  rw [PyProof.Rows.bitOr_and]
  omega
theorem xor_pow {i q : Nat} (h : q % 2 = 1) : Builtin.bitXor ((2 ^ i * q : Nat) : Int) ((2 ^ i : Nat) : Int) = ((2 ^ (i + 1) * (q / 2) : Nat) : Int) := by
  rw [bitXorA, band, and_pow, h, Nat.one_mul]
  have hq : q = 2 * (q / 2) + 1 := by omega
  have e : 2 ^ i * q = 2 ^ (i + 1) * (q / 2) + 2 ^ i := by
    conv => lhs; rw [hq]
    rw [Nat.mul_add, Nat.mul_one, Nat.pow_succ, Nat.mul_assoc]
  rw [e]
  push_cast
  omega
theorem even_pow {i q : Nat} (h : q % 2 = 0) : 2 ^ i * q = 2 ^ (i + 1) * (q / 2) := by
  have hq : q = 2 * (q / 2) := by omega
  conv => lhs; rw [hq]
  rw [Nat.pow_succ, Nat.mul_assoc]
theorem range_items (n : Nat) : rangeP 0 1 n = (List.range' 0 n).map fun j : Nat => PV.int j := by
  unfold rangeP
  rw [List.range_eq_range']
  apply List.map_congr_left
  intro j _
  simp

theorem word_len : ∀ i < 32, (wordN i).length ≤ 20 := by decide +kernel
theorem hex_len : ∀ i < 32, (baseText "0x" 16 ((2 ^ i : Nat) : Int)).length ≤ 20 := by decide +kernel
theorem wordsR_mem {y : Str} : ∀ {n i q}, y ∈ wordsR n i q → ∃ j, i ≤ j ∧ j < i + n ∧ y = wordN j
  | n + 1, i, q, h => by
    unfold wordsR at h
    split at h
    · rcases List.mem_cons.mp h with rfl | h
      · exact ⟨i, by omega, by omega, rfl⟩
      · obtain ⟨j, h1, h2, h3⟩ := wordsR_mem h
        exact ⟨j, by omega, by omega, h3⟩
    · obtain ⟨j, h1, h2, h3⟩ := wordsR_mem h
      exact ⟨j, by omega, by omega, h3⟩
theorem wordsR_len : ∀ {n i q}, (wordsR n i q).length ≤ n
  | 0, _, _ => Nat.le_refl 0
  | n + 1, i, q => by
    unfold wordsR
    split
    · exact Nat.succ_le_succ wordsR_len
    · exact Nat.le_succ_of_le wordsR_len
theorem wordsR_zero : ∀ {n i}, wordsR n i 0 = []
  | 0, _ => rfl
  | n + 1, i => by unfold wordsR; exact wordsR_zero
theorem joinOk_of {sep : Str} {xs : List Str} {B : Nat} (h : ∀ y ∈ xs, y.length ≤ B) (h2 : xs.length * B + xs.length * sep.length ≤ 16777216) : JoinOk sep xs = true := by
  have := StrLaws.joinFits h h2
  unfold JoinOk
  exact by simpa using this

theorem OutIs.subB {g : Bool} {w : World} {env : Env} {h₀ : Heap} {F₀ : List Addr} {own : List (Str × Addr)} {f : Flow} {s s' : Shared} {ρ ρ₂ : Vars} (r : Sub ρ₂ ρ) (h : OutIs g w env h₀ F₀ own (.brk ρ) f s s') : OutIs g w env h₀ F₀ own (.brk ρ₂) f s s' := by
  obtain ⟨gk, bt, q⟩ := h
  cases f with
  | brk => obtain ⟨own', oe, S'⟩ := q; exact ⟨gk, bt, own', oe, S'.sub r⟩
  | next => exact q.elim
  | ret v => exact q.elim
  | cont => exact q.elim
theorem Ex.postB {g : Bool} {k : Nat} {sc : Scope} {ρ ρ₂ : Vars} {ss : List Stmt} (r : Sub ρ₂ ρ) {ρ₀ : Vars} (h : Ex g k sc ρ₀ ss (.brk ρ)) : Ex g k sc ρ₀ ss (.brk ρ₂) := fun R E C S => wpAny_mono (h R E C S) (fun _ _ x => x.subB r) fun _ _ x => x

def pfV (m : Nat) (ns : List Str) : Vars := [("flags", .val (.int m)), ("names", .own (sL ns))]
theorem pf_loop {g : Bool} {k : Nat} {sc : Scope} {tgt : PySem.Expr} {body orelse : List Stmt} (hA : ∀ (p : PV) (ρ : Vars), p.frozen = true → Asg sc tgt false p ρ (("i", .val p) :: ρ))
    (h0 : ∀ (i q : Nat) (ns : List Str), i < 32 → q % 2 = 0 → Ex g k sc (("i", .val (.int i)) :: pfV (2 ^ i * q) ns) body (.next (pfV (2 ^ i * q) ns)))
    (h1 : ∀ (i q : Nat) (ns : List Str), i < 32 → ns.length < 32 → q % 2 = 1 → q / 2 ≠ 0 → Ex g k sc (("i", .val (.int i)) :: pfV (2 ^ i * q) ns) body (.next (pfV (2 ^ (i + 1) * (q / 2)) (ns ++ [wordN i]))))
    (h2 : ∀ (i q : Nat) (ns : List Str), i < 32 → ns.length < 32 → q % 2 = 1 → q / 2 = 0 → Ex g k sc (("i", .val (.int i)) :: pfV (2 ^ i * q) ns) body (.brk [("names", .own (sL (ns ++ [wordN i])))])) :
    ∀ (n i q : Nat) (ns : List Str), i + n = 32 → ns.length ≤ i → q ≠ 0 → q < 2 ^ n → Loop g k sc tgt false body orelse ((List.range' i n).map fun j : Nat => PV.int j) (pfV (2 ^ i * q) ns) (.next [("names", .own (sL (ns ++ wordsR n i q)))])
  | 0, i, q, ns, _, _, hq, hl => absurd (by omega : q = 0) hq
  | n + 1, i, q, ns, hi, hns, hq, hl => by
    rw [List.range'_succ, List.map_cons]
    have hp : 2 ^ (n + 1) = 2 * 2 ^ n := by rw [Nat.pow_succ]; omega
    rcases Nat.mod_two_eq_zero_or_one q with e | e
    · refine .next (hA _ _ rfl) (h0 i q ns (by omega) e) ?_
      have w : wordsR (n + 1) i q = wordsR n (i + 1) (q / 2) := by rw [wordsR, if_neg (by omega)]
      rw [even_pow e, w]
      exact pf_loop hA h0 h1 h2 n (i + 1) (q / 2) ns (by omega) (by omega) (by omega) (by omega)
    · have w : wordsR (n + 1) i q = wordN i :: wordsR n (i + 1) (q / 2) := by rw [wordsR, if_pos e]
      by_cases z : q / 2 = 0
      · rw [w, z, wordsR_zero]
        exact .brk (hA _ _ rfl) (h2 i q ns (by omega) (by omega) e z)
      · refine .next (hA _ _ rfl) (h1 i q ns (by omega) (by omega) e z) ?_
        have := pf_loop (orelse := orelse) hA h0 h1 h2 n (i + 1) (q / 2) (ns ++ [wordN i]) (by omega) (by simp; omega) z (by omega)
        rw [w]
        rw [List.append_assoc] at this
        exact this

def prettyF (m : Nat) : Str := Txt.join ", " (wordsR 32 0 m)
theorem Tst.int {k : Nat} {sc : Scope} {ρ : Vars} {e : PySem.Expr} {i : Int} {b : Bool} (he : ∀ env whole, isTrue e env whole = (do let v ← whole; standAt e.pos; holding [v] (truthy v))) (hx : Ev k sc ρ e (.int i)) (hb : (i != 0) = b) : Tst k sc ρ e b := hb ▸ Tst.plain he hx Tru.int
theorem and_test {i q : Nat} : Builtin.bitAnd ((2 ^ i * q : Nat) : Int) ((2 ^ i : Nat) : Int) = ((q % 2 * 2 ^ i : Nat) : Int) := by rw [band, and_pow]
theorem sL_append {a b : List Str} : sL a ++ sL b = sL (a ++ b) := by simp [sL]
theorem sL_len {a : List Str} : (sL a).length = a.length := by simp [sL]
theorem globIs_hex : GlobIs "hex" (.builtin "hex") := .inr ⟨fun w => rfl, rfl, by decide +kernel⟩
theorem meth_join : Meth "str" "join" "str.join" := ⟨PySem.F.plainAttrs_str, PySem.F.slot_str_join, PySem.F.type_str_join⟩
theorem hex_call {k : Nat} {i : Int} (hsz : (baseText "0x" 16 i).length ≤ sizeLine) : OpN k [.int i] (fun vs => PySem.call (.builtin "hex") vs) (.str (baseText "0x" 16 i)) := OpN.of1 (f := fun vs => PySem.call (.builtin "hex") vs) (Op1.hexI hsz)
theorem join_call {k : Nat} {x : Str} {xs : List Str} (hok : JoinOk x xs = true) : OpN k [.str x, .list (sL xs)] (fun vs => PySem.call (.builtin "str.join") vs) (.str (Txt.join x xs)) := OpN.of2 (f := fun vs => PySem.call (.builtin "str.join") vs) (Op2.joinL hok)
theorem pf_flag {k : Nat} {sc : Scope} {i m : Nat} {ns : List Str} {kd : Nat} {p1 p2 p3 : Pos} (hi : i < 32) : Ev k sc (("i", .val (.int i)) :: pfV m ns) (.BinOp (.Constant (.int 1) kd p1) .LShift (.Name "i" p2) p3) (.int ((2 ^ i : Nat) : Int)) := by
  refine Ev.bin Ev.int (Ev.name rfl (by decide +kernel)) (Op2.eq (Op2.shlI (by omega) (by omega) (by decide)) ?_)
  rw [Int.one_mul, Int.toNat_natCast]
  exact congrArg PV.int (by push_cast; rfl)
set_option maxHeartbeats 1000000
theorem pretty_call {k : Nat} {m : Nat} (h0 : m ≠ 0) (hm : m < 2 ^ 32) : OpN (k + 1) [.int m] (fun vs => PySem.call (.ref 60) vs) (.str (prettyF m)) := by
  refine OpN.of_call fun {w A F s vs} R B L r => ?_
  refine Call.intro (fun w => ⟨_, rfl, rfl⟩) rfl (sc := ⟨_, _, _, _, _⟩) rfl rfl rfl rfl rfl rfl rfl (fun w => rfl) (names := ["flags"]) (ps := [.int m]) ?_ rfl (by decide +kernel) ?_ (by decide +kernel) rfl ?_ R B L r
  · intro vs h
    match vs, h with
    | [u], _ => rfl
  · intro z hz
    rw [List.mem_singleton.mp hz]
    exact .inl rfl
  · refine Ex.cons (Ex1.assignOwn (.inl rfl) (fun _ _ => rfl) .nil rfl (Nat.zero_le _)) ?_
    refine Ex.cons (Ex1.sub (ρ₂ := pfV (2 ^ 0 * m) []) ?_ (Ex1.for_ (EvIt.range1 rfl (fun _ _ => rfl) Ev.int (by decide +kernel) (n := 32) (by decide +kernel)) ?_ (fun _ _ => rfl))) (o := .ret (.str (prettyF m))) (ρ' := [("names", .own (sL (wordsR 32 0 m)))]) ?_
    · rw [show 2 ^ 0 * m = m from by omega]
      exact .cons rfl (.cons rfl .nil)
    · rw [range_items]
      refine pf_loop (fun p ρ hf => Asg.name (.inl rfl) hf) ?_ ?_ ?_ 32 0 m [] rfl (Nat.zero_le _) h0 hm
      · intro i q ns hi hq
        refine Ex.cons (Ex1.assign (.inl rfl) (fun _ => rfl) (pf_flag hi) rfl) ?_
        refine Ex.cons (Ex1.ifF (Tst.g <| Tst.int (fun _ _ => rfl) (Ev.bin (Ev.name rfl (by decide +kernel)) (Ev.name rfl (by decide +kernel)) Op2.andI) ?_) Ex.nil) (Ex.post ?_ Ex.nil)
        · rw [and_test, hq, Nat.zero_mul]; rfl
        · exact .cons rfl (.cons rfl .nil)
      · intro i q ns hi hns hq hz
        refine Ex.cons (Ex1.assign (.inl rfl) (fun _ => rfl) (pf_flag hi) rfl) ?_
        refine Ex.cons (ρ' := pfV (2 ^ (i + 1) * (q / 2)) (ns ++ [wordN i])) (Ex1.ifT (Tst.g <| Tst.int (fun _ _ => rfl) (Ev.bin (Ev.name rfl (by decide +kernel)) (Ev.name rfl (by decide +kernel)) Op2.andI) ?_) ?_) Ex.nil
        · rw [and_test, hq, Nat.one_mul]
          exact bne_iff_ne.mpr (by have := Nat.two_pow_pos i; omega)
        · refine Ex.cons (Ex1.append rfl (by decide +kernel) (fun _ => rfl) (by decide +kernel) (fun _ _ => rfl) (Ev.flags rfl (fun _ => rfl) (by decide +kernel) (fun _ _ => rfl) (Ev.name rfl (by decide +kernel)) (Ev.call (ps := [.int _]) globIs_hex rfl (by decide +kernel) (.inl ⟨_, rfl⟩) (fun _ _ => rfl) (.cons (Ev.name rfl (by decide +kernel)) .nil) (hex_call ?_))) rfl ?_) ?_
          · exact Nat.le_trans (hex_len i hi) (by decide)
          · rw [sL_len]; exact Nat.le_trans (Nat.le_of_lt hns) (by decide)
          · refine Ex.cons (Ex1.aug (.inl rfl) rfl (Ev.name rfl (by decide +kernel)) Op2.ixorI rfl) ?_
            refine Ex.cons (Ex1.ifF (Tst.g <| Tst.not (b := true) (Tst.int (fun _ _ => rfl) (Ev.name rfl (by decide +kernel)) ?_)) Ex.nil) (Ex.post ?_ Ex.nil)
            · rw [xor_pow hq]
              refine bne_iff_ne.mpr fun e => ?_
              have e2 : 2 ^ (i + 1) * (q / 2) = 0 := by omega
              rcases Nat.mul_eq_zero.mp e2 with e3 | e3
              · exact absurd e3 (by have := Nat.two_pow_pos (i + 1); omega)
              · exact hz e3
            · rw [xor_pow hq]
              refine .cons rfl (.cons ?_ .nil)
              rw [← sL_append]; rfl
      · intro i q ns hi hns hq hz
        refine Ex.cons (Ex1.assign (.inl rfl) (fun _ => rfl) (pf_flag hi) rfl) ?_
        refine Ex.brk (Ex1.ifT (Tst.g <| Tst.int (fun _ _ => rfl) (Ev.bin (Ev.name rfl (by decide +kernel)) (Ev.name rfl (by decide +kernel)) Op2.andI) ?_) ?_)
        · rw [and_test, hq, Nat.one_mul]
          exact bne_iff_ne.mpr (by have := Nat.two_pow_pos i; omega)
        · refine Ex.cons (Ex1.append rfl (by decide +kernel) (fun _ => rfl) (by decide +kernel) (fun _ _ => rfl) (Ev.flags rfl (fun _ => rfl) (by decide +kernel) (fun _ _ => rfl) (Ev.name rfl (by decide +kernel)) (Ev.call (ps := [.int _]) globIs_hex rfl (by decide +kernel) (.inl ⟨_, rfl⟩) (fun _ _ => rfl) (.cons (Ev.name rfl (by decide +kernel)) .nil) (hex_call ?_))) rfl ?_) ?_
          · exact Nat.le_trans (hex_len i hi) (by decide)
          · rw [sL_len]; exact Nat.le_trans (Nat.le_of_lt hns) (by decide)
          · refine Ex.cons (Ex1.aug (.inl rfl) rfl (Ev.name rfl (by decide +kernel)) Op2.ixorI rfl) ?_
            refine Ex.brk (Ex1.ifT (Tst.g <| Tst.not (b := false) (Tst.int (fun _ _ => rfl) (Ev.name rfl (by decide +kernel)) ?_)) (Ex.postB ?_ (Ex.brk Ex1.break_)))
            · rw [xor_pow hq, hz]; rfl
            · refine .cons ?_ .nil
              rw [← sL_append]; rfl
    · refine Ex.freeze (x := "names") rfl ?_
      refine Ex.ret (Ex1.retE (Ev.meth meth_join rfl (fun _ => rfl) (by decide +kernel) (by decide +kernel) (fun _ _ => rfl) Ev.str (.cons (Ev.name rfl (by decide +kernel)) .nil) (join_call ?_)) rfl)
      refine joinOk_of (B := 20) (fun y hy => ?_) ?_
      · obtain ⟨j, _, h2, rfl⟩ := wordsR_mem hy
        exact word_len j (by omega)
      · have := @wordsR_len 32 0 m
        have e : Str.length ", " = 2 := by decide +kernel
        rw [e]
        omega
end Mine

namespace Mine
open PySem PySem.W PySem.Builtin PySem.Builtin.Str

theorem Plain.nil : Plain [] := fun _ _ => rfl
theorem Plain.const {c : PySem.Const} {kd : Nat} {p : Pos} {es : List PySem.Expr} (h : Plain es) : Plain (.Constant c kd p :: es) := fun env pos => congrArg (List.cons (false, PySem.eval (.Constant c kd p) env)) (h env pos)
theorem globIs_str : GlobIs "str" (.type "str") := .inr ⟨fun w => rfl, rfl, by decide +kernel⟩
theorem globIs_len : GlobIs "len" (.builtin "len") := .inr ⟨fun w => rfl, rfl, by decide +kernel⟩
theorem globIs_sum : GlobIs "sum" (.builtin "sum") := .inr ⟨fun w => rfl, rfl, by decide +kernel⟩
theorem globIs_max : GlobIs "max" (.builtin "max") := .inr ⟨fun w => rfl, rfl, by decide +kernel⟩
theorem str_call {k : Nat} {i : Int} (ha : i.natAbs.log2 < 1920) : OpN k [.int i] (fun vs => PySem.call (.type "str") vs) (.str (toString i)) := OpN.of1 (f := fun vs => PySem.call (.type "str") vs) (Op1.strI ha)

def wordNames : List Str := ["OPTIMIZED", "NEWLOCALS", "VARARGS", "VARKEYWORDS", "NESTED", "GENERATOR", "NOFREE", "COROUTINE", "ITERABLE_COROUTINE", "ASYNC_GENERATOR"]
theorem sL_words : sL wordNames = [.str "OPTIMIZED", .str "NEWLOCALS", .str "VARARGS", .str "VARKEYWORDS", .str "NESTED", .str "GENERATOR", .str "NOFREE", .str "COROUTINE", .str "ITERABLE_COROUTINE", .str "ASYNC_GENERATOR"] := rfl
theorem word_lo {i : Nat} (hi : i < 10) : ([.str "OPTIMIZED", .str "NEWLOCALS", .str "VARARGS", .str "VARKEYWORDS", .str "NESTED", .str "GENERATOR", .str "NOFREE", .str "COROUTINE", .str "ITERABLE_COROUTINE", .str "ASYNC_GENERATOR"] : List PV)[i]? = some (.str (wordN i)) := by
  have h : ∀ i < 10, wordNames[i]? = some (wordN i) := by decide +kernel
  rw [← sL_words, sL, List.getElem?_map, h i hi]; rfl
def hiWord (p : Nat) : Str := (("0x" : Str) ++ toString ((2 : Int) ^ ((p : Int).fmod 4).toNat)) ++ Txt.mul "0" ((p : Int).fdiv 4)
theorem word_hi : ∀ i < 31, 10 ≤ i → hiWord i = wordN i := by decide +kernel
theorem hi_ok : ∀ p < 31, Builtin.divisionGoesByPylong ((p : Nat) : Int) 4 = false ∧ ((p : Nat) : Int).fmod 4 ≤ 3 ∧ 0 ≤ ((p : Nat) : Int).fmod 4 ∧ ((2 : Int) ^ (((p : Nat) : Int).fmod 4).toNat).natAbs.log2 < 1920 ∧ 0 ≤ ((p : Nat) : Int).fdiv 4 ∧ ((p : Nat) : Int).fdiv 4 < 10 ∧ (toString ((2 : Int) ^ (((p : Nat) : Int).fmod 4).toNat) : Str).length ≤ 20 ∧ (Txt.mul "0" (((p : Nat) : Int).fdiv 4)).length ≤ 20 := by decide +kernel
theorem mul_ok : ∀ p < 31, MulOk "0" (((p : Nat) : Int).fdiv 4) := by unfold MulOk; decide +kernel
theorem word_call {k : Nat} {p : Nat} (hp : p < 31) : OpN (k + 1) [.int p] (fun vs => PySem.call (.ref 98) vs) (.str (wordN p)) := by
  refine OpN.of_call fun {w A F s vs} R B L r => ?_
  refine Call.intro (fun w => ⟨_, rfl, rfl⟩) rfl (sc := ⟨_, _, _, _, _⟩) rfl rfl rfl rfl rfl rfl rfl (fun w => rfl) (names := ["place"]) (ps := [.int p]) ?_ rfl (by decide +kernel) ?_ (by decide +kernel) rfl ?_ R B L r
  · intro vs h
    match vs, h with
    | [u], _ => rfl
  · intro z hz
    rw [List.mem_singleton.mp hz]
    exact .inl rfl
  · refine Ex.cons (Ex1.assignOwn (ps := [.str "OPTIMIZED", .str "NEWLOCALS", .str "VARARGS", .str "VARKEYWORDS", .str "NESTED", .str "GENERATOR", .str "NOFREE", .str "COROUTINE", .str "ITERABLE_COROUTINE", .str "ASYNC_GENERATOR"]) (.inl rfl) ?_ ?_ ?_ ?_) ?_
    · exact (.const (.const (.const (.const (.const (.const (.const (.const (.const (.const .nil))))))))))
    · exact (.cons Ev.str (.cons Ev.str (.cons Ev.str (.cons Ev.str (.cons Ev.str (.cons Ev.str (.cons Ev.str (.cons Ev.str (.cons Ev.str (.cons Ev.str .nil))))))))))
    · decide +kernel
    · decide +kernel
    refine Ex.freeze (x := "words") rfl ?_
    by_cases h : p < 10
    · refine Ex.ret (Ex1.ifT (Tst.g <| Tst.cmp (Ev.name rfl (by decide +kernel)) Ev.int (Op2.eq Op2.ltI ?_) rfl) ?_)
      · exact congrArg PV.bool (decide_eq_true (by omega))
      · refine Ex.ret (Ex1.retE (Ev.sub getT_list rfl (Ev.name rfl (by decide +kernel)) (Ev.name rfl (by decide +kernel)) (Op2.getL (i := (p : Int)) (by omega) (by omega) (word_lo h)) (fun _ _ => ⟨_, rfl⟩)) rfl)
    · obtain ⟨h1, h2, h3, h4, h5, h6, h7, h8⟩ := hi_ok p hp
      refine Ex.cons (Ex1.ifF (Tst.g <| Tst.cmp (Ev.name rfl (by decide +kernel)) Ev.int (Op2.eq Op2.ltI ?_) rfl) Ex.nil) ?_
      · exact congrArg PV.bool (decide_eq_false (by omega))
      · rw [← word_hi p hp (by omega)]
        refine Ex.ret (Ex1.retE (Ev.bin (Ev.bin Ev.str (Ev.call globIs_str rfl (by decide +kernel) (.inr (.inl ⟨_, rfl⟩)) (fun _ _ => rfl) (.cons (Ev.bin Ev.int (Ev.bin (Ev.name rfl (by decide +kernel)) Ev.int (Op2.modI (by decide))) (Op2.powI h3 (by omega) (by decide))) .nil) (str_call h4)) (Op2.addS ?_)) (Ev.bin Ev.str (Ev.bin (Ev.name rfl (by decide +kernel)) Ev.int (Op2.divI (by decide) h1)) (Op2.mulS ?_)) (Op2.addS ?_)) rfl)
        · have e : Str.length "0x" = 2 := by decide +kernel
          rw [e]; have : sizeLine = 2 ^ 24 := rfl; omega
        · exact mul_ok p hp
        · have e : Str.length "0x" = 2 := by decide +kernel
          rw [Str.length_append, e]; have : sizeLine = 2 ^ 24 := rfl; omega
end Mine

namespace Mine
open PySem PySem.W PySem.Builtin PySem.Builtin.Str PySem.StrLaws

def catL (y : List Nat) (last : List Nat) : List (List Nat) → List Nat
  | [] => last
  | r :: rs => r ++ (y ++ catL y last rs)

theorem at_head {x y : Str} {c0 : Nat} {rest : List Nat} (hy : y.cps.toList = c0 :: rest) {k : Nat} (h : At x y x.length k) : ∃ t, x.cps.toList.drop k = c0 :: t := by
  have h2 := h.2
  rw [subAt_eq, hy] at h2
  have e := eq_of_beq h2
  cases hd : x.cps.toList.drop k with
  | nil => rw [hd] at e; simp at e
  | cons b t =>
    rw [hd] at e
    have hl : y.length = rest.length + 1 := by
      have := congrArg List.length hy
      simpa [Str.length] using this
    rw [hl, List.take_succ_cons] at e
    injection e with e1 e2
    exact ⟨t, by rw [e1]⟩

theorem parts_are {x y : Str} {c0 : Nat} {rest : List Nat} (hy : y.cps.toList = c0 :: rest) {last : List Nat} (hlast : c0 ∉ last) : ∀ (rows : List (List Nat)) (a : Nat) (cuts : List Nat) (f : Nat), x.cps.toList.drop a = catL y.cps.toList last rows → a ≤ x.length →
    (∀ r ∈ rows, c0 ∉ r) → ChainG x y x.length a cuts f → (∀ k, f ≤ k → ¬ At x y x.length k) → (partsFrom x y.length a cuts).map (fun p => p.cps.toList) = rows ++ [last]
  | [], a, cuts, f, hx, ha, _, hc, hn => by
    have hno : ∀ k, a ≤ k → ¬ At x y x.length k := fun k hk hA => by
      obtain ⟨t, e⟩ := at_head hy hA
      have e2 : x.cps.toList.drop k = (x.cps.toList.drop a).drop (k - a) := by rw [List.drop_drop]; congr 1; omega
      rw [e2, hx] at e
      have : c0 ∈ (catL y.cps.toList last []).drop (k - a) := by rw [e]; exact List.mem_cons_self
      exact hlast (List.mem_of_mem_drop this)
    cases cuts with
    | cons c r => exact absurd hc.2.1 (hno c hc.1)
    | nil =>
      show [(strSub x a x.length).cps.toList] = [last]
      rw [strSub_toList, hx]
      congr 1
      have hl : (catL y.cps.toList last []).length = x.length - a := by
        rw [← hx, List.length_drop]; simp [Str.length]
      exact List.take_of_length_le (by rw [hl]; exact Nat.le_refl _)
  | r :: rows, a, cuts, f, hx, ha, hr, hc, hn => by
    have hxl : x.cps.toList.length = x.length := by simp [Str.length]
    have hyl : y.cps.toList.length = y.length := by simp [Str.length]
    have hlen : x.length - a = r.length + (y.length + (catL y.cps.toList last rows).length) := by
      have := congrArg List.length hx
      rw [List.length_drop, hxl] at this
      rw [this]; simp [catL, Str.length]
    have hd : ∀ j, x.cps.toList.drop (a + j) = (catL y.cps.toList last (r :: rows)).drop j := fun j => by rw [← hx, List.drop_drop]
    have hno : ∀ k, a ≤ k → k < a + r.length → ¬ At x y x.length k := fun k h1 h2 hA => by
      obtain ⟨t, e⟩ := at_head hy hA
      have e2 : k = a + (k - a) := by omega
      rw [e2, hd] at e
      have e3 : (catL y.cps.toList last (r :: rows)).drop (k - a) = r.drop (k - a) ++ (y.cps.toList ++ catL y.cps.toList last rows) := by
        show (r ++ _).drop _ = _
        rw [List.drop_append_of_le_length (by omega)]
      rw [e3] at e
      cases hq : r.drop (k - a) with
      | nil => have := congrArg List.length hq; simp at this; omega
      | cons b u =>
        rw [hq] at e
        injection e with e4 e5
        exact hr r List.mem_cons_self (List.mem_of_mem_drop (i := k - a) (by rw [hq, e4]; exact List.mem_cons_self))
    have hyes : At x y x.length (a + r.length) := by
      refine ⟨by omega, ?_⟩
      rw [subAt_eq, hd]
      show (((r ++ (y.cps.toList ++ catL y.cps.toList last rows)).drop r.length).take y.length == y.cps.toList) = true
      rw [List.drop_left, ← hyl, List.take_left]
      exact beq_self_eq_true _
    cases cuts with
    | nil =>
      have e : f = a := hc
      exact absurd hyes (hn _ (by omega))
    | cons c cs =>
      obtain ⟨h1, h2, h3, h4⟩ := hc
      have ec : c = a + r.length := by
        rcases Nat.lt_trichotomy c (a + r.length) with h | h | h
        · exact absurd h2 (hno c h1 h)
        · exact h
        · exact absurd hyes (h3 _ (by omega) h)
      subst ec
      show (strSub x a (a + r.length)).cps.toList :: (partsFrom x y.length (a + r.length + y.length) cs).map (fun p => p.cps.toList) = r :: (rows ++ [last])
      rw [parts_are hy hlast rows (a + r.length + y.length) cs f ?_ (by omega) (fun q hq => hr q (List.mem_cons_of_mem _ hq)) h4 hn]
      · congr 1
        rw [strSub_toList, hx]
        show (r ++ _).take _ = r
        rw [show a + r.length - a = r.length from by omega, List.take_left]
      · rw [Nat.add_assoc, hd]
        show (r ++ (y.cps.toList ++ catL y.cps.toList last rows)).drop (r.length + y.length) = _
        rw [← List.drop_drop, List.drop_left, ← hyl, List.drop_left]

theorem str_inj {a b : Str} (h : a.cps.toList = b.cps.toList) : a = b := Str.ext' (Array.toList_inj.mp h)
theorem map_inj {a b : List Str} (h : a.map (fun p => p.cps.toList) = b.map (fun p => p.cps.toList)) : a = b := by
  induction a generalizing b with
  | nil => cases b with
    | nil => rfl
    | cons _ _ => cases h
  | cons p a ih => cases b with
    | nil => cases h
    | cons q b =>
      injection h with h1 h2
      rw [str_inj h1, ih h2]
theorem kind_low {y : Str} (hy : Str.strKind y = 1) (x : Str) : ¬ Str.strKind x < Str.strKind y := by
  rw [hy]
  unfold Str.strKind
  split
  · decide
  · split
    · decide
    · decide
theorem split_rows {x y : Str} {c0 : Nat} {rest : List Nat} (hy : y.cps.toList = c0 :: rest) (hk : Str.strKind y = 1) {rows : List Str} {last : Str} (hx : x.cps.toList = catL y.cps.toList last.cps.toList (rows.map fun p => p.cps.toList)) (hr : ∀ r ∈ rows, c0 ∉ r.cps.toList) (hl : c0 ∉ last.cps.toList) :
    Txt.split x y = rows ++ [last] ∧ (partsBetween x (occurrences x y 0 x.length (x.length + 1)) y.length).length = rows.length + 1 := by
  have hyl : y.length = rest.length + 1 := by
    have := congrArg List.length hy
    simpa [Str.length] using this
  obtain ⟨f, h1, h2⟩ := occ_tight x y (by omega)
  have key := parts_are hy hl (rows.map fun p => p.cps.toList) 0 _ f (by rw [List.drop_zero]; exact hx) (Nat.zero_le _) (fun r h => by
    obtain ⟨q, hq, rfl⟩ := List.mem_map.mp h
    exact hr q hq) h1 h2
  have e : partsFrom x y.length 0 (occurrences x y 0 x.length (x.length + 1)) = rows ++ [last] := map_inj (by rw [key]; simp)
  rw [partsBetween_eq, e]
  refine ⟨?_, by simp⟩
  unfold Txt.split
  rw [decide_eq_false (kind_low hk x), Bool.or_false, partsBetween_eq]
  split
  · rename_i hlt
    have hlt := of_decide_eq_true hlt
    cases rows with
    | nil =>
      have : x = last := str_inj hx
      rw [this]; rfl
    | cons r rows =>
      have := congrArg List.length hx
      simp [catL, Str.length] at this hlt
      omega
  · split
    · rename_i hemp
      have : occurrences x y 0 x.length (x.length + 1) = [] := List.isEmpty_iff.mp hemp
      rw [this] at e
      rw [← e]
      show [x] = [strSub x 0 x.length]
      rw [sub_whole]
    · exact e
end Mine

namespace Mine
open PySem PySem.W PySem.Builtin PySem.Builtin.Str PySem.StrLaws

theorem drop_takeWhile {α : Type} (p : α → Bool) : ∀ l : List α, l.drop (l.takeWhile p).length = l.dropWhile p
  | [] => rfl
  | a :: l => by
    rw [List.takeWhile_cons, List.dropWhile_cons]
    split
    · exact drop_takeWhile p l
    · rfl
theorem lstrip_one {x y : Str} {c : Nat} (hy : y.cps = #[c]) : (Txt.lstripChars x y).cps.toList = x.cps.toList.dropWhile (· == c) := by
  unfold Txt.lstripChars
  rw [PyProof.Rows.stripBy_eq]
  have hg : (y.cps.contains : Nat → Bool) = (· == c) := by
    funext d; rw [hy]; apply Bool.eq_iff_iff.mpr; simp
  rw [hg]
  show (strSub x (x.cps.toList.takeWhile (· == c)).length x.length).cps.toList = _
  rw [strSub_toList, drop_takeWhile]
  refine List.take_of_length_le ?_
  rw [← drop_takeWhile, List.length_drop]
  simp [Str.length]
def runS (c m : Nat) : Str := ⟨(List.replicate m c).toArray⟩
theorem fold_run {c : Nat} : ∀ (n : Nat) (acc : Array Nat), (List.replicate n #[c]).foldl (· ++ ·) acc = acc ++ (List.replicate n c).toArray
  | 0, acc => by simp
  | n + 1, acc => by
    rw [List.replicate_succ, List.foldl_cons, fold_run n, List.replicate_succ]
    apply Array.toList_inj.mp
    simp
theorem mul_run {y : Str} {c : Nat} (hy : y.cps = #[c]) (m : Nat) : Txt.mul y (m : Int) = runS c m := by
  have hl : y.length = 1 := by simp [Str.length, hy]
  unfold Txt.mul
  split
  · have : m = 0 := by omega
    subst this; rfl
  · split
    · rename_i h1 h2
      have : m = 1 := by simp [hl] at h2; omega
      subst this
      apply Str.ext'
      rw [hy]; rfl
    · rw [hy, Int.toNat_natCast, fold_run]
      simp [runS]
theorem mulOk_run {y : Str} {c : Nat} (hy : y.cps = #[c]) {m : Nat} (hm : m ≤ 10000) : MulOk y (m : Int) := by
  have hl : y.length = 1 := by simp [Str.length, hy]
  refine ⟨by simp; omega, fun h1 _ => ?_, fun _ _ => ?_⟩
  · rw [hl]
    have : (1 : Int) ≤ (2 ^ 63 - 1) / (m : Int) := Int.le_ediv_of_mul_le (by omega) (by omega)
    omega
  · rw [hl]
    show decide (_ > _) = false
    refine decide_eq_false ?_
    have : sizeLine = 2 ^ 24 := rfl
    omega
def dots (m : Nat) : Str := ⟨(List.replicate m 46).toArray⟩
theorem dots_list {m : Nat} : (dots m).cps.toList = List.replicate m 46 := rfl
theorem dots_len {m : Nat} : (dots m).length = m := by simp [dots, Str.length]
theorem mul_dots {m : Nat} : Txt.mul "." (m : Int) = dots m := mul_run (by decide +kernel) m
structure WordOK (w : Str) : Prop where
  len : w.length ≤ 20
  dot : ∃ c t, w.cps.toList = c :: t ∧ c ≠ 46
  cr : 13 ∉ w.cps.toList
  lf : 10 ∉ w.cps.toList
  comma : 44 ∉ w.cps.toList
theorem word_ok : ∀ j < 32, WordOK (wordN j) := by
  have h : ∀ j < 32, (wordN j).length ≤ 20 ∧ (wordN j).cps.toList.headD 46 ≠ 46 ∧ 13 ∉ (wordN j).cps.toList ∧ 10 ∉ (wordN j).cps.toList ∧ 44 ∉ (wordN j).cps.toList := by decide +kernel
  intro j hj
  obtain ⟨h1, h2, h3, h4, h5⟩ := h j hj
  refine ⟨h1, ?_, h3, h4, h5⟩
  cases e : (wordN j).cps.toList with
  | nil => rw [e] at h2; exact absurd rfl h2
  | cons c t => rw [e] at h2; exact ⟨c, t, rfl, h2⟩
theorem word_inj : ∀ i < 32, ∀ j < 32, wordN i = wordN j → i = j := by decide +kernel
end Mine

namespace Mine
open PySem PySem.W PySem.Builtin PySem.Builtin.Str PySem.StrLaws

theorem pickL {α : Type} (l : List α) (a k : Nat) : ((List.range k).map (a + ·)).filterMap (l[·]?) = (l.drop a).take k := by
  have := pick_run l.toArray a k
  simpa using this
theorem slP_plain (l : List PV) (lo hi : Option Int) : slP l lo hi none = (l.drop (lo.elim 0 (clipAt l.length))).take (hi.elim l.length (clipAt l.length) - lo.elim 0 (clipAt l.length)) := by
  unfold slP
  rw [sliceBounds_plain]
  show (sliceRange _ _ 1).filterMap _ = _
  rw [sliceRange_one, pickL]
theorem slP_init (l : List PV) (p : PV) : slP (l ++ [p]) none (some (-1)) none = l := by
  rw [slP_plain]
  show ((l ++ [p]).drop 0).take (clipAt (l ++ [p]).length (-((1 : Nat) : Int)) - 0) = l
  rw [clipAt_neg _ _ (Nat.le_refl 1)]
  simp
theorem slP_upto (l : List PV) (n : Nat) : slP l none (some (n : Int)) none = l.take n := by
  rw [slP_plain]
  show (l.drop 0).take (clipAt l.length (n : Int) - 0) = _
  rw [clipAt_nat, List.drop_zero, Nat.sub_zero]
  rcases Nat.le_total n l.length with h | h
  · rw [Nat.min_eq_left h]
  · rw [Nat.min_eq_right h, List.take_of_length_le (Nat.le_refl _), List.take_of_length_le h]
theorem slP_last (l : List PV) : slP l (some (-1)) none none = l.drop (l.length - 1) := by
  rw [slP_plain]
  show (l.drop (clipAt l.length (-((1 : Nat) : Int)))).take (l.length - clipAt l.length (-((1 : Nat) : Int))) = _
  rw [clipAt_neg _ _ (Nat.le_refl 1)]
  exact List.take_of_length_le (by simp)
theorem revIx (n : Nat) : sliceRange ((n : Int) - 1) (-1) (-1) = (List.range n).map fun k => n - 1 - k := by
  unfold sliceRange
  rcases Nat.eq_zero_or_pos n with h | h
  · subst h; rfl
  · rw [if_neg (by decide), if_pos (by omega), show ((n : Int) - 1 - -1 - -1 - 1) / (- -1) = (n : Int) from by rw [show (- -1 : Int) = 1 from rfl, Int.ediv_one]; omega]
    show (List.range ((n : Int)).toNat).map _ = _
    rw [Int.toNat_natCast]
    apply List.map_congr_left
    intro k hk
    have := List.mem_range.mp hk
    omega
theorem pickRev {α : Type} (l : List α) : ((List.range l.length).map fun k => l.length - 1 - k).filterMap (l[·]?) = l.reverse := by
  have e : ((List.range l.length).map fun k => l.length - 1 - k) = (List.range l.length).reverse := by
    apply List.ext_getElem
    · simp
    · intro i h1 h2
      simp
  rw [e, List.filterMap_reverse]
  congr 1
  have h2 := pickL l 0 l.length
  simpa using h2
theorem slP_rev (l : List PV) : slP l none none (some (-1)) = l.reverse := by
  unfold slP
  show (sliceRange ((l.length : Int) - 1) (-1) (-1)).filterMap _ = _
  rw [revIx, pickRev]
theorem six (lo hi : Option Int) (n : Nat) : strSliceIndices lo hi 1 n = sliceRange (sliceBounds lo hi none n).1 (sliceBounds lo hi none n).2.1 1 := by
  cases lo <;> cases hi <;> rfl
theorem slS_plain (x : Str) (lo hi : Option Int) : (slS x lo hi none).cps.toList = (x.cps.toList.drop (lo.elim 0 (clipAt x.length))).take (hi.elim x.length (clipAt x.length) - lo.elim 0 (clipAt x.length)) := by
  have hxl : x.cps.toList.length = x.length := by simp [Str.length]
  have hi' : hi.elim x.length (clipAt x.length) ≤ x.length := by
    cases hi with
    | none => exact Nat.le_refl _
    | some i =>
      show clipAt x.length i ≤ x.length
      have := clipAt_cast x.length i
      omega
  have key : (strSliceIndices lo hi 1 x.length).filterMap (x.cps[·]?) = (x.cps.toList.drop (lo.elim 0 (clipAt x.length))).take (hi.elim x.length (clipAt x.length) - lo.elim 0 (clipAt x.length)) := by
    rw [six, sliceBounds_plain]
    show (sliceRange _ _ 1).filterMap _ = _
    rw [sliceRange_one]
    have := pickL x.cps.toList (lo.elim 0 (clipAt x.length)) (hi.elim x.length (clipAt x.length) - lo.elim 0 (clipAt x.length))
    simpa using this
  have hlen : (strSliceIndices lo hi 1 x.length).length = hi.elim x.length (clipAt x.length) - lo.elim 0 (clipAt x.length) := by
    rw [six, sliceBounds_plain]
    show (sliceRange _ _ 1).length = _
    rw [sliceRange_one]; simp
  unfold slS
  split
  · rename_i h
    rw [Option.getD_none, Bool.and_eq_true, beq_iff_eq, beq_iff_eq, hlen] at h
    generalize hi.elim x.length (clipAt x.length) = b at *
    generalize lo.elim 0 (clipAt x.length) = a at *
    rcases Nat.eq_zero_or_pos x.length with h0 | h0
    · have : x.cps.toList = [] := List.eq_nil_of_length_eq_zero (by omega)
      rw [this]; simp
    · have ha : a = 0 := by omega
      subst ha
      rw [List.drop_zero, List.take_of_length_le (by omega)]
  · exact key
theorem slS_upto (x : Str) (n : Nat) : (slS x none (some (n : Int)) none).cps.toList = x.cps.toList.take n := by
  rw [slS_plain]
  have hxl : x.cps.toList.length = x.length := by simp [Str.length]
  show (x.cps.toList.drop 0).take (clipAt x.length (n : Int) - 0) = _
  rw [clipAt_nat, List.drop_zero, Nat.sub_zero]
  rcases Nat.le_total n x.length with h | h
  · rw [Nat.min_eq_left h]
  · rw [Nat.min_eq_right h, List.take_of_length_le (by omega), List.take_of_length_le (by omega)]
theorem slS_one (x : Str) (n : Nat) : (slS x (some (n : Int)) (some ((n + 1 : Nat) : Int)) none).cps.toList = (x.cps.toList.drop n).take 1 := by
  rw [slS_plain]
  have hxl : x.cps.toList.length = x.length := by simp [Str.length]
  show (x.cps.toList.drop (clipAt x.length (n : Int))).take (clipAt x.length ((n + 1 : Nat) : Int) - clipAt x.length (n : Int)) = _
  rw [clipAt_nat, clipAt_nat]
  rcases Nat.lt_or_ge n x.length with h | h
  · rw [Nat.min_eq_left (by omega), Nat.min_eq_left (by omega), show n + 1 - n = 1 from by omega]
  · rw [Nat.min_eq_right h, Nat.min_eq_right (by omega), Nat.sub_self, List.take_zero, List.drop_of_length_le (by omega)]; rfl
theorem slS_rev (x : Str) : (slS x none none (some (-1))).cps.toList = x.cps.toList.reverse := by
  have hxl : x.cps.toList.length = x.length := by simp [Str.length]
  unfold slS
  rw [if_neg (by simp)]
  show (sliceRange ((x.length : Int) - 1) (-1) (-1)).filterMap (x.cps[·]?) = _
  rw [revIx]
  have := pickRev x.cps.toList
  rw [hxl] at this
  simpa using this
end Mine

namespace Mine
open PySem PySem.W PySem.Builtin PySem.Builtin.Str PySem.StrLaws

def rowS (p : Nat × Str) : Str := dots p.1 ++ p.2
def wireS : List (Nat × Str) → Str
  | [] => Str.empty
  | p :: L => rowS p ++ (("\r\n" : Str) ++ wireS L)
structure LOK (L : List (Nat × Str)) : Prop where
  len : L.length ≤ 11
  ok : ∀ p ∈ L, WordOK p.2 ∧ p.1 ≤ 30
theorem crlf_list : ("\r\n" : Str).cps.toList = [13, 10] := by decide +kernel
theorem wire_cat : ∀ L : List (Nat × Str), (wireS L).cps.toList = catL ("\r\n" : Str).cps.toList (Str.empty).cps.toList ((L.map rowS).map fun p => p.cps.toList)
  | [] => rfl
  | p :: L => by
    show (rowS p ++ (("\r\n" : Str) ++ wireS L)).cps.toList = (rowS p).cps.toList ++ (("\r\n" : Str).cps.toList ++ _)
    rw [Str.cps_append, Array.toList_append, Str.cps_append, Array.toList_append, wire_cat L]
theorem rowS_list {p : Nat × Str} : (rowS p).cps.toList = List.replicate p.1 46 ++ p.2.cps.toList := by
  rw [rowS, Str.cps_append, Array.toList_append, dots_list]
theorem rowS_len {p : Nat × Str} : (rowS p).length = p.1 + p.2.length := by rw [rowS, Str.length_append, dots_len]
theorem rowS_cr {p : Nat × Str} (h : WordOK p.2) : 13 ∉ (rowS p).cps.toList := by
  rw [rowS_list]
  intro hm
  rcases List.mem_append.mp hm with hm | hm
  · exact absurd (List.eq_of_mem_replicate hm) (by decide)
  · exact h.cr hm
theorem wire_len : ∀ {L : List (Nat × Str)}, (∀ p ∈ L, WordOK p.2 ∧ p.1 ≤ 30) → (wireS L).length ≤ L.length * 52
  | [], _ => Nat.le_refl _
  | p :: L, h => by
    have ih := wire_len (L := L) fun q hq => h q (List.mem_cons_of_mem _ hq)
    obtain ⟨h1, h2⟩ := h p List.mem_cons_self
    have h3 := h1.len
    have e : ("\r\n" : Str).length = 2 := by decide +kernel
    show (rowS p ++ (("\r\n" : Str) ++ wireS L)).length ≤ _
    rw [Str.length_append, Str.length_append, e, rowS_len, List.length_cons]
    omega
theorem wire_split {L : List (Nat × Str)} (h : LOK L) : Txt.split (wireS L) "\r\n" = L.map rowS ++ [Str.empty] ∧ (partsBetween (wireS L) (occurrences (wireS L) "\r\n" 0 (wireS L).length ((wireS L).length + 1)) ("\r\n" : Str).length).length = L.length + 1 := by
  have := split_rows (x := wireS L) (y := "\r\n") crlf_list (by decide +kernel) (rows := L.map rowS) (last := Str.empty) (wire_cat L) (fun r hr => by
    obtain ⟨p, hp, rfl⟩ := List.mem_map.mp hr
    exact rowS_cr (h.ok p hp).1) (by decide)
  rwa [List.length_map] at this
theorem row_strip {p : Nat × Str} (h : WordOK p.2) : Txt.lstripChars (rowS p) "." = p.2 := by
  refine str_inj ?_
  rw [lstrip_one (c := 46) (by decide +kernel), rowS_list]
  obtain ⟨c, t, e, hc⟩ := h.dot
  rw [e]
  have : ∀ m, (List.replicate m 46 ++ c :: t).dropWhile (· == 46) = c :: t := by
    intro m
    induction m with
    | zero => rw [List.replicate_zero, List.nil_append, List.dropWhile_cons_of_neg (by simpa using hc)]
    | succ m ih => rw [List.replicate_succ, List.cons_append, List.dropWhile_cons_of_pos (by rfl), ih]
  exact this p.1

section
variable {k : Nat} {sc : Scope} {ρ : Vars}
theorem split_call {x y : Str} (hy : (y.length == 0) = false) (hsz : x.length ≤ sizeLine) (hsz2 : (partsBetween x (occurrences x y 0 x.length (x.length + 1)) y.length).length ≤ sizeLine) : OpN k [.str x, .str y] (fun vs => PySem.call (.builtin "str.split") vs) (.list (sL (Txt.split x y))) :=
  OpN.of2 (f := fun vs => PySem.call (.builtin "str.split") vs) (Op2.splitS hy hsz hsz2)
theorem lstrip_call {x y : Str} (hsz : x.length ≤ sizeLine) : OpN k [.str x, .str y] (fun vs => PySem.call (.builtin "str.lstrip") vs) (.str (Txt.lstripChars x y)) := OpN.of2 (f := fun vs => PySem.call (.builtin "str.lstrip") vs) (Op2.lstripC hsz)
theorem lenS_call {x : Str} (hsz : x.length ≤ sizeLine) : OpN k [.str x] (fun vs => PySem.call (.builtin "len") vs) (.int x.length) := OpN.of1 (f := fun vs => PySem.call (.builtin "len") vs) (Op1.lenS hsz)
theorem meth_split : Meth "str" "split" "str.split" := ⟨PySem.F.plainAttrs_str, PySem.F.slot_str_split, PySem.F.type_str_split⟩
theorem meth_lstrip : Meth "str" "lstrip" "str.lstrip" := ⟨PySem.F.plainAttrs_str, PySem.F.slot_str_lstrip, PySem.F.type_str_lstrip⟩

/-- the rows of the wire, the last part away -/
theorem ev_rows {L : List (Nat × Str)} (h : LOK L) {ex : PySem.Expr} {kd1 kd2 : Nat} {p1 p2 p3 p4 p5 p6 p7 : Pos} (he : Ev k sc ρ ex (.str (wireS L))) (hb : ∀ env, attributeBase ex "split" env (PySem.eval ex env) = PySem.eval ex env) (hline : (p2.endLine == p3.line) = true) :
    Ev k sc ρ (.Subscript (.Call (.Attribute ex "split" p2) [.Constant (.str "\r\n") kd1 p1] [] p3) (.Slice Option.none (some (.UnaryOp .USub (.Constant (.int 1) kd2 p4) p5)) Option.none p6) p7) (.list (sL (L.map rowS))) := by
  obtain ⟨h1, h2⟩ := wire_split h
  have hw := wire_len h.ok
  have hl := h.len
  have hs : sizeLine = 2 ^ 24 := rfl
  have e : slP (sL (L.map rowS ++ [Str.empty])) Option.none (some (-1)) Option.none = sL (L.map rowS) := by
    rw [← sL_append]
    exact slP_init _ _
  have hr : ∀ o i, ∃ ops, subscripted (.Slice Option.none (some (.UnaryOp .USub (.Constant (.int 1) kd2 p4) p5)) Option.none p6) false o i = operate ops (getItem o i) := fun _ _ => ⟨_, rfl⟩
  have hm : Ev k sc ρ (.Call (.Attribute ex "split" p2) [.Constant (.str "\r\n") kd1 p1] [] p3) (.list (sL (Txt.split (wireS L) "\r\n"))) := by
    refine Ev.meth meth_split rfl hb hline (by simp) (.const .nil) he (.cons (p := .str "\r\n") Ev.str .nil) (split_call (x := wireS L) (y := "\r\n") (by decide +kernel) (by omega) ?_)
    rw [h2]; omega
  have hu : EvP k sc ρ (some (.UnaryOp .USub (.Constant (.int 1) kd2 p4) p5)) (some (-1)) := .some (Ev.unary (p := .int 1) Ev.int Op1.negI)
  have hz : (sL (Txt.split (wireS L) "\r\n")).length ≤ sizeLine := by
    rw [h1, sL_len, List.length_append, List.length_map]; simp; omega
  have key : Ev k sc ρ (.Subscript (.Call (.Attribute ex "split" p2) [.Constant (.str "\r\n") kd1 p1] [] p3) (.Slice Option.none (some (.UnaryOp .USub (.Constant (.int 1) kd2 p4) p5)) Option.none p6) p7) (.list (slP (sL (Txt.split (wireS L) "\r\n")) Option.none (some (-1)) Option.none)) :=
    Ev.sliceL (fun h => RVl.of_list h) hm .none hu .none (by decide) hz hr
  rw [h1] at key
  rw [← e]
  exact @key
theorem CRun.fm {α : Type} {x : Str} {xp : Pos} {elt : PySem.Expr} {ifs : List PySem.Expr} (F G : α → PV) (c : α → Bool) (hx : sc.names.lookup x = some .local) (hρ : ρ.lookup x = Option.none) : ∀ {l : List α}, (∀ a ∈ l, (F a).frozen = true) → (∀ a ∈ l, Tsts k sc ((x, .val (F a)) :: ρ) ifs (c a)) →
    (∀ a ∈ l, c a = true → Ev k sc ((x, .val (F a)) :: ρ) elt (G a) ∧ (G a).frozen = true) → CRun k sc (.Name x xp) false ifs elt (l.map F) ρ ((l.filter c).map G) ρ
  | [], _, _, _ => .nil
  | a :: l, hf, ht, hv => by
    have ih := CRun.fm (xp := xp) (elt := elt) (ifs := ifs) F G c hx hρ (l := l) (fun b hb => hf b (List.mem_cons_of_mem _ hb)) (fun b hb => ht b (List.mem_cons_of_mem _ hb)) fun b hb => hv b (List.mem_cons_of_mem _ hb)
    have h1 := ht a List.mem_cons_self
    rw [List.map_cons]
    cases e : c a with
    | false =>
      rw [List.filter_cons_of_neg (by simp [e])]
      rw [e] at h1
      exact .skip (AsgL.name hx (hf a List.mem_cons_self)) h1 (Sub.skip hρ) ih
    | true =>
      rw [List.filter_cons_of_pos e, List.map_cons]
      rw [e] at h1
      obtain ⟨h2, h3⟩ := hv a List.mem_cons_self e
      exact .emit (AsgL.name hx (hf a List.mem_cons_self)) h1 h2 h3 (Sub.skip hρ) ih
theorem Ev.cast {ex : PySem.Expr} {p q : PV} (e : p = q) (h : Ev k sc ρ ex p) : Ev k sc ρ ex q := by rw [← e]; exact @h
theorem filter_true {α : Type} (l : List α) : l.filter (fun _ => true) = l := by simp
/-- a comprehension with one for, maybe one if -/
theorem Ev.compF {α : Type} {sc' : Scope} {ρin : Vars} {x : Str} {xp : Pos} {elt iter : PySem.Expr} {ifs : List PySem.Expr} {epos : Pos} (l : List α) (F G : α → PV) (c : α → Bool) (xs : List Str) (hsc : CompSc sc sc') (hfr : ∀ q ∈ sc'.names, q.2 = NameKind.free → q.1 ∈ xs) (hxs : ∀ y ∈ xs, (ρ.lookup y).isSome = true) (hx : (rl sc' sc).names.lookup x = some .local)
    (hi : EvIt k sc ρ (.Name x xp) false iter (l.map F)) (hin : InVars sc sc' ρ ρin) (hρ : ρin.lookup x = Option.none) (hf : ∀ a ∈ l, (F a).frozen = true) (ht : ∀ a ∈ l, Tsts k (rl sc' sc) ((x, .val (F a)) :: ρin) ifs (c a)) (hv : ∀ a ∈ l, c a = true → Ev k (rl sc' sc) ((x, .val (F a)) :: ρin) elt (G a) ∧ (G a).frozen = true)
    (hs : ∀ env x, foldedSetIterable iter env x = pure x) (hsz : l.length ≤ 1000) : Ev k sc ρ (.ListComp elt [⟨.Name x xp, iter, ifs, 0⟩] sc' epos) (.list ((l.filter c).map G)) :=
  Ev.comp (ρ' := ρin) hsc (fun n hn => hxs n (hfr (n, .free) hn rfl)) hi hin (CRun.one (CRun.fm F G c hx hρ hf ht hv)) hs (by
    rw [List.length_map]
    have := List.length_filter_le c l
    have h2 : sizeLine = 2 ^ 24 := rfl
    omega)
theorem dotLen {p : Nat × Str} (h : WordOK p.2) : Txt.mul "." (((rowS p).length : Int) - ((Txt.lstripChars (rowS p) ".").length : Int)) = dots p.1 := by
  rw [row_strip h, rowS_len, ← mul_dots]
  congr 1; omega
theorem leads_call {L : List (Nat × Str)} (h : LOK L) : OpN (k + 1) [.str (wireS L)] (fun vs => PySem.call (.ref 108) vs) (.list (sL (L.map fun p => dots p.1))) := by
  refine OpN.of_call fun {w A F s vs} R B Lv r => ?_
  refine Call.intro (fun w => ⟨_, rfl, rfl⟩) rfl (sc := ⟨_, _, _, _, _⟩) rfl rfl rfl rfl rfl rfl rfl (fun w => rfl) (names := ["wire"]) (ps := [.str _]) ?_ rfl (by decide +kernel) ?_ (by decide +kernel) rfl ?_ R B Lv r
  · intro vs h
    match vs, h with
    | [u], _ => rfl
  · intro z hz
    rw [List.mem_singleton.mp hz]
    exact .inl rfl
  · refine Ex.ret (Ex1.retE (p := .list (sL _)) ?_ (strs_frozen _))
    have e0 : ∀ L : List (Nat × Str), sL (L.map fun p => dots p.1) = (L.filter fun _ => true).map fun p => .str (dots p.1) := fun L => by rw [filter_true]; simp [sL]
    have e1 : ∀ L : List (Nat × Str), (L.map fun p => PV.str (rowS p)) = sL (L.map rowS) := fun L => by simp [sL]
    rw [e0]
    have hfz : PV.frozens (L.map fun p => PV.str (rowS p)) = true := by rw [e1]; exact strs_frozen _
    apply Ev.compF L (fun p => .str (rowS p)) (fun p => .str (dots p.1)) (fun _ => true) []
    case hsc => exact ⟨rfl, by decide +kernel, by decide +kernel, by decide +kernel, by decide +kernel⟩
    case hfr => decide +kernel
    case hxs => simp
    case hx => rfl
    case hi => exact EvIt.list (by
      rw [e1]
      exact ev_rows h (Ev.name rfl (by decide +kernel)) (fun _ => rfl) (by decide +kernel)) hfz
    case hin => exact .nil
    case hρ => rfl
    case hf => exact fun _ _ => rfl
    case ht => exact fun _ _ => .nil
    case hs => exact fun _ _ => rfl
    case hsz => have := h.len; omega
    case hv =>
      refine fun p hp _ => ⟨?_, rfl⟩
      obtain ⟨hw, h30⟩ := h.ok p hp
      refine Ev.cast (congrArg PV.str (dotLen hw)) ?_
      have hl := hw.len
      have hs : sizeLine = 2 ^ 24 := rfl
      have hr := rowS_len (p := p)
      have hst := row_strip hw
      intro w A env h₀ F₀ own s
      refine Ev.bin Ev.str (Ev.bin (Ev.call globIs_len rfl (by decide +kernel) (.inl ⟨_, rfl⟩) (fun _ _ => rfl) (.cons (Ev.name rfl (by decide +kernel)) .nil) (lenS_call (by omega))) (Ev.call globIs_len rfl (by decide +kernel) (.inl ⟨_, rfl⟩) (fun _ _ => rfl) (.cons (Ev.meth meth_lstrip rfl (fun _ => rfl) (by decide +kernel) (by simp) (.const .nil) (Ev.name rfl (by decide +kernel)) (.cons (p := .str ".") Ev.str .nil) (lstrip_call (by omega))) .nil) (lenS_call (by rw [hst]; omega))) Op2.subI) (Op2.mulS ?_)
      rw [hst, show ((rowS p).length : Int) - (p.2.length : Int) = (p.1 : Int) from by omega]
      exact mulOk_run (c := 46) (by decide +kernel) (by omega)
end
end Mine

namespace Mine

/-! the plain law: lists of small numbers, rows of brackets (true opens) -/
def mxL : List Nat → Nat
  | [] => 0
  | h :: r => Nat.max h (mxL r)
def stepsOK : Nat → List Nat → Bool
  | _, [] => true
  | h, g :: r => Nat.ble g (h + 1) && stepsOK g r
def idxF {α : Type} (c : α → Bool) : Nat → List α → List Nat
  | _, [] => []
  | i, a :: r => cond (c a) (i :: idxF c (i + 1) r) (idxF c (i + 1) r)
def cntF {α : Type} (c : α → Bool) : List α → Nat
  | [] => 0
  | a :: r => cond (c a) (cntF c r + 1) (cntF c r)
def isDue (due h : Nat) : Bool := cond ((h + 3).beq due) true ((h + 2).beq due)
def dueB (due : Nat) : List Nat → List Bool → List Bool
  | [], k => k
  | h :: r, k => cond ((h + 2).beq due) (true :: dueB due r k) (cond ((h + 3).beq due) (false :: dueB due r k) (dueB due r k))
def pathFrom (held : List Nat) : Nat → Nat → List Bool
  | 0, _ => []
  | n + 1, due => dueB due held (pathFrom held n (due + 1))
def pathB (held : List Nat) : List Bool := pathFrom held (mxL held + 2) 2
def leadT : List Bool → Nat
  | true :: r => leadT r + 1
  | _ => 0
def backIn (p : List Bool) (depth : Nat) : List Nat → Nat → Nat × List Nat
  | [], a => (a, [])
  | h :: r, a => cond (h.beq depth)
      (match backIn p depth r (a + 1 + leadT (p.drop (a + 1))) with | (b, g) => (b, h :: (List.replicate (leadT (p.drop (a + 1))) (depth + 1) ++ g)))
      (match backIn p depth r a with | (b, g) => (b, h :: g))
def backLoop (p : List Bool) : Nat → Nat → Nat → List Nat → Nat × List Nat
  | 0, _, a, held => (a, held)
  | n + 1, d, a, held => match backIn p d held a with | (b, g) => backLoop p n (d + 1) b g
def backB (p : List Bool) : List Nat := match backLoop p (p.length / 2) 0 (leadT p) (List.replicate (leadT p) 0) with | (a, held) => cond (a.beq p.length) held []
def checkB : Nat → List Bool → Bool
  | o, [] => o.beq 0
  | o, true :: r => checkB (o + 1) r
  | 0, false :: _ => false
  | o + 1, false :: r => checkB o r
def orderL (held : List Nat) : Nat → Nat → List Nat
  | 0, _ => []
  | n + 1, d => idxF (fun h => h.beq d) 0 held ++ orderL held n (d + 1)
def aheadN (held : List Nat) (j : Nat) : Nat := cntF (fun h => h.beq (held.getD j 0)) (held.take j)
def behindN (held : List Nat) (j : Nat) : Nat := cntF (fun h => (h + 1).beq (held.getD j 0)) (held.drop (j + 1))
def hts : Nat → List Bool → List Nat
  | _, [] => []
  | o, true :: r => o :: hts (o + 1) r
  | 0, false :: r => hts 0 r
  | o + 1, false :: r => hts o r
def sizesL (held : List Nat) : List Nat := (List.range (mxL held + 1)).map fun d => cntF (fun h => h.beq d) held
def trimR : List Nat → List Nat
  | [] => []
  | a :: r => match r with
    | [] => [a]
    | b :: _ => cond (a.beq b) (trimR r) (a :: r)
def marksL (many : Nat) : Nat → List Nat → Option (List Nat)
  | _, [] => none
  | m, s :: r => cond (many.ble (m + s)) (some [m + s]) ((marksL many (m + s) r).map ((m + s) :: ·))
def stopsL (p : List Bool) (shut : List Nat) (many : Nat) : Nat → Nat → Option (List Nat)
  | 0, _ => none
  | f + 1, place => cond (many.ble place) (some []) (match shut[place]? with
    | none => none
    | some e => (stopsL p shut many f (cntF id (p.take e))).map (cntF id (p.take e) :: ·))
def marksOf (held : List Nat) (tr : List Nat) : Option (List Nat) := marksL held.length 0 (tr.reverse ++ List.replicate 12 (tr.headD 0))
def eqL : List Nat → List Nat → Bool
  | [], [] => true
  | a :: r, b :: s => cond (a.beq b) (eqL r s) false
  | _, _ => false
def eqO : Option (List Nat) → Option (List Nat) → Bool
  | some a, some b => eqL a b
  | _, _ => false
def forceB : List Bool → (List Bool → Bool) → Bool
  | [], f => f []
  | true :: r, f => forceB r fun l => f (true :: l)
  | false :: r, f => forceB r fun l => f (false :: l)
def forceN : List Nat → (List Nat → Bool) → Bool
  | [], f => f []
  | 0 :: r, f => forceN r fun l => f (0 :: l)
  | (n + 1) :: r, f => forceN r fun l => f ((n + 1) :: l)
def law1 (held : List Nat) (p : List Bool) : Bool := eqL (backB p) held
def law2 (p : List Bool) : Bool := cond (checkB 0 p) (cond (checkB 0 (true :: p)) false (cond (checkB 0 p.reverse) false true)) false
def law3 (held : List Nat) (p : List Bool) : Bool := eqL ((orderL held (mxL held + 1) 0).map fun j => aheadN held j + behindN held j) (hts 0 p)
def law4 (held : List Nat) (p : List Bool) : Bool := forceN (trimR (sizesL held).reverse) fun tr => forceN (idxF (fun b => !b) 0 p) fun shut => eqO (stopsL p shut held.length 12 0) (marksOf held tr)
def law5 (held : List Nat) : Bool := (List.range' 2 (mxL held + 2)).all fun due => held.any (isDue due)
def lawP (held : List Nat) (p : List Bool) : Bool := cond (law1 held p) (cond (law2 p) (cond (law3 held p) (cond (law4 held p) (law5 held) false) false) false) false
def lawB (held : List Nat) : Bool := forceB (pathB held) (lawP held)

def allExt : Nat → Nat → (List Nat → Bool) → Bool
  | 0, _, P => P []
  | n + 1, h, P => P [] && (List.range (h + 2)).all fun g => allExt n g fun l => P (g :: l)
def lawT (l : List Nat) : Bool := lawB (0 :: (l ++ [1, 2, 3, 0]))
theorem q000 : allExt 3 0 (fun l => lawT (0 :: 0 :: 0 :: l)) = true := by decide +kernel
theorem q001 : allExt 3 1 (fun l => lawT (0 :: 0 :: 1 :: l)) = true := by decide +kernel
theorem q010 : allExt 3 0 (fun l => lawT (0 :: 1 :: 0 :: l)) = true := by decide +kernel
theorem q011 : allExt 3 1 (fun l => lawT (0 :: 1 :: 1 :: l)) = true := by decide +kernel
theorem q012 : allExt 3 2 (fun l => lawT (0 :: 1 :: 2 :: l)) = true := by decide +kernel
theorem q100 : allExt 3 0 (fun l => lawT (1 :: 0 :: 0 :: l)) = true := by decide +kernel
theorem q101 : allExt 3 1 (fun l => lawT (1 :: 0 :: 1 :: l)) = true := by decide +kernel
theorem q110 : allExt 3 0 (fun l => lawT (1 :: 1 :: 0 :: l)) = true := by decide +kernel
theorem q111 : allExt 3 1 (fun l => lawT (1 :: 1 :: 1 :: l)) = true := by decide +kernel
theorem q112 : allExt 3 2 (fun l => lawT (1 :: 1 :: 2 :: l)) = true := by decide +kernel
theorem q120 : allExt 3 0 (fun l => lawT (1 :: 2 :: 0 :: l)) = true := by decide +kernel
theorem q121 : allExt 3 1 (fun l => lawT (1 :: 2 :: 1 :: l)) = true := by decide +kernel
theorem q122 : allExt 3 2 (fun l => lawT (1 :: 2 :: 2 :: l)) = true := by decide +kernel
theorem q123 : allExt 3 3 (fun l => lawT (1 :: 2 :: 3 :: l)) = true := by decide +kernel
theorem qn : lawT [] = true := by decide +kernel
theorem q0 : lawT [0] = true := by decide +kernel
theorem q1 : lawT [1] = true := by decide +kernel
theorem q00 : lawT [0, 0] = true := by decide +kernel
theorem q01 : lawT [0, 1] = true := by decide +kernel
theorem q10 : lawT [1, 0] = true := by decide +kernel
theorem q11 : lawT [1, 1] = true := by decide +kernel
theorem q12 : lawT [1, 2] = true := by decide +kernel
theorem allExt_succ {n h : Nat} {P : List Nat → Bool} : allExt (n + 1) h P = (P [] && (List.range (h + 2)).all fun g => allExt n g fun l => P (g :: l)) := rfl
theorem allExt_spec : ∀ {n h : Nat} {P : List Nat → Bool} {l : List Nat}, allExt n h P = true → stepsOK h l = true → l.length ≤ n → P l = true
  | 0, _, _, [], h, _, _ => h
  | 0, _, _, _ :: _, _, _, h => by simp at h
  | n + 1, h, P, [], e, _, _ => by rw [allExt_succ, Bool.and_eq_true] at e; exact e.1
  | n + 1, h, P, g :: l, e, s, hl => by
    rw [allExt_succ, Bool.and_eq_true] at e
    have s' : (Nat.ble g (h + 1) && stepsOK g l) = true := s
    rw [Bool.and_eq_true] at s'
    have hg : g ≤ h + 1 := Nat.le_of_ble_eq_true s'.1
    exact allExt_spec (P := fun l => P (g :: l)) (List.all_eq_true.mp e.2 g (List.mem_range.mpr (by omega))) s'.2 (by simp at hl; omega)
theorem all6 : allExt 6 0 lawT = true := by
  simp only [allExt_succ (n := 5), allExt_succ (n := 4), allExt_succ (n := 3), List.all_eq_true, List.mem_range, Bool.and_eq_true]
  refine ⟨qn, fun a ha => ?_⟩
  have ha' : a = 0 ∨ a = 1 := by omega
  rcases ha' with rfl | rfl
  · refine ⟨q0, fun b hb => ?_⟩
    have hb' : b = 0 ∨ b = 1 := by omega
    rcases hb' with rfl | rfl
    · refine ⟨q00, fun c hc => ?_⟩
      have hc' : c = 0 ∨ c = 1 := by omega
      rcases hc' with rfl | rfl
      · exact q000
      · exact q001
    · refine ⟨q01, fun c hc => ?_⟩
      have hc' : c = 0 ∨ c = 1 ∨ c = 2 := by omega
      rcases hc' with rfl | rfl | rfl
      · exact q010
      · exact q011
      · exact q012
  · refine ⟨q1, fun b hb => ?_⟩
    have hb' : b = 0 ∨ b = 1 ∨ b = 2 := by omega
    rcases hb' with rfl | rfl | rfl
    · refine ⟨q10, fun c hc => ?_⟩
      have hc' : c = 0 ∨ c = 1 := by omega
      rcases hc' with rfl | rfl
      · exact q100
      · exact q101
    · refine ⟨q11, fun c hc => ?_⟩
      have hc' : c = 0 ∨ c = 1 ∨ c = 2 := by omega
      rcases hc' with rfl | rfl | rfl
      · exact q110
      · exact q111
      · exact q112
    · refine ⟨q12, fun c hc => ?_⟩
      have hc' : c = 0 ∨ c = 1 ∨ c = 2 ∨ c = 3 := by omega
      rcases hc' with rfl | rfl | rfl | rfl
      · exact q120
      · exact q121
      · exact q122
      · exact q123
theorem forceB_eq : ∀ (p : List Bool) (f : List Bool → Bool), forceB p f = f p
  | [], _ => rfl
  | true :: r, f => by rw [forceB, forceB_eq r]
  | false :: r, f => by rw [forceB, forceB_eq r]
theorem forceN_eq : ∀ (p : List Nat) (f : List Nat → Bool), forceN p f = f p
  | [], _ => rfl
  | 0 :: r, f => by rw [forceN, forceN_eq r]
  | (n + 1) :: r, f => by rw [forceN, forceN_eq r]
theorem law_all {l : List Nat} (hl : l.length ≤ 6) (hs : stepsOK 0 l = true) : lawP (0 :: (l ++ [1, 2, 3, 0])) (pathB (0 :: (l ++ [1, 2, 3, 0]))) = true := by
  rw [← forceB_eq (pathB _) (lawP _)]
  exact allExt_spec (P := lawT) all6 hs hl
end Mine

namespace Mine
open PySem PySem.W PySem.Builtin PySem.Builtin.Str PySem.StrLaws

/-! what quotedata makes of a letter -/
def up1 (L : List (Nat × Str)) : List (Nat × Str) := L.map fun p => (p.1 + 1, p.2)
theorem wireS_cons {p : Nat × Str} {L : List (Nat × Str)} : (wireS (p :: L)).cps.toList = List.replicate p.1 46 ++ (p.2.cps.toList ++ (13 :: 10 :: (wireS L).cps.toList)) := by
  show (rowS p ++ (("\r\n" : Str) ++ wireS L)).cps.toList = _
  rw [Str.cps_append, Array.toList_append, rowS_list, Str.cps_append, Array.toList_append, crlf_list, List.append_assoc]; rfl
theorem wireS_append : ∀ {L M : List (Nat × Str)}, wireS (L ++ M) = wireS L ++ wireS M
  | [], M => by
    refine str_inj ?_
    rw [Str.cps_append, Array.toList_append]; rfl
  | p :: L, M => by
    refine str_inj ?_
    rw [List.cons_append, wireS_cons, wireS_append, Str.cps_append, Array.toList_append, Str.cps_append, Array.toList_append, wireS_cons]
    simp
def RowsOK (L : List (Nat × Str)) : Prop := ∀ p ∈ L, WordOK p.2 ∧ 1 ≤ p.1
theorem RowsOK.tail {p : Nat × Str} {L : List (Nat × Str)} (h : RowsOK (p :: L)) : RowsOK L := fun q hq => h q (List.mem_cons_of_mem _ hq)
theorem no_nl {p : Nat × Str} (h : WordOK p.2) {m : Nat} : ∀ c ∈ List.replicate m 46 ++ p.2.cps.toList, isNl c = false := by
  intro c hc
  rcases List.mem_append.mp hc with hc | hc
  · rw [List.eq_of_mem_replicate hc]; rfl
  · unfold isNl
    rw [Bool.or_eq_false_iff]
    exact ⟨beq_eq_false_iff_ne.mpr fun e => h.lf (e ▸ hc), beq_eq_false_iff_ne.mpr fun e => h.cr (e ▸ hc)⟩
theorem crlf_wire : ∀ {L : List (Nat × Str)}, RowsOK L → crlf (wireS L).cps.toList = (wireS L).cps.toList
  | [], _ => rfl
  | p :: L, h => by
    rw [wireS_cons, ← List.append_assoc, crlf_skip _ (no_nl (h p List.mem_cons_self).1)]
    show _ ++ (if (13 : Nat) = 13 ∧ (10 : Nat) = 10 then 13 :: 10 :: crlf _ else _) = _
    rw [if_pos ⟨rfl, rfl⟩, crlf_wire h.tail]
theorem dotq_skip0 : ∀ {l r : List Nat}, (∀ c ∈ l, isNl c = false) → dotq false (l ++ r) = l ++ dotq false r
  | [], _, _ => rfl
  | c :: l, r, h => by
    have hc := h c List.mem_cons_self
    have h10 : (c == 10) = false := by
      unfold isNl at hc
      rw [Bool.or_eq_false_iff] at hc; exact hc.1
    show (if (false && c == 46) = true then [46, 46] else [c]) ++ dotq (c == 10) (l ++ r) = _
    rw [h10, dotq_skip0 fun d hd => h d (List.mem_cons_of_mem _ hd)]; rfl
theorem dotq_wire : ∀ {L : List (Nat × Str)}, RowsOK L → dotq true (wireS L).cps.toList = (wireS (up1 L)).cps.toList
  | [], _ => rfl
  | p :: L, h => by
    obtain ⟨h1, h2⟩ := h p List.mem_cons_self
    obtain ⟨m, hm⟩ : ∃ m, p.1 = m + 1 := ⟨p.1 - 1, by omega⟩
    show _ = (wireS ((p.1 + 1, p.2) :: up1 L)).cps.toList
    rw [wireS_cons, wireS_cons, hm, List.replicate_succ, List.cons_append]
    show [46, 46] ++ dotq false (List.replicate m 46 ++ (p.2.cps.toList ++ (13 :: 10 :: (wireS L).cps.toList))) = _
    rw [← List.append_assoc (List.replicate m 46), dotq_skip0 (no_nl h1)]
    show [46, 46] ++ (_ ++ (13 :: 10 :: dotq true (wireS L).cps.toList)) = _
    rw [dotq_wire h.tail, List.replicate_succ, List.replicate_succ]
    simp
theorem quote_wire {L : List (Nat × Str)} (h : RowsOK L) : quoteS (wireS L) = wireS (up1 L) := by
  refine str_inj ?_
  show dotq true (crlf (wireS L).cps.toList) = _
  rw [crlf_wire h, dotq_wire h]
inductive IsEol : Str → Prop
  | lf : IsEol "\n"
  | cr : IsEol "\r"
  | both : IsEol "\r\n"
theorem crlf_eol {e : Str} (h : IsEol e) {r : List Nat} (hr : ∀ r', r ≠ 10 :: r') : crlf (e.cps.toList ++ r) = 13 :: 10 :: crlf r := by
  cases h with
  | lf => 
    rw [show ("\n" : Str).cps.toList = [10] from by decide +kernel]
    show crlf (10 :: r) = _
    rw [crlf_cons (fun x => by cases x.1)]; rfl
  | cr =>
    rw [show ("\r" : Str).cps.toList = [13] from by decide +kernel]
    show crlf (13 :: r) = _
    rw [crlf_cons (fun x => let ⟨r', e⟩ := x.2; hr r' e)]; rfl
  | both =>
    rw [crlf_list]
    show (if (13 : Nat) = 13 ∧ (10 : Nat) = 10 then 13 :: 10 :: crlf r else _) = _
    rw [if_pos ⟨rfl, rfl⟩]
theorem wire_head {L : List (Nat × Str)} (h : RowsOK L) : ∀ r', (wireS L).cps.toList ≠ 10 :: r' := by
  intro r' e
  cases L with
  | nil => cases e
  | cons p L =>
    obtain ⟨m, hm⟩ : ∃ m, p.1 = m + 1 := ⟨p.1 - 1, by have := (h p List.mem_cons_self).2; omega⟩
    rw [wireS_cons, hm, List.replicate_succ, List.cons_append] at e
    cases e
/-- a letter is sent -/
theorem quote_letter {x e : Str} {L : List (Nat × Str)} (hx : WordOK x) (he : IsEol e) (h : RowsOK L) : quoteS (((("." : Str) ++ x) ++ e) ++ wireS L) = wireS ((2, x) :: up1 L) := by
  have key : crlf (((("." : Str) ++ x) ++ e) ++ wireS L).cps.toList = (wireS ((1, x) :: L)).cps.toList := by
    rw [wireS_cons]
    simp only [Str.cps_append, Array.toList_append, List.append_assoc]
    rw [show ("." : Str).cps.toList = List.replicate 1 46 from by decide +kernel, ← List.append_assoc, crlf_skip _ (no_nl (p := (1, x)) hx), crlf_eol he (wire_head h), crlf_wire h, List.append_assoc]
  refine str_inj ?_
  show dotq true (crlf _) = _
  rw [key]
  have : RowsOK ((1, x) :: L) := fun p hp => by
    rcases List.mem_cons.mp hp with rfl | hp
    · exact ⟨hx, Nat.le_refl 1⟩
    · exact h p hp
  exact dotq_wire this
theorem crlf_len : ∀ (l : List Nat), (crlf l).length ≤ 2 * l.length
  | [] => Nat.le_refl _
  | [c] => by
    show (if isNl c = true then [13, 10] else [c]).length ≤ 2
    split <;> simp
  | c :: d :: r => by
    show (if c = 13 ∧ d = 10 then 13 :: 10 :: crlf r else (if isNl c = true then [13, 10] else [c]) ++ crlf (d :: r)).length ≤ _
    split
    · have := crlf_len r
      simp; omega
    · have := crlf_len (d :: r)
      rw [List.length_append]
      have h2 : (if isNl c = true then [13, 10] else [c]).length ≤ 2 := by split <;> simp
      simp at this ⊢; omega
theorem dotq_len : ∀ (b : Bool) (l : List Nat), (dotq b l).length ≤ 2 * l.length
  | _, [] => Nat.le_refl _
  | b, c :: r => by
    show ((if (b && c == 46) = true then [46, 46] else [c]) ++ dotq (c == 10) r).length ≤ _
    have := dotq_len (c == 10) r
    have h2 : (if (b && c == 46) = true then [46, 46] else [c]).length ≤ 2 := by split <;> simp
    rw [List.length_append, List.length_cons]; omega
theorem quote_sizes {x : Str} {n : Nat} (h : x.length ≤ n) : (crlfS x).length ≤ 2 * n ∧ (quoteS x).length ≤ 4 * n := by
  have h1 := crlf_len x.cps.toList
  have h2 := dotq_len true (crlf x.cps.toList)
  have e0 : x.cps.toList.length = x.length := by simp [Str.length]
  have e1 : (crlfS x).length = (crlf x.cps.toList).length := by simp [crlfS, Str.length]
  have e2 : (quoteS x).length = (dotq true (crlf x.cps.toList)).length := by simp [quoteS, dotS, crlfS, Str.length]
  omega
theorem quote_call {k : Nat} {x : Str} (hx : x.length ≤ 100000) : OpN (k + 1) [.str x] (fun vs => PySem.call (.ref 91) vs) (.str (quoteS x)) := by
  obtain ⟨h1, h2⟩ := quote_sizes hx
  have hs : sizeLine = 2 ^ 24 := rfl
  have a1 : x.length ≤ sizeLine := by omega
  have a2 : (crlfS x).length ≤ sizeLine := by omega
  have a3 : (quoteS x).length ≤ sizeLine := by omega
  exact @quotedata_call k x a1 a2 a3

/-! the pile -/
abbrev Seg := Nat × List (Nat × Str)
def poured : List Seg → List (Nat × Str)
  | [] => []
  | s :: pl => s.2 ++ poured pl
def popRows (h : Nat) : List Seg → List (Nat × Str)
  | [] => []
  | s :: pl => if h < s.1 then s.2 ++ popRows h pl else []
def popRest (h : Nat) : List Seg → List Seg
  | [] => []
  | s :: pl => if h < s.1 then popRest h pl else s :: pl
def pileOf : Nat → List Nat → List Seg
  | _, [] => []
  | i, h :: r => (h, (2, wordN i) :: up1 (popRows h (pileOf (i + 1) r))) :: popRest h (pileOf (i + 1) r)
def rowsFrom : Nat → List Nat → List (Nat × Str)
  | _, [] => []
  | i, h :: r => (h + 2, wordN i) :: rowsFrom (i + 1) r
def sh (h : Nat) (L : List (Nat × Str)) : List (Nat × Str) := L.map fun p => (p.1 + h, p.2)
theorem sh_zero {L : List (Nat × Str)} : sh 0 L = L := by simp [sh]
def flat : List Seg → List (Nat × Str)
  | [] => []
  | s :: pl => sh s.1 s.2 ++ flat pl
/-- heads go down -/
def Down : Nat → List Seg → Prop
  | _, [] => True
  | m, s :: pl => s.1 ≤ m ∧ Down s.1 pl
theorem Down.le {m n : Nat} (h : m ≤ n) : ∀ {pl : List Seg}, Down m pl → Down n pl
  | [], _ => trivial
  | s :: pl, ⟨a, b⟩ => ⟨Nat.le_trans a h, b⟩
theorem pop_flat {h : Nat} : ∀ {pl : List Seg}, Down (h + 1) pl → sh h (up1 (popRows h pl)) ++ flat (popRest h pl) = flat pl ∧ Down h (popRest h pl)
  | [], _ => ⟨rfl, trivial⟩
  | s :: pl, ⟨a, b⟩ => by
    unfold popRows popRest
    by_cases q : h < s.1
    · have e : s.1 = h + 1 := by omega
      rw [if_pos q, if_pos q]
      obtain ⟨x, y⟩ := pop_flat (h := h) (pl := pl) (e ▸ b)
      refine ⟨?_, y⟩
      show _ = sh s.1 s.2 ++ flat pl
      rw [← x, e]
      simp [sh, up1, Nat.add_assoc, Nat.add_comm 1 h]
    · rw [if_neg q, if_neg q]
      exact ⟨rfl, by omega, b⟩
theorem pile_flat : ∀ {h : Nat} {r : List Nat} {i : Nat}, stepsOK h r = true → flat (pileOf i (h :: r)) = rowsFrom i (h :: r) ∧ Down h (pileOf i (h :: r))
  | h, [], i, _ => ⟨by simp [pileOf, flat, popRows, popRest, rowsFrom, sh, up1]; omega, ⟨Nat.le_refl _, trivial⟩⟩
  | h, g :: r, i, hs => by
    have s' : (Nat.ble g (h + 1) && stepsOK g r) = true := hs
    rw [Bool.and_eq_true] at s'
    obtain ⟨x, y⟩ := pile_flat (i := i + 1) s'.2
    obtain ⟨z, t⟩ := pop_flat (y.le (Nat.le_of_ble_eq_true s'.1))
    rw [show pileOf i (h :: g :: r) = (h, (2, wordN i) :: up1 (popRows h (pileOf (i + 1) (g :: r)))) :: popRest h (pileOf (i + 1) (g :: r)) from rfl]
    refine ⟨?_, Nat.le_refl _, t⟩
    rw [show rowsFrom i (h :: g :: r) = (h + 2, wordN i) :: rowsFrom (i + 1) (g :: r) from rfl, ← x, ← z]
    show sh h ((2, wordN i) :: _) ++ _ = _
    simp [sh, Nat.add_comm]
theorem down_zero : ∀ {pl : List Seg}, Down 0 pl → poured pl = flat pl
  | [], _ => rfl
  | s :: pl, ⟨a, b⟩ => by
    have e : s.1 = 0 := by omega
    show s.2 ++ poured pl = sh s.1 s.2 ++ flat pl
    rw [e, sh_zero, down_zero (e ▸ b)]
theorem pile_poured {r : List Nat} {i : Nat} (hs : stepsOK 0 r = true) : poured (pileOf i (0 :: r)) = rowsFrom i (0 :: r) := by
  obtain ⟨x, y⟩ := pile_flat (i := i) hs
  rw [down_zero y, x]
end Mine

namespace Mine
open PySem PySem.W PySem.Builtin PySem.Builtin.Str PySem.StrLaws

/-! flags as sums -/
def Asc : Nat → List Nat → Prop
  | _, [] => True
  | i, e :: r => i ≤ e ∧ Asc (e + 1) r
theorem Asc.le {i j : Nat} (h : i ≤ j) : ∀ {es : List Nat}, Asc j es → Asc i es
  | [], _ => trivial
  | e :: r, ⟨a, b⟩ => ⟨Nat.le_trans h a, b⟩
def bsum (i : Nat) : List Nat → Nat
  | [] => 0
  | e :: r => 2 ^ (e - i) + bsum i r
theorem bsum_two {i : Nat} : ∀ {es : List Nat}, Asc (i + 1) es → bsum i es = 2 * bsum (i + 1) es
  | [], _ => rfl
  | e :: r, ⟨a, b⟩ => by
    show 2 ^ (e - i) + bsum i r = 2 * (2 ^ (e - (i + 1)) + bsum (i + 1) r)
    rw [bsum_two (b.le (by omega)), show e - i = (e - (i + 1)) + 1 from by omega, Nat.pow_succ]; omega
theorem bits_are : ∀ (n i : Nat) (es : List Nat), Asc i es → (∀ e ∈ es, e < i + n) → wordsR n i (bsum i es) = es.map wordN
  | n, i, [], _, _ => wordsR_zero
  | 0, i, e :: r, h, hm => by
    have := hm e List.mem_cons_self
    have := h.1
    omega
  | n + 1, i, e :: r, ⟨a, b⟩, hm => by
    have hm' : ∀ x ∈ r, x < i + 1 + n := fun x hx => by have := hm x (List.mem_cons_of_mem _ hx); omega
    by_cases q : e = i
    · subst q
      have e1 : bsum e (e :: r) = 1 + 2 * bsum (e + 1) r := by
        show 2 ^ (e - e) + bsum e r = _
        rw [bsum_two b, Nat.sub_self, Nat.pow_zero]
      rw [e1, wordsR, if_pos (by omega), show (1 + 2 * bsum (e + 1) r) / 2 = bsum (e + 1) r from by omega, bits_are n (e + 1) r b hm']; rfl
    · have ha : Asc (i + 1) (e :: r) := ⟨by omega, b⟩
      rw [bsum_two ha, wordsR, if_neg (by omega), show 2 * bsum (i + 1) (e :: r) / 2 = bsum (i + 1) (e :: r) from by omega]
      exact bits_are n (i + 1) (e :: r) ha fun x hx => by have := hm x hx; omega
theorem bsum_lt : ∀ (n i : Nat) (es : List Nat), Asc i es → (∀ e ∈ es, e < i + n) → bsum i es < 2 ^ n
  | n, i, [], _, _ => Nat.two_pow_pos n
  | 0, i, e :: r, h, hm => by
    have := hm e List.mem_cons_self
    have := h.1
    omega
  | n + 1, i, e :: r, ⟨a, b⟩, hm => by
    have hm' : ∀ x ∈ r, x < i + 1 + n := fun x hx => by have := hm x (List.mem_cons_of_mem _ hx); omega
    have hp : 2 ^ (n + 1) = 2 * 2 ^ n := by rw [Nat.pow_succ]; omega
    by_cases q : e = i
    · subst q
      have e1 : bsum e (e :: r) = 1 + 2 * bsum (e + 1) r := by
        show 2 ^ (e - e) + bsum e r = _
        rw [bsum_two b, Nat.sub_self, Nat.pow_zero]
      have := bsum_lt n (e + 1) r b hm'
      omega
    · have ha : Asc (i + 1) (e :: r) := ⟨by omega, b⟩
      rw [bsum_two ha]
      have := bsum_lt n (i + 1) (e :: r) ha fun x hx => by have := hm x hx; omega
      omega
theorem bsum_pos {i : Nat} {es : List Nat} (h : es ≠ []) : bsum i es ≠ 0 := by
  cases es with
  | nil => exact absurd rfl h
  | cons e r =>
    show 2 ^ (e - i) + bsum i r ≠ 0
    have := Nat.two_pow_pos (e - i)
    omega
theorem pretty_bits {es : List Nat} (h : Asc 0 es) (hm : ∀ e ∈ es, e < 32) : prettyF (bsum 0 es) = Txt.join ", " (es.map wordN) := by
  unfold prettyF
  rw [bits_are 32 0 es h (by simpa using hm)]
theorem join_glued {sep : Str} {l : List Str} : Txt.join sep l = Str.join sep l := glued_eq_join sep l
theorem bits_call {k : Nat} {es : List Nat} (hne : es ≠ []) (h : Asc 0 es) (hm : ∀ e ∈ es, e < 32) : OpN (k + 1) [.int (bsum 0 es)] (fun vs => PySem.call (.ref 60) vs) (.str (Txt.join ", " (es.map wordN))) := by
  rw [← pretty_bits h hm]
  have a1 := bsum_pos (i := 0) hne
  have a2 := bsum_lt 32 0 es h (by simpa using hm)
  exact @pretty_call k (bsum 0 es) a1 a2
theorem flag_call {k : Nat} {j : Nat} (hj : j < 32) : OpN (k + 1) [.int ((2 ^ j : Nat) : Int)] (fun vs => PySem.call (.ref 60) vs) (.str (wordN j)) := by
  have := @bits_call k [j] (by simp) ⟨Nat.zero_le _, trivial⟩ (by simpa using hj)
  rw [show bsum 0 [j] = 2 ^ j from by simp [bsum], join_glued] at this
  exact @this

/-! the pile, its sizes -/
structure PourOK (L : List (Nat × Str)) : Prop where
  len : L.length ≤ 11
  ok : ∀ p ∈ L, WordOK p.2 ∧ 1 ≤ p.1 ∧ p.1 ≤ 30
theorem PourOK.rows {L : List (Nat × Str)} (h : PourOK L) : RowsOK L := fun p hp => ⟨(h.ok p hp).1, (h.ok p hp).2.1⟩
theorem PourOK.lok {L : List (Nat × Str)} (h : PourOK L) : LOK L := ⟨h.len, fun p hp => ⟨(h.ok p hp).1, (h.ok p hp).2.2⟩⟩
theorem PourOK.size {L : List (Nat × Str)} (h : PourOK L) : (wireS L).length ≤ 600 := by
  have := wire_len h.lok.ok
  have := h.len
  omega
theorem pop_pour {h : Nat} : ∀ {pl : List Seg}, popRows h pl ++ poured (popRest h pl) = poured pl
  | [] => rfl
  | s :: pl => by
    unfold popRows popRest
    split
    · show (s.2 ++ popRows h pl) ++ _ = s.2 ++ poured pl
      rw [List.append_assoc, pop_pour]
    · rfl
theorem pour_ok : ∀ {r : List Nat} {i : Nat}, i + r.length ≤ 32 → (poured (pileOf i r)).length = r.length ∧ ∀ p ∈ poured (pileOf i r), WordOK p.2 ∧ 1 ≤ p.1 ∧ p.1 ≤ r.length + 1
  | [], _, _ => ⟨rfl, fun p hp => nomatch hp⟩
  | h :: r, i, hl => by
    rw [List.length_cons] at hl
    obtain ⟨e, x⟩ := pour_ok (r := r) (i := i + 1) (by omega)
    have pp := pop_pour (h := h) (pl := pileOf (i + 1) r)
    rw [show poured (pileOf i (h :: r)) = ((2, wordN i) :: up1 (popRows h (pileOf (i + 1) r))) ++ poured (popRest h (pileOf (i + 1) r)) from rfl]
    refine ⟨?_, fun p hp => ?_⟩
    · rw [← pp] at e
      rw [List.length_append] at e
      simp [up1]; omega
    · rw [List.cons_append] at hp
      rcases List.mem_cons.mp hp with rfl | hp
      · exact ⟨word_ok i (by omega), Nat.le_succ 1, by simp⟩
      · rcases List.mem_append.mp hp with hp | hp
        · obtain ⟨q, hq, rfl⟩ := List.mem_map.mp hp
          obtain ⟨a, b, c⟩ := x q (by rw [← pp]; exact List.mem_append_left _ hq)
          exact ⟨a, by simp, by simp; omega⟩
        · obtain ⟨a, b, c⟩ := x p (by rw [← pp]; exact List.mem_append_right _ hp)
          exact ⟨a, b, by simp; omega⟩
theorem pile_pok {r : List Nat} {i : Nat} (h1 : r.length ≤ 11) (h2 : i + r.length ≤ 32) : PourOK (poured (pileOf i r)) := by
  obtain ⟨e, x⟩ := pour_ok h2
  exact ⟨by omega, fun p hp => let ⟨a, b, c⟩ := x p hp; ⟨a, b, by omega⟩⟩
theorem pile_len : ∀ {r : List Nat} {i : Nat}, (pileOf i r).length ≤ r.length
  | [], _ => Nat.le_refl _
  | h :: r, i => by
    have : ∀ pl : List Seg, (popRest h pl).length ≤ pl.length := fun pl => by
      induction pl with
      | nil => exact Nat.le_refl _
      | cons s pl ih =>
        unfold popRest
        split
        · exact Nat.le_succ_of_le ih
        · exact Nat.le_refl _
    have a := this (pileOf (i + 1) r)
    have b := pile_len (r := r) (i := i + 1)
    show (_ :: popRest h (pileOf (i + 1) r)).length ≤ _
    rw [List.length_cons, List.length_cons]; omega
end Mine

namespace Mine
open PySem PySem.W PySem.Builtin PySem.Builtin.Str PySem.StrLaws

abbrev nL (l : List Nat) : List PV := l.map fun n : Nat => PV.int (n : Int)
theorem nL_iL (l : List Nat) : nL l = iL (l.map fun n : Nat => (n : Int)) := by simp [nL, iL]
theorem nL_frozen (l : List Nat) : PV.frozens (nL l) = true := by rw [nL_iL]; exact ints_frozen _
theorem nL_len (l : List Nat) : (nL l).length = l.length := by simp [nL]
theorem nL_get {l : List Nat} {i v : Nat} (h : l[i]? = some v) : (nL l)[i]? = some (.int (v : Int)) := by rw [List.getElem?_map, h]; rfl
theorem lenL_call {k : Nat} {l : List PV} (h : l.length ≤ 1000) : OpN k [.list l] (fun vs => PySem.call (.builtin "len") vs) (.int l.length) := OpN.of1 (f := fun vs => PySem.call (.builtin "len") vs) (Op1.lenL (by have : sizeLine = 2 ^ 24 := rfl; omega))
def segP (s : Seg) : PV := .tup [.int (s.1 : Int), .str (wireS s.2)]
def pileP (pl : List Seg) : List PV := pl.reverse.map segP
theorem pileP_cons {s : Seg} {pl : List Seg} : pileP (s :: pl) = pileP pl ++ [segP s] := by simp [pileP]
theorem pileP_len {pl : List Seg} : (pileP pl).length = pl.length := by simp [pileP]
def wlV (held : List Nat) (low i : Nat) (acc : List (Nat × Str)) (pl : List Seg) : Vars := [("inner", .val (.str (wireS acc))), ("i", .val (.int i)), ("held", .val (.list (nL held))), ("low", .val (.int low)), ("pile", .own (pileP pl))]
def wV (held : List Nat) (low : Nat) (pl : List Seg) : Vars := [("held", .val (.list (nL held))), ("low", .val (.int low)), ("pile", .own (pileP pl))]

theorem wl_loop {k : Nat} {sc : Scope} {g : Bool} {test : PySem.Expr} {body orelse : List Stmt} {held : List Nat} {low i hi : Nat} (h0 : ∀ acc, TstG g k sc (wlV held low i acc []) test false) (hF : ∀ acc s pl, (s :: pl).length ≤ 11 → ¬ hi < s.1 → TstG g k sc (wlV held low i acc (s :: pl)) test false)
    (hT : ∀ acc s pl, (s :: pl).length ≤ 11 → hi < s.1 → TstG g k sc (wlV held low i acc (s :: pl)) test true) (hb : ∀ acc s pl, (s :: pl).length ≤ 11 → PourOK (acc ++ poured (s :: pl)) → Ex g k sc (wlV held low i acc (s :: pl)) body (.next (wlV held low i (acc ++ s.2) pl)))
    (ho : ∀ ρ, Ex g k sc ρ orelse (.next ρ)) : ∀ (pl : List Seg) (acc : List (Nat × Str)), pl.length ≤ 11 → PourOK (acc ++ poured pl) → WLoop g k sc test body orelse pl.length (wlV held low i acc pl) (.next (wlV held low i (acc ++ popRows hi pl) (popRest hi pl)))
  | [], acc, _, _ => by
    rw [show acc ++ popRows hi [] = acc from List.append_nil _]
    exact .stop (h0 acc) (ho _)
  | s :: pl, acc, hl, hp => by
    by_cases q : hi < s.1
    · rw [show popRows hi (s :: pl) = s.2 ++ popRows hi pl from if_pos q, show popRest hi (s :: pl) = popRest hi pl from if_pos q, ← List.append_assoc]
      refine .next (hT acc s pl hl q) (hb acc s pl hl hp) (wl_loop h0 hF hT hb ho pl (acc ++ s.2) (by simp at hl; omega) ?_)
      rw [List.append_assoc]; exact hp
    · rw [show popRows hi (s :: pl) = [] from if_neg q, show popRest hi (s :: pl) = s :: pl from if_neg q, List.append_nil]
      exact .stop (hF acc s pl hl q) (ho _)

theorem wl_loop0 {k : Nat} {sc : Scope} {g : Bool} {test : PySem.Expr} {body orelse : List Stmt} {held : List Nat} {low i hi : Nat} (pl : List Seg) (hl : pl.length ≤ 11) (hp : PourOK (poured pl)) (h0 : ∀ acc, TstG g k sc (wlV held low i acc []) test false) (hF : ∀ acc s pl, (s :: pl).length ≤ 11 → ¬ hi < s.1 → TstG g k sc (wlV held low i acc (s :: pl)) test false)
    (hT : ∀ acc s pl, (s :: pl).length ≤ 11 → hi < s.1 → TstG g k sc (wlV held low i acc (s :: pl)) test true) (hb : ∀ acc s pl, (s :: pl).length ≤ 11 → PourOK (acc ++ poured (s :: pl)) → Ex g k sc (wlV held low i acc (s :: pl)) body (.next (wlV held low i (acc ++ s.2) pl)))
    (ho : ∀ ρ, Ex g k sc ρ orelse (.next ρ)) : WLoop g k sc test body orelse pl.length (wlV held low i [] pl) (.next (wlV held low i (popRows hi pl) (popRest hi pl))) := by
  have := wl_loop h0 hF hT hb ho pl [] hl (by rw [List.nil_append]; exact hp)
  rwa [List.nil_append] at this
def downItems (n : Nat) : List PV := (List.range n).reverse.map fun j : Nat => PV.int (j : Int)
theorem downItems_succ {n : Nat} : downItems (n + 1) = .int (n : Int) :: downItems n := by simp [downItems, List.range_succ]
theorem down_range (n : Nat) : rangeP ((n : Int) - 1) (-1) n = downItems n := by
  unfold rangeP downItems
  apply List.ext_getElem
  · simp
  · intro i h1 h2
    simp at h1 h2 ⊢
    omega
theorem wf_loop {k : Nat} {sc : Scope} {g : Bool} {tgt : PySem.Expr} {body orelse : List Stmt} {held : List Nat} {low : Nat} (hA : ∀ (p : PV) (ρ : Vars), p.frozen = true → Asg sc tgt false p ρ (("i", .val p) :: ρ))
    (hb : ∀ (j h : Nat), held[j]? = some h → Ex g k sc (("i", .val (.int (j : Int))) :: wV held low (pileOf (low + j + 1) (held.drop (j + 1)))) body (.next (wV held low (pileOf (low + j) (held.drop j))))) (ho : ∀ ρ, Ex g k sc ρ orelse (.next ρ)) :
    ∀ n, n ≤ held.length → Loop g k sc tgt false body orelse (downItems n) (wV held low (pileOf (low + n) (held.drop n))) (.next (wV held low (pileOf low held)))
  | 0, _ => .done (ho _)
  | n + 1, hn => by
    rw [downItems_succ]
    exact .next (hA _ _ rfl) (hb n _ (List.getElem?_eq_getElem (by omega))) (wf_loop hA hb ho n (by omega))

theorem seg_run {k : Nat} {sc : Scope} {ρ : Vars} {x y : Str} {xp yp tp ep : Pos} {x1 : Nat} (hx : sc.names.lookup x = some .local) (hy : sc.names.lookup y = some .local) (hdy : (y == ("__debug__" : Str)) = false) (hxy : (x == y) = false) (h1 : ρ.lookup x = Option.none) (h2 : ρ.lookup y = Option.none) : ∀ {pl : List Seg},
    CRun k sc (.Tuple [.Name x xp, .Name y yp] x1 tp) true [] (.Name y ep) (pl.map segP) ρ (sL (pl.map fun s => wireS s.2)) ρ
  | [] => .nil
  | s :: pl => by
    refine .emit (ρ₂ := ρ) (AsgL.pair hx hy rfl rfl) .nil (Ev.name (p := .str (wireS s.2)) ?_ hdy) rfl ?_ (seg_run hx hy hdy hxy h1 h2)
    · rw [List.lookup_cons, beq_self_eq_true]
    · exact Sub.trans (Sub.skip h1) (Sub.skip (by
        rw [List.lookup_cons]
        have : (y == x) = false := by rw [beq_eq_false_iff_ne] at hxy ⊢; exact Ne.symm hxy
        rw [this]; exact h2))
theorem poured_wire : ∀ pl : List Seg, Txt.join "" (pl.map fun s => wireS s.2) = wireS (poured pl) := by
  intro pl
  refine str_inj ?_
  rw [join_flat]
  induction pl with
  | nil => rfl
  | cons s pl ih =>
    show (wireS s.2).cps.toList ++ _ = (wireS (s.2 ++ poured pl)).cps.toList
    rw [wireS_append, Str.cps_append, Array.toList_append, ← ih]
theorem range_ok : ∀ n : Nat, n < 12 → Builtin.divisionGoesByPylong (-1 - ((n : Int) - 1)) (-1) = false ∧ Builtin.Range.small ((n : Int) - 1) (-1) (-1) = true ∧ Builtin.Range.rangeSize ((n : Int) - 1) (-1) (-1) = n := by decide +kernel
def eolOf (m : Int) : Str := if m = 0 then "\n" else if m = 1 then "\r" else "\r\n"
theorem eol_get {m : Int} (h0 : 0 ≤ m) (h3 : m < 3) : ([.str "\n", .str "\r", .str "\r\n"] : List PV)[m.toNat]? = some (.str (eolOf m)) := by
  have : m = 0 ∨ m = 1 ∨ m = 2 := by omega
  rcases this with rfl | rfl | rfl <;> rfl
theorem eol_is (m : Int) : IsEol (eolOf m) := by
  unfold eolOf
  split
  · exact .lf
  · split
    · exact .cr
    · exact .both
theorem eol_len (m : Int) : (eolOf m).length ≤ 2 := by
  have h : ("\n" : Str).length ≤ 2 ∧ ("\r" : Str).length ≤ 2 ∧ ("\r\n" : Str).length ≤ 2 := by decide +kernel
  unfold eolOf
  split
  · exact h.1
  · split
    · exact h.2.1
    · exact h.2.2
theorem seg_frozen : ∀ pl : List Seg, PV.frozens (pl.map segP) = true
  | [] => rfl
  | s :: pl => by
    show (PV.frozen (segP s) && PV.frozens (pl.map segP)) = true
    rw [seg_frozen pl]; rfl
theorem pile_top {s : Seg} {pl : List Seg} : (pileP (s :: pl))[((-1 : Int) + (pileP (s :: pl)).length).toNat]? = some (segP s) := by
  rw [pileP_cons, List.length_append]
  have : ((-1 : Int) + ((pileP pl).length + [segP s].length : Nat)).toNat = (pileP pl).length := by simp; omega
  rw [this]; simp
theorem shl_nat (n : Nat) (i : Int) (h : i = (n : Int)) : (1 : Int) * 2 ^ i.toNat = ((2 ^ n : Nat) : Int) := by
  subst h
  rw [Int.one_mul, Int.toNat_natCast]; push_cast; rfl
theorem noFree {names : List (Str × NameKind)} {P : Str → Prop} (h : ∀ q ∈ names, q.2 ≠ NameKind.free) : ∀ n, (n, NameKind.free) ∈ names → P n := fun n hn => absurd rfl (h _ hn)
set_option maxHeartbeats 1000000
theorem wire_call {k : Nat} {held : List Nat} {low : Nat} (h1 : held.length ≤ 11) (h2 : low ≤ 20) : OpN (k + 2) [.list (nL held), .int low] (fun vs => PySem.call (.ref 103) vs) (.str (wireS (poured (pileOf low held)))) := by
  refine OpN.of_call fun {w A F s vs} R B Lv r => ?_
  refine Call.intro (fun w => ⟨_, rfl, rfl⟩) rfl (sc := ⟨_, _, _, _, _⟩) rfl rfl rfl rfl rfl rfl rfl (fun w => rfl) (names := ["held", "low"]) (ps := [.list (nL held), .int low]) ?_ rfl (by decide +kernel) ?_ (by decide +kernel) ?_ ?_ R B Lv r
  · intro vs h
    match vs, h with
    | [u, v], _ => rfl
  · intro z hz
    rcases List.mem_cons.mp hz with rfl | hz
    · exact .inl rfl
    · rw [List.mem_singleton.mp hz]
      exact .inl rfl
  · show (PV.frozens (nL held) && true) = true
    rw [nL_frozen]; rfl
  · obtain ⟨r1, r2, r3⟩ := range_ok held.length (by omega)
    refine Ex.cons (Ex1.assignOwn (.inl rfl) (fun _ _ => rfl) .nil rfl (Nat.zero_le _)) ?_
    refine Ex.cons (Ex1.sub (ρ₂ := wV held low (pileOf (low + held.length) (held.drop held.length))) ?_ (Ex1.for_ (tt := false) (ps := downItems held.length) ?_ ?_ (fun _ _ => rfl))) (ρ' := wV held low (pileOf low held)) ?_
    · rw [List.drop_length]
      exact .cons rfl (.cons rfl (.cons rfl .nil))
    · rw [← down_range]
      intro w A env h₀ F₀ own s
      refine EvIt.range3 rfl (fun _ _ => rfl) (Ev.bin (q := .int 1) (Ev.call globIs_len rfl (by decide +kernel) (.inl ⟨_, rfl⟩) (fun _ _ => rfl) (.cons (Ev.name rfl (by decide +kernel)) .nil) (lenL_call (by rw [nL_len]; omega))) Ev.int (Op2.eq Op2.subI (congrArg PV.int ?_))) (Ev.unary Ev.int Op1.negI) (Ev.unary Ev.int Op1.negI) (by decide) r1 r2 r3
      rw [nL_len]
    · refine wf_loop (fun p ρ hf => Asg.name (.inl rfl) hf) ?_ (fun ρ => Ex.nil) _ (Nat.le_refl _)
      intro j h hj
      have hlt : j < held.length := (List.getElem?_eq_some_iff.mp hj).1
      have hdr : held.drop j = h :: held.drop (j + 1) := by
        rw [List.drop_eq_getElem_cons hlt, (List.getElem?_eq_some_iff.mp hj).2]
      have hp0 : PourOK (poured (pileOf (low + j + 1) (held.drop (j + 1)))) := pile_pok (by rw [List.length_drop]; omega) (by rw [List.length_drop]; omega)
      have hpl0 : (pileOf (low + j + 1) (held.drop (j + 1))).length ≤ 11 := Nat.le_trans pile_len (by rw [List.length_drop]; omega)
      have hpp := pop_pour (h := h) (pl := pileOf (low + j + 1) (held.drop (j + 1)))
      have hfin : pileP (pileOf (low + j) (held.drop j)) = pileP (popRest h (pileOf (low + j + 1) (held.drop (j + 1)))) ++ [.tup [.int (h : Int), .str (wireS ((2, wordN (low + j)) :: up1 (popRows h (pileOf (low + j + 1) (held.drop (j + 1))))))]] := by
        rw [hdr]; exact pileP_cons
      unfold wV
      rw [hfin]
      generalize hplE : pileOf (low + j + 1) (held.drop (j + 1)) = pl at hp0 hpl0 hpp ⊢
      have hrows : PourOK (popRows h pl) := ⟨by have := hp0.len; rw [← hpp, List.length_append] at this; omega, fun p hp => hp0.ok p (by rw [← hpp]; exact List.mem_append_left _ hp)⟩
      have hw := word_ok (low + j) (by omega)
      have hs : sizeLine = 2 ^ 24 := rfl
      have hdot : ("." : Str).length = 1 := by decide +kernel
      have hwl := hw.len
      have hel := eol_len ((((low : Int) + (j : Int))).fmod 3)
      have hm0 : 0 ≤ ((low : Int) + (j : Int)).fmod 3 := Int.fmod_nonneg_of_pos _ (by decide)
      have hm3 : ((low : Int) + (j : Int)).fmod 3 < 3 := Int.fmod_lt_of_pos _ (by decide)
      have hrl := hrows.size
      intro w A env h₀ F₀ own s
      refine Ex.cons (Ex1.assign (.inl rfl) (fun _ => rfl) (p := .str (wireS [])) (Ev.eq (p := .str "") Ev.str (congrArg PV.str (by decide +kernel))) rfl) ?_
      refine Ex.cons (ρ' := wlV held low j (popRows h pl) (popRest h pl)) (Ex1.while_ (n := pl.length) ?_) ?_
      · refine wl_loop0 pl hpl0 hp0 ?_ ?_ ?_ ?_ ?_
        · intro acc
          exact Tst.g <| Tst.and_f (Tst.cmp (Ev.nameO rfl (by decide +kernel)) (Ev.list (fun _ _ => rfl) .nil (Nat.zero_le _)) (Op2.eq Op2.neNil (congrArg PV.bool (show (!(pileP []).isEmpty) = false from rfl))) rfl)
        · intro acc s pl hl hq
          refine Tst.g <| Tst.and_t (Tst.cmp (Ev.nameO rfl (by decide +kernel)) (Ev.list (fun _ _ => rfl) .nil (Nat.zero_le _)) (Op2.eq Op2.neNil (congrArg PV.bool ?_)) rfl) (Tst.and_f (Tst.cmp (Ev.sub getT_tuple rfl (Ev.sub getT_list rfl (Ev.nameO rfl (by decide +kernel)) (Ev.unary Ev.int Op1.negI) (Op2.getOn (i := -1) (by decide) ?_ (by decide) pile_top) (fun _ _ => ⟨_, rfl⟩)) Ev.int (Op2.getT (i := 0) (j := 0) (by decide) (by decide) rfl rfl) (fun _ _ => ⟨_, rfl⟩)) (Ev.sub getT_list rfl (Ev.name rfl (by decide +kernel)) (Ev.name rfl (by decide +kernel)) (Op2.getL (i := (j : Int)) (by omega) (by omega) (nL_get hj)) (fun _ _ => ⟨_, rfl⟩)) (Op2.eq Op2.gtI (congrArg PV.bool ?_)) rfl))
          · rw [pileP_cons]; simp
          · rw [pileP_len, List.length_cons]; omega
          · exact decide_eq_false (by omega)
        · intro acc s pl hl hq
          refine Tst.g <| Tst.and_t (Tst.cmp (Ev.nameO rfl (by decide +kernel)) (Ev.list (fun _ _ => rfl) .nil (Nat.zero_le _)) (Op2.eq Op2.neNil (congrArg PV.bool ?_)) rfl) (Tst.and_t (Tst.cmp (Ev.sub getT_tuple rfl (Ev.sub getT_list rfl (Ev.nameO rfl (by decide +kernel)) (Ev.unary Ev.int Op1.negI) (Op2.getOn (i := -1) (by decide) ?_ (by decide) pile_top) (fun _ _ => ⟨_, rfl⟩)) Ev.int (Op2.getT (i := 0) (j := 0) (by decide) (by decide) rfl rfl) (fun _ _ => ⟨_, rfl⟩)) (Ev.sub getT_list rfl (Ev.name rfl (by decide +kernel)) (Ev.name rfl (by decide +kernel)) (Op2.getL (i := (j : Int)) (by omega) (by omega) (nL_get hj)) (fun _ _ => ⟨_, rfl⟩)) (Op2.eq Op2.gtI (congrArg PV.bool ?_)) rfl) Tst.and_nil)
          · rw [pileP_cons]; simp
          · rw [pileP_len, List.length_cons]; omega
          · exact decide_eq_true (by omega)
        · intro acc s pl hl hp
          refine Ex.post (ρ := ("inner", .val (.str (wireS acc ++ wireS s.2))) :: ("pile", .own (pileP pl)) :: wlV held low j acc (s :: pl)) ?_ (Ex.one (Ex1.augPop (p := .str (wireS acc)) (l := pileP pl) (ts := [.int (s.1 : Int), .str (wireS s.2)]) (i := .int 1) (.inl rfl) (by decide +kernel) rfl ?_ (by decide +kernel) (fun _ => rfl) (by decide +kernel) ?_ Ev.int (Op2.getT (i := 1) (j := 1) (by decide) (by decide) rfl rfl) (fun _ _ => ⟨_, rfl⟩) (Op2.iaddS ?_) rfl))
          · rw [← wireS_append]
            exact .cons rfl (.cons rfl (.cons rfl (.cons rfl (.cons rfl .nil))))
          · show some (VE.own (pileP (s :: pl))) = _
            rw [pileP_cons]; rfl
          · rw [List.length_append, pileP_len]
            simp at hl ⊢; omega
          · have e1 := hp.size
            rw [wireS_append, Str.length_append] at e1
            rw [show poured (s :: pl) = s.2 ++ poured pl from rfl, wireS_append, Str.length_append] at e1
            omega
        · exact fun ρ => Ex.nil
      · refine Ex.cons (Ex1.assign (.inl rfl) (fun _ => rfl) (p := .str ((("." : Str) ++ wordN (low + j)) ++ eolOf (((low : Int) + (j : Int)).fmod 3))) ?_ rfl) ?_
        · refine Ev.bin (Ev.bin Ev.str (Ev.call (.inl fun w => rfl) rfl (by decide +kernel) (.inr (.inr fun w => rfl)) (fun _ _ => rfl) (.cons (Ev.bin Ev.int (Ev.bin (Ev.name rfl (by decide +kernel)) (Ev.name rfl (by decide +kernel)) Op2.addI) (Op2.eq (Op2.shlI (by omega) (by omega) (by decide)) (congrArg PV.int (shl_nat (low + j) _ (by push_cast; rfl))))) .nil) (flag_call (by omega))) (Op2.addS ?_)) (Ev.sub getT_list rfl (Ev.list (ps := [.str "\n", .str "\r", .str "\r\n"]) (.const (.const (.const .nil))) (.cons Ev.str (.cons Ev.str (.cons Ev.str .nil))) (by decide)) (Ev.bin (Ev.bin (Ev.name rfl (by decide +kernel)) (Ev.name rfl (by decide +kernel)) Op2.addI) Ev.int (Op2.modI (by decide))) (Op2.getL hm0 (by omega) (eol_get hm0 hm3)) (fun _ _ => ⟨_, rfl⟩)) (Op2.addS ?_)
          · omega
          · rw [Str.length_append]; omega
        · refine Ex.post ?_ (Ex.one (Ex1.append rfl (by decide +kernel) (fun _ => rfl) (by decide +kernel) (fun _ _ => rfl) (p := .tup [.int (h : Int), .str (wireS ((2, wordN (low + j)) :: up1 (popRows h pl)))]) ?_ rfl ?_))
          · exact .cons rfl (.cons rfl (.cons rfl .nil))
          · rw [← quote_letter hw (eol_is (((low : Int) + (j : Int)).fmod 3)) hrows.rows]
            intro w A env h₀ F₀ own s
            refine Ev.tuple (fun _ _ => rfl) (.cons (Ev.sub getT_list rfl (Ev.name rfl (by decide +kernel)) (Ev.name rfl (by decide +kernel)) (Op2.getL (i := (j : Int)) (by omega) (by omega) (nL_get hj)) (fun _ _ => ⟨_, rfl⟩)) (.cons (Ev.call (.inl fun w => rfl) rfl (by decide +kernel) (.inr (.inr fun w => rfl)) (fun _ _ => rfl) (.cons (Ev.bin (Ev.name rfl (by decide +kernel)) (Ev.name rfl (by decide +kernel)) (Op2.addS ?_)) .nil) (quote_call ?_)) .nil)) (show 2 ≤ sizeLine by decide)
            · rw [Str.length_append, Str.length_append]; omega
            · rw [Str.length_append, Str.length_append, Str.length_append]; omega
          · rw [pileP_len]
            have : ∀ pl : List Seg, (popRest h pl).length ≤ pl.length := fun pl => by
              induction pl with
              | nil => exact Nat.le_refl _
              | cons s pl ih =>
                unfold popRest
                split
                · exact Nat.le_succ_of_le ih
                · exact Nat.le_refl _
            have := this pl
            omega
    · refine Ex.freeze (x := "pile") rfl ?_
      have hpk := pile_pok (r := held) (i := low) (by omega) (by omega)
      have hpl := pile_len (r := held) (i := low)
      have hs : sizeLine = 2 ^ 24 := rfl
      intro w A env h₀ F₀ own s
      refine Ex.ret (Ex1.retE (p := .str _) ?_ rfl)
      rw [← poured_wire]
      intro w A env h₀ F₀ own s
      refine Ev.meth (ps := [.list (sL ((pileOf low held).map fun s => wireS s.2))]) meth_join rfl ?_ ?_ ?_ ?_ Ev.str ?_ (join_call ?_)
      · exact fun _ => rfl
      · decide +kernel
      · simp
      · exact fun _ _ => rfl
      · refine .cons ?_ .nil
        apply Ev.comp (ps := (pileOf low held).map segP) (ρin := []) (ρ' := []) (tt := true)
        case hsc => exact ⟨rfl, by decide +kernel, by decide +kernel, by decide +kernel, by decide +kernel⟩
        case hbound => exact noFree (by decide +kernel)
        case hi =>
          refine EvIt.listT (Ev.cast (congrArg PV.list ?_) (Ev.sliceL (fun h => RVl.of_list h) (Ev.name rfl (by decide +kernel)) .none .none (.some (Ev.unary Ev.int Op1.negI)) (by decide) ?_ (fun _ _ => ⟨_, rfl⟩))) (seg_frozen _) (fun p hp => ?_)
          · rw [slP_rev]
            show (pileP _).reverse = _
            simp [pileP]
          · show (pileP _).length ≤ _
            rw [pileP_len]; omega
          · obtain ⟨q, _, rfl⟩ := List.mem_map.mp hp
            exact ⟨_, rfl⟩
        case hin => exact .nil
        case run => exact CRun.one (seg_run rfl rfl (by decide +kernel) (by decide +kernel) rfl rfl)
        case hs => exact fun _ _ => rfl
        case hsz => rw [sL_len, List.length_map]; omega
      · refine joinOk_of (B := 600) (fun y hy => ?_) ?_
        · obtain ⟨q, hq, rfl⟩ := List.mem_map.mp hy
          have e1 := hpk.size
          have : ∀ pl : List Seg, q ∈ pl → (wireS q.2).length ≤ (wireS (poured pl)).length := fun pl => by
            induction pl with
            | nil => exact fun h => nomatch h
            | cons s pl ih =>
              intro h
              rw [show poured (s :: pl) = s.2 ++ poured pl from rfl, wireS_append, Str.length_append]
              rcases List.mem_cons.mp h with rfl | h
              · omega
              · have := ih h; omega
          have := this _ hq
          omega
        · rw [List.length_map, show ("" : Str).length = 0 from by decide +kernel]; omega
end Mine

namespace Mine
open PySem PySem.W PySem.Builtin PySem.Builtin.Str PySem.StrLaws

theorem swaps_local {sc : Scope} {x : Str} {xp pos : Pos} {line : Nat} {elt : PySem.Expr} {gens : List Comprehension} {sc' : Scope} (hk : sc.kind = .function) (hx : sc.names.lookup x = some .local) (hl : (xp.line == pos.line) = true) (hn : (sc'.names.any fun (n, k) => n == x && (k == .local || k == .cell)) = false) :
    ∀ env : Env, env.scope = sc → swapsWith (.ListComp elt gens sc' pos) (some (.Name x xp)) line env = pure true := fun env e => by
  unfold swapsWith
  have h1 : env.kindOf x = some .local := by show env.scope.names.lookup x = _; rw [e]; exact hx
  have h2 : (env.blockKind == ScopeKind.function) = true := by
    unfold Env.blockKind
    rw [e, hk]; rfl
  show pure (env.blockKind == .function && env.kindOf x == some .local && xp.line == pos.line && !(sc'.names.any fun (n, k) => n == x && (k == .local || k == .cell))) = pure true
  rw [h1, h2, hl, hn]; rfl
theorem swaps_cell {sc : Scope} {x : Str} {xp pos : Pos} {line : Nat} {elt : PySem.Expr} {gens : List Comprehension} {sc' : Scope} (hx : sc.names.lookup x = some .cell) :
    ∀ env : Env, env.scope = sc → swapsWith (.ListComp elt gens sc' pos) (some (.Name x xp)) line env = pure false := fun env e => by
  unfold swapsWith
  have h1 : env.kindOf x = some .cell := by show env.scope.names.lookup x = _; rw [e]; exact hx
  show pure (env.blockKind == .function && env.kindOf x == some .local && xp.line == pos.line && !(sc'.names.any fun (n, k) => n == x && (k == .local || k == .cell))) = pure false
  rw [h1, show (some NameKind.cell == some NameKind.local) = false from rfl, Bool.and_false, Bool.false_and, Bool.false_and]

/-! rows of the letters with so many holders -/
def pathS (p : List Bool) : Str := ⟨(p.map fun b => if b = true then 40 else 41).toArray⟩
theorem pathS_list {p : List Bool} : (pathS p).cps.toList = p.map fun b => if b = true then 40 else 41 := rfl
theorem pathS_len {p : List Bool} : (pathS p).length = p.length := by simp [pathS, Str.length]
theorem pathS_append {p q : List Bool} : pathS (p ++ q) = pathS p ++ pathS q := str_inj (by rw [Str.cps_append, Array.toList_append, pathS_list, pathS_list, pathS_list, List.map_append])
theorem pathS_true : pathS [true] = "(" := by decide +kernel
theorem pathS_false : pathS [false] = ")" := by decide +kernel
def dueRows (due : Nat) (L : List (Nat × Str)) : List (Nat × Str) := L.filter fun p => p.1.beq due || (p.1 + 1).beq due
theorem dueB_app (due : Nat) : ∀ (held : List Nat) (k : List Bool), dueB due held k = dueB due held [] ++ k
  | [], _ => rfl
  | h :: r, k => by
    unfold dueB
    cases (h + 2).beq due <;> cases (h + 3).beq due <;> simp only [cond_true, cond_false] <;> rw [dueB_app due r k] <;> rfl
theorem due_path (due : Nat) : ∀ (held : List Nat) (low : Nat), (dueRows due (rowsFrom low held)).map (fun p => p.1.beq due) = dueB due held []
  | [], _ => rfl
  | h :: r, low => by
    have ih := due_path due r (low + 1)
    show (((h + 2, wordN low) :: rowsFrom (low + 1) r).filter _).map _ = _
    unfold dueB
    rw [List.filter_cons]
    show (if ((h + 2).beq due || (h + 3).beq due) = true then _ else _ : List (Nat × Str)).map _ = _
    cases e1 : (h + 2).beq due <;> cases e2 : (h + 3).beq due <;> simp only [cond_true, cond_false, Bool.or_true, Bool.or_false, if_true, Bool.false_eq_true, if_false, List.map_cons] <;> rw [← ih] <;> simp [dueRows, e1]
def isDueH (due h : Nat) : Bool := (h + 2).beq due || (h + 3).beq due
theorem due_words (due : Nat) : ∀ (held : List Nat) (i low : Nat), (idxF (isDueH due) i held).map (fun j => wordN (low + j)) = (dueRows due (rowsFrom (low + i) held)).map (·.2)
  | [], _, _ => rfl
  | h :: r, i, low => by
    have ih := due_words due r (i + 1) low
    show (cond (isDueH due h) (i :: idxF (isDueH due) (i + 1) r) (idxF (isDueH due) (i + 1) r)).map _ = (((h + 2, wordN (low + i)) :: rowsFrom (low + i + 1) r).filter _).map _
    rw [List.filter_cons]
    show _ = (if (isDueH due h) = true then _ else _ : List (Nat × Str)).map _
    cases isDueH due h with
    | true => 
      show wordN (low + i) :: List.map _ _ = wordN (low + i) :: List.map _ _
      rw [ih]; rfl
    | false => exact ih
theorem idx_asc {α : Type} (c : α → Bool) : ∀ (l : List α) (i low : Nat), Asc (low + i) ((idxF c i l).map (low + ·))
  | [], _, _ => trivial
  | a :: r, i, low => by
    have ih := idx_asc c r (i + 1) low
    show Asc _ ((cond (c a) (i :: idxF c (i + 1) r) (idxF c (i + 1) r)).map _)
    cases c a with
    | true => exact ⟨Nat.le_refl _, ih⟩
    | false => exact Asc.le (by omega) ih
theorem idx_lt {α : Type} (c : α → Bool) : ∀ (l : List α) (i : Nat), ∀ j ∈ idxF c i l, i ≤ j ∧ j < i + l.length
  | [], _, _, h => nomatch h
  | a :: r, i, j, h => by
    have ih := idx_lt c r (i + 1) j
    rw [List.length_cons]
    have h' : j ∈ cond (c a) (i :: idxF c (i + 1) r) (idxF c (i + 1) r) := h
    cases e : c a with
    | true =>
      rw [e] at h'
      rcases List.mem_cons.mp h' with rfl | h'
      · omega
      · have := ih h'; omega
    | false =>
      rw [e] at h'
      have := ih h'; omega
theorem idx_filter {α : Type} (c : α → Bool) (d : α) : ∀ (l : List α) (i : Nat) (f : Nat → Bool), (∀ j a, l[j]? = some a → f (i + j) = c a) → (List.range' i l.length).filter f = idxF c i l
  | [], _, _, _ => rfl
  | a :: r, i, f, h => by
    have h0 : f i = c a := h 0 a rfl
    have ih := idx_filter c d r (i + 1) f fun j b hj => by
      have := h (j + 1) b (by simpa using hj)
      rw [← this]; congr 1; omega
    rw [List.length_cons, List.range'_succ, List.filter_cons, ih, h0]
    show _ = cond (c a) _ _
    cases c a <;> rfl
theorem idx_ne {due : Nat} : ∀ {held : List Nat} {i : Nat}, held.any (isDue due) = true → idxF (isDueH due) i held ≠ []
  | [], _, h => by cases h
  | h :: r, i, hh => by
    show cond (isDueH due h) (i :: idxF (isDueH due) (i + 1) r) (idxF (isDueH due) (i + 1) r) ≠ []
    cases e : isDueH due h with
    | true => exact List.cons_ne_nil _ _
    | false =>
      have hf : isDue due h = false := by
        unfold isDueH at e
        rw [Bool.or_eq_false_iff] at e
        unfold isDue; rw [e.2, e.1]; rfl
      have h' : (isDue due h || r.any (isDue due)) = true := hh
      rw [hf, Bool.false_or] at h'
      exact idx_ne h'
theorem bsum_sum : ∀ es : List Nat, bsum 0 es = (es.map fun e => 2 ^ e).sum
  | [] => rfl
  | e :: r => by
    show 2 ^ (e - 0) + bsum 0 r = 2 ^ e + (r.map fun e => 2 ^ e).sum
    rw [bsum_sum r, Nat.sub_zero]
theorem join_cat {sep : Str} : ∀ (rows : List Str) (last : Str), (Txt.join sep (rows ++ [last])).cps.toList = catL sep.cps.toList last.cps.toList (rows.map fun p => p.cps.toList) := by
  intro rows last
  rw [join_glued]
  induction rows with
  | nil => rfl
  | cons x r ih =>
    cases r with
    | nil =>
      show ((x ++ sep) ++ last).cps.toList = x.cps.toList ++ (sep.cps.toList ++ last.cps.toList)
      rw [Str.cps_append, Array.toList_append, Str.cps_append, Array.toList_append, List.append_assoc]
    | cons y r =>
      show ((x ++ sep) ++ Str.join sep (y :: r ++ [last])).cps.toList = x.cps.toList ++ (sep.cps.toList ++ _)
      rw [Str.cps_append, Array.toList_append, Str.cps_append, Array.toList_append, List.append_assoc, ih]
theorem comma_list : (", " : Str).cps.toList = [44, 32] := by decide +kernel
theorem words_split {ws : List Str} (hne : ws ≠ []) (h : ∀ x ∈ ws, 44 ∉ x.cps.toList) : Txt.split (Txt.join ", " ws) ", " = ws ∧ (partsBetween (Txt.join ", " ws) (occurrences (Txt.join ", " ws) ", " 0 (Txt.join ", " ws).length ((Txt.join ", " ws).length + 1)) (", " : Str).length).length = ws.length := by
  obtain ⟨rows, last, rfl⟩ : ∃ rows last, ws = rows ++ [last] := ⟨ws.dropLast, ws.getLast hne, (List.dropLast_concat_getLast hne).symm⟩
  have := split_rows (x := Txt.join ", " (rows ++ [last])) (y := ", ") comma_list (by decide +kernel) (rows := rows) (last := last) (join_cat rows last) (fun r hr => h r (List.mem_append_left _ hr)) (h last (List.mem_append_right _ (List.mem_singleton.mpr rfl)))
  rw [List.length_append]
  exact this
theorem join_len {sep : Str} {B : Nat} : ∀ {ws : List Str}, (∀ x ∈ ws, x.length ≤ B) → (Txt.join sep ws).length ≤ ws.length * (B + sep.length) := by
  intro ws
  rw [join_glued]
  induction ws with
  | nil => intro _; exact Nat.zero_le _
  | cons x r ih =>
    intro h
    have hx := h x List.mem_cons_self
    have ih := ih fun y hy => h y (List.mem_cons_of_mem _ hy)
    cases r with
    | nil =>
      show x.length ≤ _
      simp; omega
    | cons y r =>
      show ((x ++ sep) ++ Str.join sep (y :: r)).length ≤ _
      rw [Str.length_append, Str.length_append, List.length_cons, Nat.add_mul, Nat.one_mul]; omega

/-! the table of the words -/
def kvsOf (L : List (Nat × Str)) : List (Str × Int) := L.map fun p => (p.2, (p.1 : Int))
theorem vat_mem : ∀ {L : List (Nat × Str)}, (L.map (·.2)).Nodup → ∀ p ∈ L, vat (kvsOf L) p.2 = some (p.1 : Int)
  | q :: L, hn, p, hp => by
    obtain ⟨h1, h2⟩ := List.nodup_cons.mp hn
    show ((List.find? _ ((q.2, (q.1 : Int)) :: kvsOf L)).map _) = _
    rw [List.find?_cons]
    rcases List.mem_cons.mp hp with rfl | hp
    · simp
    · have : q.2 ≠ p.2 := fun e => h1 (by rw [show (fun x : Nat × Str => x.2) q = p.2 from e]; exact List.mem_map_of_mem (f := (·.2)) hp)
      simp only [this, decide_false]
      exact vat_mem h2 p hp
theorem vat_none : ∀ {L : List (Nat × Str)} {x : Str}, x ∉ L.map (·.2) → vat (kvsOf L) x = Option.none
  | [], _, _ => rfl
  | q :: L, x, h => by
    show ((List.find? _ ((q.2, (q.1 : Int)) :: kvsOf L)).map _) = _
    rw [List.find?_cons]
    have : q.2 ≠ x := fun e => h (by rw [← e]; exact List.mem_cons_self)
    simp only [this, decide_false]
    exact vat_none fun hm => h (List.mem_cons_of_mem _ hm)
theorem rows_words : ∀ {held : List Nat} {low : Nat}, low + held.length ≤ 32 → ((rowsFrom low held).map (·.2)).Nodup ∧ ∀ x ∈ (rowsFrom low held).map (·.2), ∃ j, low ≤ j ∧ j < 32 ∧ x = wordN j
  | [], _, _ => ⟨List.nodup_nil, fun _ h => nomatch h⟩
  | h :: r, low, hl => by
    rw [List.length_cons] at hl
    obtain ⟨a, b⟩ := rows_words (held := r) (low := low + 1) (by omega)
    refine ⟨List.nodup_cons.mpr ⟨fun hm => ?_, a⟩, fun x hx => ?_⟩
    · obtain ⟨j, h1, h2, h3⟩ := b _ hm
      have := word_inj low (by omega) j h2 h3
      omega
    · rcases List.mem_cons.mp hx with rfl | hx
      · exact ⟨low, Nat.le_refl _, by omega, rfl⟩
      · obtain ⟨j, h1, h2, h3⟩ := b x hx
        exact ⟨j, by omega, h2, h3⟩
theorem rows_len : ∀ {held : List Nat} {low : Nat}, (rowsFrom low held).length = held.length
  | [], _ => rfl
  | h :: r, low => congrArg (· + 1) rows_len
theorem rows_leads : ∀ {held : List Nat} {low : Nat}, (rowsFrom low held).map (·.1) = held.map (· + 2)
  | [], _ => rfl
  | h :: r, low => congrArg ((h + 2) :: ·) rows_leads
theorem rows_ok {held : List Nat} {low : Nat} (h1 : held.length ≤ 11) (h2 : low + held.length ≤ 32) (h3 : ∀ h ∈ held, h ≤ 10) : PourOK (rowsFrom low held) := by
  refine ⟨by rw [rows_len]; exact h1, fun p hp => ?_⟩
  obtain ⟨j, _, h5, h6⟩ := (rows_words h2).2 p.2 (List.mem_map_of_mem (f := (·.2)) hp)
  have : p.1 ∈ held.map (· + 2) := by rw [← rows_leads (low := low)]; exact List.mem_map_of_mem (f := (·.1)) hp
  obtain ⟨h, hh, e⟩ := List.mem_map.mp this
  have := h3 h hh
  rw [h6]
  exact ⟨word_ok j h5, by omega, by omega⟩
end Mine

namespace Mine
open PySem PySem.W PySem.Builtin PySem.Builtin.Str PySem.StrLaws

theorem nat_range (n : Nat) : rangeP 0 1 n = (List.range n).map fun j : Nat => PV.int (j : Int) := by
  rw [range_items, List.range_eq_range']
theorem pair_items : ∀ L : List (Nat × Str), pairUp (sL (L.map (·.2))) (nL (L.map (·.1))) = L.map fun p => .tup [.str p.2, .int (p.1 : Int)]
  | [] => rfl
  | p :: L => by
    show PV.tup [.str p.2, .int (p.1 : Int)] :: pairUp (sL (L.map (·.2))) (nL (L.map (·.1))) = _
    rw [pair_items L]; rfl
theorem max_call {k : Nat} {ns : List Int} {m : Int} (hm : IsMax ns m) : OpN k [.list (iL ns)] (fun vs => PySem.call (.builtin "max") vs) (.int m) := OpN.of1 (f := fun vs => PySem.call (.builtin "max") vs) (Op1.maxL hm)
theorem sum_call {k : Nat} {ns : List Int} (h : SumOk ns) : OpN k [.list (iL ns)] (fun vs => PySem.call (.builtin "sum") vs) (.int ns.sum) := OpN.of1 (f := fun vs => PySem.call (.builtin "sum") vs) (Op1.sumL h)
theorem mxL_mem : ∀ {h : Nat} {r : List Nat}, mxL (h :: r) ∈ h :: r
  | h, [] => by show Nat.max h 0 ∈ _; simp
  | h, g :: r => by
    have ih := mxL_mem (h := g) (r := r)
    show Nat.max h (mxL (g :: r)) ∈ _
    rcases Nat.le_total (mxL (g :: r)) h with q | q
    · rw [show Nat.max h (mxL (g :: r)) = h from Nat.max_eq_left q]; exact List.mem_cons_self
    · rw [show Nat.max h (mxL (g :: r)) = mxL (g :: r) from Nat.max_eq_right q]; exact List.mem_cons_of_mem _ ih
theorem le_mxL : ∀ {r : List Nat} {h : Nat}, h ∈ r → h ≤ mxL r
  | g :: r, h, hm => by
    show h ≤ Nat.max g (mxL r)
    rcases List.mem_cons.mp hm with rfl | hm
    · exact Nat.le_max_left _ _
    · exact Nat.le_trans (le_mxL hm) (Nat.le_max_right _ _)
theorem sum_nat : ∀ l : List Nat, (l.map fun n : Nat => (n : Int)).sum = ((l.sum : Nat) : Int)
  | [] => rfl
  | a :: l => by
    rw [List.map_cons, List.sum_cons, List.sum_cons, sum_nat l]; push_cast; rfl
theorem take_sum_le : ∀ (l : List Nat) (j : Nat), (l.take j).sum ≤ l.sum
  | [], _ => by simp
  | a :: l, 0 => by simp
  | a :: l, j + 1 => by
    have := take_sum_le l j
    rw [List.take_succ_cons, List.sum_cons, List.sum_cons]; omega
theorem mem_le_sum : ∀ {l : List Nat} {a : Nat}, a ∈ l → a ≤ l.sum
  | b :: l, a, h => by
    rw [List.sum_cons]
    rcases List.mem_cons.mp h with rfl | h
    · omega
    · have := mem_le_sum h; omega
theorem sumOk_nat {l : List Nat} (h : l.sum < 2 ^ 63) : SumOk (l.map fun n : Nat => (n : Int)) := by
  intro j hj
  rw [List.length_map] at hj
  constructor
  · have e : (l.map fun n : Nat => (n : Int)).getD j 0 = ((l[j] : Nat) : Int) := by
      rw [List.getD_eq_getElem?_getD, List.getElem?_map, List.getElem?_eq_getElem hj]; rfl
    rw [e]
    have := mem_le_sum (List.getElem_mem hj)
    constructor <;> omega
  · rw [← List.map_take, sum_nat]
    have := take_sum_le l (j + 1)
    constructor <;> omega
def brV (wire : Str) (low : Nat) (L : List (Nat × Str)) : Vars := [("wire", .val (.str wire)), ("low", .val (.int low)), ("words", .val (.list (sL (L.map (·.2))))), ("leads", .val (.list (nL (L.map (·.1))))), ("dots", .val (.raw (DctS (kvsOf L))))]
def b0V (wire : Str) (low : Nat) (L : List (Nat × Str)) (K : List (Nat × Str)) : Vars := [("wire", .val (.str wire)), ("low", .val (.int low)), ("words", .val (.list (sL (L.map (·.2))))), ("leads", .val (.list (nL (L.map (·.1))))), ("dots", .ownR (DctS (kvsOf K)))]
theorem from_range (a n : Nat) : rangeP (a : Int) 1 n = (List.range' a n).map fun j : Nat => PV.int (j : Int) := by
  unfold rangeP
  apply List.ext_getElem
  · simp
  · intro i h1 h2
    simp
theorem dict_loop {k : Nat} {sc : Scope} {g : Bool} {tgt : PySem.Expr} {body orelse : List Stmt} {wire : Str} {low : Nat} {L : List (Nat × Str)} (hA : ∀ (p q : PV) (ρ : Vars), p.frozen = true → q.frozen = true → Asg sc tgt true (.tup [p, q]) ρ (("lead", .val q) :: ("word", .val p) :: ρ))
    (hb : ∀ (J : List (Nat × Str)) (p : Nat × Str), p.2 ∉ J.map (·.2) → J.length ≤ L.length → Ex g k sc (("lead", .val (.int (p.1 : Int))) :: ("word", .val (.str p.2)) :: b0V wire low L J) body (.next (b0V wire low L (J ++ [p])))) (ho : ∀ ρ, Ex g k sc ρ orelse (.next ρ)) (hn : (L.map (·.2)).Nodup) :
    ∀ (M J : List (Nat × Str)), J ++ M = L → Loop g k sc tgt true body orelse (M.map fun p => .tup [.str p.2, .int (p.1 : Int)]) (b0V wire low L J) (.next (b0V wire low L L))
  | [], J, e => by
    rw [List.append_nil] at e
    rw [e]; exact .done (ho _)
  | p :: M, J, e => by
    refine .next (hA _ _ _ rfl rfl) (hb J p ?_ ?_) (dict_loop hA hb ho hn M (J ++ [p]) (by rw [← e]; simp))
    · rw [← e, List.map_append, List.map_cons] at hn
      intro hm
      exact (List.nodup_append.mp hn).2.2 _ hm _ List.mem_cons_self rfl
    · rw [← e, List.length_append]; omega
def duV (wire : Str) (low : Nat) (L : List (Nat × Str)) (p : List Bool) : Vars := ("path", .val (.str (pathS p))) :: brV wire low L
def woV (wire : Str) (low : Nat) (L : List (Nat × Str)) (due m : Nat) (p : List Bool) : Vars := ("path", .val (.str (pathS p))) :: ("mask", .val (.int (m : Int))) :: ("due", .val (.int (due : Int))) :: brV wire low L
theorem due_loop {k : Nat} {sc : Scope} {g : Bool} {tgt : PySem.Expr} {body orelse : List Stmt} {wire : Str} {low top : Nat} {L : List (Nat × Str)} {held : List Nat} (hA : ∀ (p : PV) (ρ : Vars), p.frozen = true → Asg sc tgt false p ρ (("due", .val p) :: ρ))
    (hlen : ∀ due, (dueB due held []).length ≤ 11) (hb : ∀ (due : Nat) (p : List Bool), 2 ≤ due → due < top → p.length ≤ 900 → Ex g k sc (("due", .val (.int (due : Int))) :: duV wire low L p) body (.next (duV wire low L (p ++ dueB due held [])))) (ho : ∀ ρ, Ex g k sc ρ orelse (.next ρ)) :
    ∀ (n due : Nat) (p : List Bool), 2 ≤ due → due + n = top → p.length + 11 * n ≤ 900 → Loop g k sc tgt false body orelse ((List.range' due n).map fun j : Nat => PV.int (j : Int)) (duV wire low L p) (.next (duV wire low L (p ++ pathFrom held n due)))
  | 0, due, p, _, _, _ => by
    rw [show p ++ pathFrom held 0 due = p from List.append_nil _]
    exact .done (ho _)
  | n + 1, due, p, h1, h2, h3 => by
    rw [List.range'_succ, List.map_cons, show pathFrom held (n + 1) due = dueB due held [] ++ pathFrom held n (due + 1) from dueB_app _ _ _, ← List.append_assoc]
    refine .next (hA _ _ rfl) (hb due p h1 (by omega) (by omega)) (due_loop hA hlen hb ho n (due + 1) _ (by omega) (by omega) ?_)
    have := hlen due
    rw [List.length_append]; omega
theorem word_loop {k : Nat} {sc : Scope} {g : Bool} {tgt : PySem.Expr} {body orelse : List Stmt} {wire : Str} {low due m : Nat} {L : List (Nat × Str)} (hA : ∀ (p : PV) (ρ : Vars), p.frozen = true → Asg sc tgt false p ρ (("word", .val p) :: ρ))
    (hb : ∀ q ∈ L, ∀ p : List Bool, p.length ≤ 950 → Ex g k sc (("word", .val (.str q.2)) :: woV wire low L due m p) body (.next (woV wire low L due m (p ++ [q.1.beq due])))) (ho : ∀ ρ, Ex g k sc ρ orelse (.next ρ)) :
    ∀ (M : List (Nat × Str)) (p : List Bool), (∀ q ∈ M, q ∈ L) → p.length + M.length ≤ 950 → Loop g k sc tgt false body orelse (sL (M.map (·.2))) (woV wire low L due m p) (.next (woV wire low L due m (p ++ M.map fun q => q.1.beq due)))
  | [], p, _, _ => by
    rw [show p ++ List.map (fun q : Nat × Str => q.1.beq due) [] = p from List.append_nil _]
    exact .done (ho _)
  | q :: M, p, hm, hl => by
    rw [List.length_cons] at hl
    rw [List.map_cons (f := fun q : Nat × Str => q.1.beq due), List.append_cons]
    refine .next (hA _ _ rfl) (hb q (hm q List.mem_cons_self) p (by omega)) (word_loop hA hb ho M _ (fun x hx => hm x (List.mem_cons_of_mem _ hx)) (by rw [List.length_append]; simp; omega))
theorem max_callN {k : Nat} {l : List Nat} {m : Nat} (hm : m ∈ l) (hle : ∀ n ∈ l, n ≤ m) : OpN k [.list (nL l)] (fun vs => PySem.call (.builtin "max") vs) (.int (m : Int)) := by
  have h : IsMax (l.map fun n : Nat => (n : Int)) (m : Int) := ⟨List.mem_map_of_mem (f := fun n : Nat => (n : Int)) hm, fun n hn => by
    obtain ⟨a, ha, rfl⟩ := List.mem_map.mp hn
    have := hle a ha
    omega⟩
  rw [nL_iL]
  exact @max_call k _ _ h
theorem sum_callN {k : Nat} {l : List Nat} (h : l.sum < 2 ^ 63) : OpN k [.list (nL l)] (fun vs => PySem.call (.builtin "sum") vs) (.int ((l.sum : Nat) : Int)) := by
  have h' := sumOk_nat h
  rw [nL_iL, ← sum_nat]
  exact @sum_call k _ h'
theorem range2_ok : ∀ m : Nat, m < 12 → Builtin.Range.small 2 (((m + 2 : Nat) : Int) + 2) 1 = true ∧ Builtin.Range.rangeSize 2 (((m + 2 : Nat) : Int) + 2) 1 = ((m + 2 : Nat) : Int) := by decide +kernel
theorem range1_ok : ∀ m : Nat, m < 200 → Builtin.Range.small 0 (m : Int) 1 = true ∧ Builtin.Range.rangeSize 0 (m : Int) 1 = (m : Int) := by decide +kernel
theorem due_any (due h : Nat) : ([(due : Int) - 1, (due : Int)].any (· == ((h + 2 : Nat) : Int))) = isDueH due h := by
  have e1 : ((due : Int) - 1 == ((h + 2 : Nat) : Int)) = (h + 3).beq due := by
    apply Bool.eq_iff_iff.mpr
    rw [beq_iff_eq, Nat.beq_eq]
    omega
  have e2 : ((due : Int) == ((h + 2 : Nat) : Int)) = (h + 2).beq due := by
    apply Bool.eq_iff_iff.mpr
    rw [beq_iff_eq, Nat.beq_eq]
    omega
  show ((due : Int) - 1 == _ || ((due : Int) == _ || false)) = _
  rw [e1, e2, Bool.or_false, Bool.or_comm]; rfl
theorem dueB_len (due : Nat) (held : List Nat) : (dueB due held []).length ≤ held.length := by
  rw [← due_path due held 0, List.length_map, ← rows_len (held := held) (low := 0)]
  exact List.length_filter_le _ _
set_option maxHeartbeats 1000000
theorem brackets_call {k : Nat} {held : List Nat} {low : Nat} (h0 : held ≠ []) (h1 : held.length ≤ 11) (h2 : low ≤ 20) (h3 : ∀ h ∈ held, h ≤ 10) (h5 : law5 held = true) : OpN (k + 2) [.str (wireS (rowsFrom low held)), .int low] (fun vs => PySem.call (.ref 113) vs) (.str (pathS (pathB held))) := by
  have hok := rows_ok (low := low) h1 (by omega) h3
  obtain ⟨hnd, hwd⟩ := rows_words (held := held) (low := low) (by omega)
  have hlen := rows_len (held := held) (low := low)
  have hlds := rows_leads (held := held) (low := low)
  generalize hL : rowsFrom low held = L at hok hnd hwd hlen hlds
  intro w0 A0 F0 s0 vs0
  refine OpN.of_call fun {w A F s vs} R B Lv r => ?_
  refine Call.intro (fun w => ⟨_, rfl, rfl⟩) rfl (sc := ⟨_, _, _, _, _⟩) rfl rfl rfl rfl rfl rfl rfl (fun w => rfl) (names := ["wire", "low"]) (ps := [.str (wireS L), .int low]) ?_ rfl (by decide +kernel) ?_ (by decide +kernel) rfl ?_ R B Lv r
  · intro vs h
    match vs, h with
    | [u, v], _ => rfl
  · intro z hz
    rcases List.mem_cons.mp hz with rfl | hz
    · exact .inl rfl
    · rw [List.mem_singleton.mp hz]
      exact .inr rfl
  · refine Ex.cons (Ex1.assignComp (ps := L.map fun p => .str (rowS p)) (out := sL (L.map (·.2))) (ρin := []) (ρ' := []) (tt := false) rfl ?hsc ?hi .nil ?run (fun _ _ => rfl) ?hsz ?hsw) ?rest
    case hsc => exact ⟨rfl, by decide +kernel, by decide +kernel, by decide +kernel, by decide +kernel⟩
    case hi =>
      refine EvIt.list (Ev.cast (congrArg PV.list ?_) (ev_rows hok.lok (Ev.name rfl (by decide +kernel)) (fun _ => rfl) (by decide +kernel))) ?_
      · simp [sL]
      · rw [show (L.map fun p => PV.str (rowS p)) = sL (L.map rowS) from by simp [sL]]; exact strs_frozen _
    case run =>
      rw [show sL (L.map (·.2)) = (L.filter fun _ => true).map fun p => .str p.2 from by rw [filter_true]; simp [sL]]
      refine CRun.one (CRun.fm (fun p => .str (rowS p)) (fun p => .str p.2) (fun _ => true) rfl rfl (fun _ _ => rfl) (fun _ _ => .nil) fun p hp _ => ⟨Ev.cast (congrArg PV.str (row_strip (hok.ok p hp).1)) (Ev.meth meth_lstrip rfl (fun _ => rfl) (by decide +kernel) (by simp) (.const .nil) (Ev.name rfl (by decide +kernel)) (.cons (p := .str ".") Ev.str .nil) (lstrip_call ?_)), rfl⟩)
      obtain ⟨x1, x2, x3⟩ := hok.ok p hp
      have := x1.len
      have hs : sizeLine = 2 ^ 24 := rfl
      rw [rowS_len]; omega
    case hsz => rw [sL_len, List.length_map, hlen]; exact Nat.le_trans h1 (by decide)
    case hsw => exact swaps_local rfl rfl rfl (by decide +kernel)
    case rest =>
      refine Ex.cons (Ex1.assignC (p := .list (nL (L.map (·.1)))) (.inr rfl) (swaps_cell rfl) ?_ (nL_frozen _)) ?_
      · rw [show nL (L.map (·.1)) = (L.filter fun _ => true).map fun p => .int ((p.1 : Nat) : Int) from by rw [filter_true]; simp [nL]]
        apply Ev.compF L (fun p => .str (dots p.1)) (fun p => .int ((p.1 : Nat) : Int)) (fun _ => true) []
        case hsc => exact ⟨rfl, by decide +kernel, by decide +kernel, by decide +kernel, by decide +kernel⟩
        case hfr => decide +kernel
        case hxs => simp
        case hx => rfl
        case hi =>
          rw [show (L.map fun p => PV.str (dots p.1)) = sL (L.map fun p => dots p.1) from by simp [sL]]
          intro w A env h₀ F₀ own s
          exact EvIt.list (Ev.call (.inl fun w => rfl) rfl (by decide +kernel) (.inr (.inr fun w => rfl)) (fun _ _ => rfl) (.cons (Ev.name rfl (by decide +kernel)) .nil) (leads_call hok.lok)) (strs_frozen _)
        case hin => exact .nil
        case hρ => rfl
        case hf => exact fun _ _ => rfl
        case ht => exact fun _ _ => .nil
        case hs => exact fun _ _ => rfl
        case hsz => rw [hlen]; omega
        case hv =>
          refine fun p hp _ => ⟨?_, rfl⟩
          intro w A env h₀ F₀ own s
          refine Ev.cast (congrArg PV.int (congrArg Int.ofNat (dots_len (m := p.1)))) (Ev.call globIs_len rfl (by decide +kernel) (.inl ⟨_, rfl⟩) (fun _ _ => rfl) (.cons (Ev.name rfl (by decide +kernel)) .nil) (lenS_call ?_))
          obtain ⟨x1, x2, x3⟩ := hok.ok p hp
          have hs : sizeLine = 2 ^ 24 := rfl
          rw [dots_len]; omega
      refine Ex.cons (Ex1.assignDict (.inl rfl)) ?_
      refine Ex.cons (Ex1.sub (ρ₂ := b0V (wireS L) low L []) ?_ (Ex1.for_ (tt := true) (ps := L.map fun p => .tup [.str p.2, .int (p.1 : Int)]) ?_ ?_ (fun _ _ => rfl))) (ρ' := b0V (wireS L) low L L) ?_
      · exact .cons rfl (.cons rfl (.cons rfl (.cons rfl (.cons rfl .nil))))
      · rw [← pair_items]
        intro w A env h₀ F₀ own s
        exact EvIt.zip rfl (fun _ _ => rfl) (Ev.name rfl (by decide +kernel)) (Ev.name rfl (by decide +kernel)) (strs_frozen _) (nL_frozen _)
      · refine dict_loop (fun p q ρ h h' => Asg.pair (.inl rfl) (.inl rfl) h h') ?_ (fun ρ => Ex.nil) hnd L [] rfl
        intro J p hp hj
        refine Ex.post ?_ (Ex.one (Ex1.setDict (kvs := kvsOf J) (ky := p.2) (i := (p.1 : Int)) rfl (by decide +kernel) (fun _ _ => rfl) (Ev.name rfl (by decide +kernel)) (Ev.name rfl (by decide +kernel)) (vat_none hp) ?_))
        · refine .cons rfl (.cons rfl (.cons rfl (.cons rfl (.cons ?_ .nil))))
          rw [show kvsOf (J ++ [p]) = kvsOf J ++ [(p.2, (p.1 : Int))] from by simp [kvsOf]]; rfl
        · rw [show (kvsOf J).length = J.length from by simp [kvsOf]]
          exact Nat.le_trans hj (by rw [hlen]; exact Nat.le_trans h1 (by decide))
      · refine Ex.freezeR (x := "dots") rfl ?_
        refine Ex.cons (Ex1.assign (.inl rfl) (fun _ => rfl) (p := .str (pathS [])) (Ev.eq (p := .str "") Ev.str (congrArg PV.str (by decide +kernel))) rfl) ?_
        refine Ex.cons (Ex1.sub (ρ₂ := duV (wireS L) low L []) ?_ (Ex1.for_ (tt := false) (ps := (List.range' 2 (mxL held + 2)).map fun j : Nat => PV.int (j : Int)) ?_ ?_ (fun _ _ => rfl))) (ρ' := duV (wireS L) low L (pathB held)) (Ex.ret (Ex1.retE (Ev.name rfl (by decide +kernel)) rfl))
        · exact .cons rfl (.cons rfl (.cons rfl (.cons rfl (.cons rfl (.cons rfl .nil)))))
        · rw [← from_range]
          have hmx : mxL held ≤ 10 ∧ mxL held ∈ held := by
            cases held with
            | nil => exact absurd rfl h0
            | cons a r => exact ⟨h3 _ mxL_mem, mxL_mem⟩
          obtain ⟨g1, g2⟩ := range2_ok (mxL held) (by omega)
          intro w A env h₀ F₀ own s
          refine EvIt.range2 rfl (fun _ _ => rfl) (Ev.int (i := 2)) (Ev.bin (Ev.call globIs_max rfl (by decide +kernel) (.inl ⟨_, rfl⟩) (fun _ _ => rfl) (.cons (Ev.name rfl (by decide +kernel)) .nil) (max_callN (m := mxL held + 2) ?_ ?_)) Ev.int Op2.addI) g1 g2
          · rw [hlds]; exact List.mem_map_of_mem (f := (· + 2)) hmx.2
          · rw [hlds]
            intro n hn
            obtain ⟨a, ha, rfl⟩ := List.mem_map.mp hn
            have := le_mxL ha
            omega
        · have hmx : mxL held ≤ 10 := by
            cases held with
            | nil => exact absurd rfl h0
            | cons a r => exact h3 _ mxL_mem
          refine due_loop (top := mxL held + 4) (held := held) (fun p ρ h => Asg.name (.inr rfl) h) (fun due => Nat.le_trans (dueB_len due held) h1) ?_ (fun ρ => Ex.nil) (mxL held + 2) 2 [] (by decide) (by omega) (by simp; omega)
          intro due p hd1 hd2 hp
          have hne : idxF (isDueH due) 0 held ≠ [] := idx_ne (List.all_eq_true.mp h5 due (List.mem_range'.mpr ⟨due - 2, by omega, by omega⟩))
          have hix := idx_lt (isDueH due) held 0
          have hasc : Asc 0 ((idxF (isDueH due) 0 held).map (low + ·)) := Asc.le (by omega) (idx_asc (isDueH due) held 0 low)
          have hlt : ∀ e ∈ (idxF (isDueH due) 0 held).map (low + ·), e < 31 := fun e he => by
            obtain ⟨j, hj, rfl⟩ := List.mem_map.mp he
            have := hix j hj
            omega
          have hwords : ((idxF (isDueH due) 0 held).map (low + ·)).map wordN = (dueRows due L).map (·.2) := by
            rw [List.map_map, ← hL]
            exact due_words due held 0 low
          have hrows : (dueRows due L).map (fun q => q.1.beq due) = dueB due held [] := by rw [← hL]; exact due_path due held low
          have hdl : (dueRows due L).length ≤ 11 := Nat.le_trans (List.length_filter_le _ _) (by omega)
          have hbs := bsum_lt 31 0 _ hasc (by simpa using hlt)
          have hfil : (List.range held.length).filter (fun i => isDueH due (held.getD i 0)) = idxF (isDueH due) 0 held := by
            rw [List.range_eq_range']
            exact idx_filter (isDueH due) 0 held 0 _ fun j a hj => by
              rw [Nat.zero_add, List.getD_eq_getElem?_getD, hj]; rfl
          generalize hidx : idxF (isDueH due) 0 held = idx at *
          have hsum : bsum 0 (idx.map (low + ·)) = ((idx.map (low + ·)).map fun e => 2 ^ e).sum := bsum_sum _
          obtain ⟨g1, g2⟩ := range1_ok held.length (by omega)
          intro w A env h₀ F₀ own s
          refine Ex.cons (Ex1.assign (.inl rfl) (fun _ => rfl) (p := .int ((bsum 0 (idx.map (low + ·)) : Nat) : Int)) ?_ rfl) ?_
          · rw [hsum]
            intro w A env h₀ F₀ own s
            refine Ev.call (ps := [.list (nL ((idx.map (low + ·)).map fun e => 2 ^ e))]) globIs_sum rfl (by decide +kernel) (.inl ⟨_, rfl⟩) (fun _ _ => rfl) (.cons ?_ .nil) (sum_callN (by rw [← hsum]; omega))
            rw [show nL ((idx.map (low + ·)).map fun e => 2 ^ e) = ((List.range held.length).filter (fun i => isDueH due (held.getD i 0))).map fun i => PV.int ((2 ^ (low + i) : Nat) : Int) from by rw [hfil]; simp [nL]]
            apply Ev.compF (List.range held.length) (fun i => .int (i : Int)) (fun i => PV.int ((2 ^ (low + i) : Nat) : Int)) (fun i => isDueH due (held.getD i 0)) ["low", "leads", "due"] (ρin := [("low", .val (.int low)), ("leads", .val (.list (nL (L.map (·.1))))), ("due", .val (.int (due : Int)))])
            case hsc => exact ⟨rfl, by decide +kernel, by decide +kernel, by decide +kernel, by decide +kernel⟩
            case hfr => decide +kernel
            case hxs =>
              intro y hy
              rcases List.mem_cons.mp hy with rfl | hy
              · rfl
              · rcases List.mem_cons.mp hy with rfl | hy
                · rfl
                · rw [List.mem_singleton.mp hy]; rfl
            case hx => rfl
            case hi =>
              rw [← nat_range]
              intro w A env h₀ F₀ own s
              refine EvIt.range1 rfl (fun _ _ => rfl) (Ev.cast (congrArg (fun n : Nat => PV.int (n : Int)) ?_) (Ev.call globIs_len rfl (by decide +kernel) (.inl ⟨_, rfl⟩) (fun _ _ => rfl) (.cons (Ev.name rfl (by decide +kernel)) .nil) (lenL_call ?_))) g1 g2
              · rw [nL_len, List.length_map, hlen]
              · rw [nL_len, List.length_map, hlen]; omega
            case hin => exact .cons rfl rfl rfl (by decide +kernel) (.cons rfl rfl rfl (by decide +kernel) (.cons rfl rfl rfl (by decide +kernel) .nil))
            case hρ => rfl
            case hf => exact fun _ _ => rfl
            case hs => exact fun _ _ => rfl
            case hsz => rw [List.length_range]; omega
            case ht =>
              intro i hi
              have hi' := List.mem_range.mp hi
              have hg : (L.map (·.1))[i]? = some (held.getD i 0 + 2) := by
                rw [hlds, List.getElem?_map, List.getD_eq_getElem?_getD, List.getElem?_eq_getElem hi']; rfl
              refine .one (Tst.cmp (Ev.sub getT_list rfl (Ev.name rfl (by decide +kernel)) (Ev.name rfl (by decide +kernel)) (Op2.getL (i := (i : Int)) (by omega) (by omega) (nL_get hg)) (fun _ _ => ⟨_, rfl⟩)) (Ev.tuple (ps := iL [(due : Int) - 1, (due : Int)]) (fun _ _ => rfl) (.cons (Ev.bin (Ev.name rfl (by decide +kernel)) Ev.int Op2.subI) (.cons (Ev.name rfl (by decide +kernel)) .nil)) (show 2 ≤ sizeLine by decide)) (Op2.eq Op2.inT (congrArg PV.bool (due_any _ _))) rfl)
            case hv =>
              intro i hi _
              have hi' := List.mem_range.mp hi
              refine ⟨?_, rfl⟩
              intro w A env h₀ F₀ own s
              exact Ev.bin Ev.int (Ev.bin (Ev.name rfl (by decide +kernel)) (Ev.name rfl (by decide +kernel)) Op2.addI) (Op2.eq (Op2.shlI (by omega) (by omega) (by decide)) (congrArg PV.int (shl_nat (low + i) _ (by push_cast; rfl))))
          · have hM : ∀ x ∈ (dueRows due L).map (·.2), 44 ∉ x.cps.toList ∧ x.length ≤ 20 := fun x hx => by
              obtain ⟨q, hq, rfl⟩ := List.mem_map.mp hx
              have := (hok.ok q (List.mem_filter.mp hq).1).1
              exact ⟨this.comma, this.len⟩
            have hMne : (dueRows due L).map (·.2) ≠ [] := by
              rw [← hwords]
              intro e
              exact hne (List.map_eq_nil_iff.mp (List.map_eq_nil_iff.mp e))
            obtain ⟨s1, s2⟩ := words_split hMne fun x hx => (hM x hx).1
            have hjl := join_len (sep := ", ") (B := 20) fun x hx => (hM x hx).2
            rw [List.length_map, show (", " : Str).length = 2 from by decide +kernel] at hjl
            have hs : sizeLine = 2 ^ 24 := rfl
            have hbits := fun k => @bits_call k (idx.map (low + ·)) (fun e => hne (List.map_eq_nil_iff.mp e)) hasc fun e he => by have := hlt e he; omega
            rw [hwords] at hbits
            have hfin : duV (wireS L) low L (p ++ dueB due held []) = duV (wireS L) low L (p ++ (dueRows due L).map fun q => q.1.beq due) := by rw [hrows]
            rw [hfin]
            intro w A env h₀ F₀ own s
            refine Ex.post (ρ := woV (wireS L) low L due (bsum 0 (idx.map (low + ·))) (p ++ (dueRows due L).map fun q => q.1.beq due)) ?_ (Ex.one (Ex1.sub (ρ₂ := woV (wireS L) low L due (bsum 0 (idx.map (low + ·))) p) ?_ (Ex1.for_ (tt := false) (ps := sL ((dueRows due L).map (·.2))) ?_ ?_ (fun _ _ => rfl))))
            · exact .cons rfl (.cons rfl (.cons rfl (.cons rfl (.cons rfl (.cons rfl .nil)))))
            · exact .cons rfl (.cons rfl (.cons rfl (.cons rfl (.cons rfl (.cons rfl (.cons rfl (.cons rfl .nil)))))))
            · refine EvIt.list ?_ (strs_frozen _)
              intro w A env h₀ F₀ own s
              refine Ev.cast (congrArg (fun l => PV.list (sL l)) s1) ?_
              refine Ev.meth (p := .str (Txt.join ", " ((dueRows due L).map (·.2)))) (ps := [.str ", "]) meth_split rfl ?_ ?_ ?_ ?_ ?_ (.cons Ev.str .nil) ?_
              · exact fun _ => rfl
              · decide +kernel
              · simp
              · exact .const .nil
              · intro w A env h₀ F₀ own s
                exact Ev.call (.inl fun w => rfl) rfl (by decide +kernel) (.inr (.inr fun w => rfl)) (fun _ _ => rfl) (.cons (Ev.name rfl (by decide +kernel)) .nil) (hbits k)
              · have y1 : (Txt.join ", " ((dueRows due L).map (·.2))).length ≤ sizeLine := by omega
                have y2 : (partsBetween (Txt.join ", " ((dueRows due L).map (·.2))) (occurrences (Txt.join ", " ((dueRows due L).map (·.2))) ", " 0 (Txt.join ", " ((dueRows due L).map (·.2))).length ((Txt.join ", " ((dueRows due L).map (·.2))).length + 1)) (", " : Str).length).length ≤ sizeLine := by rw [s2, List.length_map]; omega
                have := fun k => @split_call k _ ", " (by decide +kernel) y1 y2
                exact @this _
            refine word_loop (fun p ρ h => Asg.name (.inl rfl) h) ?_ (fun ρ => Ex.nil) (dueRows due L) p (fun q hq => (List.mem_filter.mp hq).1) (by omega)
            · intro q hq p hp
              have hv := vat_mem hnd q hq
              have hpl : (pathS p).length ≤ 950 := by rw [pathS_len]; exact hp
              have hbeq : ((q.1 : Int) == (due : Int)) = q.1.beq due := by
                apply Bool.eq_iff_iff.mpr
                rw [beq_iff_eq, Nat.beq_eq]; omega
              have hol : ("(" : Str).length = 1 ∧ (")" : Str).length = 1 := by decide +kernel
              intro w A env h₀ F₀ own s
              refine Ex.post ?_ (Ex.one (Ex1.aug (x := "path") (p := .str (pathS p)) (q := .str (pathS [q.1.beq due])) (t := .str (pathS (p ++ [q.1.beq due]))) (.inl rfl) rfl ?_ ?_ rfl))
              · exact .cons rfl (.cons rfl (.cons rfl (.cons rfl (.cons rfl (.cons rfl (.cons rfl (.cons rfl .nil)))))))
              · rw [← hbeq]
                intro w A env h₀ F₀ own s
                cases e : ((q.1 : Int) == (due : Int)) with
                | true =>
                  refine Ev.cast (congrArg PV.str pathS_true.symm) (Ev.ifT (Tst.cmp (Ev.cast ?_ (Ev.dictGet rfl (by decide +kernel) (fun _ => rfl) (by decide +kernel) (fun _ _ => rfl) (Ev.name rfl (by decide +kernel)))) (Ev.name rfl (by decide +kernel)) (Op2.eq Op2.eqI (congrArg PV.bool e)) rfl) Ev.str)
                  rw [hv]; rfl
                | false =>
                  refine Ev.cast (congrArg PV.str pathS_false.symm) (Ev.ifF (Tst.cmp (Ev.cast ?_ (Ev.dictGet rfl (by decide +kernel) (fun _ => rfl) (by decide +kernel) (fun _ _ => rfl) (Ev.name rfl (by decide +kernel)))) (Ev.name rfl (by decide +kernel)) (Op2.eq Op2.eqI (congrArg PV.bool e)) rfl) Ev.str)
                  rw [hv]; rfl
              · rw [pathS_append]
                intro w A F s a b
                refine Op2.iaddS ?_
                rw [pathS_len (p := [q.1.beq due])]
                show _ + 1 ≤ _
                omega
end Mine

namespace Mine
open PySem PySem.W PySem.Builtin PySem.Builtin.Str PySem.StrLaws

def headT : List Bool → Bool
  | true :: _ => true
  | _ => false
theorem slice_one (p : List Bool) (a : Nat) : (slS (pathS p) (some (a : Int)) (some ((a : Int) + 1)) Option.none == ("(" : Str)) = headT (p.drop a) := by
  have h := slS_one (pathS p) a
  rw [pathS_list, ← List.map_drop, ← List.map_take] at h
  rw [show ((a : Int) + 1) = ((a + 1 : Nat) : Int) from by push_cast; rfl]
  have ho : ("(" : Str).cps.toList = [40] := by decide +kernel
  cases e : p.drop a with
  | nil =>
    rw [e] at h
    refine beq_eq_false_iff_ne.mpr fun q => ?_
    rw [q, ho] at h; cases h
  | cons b r =>
    rw [e] at h
    cases b with
    | true =>
      refine beq_iff_eq.mpr (str_inj ?_)
      rw [h, ho]; rfl
    | false =>
      refine beq_eq_false_iff_ne.mpr fun q => ?_
      rw [q, ho] at h
      simp at h
theorem one_len (x : Str) (a : Nat) : (slS x (some (a : Int)) (some ((a : Int) + 1)) Option.none).length ≤ 1 := by
  have h := slS_one x a
  rw [show ((a : Int) + 1) = ((a + 1 : Nat) : Int) from by push_cast; rfl]
  have e : ∀ y : Str, y.length = y.cps.toList.length := fun y => by simp [Str.length]
  rw [e, h, List.length_take]
  exact Nat.min_le_left _ _
theorem leadT_stop {l : List Bool} (h : leadT l = 0) : headT l = false := by
  cases l with
  | nil => rfl
  | cons b r =>
    cases b with
    | true => cases h
    | false => rfl
theorem leadT_next {p : List Bool} {a m : Nat} (h : leadT (p.drop a) = m + 1) : headT (p.drop a) = true ∧ leadT (p.drop (a + 1)) = m := by
  cases e : p.drop a with
  | nil => rw [e] at h; cases h
  | cons b r =>
    have e2 : p.drop (a + 1) = r := by rw [← List.drop_drop, e]; rfl
    rw [e] at h
    cases b with
    | true => exact ⟨rfl, by rw [e2]; exact Nat.succ.inj h⟩
    | false => cases h
theorem cond_of {α : Type} {b : Bool} {x y : α} (h : b = true) : cond b x y = x := by rw [h]; rfl
theorem cond_not {α : Type} {b : Bool} {x y : α} (h : b = false) : cond b x y = y := by rw [h]; rfl
theorem backIn_yes {p : List Bool} {d : Nat} {r : List Nat} {a : Nat} : backIn p d (d :: r) a = ((backIn p d r (a + 1 + leadT (p.drop (a + 1)))).1, d :: (List.replicate (leadT (p.drop (a + 1))) (d + 1) ++ (backIn p d r (a + 1 + leadT (p.drop (a + 1)))).2)) := by
  show cond (d.beq d) _ _ = _
  rw [cond_of (Nat.beq_refl d)]
theorem backIn_no {p : List Bool} {d h : Nat} {r : List Nat} {a : Nat} (q : h ≠ d) : backIn p d (h :: r) a = ((backIn p d r a).1, h :: (backIn p d r a).2) := by
  show cond (h.beq d) _ _ = _
  rw [cond_not (by rw [Bool.eq_false_iff]; exact fun e => q (Nat.eq_of_beq_eq_true e))]
theorem backIn_len {p : List Bool} {d : Nat} : ∀ {r : List Nat} {a : Nat}, r.length ≤ (backIn p d r a).2.length
  | [], _ => Nat.le_refl _
  | h :: r, a => by
    by_cases q : h = d
    · subst q
      rw [backIn_yes]
      have := backIn_len (p := p) (d := h) (r := r) (a := a + 1 + leadT (p.drop (a + 1)))
      simp; omega
    · rw [backIn_no q]
      have := backIn_len (p := p) (d := d) (r := r) (a := a)
      simpa using this
theorem backLoop_succ {p : List Bool} {n d a : Nat} {held : List Nat} : backLoop p (n + 1) d a held = backLoop p n (d + 1) (backIn p d held a).1 (backIn p d held a).2 := rfl
theorem backLoop_len {p : List Bool} : ∀ {n d a : Nat} {held : List Nat}, held.length ≤ (backLoop p n d a held).2.length
  | 0, _, _, _ => Nat.le_refl _
  | n + 1, d, a, held => by
    rw [backLoop_succ]
    exact Nat.le_trans (backIn_len (p := p) (d := d)) backLoop_len

def bkV (p : List Bool) (d : Nat) (h0 : List Nat) (g : List Nat) (a : Nat) : Vars := [("held", .val (.list (nL h0))), ("grown", .own (nL g)), ("at", .val (.int (a : Int))), ("depth", .val (.int (d : Int))), ("path", .val (.str (pathS p)))]
def bk0 (p : List Bool) (a : Nat) (held : List Nat) : Vars := [("at", .val (.int (a : Int))), ("held", .val (.list (nL held))), ("path", .val (.str (pathS p)))]
theorem nL_app (a b : List Nat) : nL (a ++ b) = nL a ++ nL b := List.map_append
theorem bw_loop {k : Nat} {sc : Scope} {g : Bool} {test : PySem.Expr} {body orelse : List Stmt} {p : List Bool} {d : Nat} {h0 : List Nat} (ht : ∀ l a, TstG g k sc (bkV p d h0 l a) test (headT (p.drop a))) (hb : ∀ l a, l.length ≤ 1000 → Ex g k sc (bkV p d h0 l a) body (.next (bkV p d h0 (l ++ [d + 1]) (a + 1)))) (ho : ∀ ρ, Ex g k sc ρ orelse (.next ρ)) :
    ∀ (m a : Nat) (l : List Nat), leadT (p.drop a) = m → l.length + m ≤ 1000 → WLoop g k sc test body orelse m (bkV p d h0 l a) (.next (bkV p d h0 (l ++ List.replicate m (d + 1)) (a + m)))
  | 0, a, l, h, _ => by
    rw [show l ++ List.replicate 0 (d + 1) = l from List.append_nil _]
    exact .stop (leadT_stop h ▸ ht l a) (ho _)
  | m + 1, a, l, h, hl => by
    obtain ⟨h1, h2⟩ := leadT_next h
    rw [List.replicate_succ, List.append_cons, show a + (m + 1) = a + 1 + m from by omega]
    exact .next (h1 ▸ ht l a) (hb l a (by omega)) (bw_loop ht hb ho m (a + 1) (l ++ [d + 1]) h2 (by rw [List.length_append]; simp; omega))
theorem bi_loop {k : Nat} {sc : Scope} {g : Bool} {tgt : PySem.Expr} {body orelse : List Stmt} {p : List Bool} {d : Nat} {h0 : List Nat} (hA : ∀ (p : PV) (ρ : Vars), p.frozen = true → Asg sc tgt false p ρ (("holders", .val p) :: ρ)) (h1 : ∀ (h : Nat) l a, h ≠ d → l.length ≤ 1000 → Ex g k sc (("holders", .val (.int (h : Int))) :: bkV p d h0 l a) body (.next (bkV p d h0 (l ++ [h]) a)))
    (h2 : ∀ l a, l.length + 1 + leadT (p.drop (a + 1)) ≤ 1000 → Ex g k sc (("holders", .val (.int (d : Int))) :: bkV p d h0 l a) body (.next (bkV p d h0 ((l ++ [d]) ++ List.replicate (leadT (p.drop (a + 1))) (d + 1)) (a + 1 + leadT (p.drop (a + 1)))))) (ho : ∀ ρ, Ex g k sc ρ orelse (.next ρ)) :
    ∀ (hs : List Nat) (a : Nat) (l : List Nat), l.length + (backIn p d hs a).2.length ≤ 1000 → Loop g k sc tgt false body orelse (nL hs) (bkV p d h0 l a) (.next (bkV p d h0 (l ++ (backIn p d hs a).2) (backIn p d hs a).1))
  | [], a, l, _ => by
    rw [show l ++ (backIn p d [] a).2 = l from List.append_nil _]
    exact .done (ho _)
  | h :: r, a, l, hl => by
    by_cases q : h = d
    · subst q
      rw [backIn_yes] at hl ⊢
      simp only [List.length_cons, List.length_append, List.length_replicate] at hl
      have := bi_loop (orelse := orelse) hA h1 h2 ho r (a + 1 + leadT (p.drop (a + 1))) ((l ++ [h]) ++ List.replicate (leadT (p.drop (a + 1))) (h + 1)) (by simp; omega)
      simp only [List.append_assoc, List.cons_append, List.nil_append] at this
      refine .next (hA _ _ rfl) (h2 l a (by omega)) ?_
      simp only [List.append_assoc, List.cons_append, List.nil_append]
      exact this
    · rw [backIn_no q] at hl ⊢
      simp only [List.length_cons] at hl
      refine .next (hA _ _ rfl) (h1 h l a q (by omega)) ?_
      rw [show (l ++ ((backIn p d r a).1, h :: (backIn p d r a).2).2) = (l ++ [h]) ++ (backIn p d r a).2 from List.append_cons _ _ _]
      exact bi_loop hA h1 h2 ho r a (l ++ [h]) (by simp; omega)
theorem bo_loop {k : Nat} {sc : Scope} {g : Bool} {tgt : PySem.Expr} {body orelse : List Stmt} {p : List Bool} (hA : ∀ (p : PV) (ρ : Vars), p.frozen = true → Asg sc tgt false p ρ (("depth", .val p) :: ρ))
    (hb : ∀ (d a : Nat) (held : List Nat), (backIn p d held a).2.length ≤ 1000 → Ex g k sc (("depth", .val (.int (d : Int))) :: bk0 p a held) body (.next (bk0 p (backIn p d held a).1 (backIn p d held a).2))) (ho : ∀ ρ, Ex g k sc ρ orelse (.next ρ)) :
    ∀ (n d a : Nat) (held : List Nat), (backLoop p n d a held).2.length ≤ 1000 → Loop g k sc tgt false body orelse ((List.range' d n).map fun j : Nat => PV.int (j : Int)) (bk0 p a held) (.next (bk0 p (backLoop p n d a held).1 (backLoop p n d a held).2))
  | 0, d, a, held, _ => .done (ho _)
  | n + 1, d, a, held, hl => by
    rw [List.range'_succ, List.map_cons]
    rw [backLoop_succ] at hl ⊢
    exact .next (hA _ _ rfl) (hb d a held (Nat.le_trans backLoop_len hl)) (bo_loop hA hb ho n (d + 1) _ _ hl)
theorem half_ok : ∀ m : Nat, m < 200 → Builtin.divisionGoesByPylong (m : Int) 2 = false ∧ (m : Int).fdiv 2 = ((m / 2 : Nat) : Int) := by decide +kernel
theorem leadT_drop : ∀ p : List Bool, leadT p ≤ p.length ∧ ((pathS p).length : Int) - ((Txt.lstripChars (pathS p) "(").length : Int) = (leadT p : Int) := by
  intro p
  have h1 : ∀ p : List Bool, leadT p + ((p.map fun b => if b = true then 40 else 41).dropWhile (· == 40)).length = p.length := by
    intro p
    induction p with
    | nil => rfl
    | cons b r ih =>
      cases b with
      | true =>
        show leadT r + 1 + ((40 :: _ : List Nat).dropWhile _).length = _
        rw [List.dropWhile_cons_of_pos (by rfl), List.length_cons]; omega
      | false =>
        show 0 + ((41 :: _ : List Nat).dropWhile _).length = _
        rw [List.dropWhile_cons_of_neg (by decide)]; simp
  have h2 := h1 p
  have h3 : (Txt.lstripChars (pathS p) "(").length = ((p.map fun b => if b = true then 40 else 41).dropWhile (· == 40)).length := by
    have := lstrip_one (x := pathS p) (y := "(") (c := 40) (by decide +kernel)
    rw [pathS_list] at this
    rw [← this]; simp [Str.length]
  rw [h3, pathS_len]
  omega
set_option maxHeartbeats 1000000
theorem back_call {k : Nat} {p : List Bool} {held : List Nat} (hb : backB p = held) (hne : held ≠ []) (hl : held.length ≤ 11) (hp : p.length < 200) : OpN (k + 1) [.str (pathS p)] (fun vs => PySem.call (.ref 120) vs) (.list (nL held)) := by
  obtain ⟨l1, l2⟩ := leadT_drop p
  have hs : sizeLine = 2 ^ 24 := rfl
  have hpl := pathS_len (p := p)
  have hpz : (pathS p).length ≤ sizeLine := by omega
  obtain ⟨d1, d2⟩ := half_ok p.length hp
  obtain ⟨g1, g2⟩ := range1_ok (p.length / 2) (by omega)
  have hbe : (backLoop p (p.length / 2) 0 (leadT p) (List.replicate (leadT p) 0)).1 = p.length ∧ (backLoop p (p.length / 2) 0 (leadT p) (List.replicate (leadT p) 0)).2 = held := by
    have e : cond ((backLoop p (p.length / 2) 0 (leadT p) (List.replicate (leadT p) 0)).1.beq p.length) (backLoop p (p.length / 2) 0 (leadT p) (List.replicate (leadT p) 0)).2 [] = held := hb
    cases q : (backLoop p (p.length / 2) 0 (leadT p) (List.replicate (leadT p) 0)).1.beq p.length with
    | true =>
      rw [q] at e
      exact ⟨Nat.eq_of_beq_eq_true q, e⟩
    | false =>
      rw [q] at e
      exact absurd e.symm hne
  intro w0 A0 F0 s0 vs0
  refine OpN.of_call fun {w A F s vs} R B Lv r => ?_
  refine Call.intro (fun w => ⟨_, rfl, rfl⟩) rfl (sc := ⟨_, _, _, _, _⟩) rfl rfl rfl rfl rfl rfl rfl (fun w => rfl) (names := ["path"]) (ps := [.str (pathS p)]) ?_ rfl (by decide +kernel) ?_ (by decide +kernel) rfl ?_ R B Lv r
  · intro vs h
    match vs, h with
    | [u], _ => rfl
  · intro z hz
    rw [List.mem_singleton.mp hz]
    exact .inl rfl
  · refine Ex.cons (Ex1.assign (.inl rfl) (fun _ => rfl) (p := .int (leadT p : Int)) (Ev.bin (Ev.call globIs_len rfl (by decide +kernel) (.inl ⟨_, rfl⟩) (fun _ _ => rfl) (.cons (Ev.name rfl (by decide +kernel)) .nil) (lenS_call ?_)) (Ev.call globIs_len rfl (by decide +kernel) (.inl ⟨_, rfl⟩) (fun _ _ => rfl) (.cons (Ev.meth meth_lstrip rfl (fun _ => rfl) (by decide +kernel) (by simp) (.const .nil) (Ev.name rfl (by decide +kernel)) (.cons (p := .str "(") Ev.str .nil) (lstrip_call ?_)) .nil) (lenS_call ?_)) (Op2.eq Op2.subI (congrArg PV.int l2))) rfl) ?_
    · omega
    · omega
    · omega
    refine Ex.cons (Ex1.assign (.inl rfl) (fun _ => rfl) (p := .list (nL (List.replicate (leadT p) 0))) (Ev.bin (Ev.list (ps := [.int 0]) (.const .nil) (.cons Ev.int .nil) (by decide)) (Ev.name rfl (by decide +kernel)) (Op2.eq (Op2.mulL (by omega) (by omega)) ?_)) (nL_frozen _)) ?_
    · rw [Int.toNat_natCast, show nL (List.replicate (leadT p) 0) = List.replicate (leadT p) (PV.int 0) from by simp [nL]]
    refine Ex.cons (Ex1.sub (ρ₂ := bk0 p (leadT p) (List.replicate (leadT p) 0)) ?_ (Ex1.for_ (tt := false) (ps := (List.range' 0 (p.length / 2)).map fun j : Nat => PV.int (j : Int)) ?_ ?_ (fun _ _ => rfl))) (ρ' := bk0 p (backLoop p (p.length / 2) 0 (leadT p) (List.replicate (leadT p) 0)).1 (backLoop p (p.length / 2) 0 (leadT p) (List.replicate (leadT p) 0)).2) ?_
    · exact .cons rfl (.cons rfl (.cons rfl .nil))
    · rw [← List.range_eq_range', ← nat_range]
      intro w A env h₀ F₀ own s
      refine EvIt.range1 rfl (fun _ _ => rfl) (Ev.bin (Ev.cast (congrArg (fun n : Nat => PV.int (n : Int)) hpl) (Ev.call globIs_len rfl (by decide +kernel) (.inl ⟨_, rfl⟩) (fun _ _ => rfl) (.cons (Ev.name rfl (by decide +kernel)) .nil) (lenS_call ?_))) Ev.int (Op2.eq (Op2.divI (by decide) d1) (congrArg PV.int d2))) g1 g2
      omega
    · refine bo_loop (fun p ρ h => Asg.name (.inl rfl) h) ?_ (fun ρ => Ex.nil) (p.length / 2) 0 (leadT p) (List.replicate (leadT p) 0) (by rw [hbe.2]; omega)
      intro d a h0 hlen
      refine Ex.cons (Ex1.assignOwn (.inl rfl) (fun _ _ => rfl) .nil rfl (Nat.zero_le _)) ?_
      refine Ex.cons (Ex1.sub (ρ₂ := bkV p d h0 [] a) ?_ (Ex1.for_ (tt := false) (ps := nL h0) (EvIt.list (Ev.name rfl (by decide +kernel)) (nL_frozen _)) (bi_loop (fun p ρ h => Asg.name (.inl rfl) h) ?_ ?_ (fun ρ => Ex.nil) h0 a [] (by simpa using hlen)) (fun _ _ => rfl))) ?_
      · exact .cons rfl (.cons rfl (.cons rfl (.cons rfl (.cons rfl .nil))))
      · intro h l a hq hl
        refine Ex.cons (Ex1.append (p := .int (h : Int)) rfl (by decide +kernel) (fun _ => rfl) (by decide +kernel) (fun _ _ => rfl) (Ev.name rfl (by decide +kernel)) rfl (by rw [nL_len]; omega)) ?_
        refine Ex.post ?_ (Ex.one (Ex1.ifF (Tst.g <| Tst.cmp (Ev.name rfl (by decide +kernel)) (Ev.name rfl (by decide +kernel)) (Op2.eq Op2.eqI (congrArg PV.bool ?_)) rfl) Ex.nil))
        · refine .cons rfl (.cons ?_ (.cons rfl (.cons rfl (.cons rfl .nil))))
          rw [nL_app]; rfl
        · exact beq_eq_false_iff_ne.mpr fun e => hq (by omega)
      · intro l a hl
        refine Ex.cons (Ex1.append (p := .int (d : Int)) rfl (by decide +kernel) (fun _ => rfl) (by decide +kernel) (fun _ _ => rfl) (Ev.name rfl (by decide +kernel)) rfl (by rw [nL_len]; omega)) ?_
        refine Ex.one (Ex1.ifT (Tst.g <| Tst.cmp (Ev.name rfl (by decide +kernel)) (Ev.name rfl (by decide +kernel)) (Op2.eq Op2.eqI (congrArg PV.bool (beq_self_eq_true _))) rfl) ?_)
        refine Ex.cons (Ex1.aug (p := .int (a : Int)) (q := .int 1) (t := .int ((a + 1 : Nat) : Int)) (.inl rfl) rfl Ev.int (Op2.eq Op2.iaddI (congrArg PV.int (by push_cast; rfl))) rfl) ?_
        refine Ex.one (Ex1.sub (ρ₂ := bkV p d h0 (l ++ [d]) (a + 1)) ?_ (Ex1.while_ (n := leadT (p.drop (a + 1))) (bw_loop ?_ ?_ (fun ρ => Ex.nil) _ (a + 1) (l ++ [d]) rfl (by simp; omega))))
        · refine .cons rfl (.cons ?_ (.cons rfl (.cons rfl (.cons rfl .nil))))
          rw [nL_app]; rfl
        · intro l a
          exact Tst.g <| Tst.cmp (Ev.sliceS (Ev.name rfl (by decide +kernel)) (.some (Ev.name rfl (by decide +kernel))) (.some (Ev.bin (Ev.name rfl (by decide +kernel)) Ev.int Op2.addI)) .none (by decide) hpz (Nat.le_trans (one_len _ _) (by decide)) (fun _ _ => ⟨_, rfl⟩)) Ev.str (Op2.eq Op2.eqS (congrArg PV.bool (slice_one p a))) rfl
        · intro l a hl
          refine Ex.cons (Ex1.append (p := .int ((d + 1 : Nat) : Int)) rfl (by decide +kernel) (fun _ => rfl) (by decide +kernel) (fun _ _ => rfl) (Ev.bin (Ev.name rfl (by decide +kernel)) Ev.int (Op2.eq Op2.addI (congrArg PV.int (by push_cast; rfl)))) rfl (by rw [nL_len]; omega)) ?_
          refine Ex.post ?_ (Ex.one (Ex1.aug (p := .int (a : Int)) (q := .int 1) (t := .int ((a + 1 : Nat) : Int)) (.inl rfl) rfl Ev.int (Op2.eq Op2.iaddI (congrArg PV.int (by push_cast; rfl))) rfl))
          refine .cons rfl (.cons ?_ (.cons rfl (.cons rfl (.cons rfl .nil))))
          rw [nL_app]; rfl
      · refine Ex.freeze (x := "grown") rfl ?_
        refine Ex.post ?_ (Ex.one (Ex1.assign (.inl rfl) (fun _ => rfl) (p := .list (nL _)) (Ev.name rfl (by decide +kernel)) (nL_frozen _)))
        exact .cons rfl (.cons rfl (.cons rfl .nil))
    · rw [hbe.1, hbe.2]
      intro w A env h₀ F₀ own s
      refine Ex.ret (Ex1.retE (p := .list (nL _)) (Ev.ifT (Tst.cmp (Ev.name rfl (by decide +kernel)) (Ev.cast (congrArg (fun n : Nat => PV.int (n : Int)) hpl) (Ev.call globIs_len rfl (by decide +kernel) (.inl ⟨_, rfl⟩) (fun _ _ => rfl) (.cons (Ev.name rfl (by decide +kernel)) .nil) (lenS_call ?_))) (Op2.eq Op2.eqI (congrArg PV.bool (beq_self_eq_true _))) rfl) (Ev.name rfl (by decide +kernel))) (nL_frozen _))
      omega
end Mine

namespace Mine
open PySem PySem.W PySem.Builtin PySem.Builtin.Str PySem.StrLaws

def enumFrom : Nat → List Nat → List PV
  | _, [] => []
  | i, c :: r => .tup [.int (i : Int), .str ⟨#[c]⟩] :: enumFrom (i + 1) r
theorem enumFrom_len : ∀ {l : List Nat} {i : Nat}, (enumFrom i l).length = l.length
  | [], _ => rfl
  | c :: r, i => congrArg (· + 1) enumFrom_len
theorem enumFrom_get : ∀ {l : List Nat} {i j : Nat} {p : PV}, (enumFrom i l)[j]? = some p → ∃ c, l[j]? = some c ∧ p = .tup [.int ((i + j : Nat) : Int), .str ⟨#[c]⟩]
  | [], _, _, _, h => by simp [enumFrom] at h
  | c :: r, i, 0, p, h => by simp [enumFrom] at h; exact ⟨c, rfl, h.symm⟩
  | c :: r, i, j + 1, p, h => by
    obtain ⟨d, h1, h2⟩ := enumFrom_get (l := r) (i := i + 1) (j := j) (by simpa [enumFrom] using h)
    exact ⟨d, h1, by rw [h2, show i + 1 + j = i + (j + 1) from by omega]⟩

theorem EvG.enumStr {k : Nat} {sc : Scope} {ρ : Vars} {hs : Heap} {ax gl : Addr} {elts : List PySem.Expr} {x1 : Nat} {px fp pos : Pos} {ea : PySem.Expr} {x : Str} (hx : sc.names.lookup ("enumerate" : Str) = some .globalImplicit) (hpl : Plain [ea]) (he : Ev k sc ρ ea (.str x)) (hasc : x.cps.all (· < 128) = true) (hax : ∃ o, hs.get? ax = some o) :
    EvG k sc ρ hs ax gl (.Tuple elts x1 px) true (.Call (.Name "enumerate" fp) [ea] [] pos) (enumFrom 0 x.cps.toList) := fun {w A env h₀ s} R E S hgl hlv => by
  show wpAny (model prg w) A (do callWith pos (← PySem.eval (.Name "enumerate" fp) env) [] (backTo pos (starEach [ea] env)) (backToKw pos (keywordEach [] env))) _ _ s
  rw [hpl]
  have G : GlobIs "enumerate" (.type "enumerate") := .inr ⟨fun w => rfl, rfl, by decide +kernel⟩
  refine wpAny_bind (G.load E hx (by decide +kernel) S.here ?_)
  refine (EvL.cons he .nil).call R E S (.inr (.inl ⟨_, rfl⟩)) fun vs s₁ k₁ r => ?_
  obtain ⟨v1, r1, rfl, rv1, e⟩ := r
  rw [show r1 = [] from e]
  obtain ⟨t, rfl⟩ := rv1
  refine call_enumerate_str fun h' hen hit hsz hkeep => ?_
  have hit' : h'.IsStrIter s₁.heap.objs.size "str_ascii_iterator" x t 0 := by simpa [strIterType, hasc] using hit
  generalize hB : s₁.heap.objs.size = B at hen hit' hsz ⊢
  have fresh1 : ∀ j, s₁.heap.get? (B + j) = Option.none := fun j => by
    cases e : s₁.heap.get? (B + j) with
    | none => rfl
    | some o => exact absurd (Heap.lt_size e) (by rw [hB]; exact Nat.not_lt.mpr (Nat.le_add_right B j))
  have fresh0 : ∀ j, s.heap.get? (B + j) = Option.none := fun j => by
    cases e : s.heap.get? (B + j) with
    | none => rfl
    | some o => have := k₁.up _ _ e; rw [fresh1] at this; cases this
  have freshS : ∀ j, hs.get? (B + j) = Option.none := fun j => by
    cases e : hs.get? (B + j) with
    | none => rfl
    | some o => obtain ⟨o', e'⟩ := hlv _ _ e; rw [fresh0] at e'; cases e'
  have hB0 : hs.get? B = Option.none := by have := freshS 0; simpa using this
  have hgl0 : ∃ o, s.heap.get? gl = some o := by
    obtain ⟨m, o, _, _, ho, _⟩ := S.ns
    exact ⟨o, hgl ▸ ho⟩
  have glne : ∀ j, B + j ≠ gl := fun j q => by
    obtain ⟨o, ho⟩ := hgl0
    rw [← q, fresh0] at ho; cases ho
  have axne : ∀ j, B + j ≠ ax := fun j q => by
    obtain ⟨o, ho⟩ := hax
    rw [← q, freshS] at ho; cases ho
  have k₂ : Kp s₁ { s₁ with heap := h' } := Kp.heap s₁ fun c o e => hkeep c o e
  have hW : ∀ A' : Around, A'.handled = Option.none → _ := fun A' hh => KTurns.ofWalksU (elts := elts) (k := x1) (pos := px) (WalksT.enumerateD (prog := prg) (w := w) (A := A') (Draws.strAscii (A := A'.in1) hh B x t) (B + 1) (Nat.succ_ne_self _) (fun hm => Nat.succ_ne_self _ (List.mem_singleton.mp hm)) (by simp)).toU
  have hlen : x.cps.size = (enumFrom 0 x.cps.toList).length := by rw [enumFrom_len]; simp
  rw [hlen] at hW
  refine wpAny_pyIter_enum hen ⟨k₁.trans k₂, B + 1, _, _, _, _, _, rfl, hW, ⟨⟨_, hen⟩, hit'⟩, fun i h hst b hb => ?_, fun b hb => ?_, fun b hb => ?_, fun i v h p hP hp F => ?_⟩
  · obtain ⟨⟨old, h1⟩, o2, h2, h3, _⟩ := hst
    rcases List.mem_cons.mp hb with rfl | hb
    · exact .inr ⟨_, h1, fun d => by rcases d with d | d | d <;> simp at d⟩
    · rw [List.mem_singleton.mp hb]
      exact .inr ⟨o2, h2, fun d => by rcases d with d | d | d <;> (rw [h3] at d; simp at d)⟩
  · rcases List.mem_cons.mp hb with rfl | hb
    · exact ⟨glne 1, .inr (freshS 1)⟩
    · rw [List.mem_singleton.mp hb]
      exact ⟨glne 0, .inr hB0⟩
  · rcases List.mem_cons.mp hb with rfl | hb
    · exact axne 1
    · rw [List.mem_singleton.mp hb]
      exact axne 0
  · obtain ⟨T, vals, rfl, ⟨t1, y, ⟨c, u, hc, rfl⟩, rfl⟩, hT⟩ := hP
    obtain ⟨c', h1, rfl⟩ := enumFrom_get hp
    have ec : c = c' := by
      rw [← Array.getElem?_toList] at hc
      rw [hc] at h1; exact Option.some.inj h1
    subst ec
    exact ⟨T, _, rfl, hT, _, [_], rfl, ⟨t1, by rw [Nat.zero_add]⟩, _, [], rfl, ⟨u, rfl⟩, rfl⟩
end Mine

namespace Mine
open PySem PySem.W PySem.Builtin PySem.Builtin.Str PySem.StrLaws

theorem quote_str : ("\"" : Str) = ⟨#[34]⟩ := by decide +kernel
theorem path_noq {p : List Bool} : Txt.contains (pathS p) "\"" = false := by
  rw [quote_str]
  show (!(occurrences (pathS p) ⟨#[34]⟩ 0 (pathS p).length 1).isEmpty) = false
  rw [found_one, pathS_list]
  refine decide_eq_false fun h => ?_
  obtain ⟨b, _, e⟩ := List.mem_map.mp h
  cases b <;> simp at e
theorem strip_call {k : Nat} {p : List Bool} : OpN (k + 1) [.str (pathS p)] (fun vs => PySem.call (.ref 45) vs) (.str (pathS p)) := by
  refine OpN.of_call fun {w A F s vs} R B Lv r => ?_
  refine Call.intro (fun w => ⟨_, rfl, rfl⟩) rfl (sc := ⟨_, _, _, _, _⟩) rfl rfl rfl rfl rfl rfl rfl (fun w => rfl) (names := ["addr"]) (ps := [.str (pathS p)]) ?_ rfl (by decide +kernel) ?_ (by decide +kernel) rfl ?_ R B Lv r
  · intro vs h
    match vs, h with
    | [u], _ => rfl
  · intro z hz
    rw [List.mem_singleton.mp hz]
    exact .inl rfl
  · exact Ex.ret (Ex1.ifT (Tst.g <| Tst.cmp Ev.str (Ev.name rfl (by decide +kernel)) (Op2.eq Op2.notinS (congrArg PV.bool (by rw [path_noq]; rfl))) rfl) (Ex.ret (Ex1.retE (Ev.name rfl (by decide +kernel)) rfl)))

section
variable {k : Nat} {sc : Scope} {ρ : Vars}
/-- an expression that may make generators -/
def EvK (k : Nat) (sc : Scope) (ρ : Vars) (e : PySem.Expr) (p : PV) : Prop :=
  ∀ {w : World} {A : Around} {env : Env} {h₀ : Heap} {F₀ : List Addr} {own : List (Str × Addr)} {s : Shared}, Room k A → EnvOK sc env → St w env h₀ F₀ own ρ s.heap →
    wpAny (model prg w) A (PySem.eval e env) (fun v s' => GK true s s' ∧ Up s.heap s'.heap ∧ RV w s'.heap (Fof env F₀ own) p v) NoE s
def CallG (k : Nat) (ps : List PV) (f : Value) (q : PV) : Prop :=
  ∀ {w : World} {A : Around} {F : List Addr} {s : Shared} {vs : List Value}, Room k A → Base w s.heap → Live F s.heap → RVs w s.heap F ps vs →
    wpAny (model prg w) A (PySem.call f vs) (fun v s' => GK true s s' ∧ Up s.heap s'.heap ∧ RV w s'.heap F q v) NoE s
theorem EvK.call {f : Str} {v : Value} {fp pos : Pos} {es : List PySem.Expr} {ps : List PV} {q : PV} (G : GlobIs f v) (hx : sc.names.lookup f = some .globalImplicit) (hd : (f == ("__debug__" : Str)) = false) (c : Callee v) (hpl : Plain es) (h : EvL k sc ρ es ps)
    (ho : CallG k ps v q) : EvK k sc ρ (.Call (.Name f fp) es [] pos) q := fun {w A env h₀ F₀ own s} R E S => by
  show wpAny (model prg w) A (do callWith pos (← PySem.eval (.Name f fp) env) [] (backTo pos (starEach es env)) (backToKw pos (keywordEach [] env))) _ _ s
  rw [hpl]
  refine wpAny_bind (G.load E hx hd S.here ?_)
  refine h.call R E S c fun vs s₁ k₁ r => ?_
  have S₁ := S.up k₁.up
  exact wpAny_mono (ho R S₁.here S₁.live r) (fun v s₂ x => ⟨(GK.of_kp k₁).trans x.1, fun b o e => x.2.1 _ _ (k₁.up _ _ e), x.2.2⟩) fun _ _ x => x
theorem TstG.cmpK {l r : PySem.Expr} {op : CmpOp} {pos : Pos} {p q : PV} {b : Bool} (hl : EvK k sc ρ l p) (hr : Ev k sc ρ r q) (ho : Op2 k p q (compareOp op) (.bool b)) (hm : behindInMarks op r = false) : TstG true k sc ρ (.Compare l [op] [r] pos) b := fun {w A env h₀ F₀ own s} R E S => by
  refine wpAny_isTrue_Compare1 (wpAny_mono (hl R E S) (fun a s₁ h₁ => ?_) fun _ _ x => x) hm
  obtain ⟨g₁, u₁, ra⟩ := h₁
  refine (hr R E (S.up u₁)).bind fun b' s₂ k₂ rb => ?_
  have S₂ := (S.up u₁).up k₂.up
  refine (ho R S₂.here S₂.live (RV.up k₂.up _ ra) rb).bind fun v s₃ k₃ rv => ?_
  rw [show v = .bool _ from rv]
  exact wpAny_truthy_bool ⟨rfl, g₁.trans (.of_kp (k₂.trans k₃)), fun b o e => (k₂.trans k₃).up _ _ (u₁ _ _ e)⟩
end
theorem Atoms.nil : Atoms [] := fun x e h => nomatch h
theorem Atoms.cons {ρ : Vars} {x : Str} {p : PV} (hp : atom p = true) (h : Atoms ρ) : Atoms ((x, .val p) :: ρ) := fun y e hy => by
  rw [List.lookup_cons] at hy
  by_cases q : (y == x) = true
  · rw [q] at hy; cases hy; exact ⟨p, rfl, hp⟩
  · simp only [q] at hy; exact h y e hy
def chars (p : List Bool) : List Nat := p.map fun b => if b = true then 40 else 41
theorem path_ascii {p : List Bool} : (pathS p).cps.all (· < 128) = true := by
  rw [← Array.all_toList, pathS_list, List.all_eq_true]
  intro c hc
  obtain ⟨b, _, rfl⟩ := List.mem_map.mp hc
  cases b <;> decide

/-- the consumer -/
theorem chk_loop {k : Nat} {sc : Scope} {tgt : PySem.Expr} {body : List Stmt} {V : Int → Vars} (hA : ∀ (p q : PV) (ρ : Vars), p.frozen = true → q.frozen = true → Asg sc tgt true (.tup [p, q]) ρ (("ch", .val q) :: ("pos", .val p) :: ρ))
    (h1 : ∀ (i o : Nat), Ex false k sc (("ch", .val (.str ⟨#[40]⟩)) :: ("pos", .val (.int (i : Int))) :: V o) body (.next (V ((o + 1 : Nat) : Int)))) (h2 : ∀ (i o : Nat), Ex false k sc (("ch", .val (.str ⟨#[41]⟩)) :: ("pos", .val (.int (i : Int))) :: V ((o + 1 : Nat) : Int)) body (.next (V o)))
    (h3 : ∀ i : Nat, Ex false k sc (("ch", .val (.str ⟨#[41]⟩)) :: ("pos", .val (.int (i : Int))) :: V 0) body (.ret (.bool false))) :
    ∀ (p : List Bool) (i o : Nat), (∃ o' : Nat, LoopG k sc tgt true true body [] (enumFrom i (chars p)) (V o) (.next (V o')) ∧ checkB o p = o'.beq 0) ∨ (LoopG k sc tgt true true body [] (enumFrom i (chars p)) (V o) (.ret (.bool false)) ∧ checkB o p = false)
  | [], i, o => .inl ⟨o, .done rfl Ex.nil, rfl⟩
  | true :: r, i, o => by
    rcases chk_loop hA h1 h2 h3 r (i + 1) (o + 1) with ⟨o', a, b⟩ | ⟨a, b⟩
    · exact .inl ⟨o', .next (hA _ _ _ rfl rfl) (h1 i o) a, b⟩
    · exact .inr ⟨.next (hA _ _ _ rfl rfl) (h1 i o) a, b⟩
  | false :: r, i, 0 => .inr ⟨.ret (hA _ _ _ rfl rfl) (h3 i), rfl⟩
  | false :: r, i, o + 1 => by
    rcases chk_loop hA h1 h2 h3 r (i + 1) o with ⟨o', a, b⟩ | ⟨a, b⟩
    · exact .inl ⟨o', .next (hA _ _ _ rfl rfl) (h2 i o) a, b⟩
    · exact .inr ⟨.next (hA _ _ _ rfl rfl) (h2 i o) a, b⟩
/-- the generator's turns -/
theorem esc_loop {k : Nat} {sc : Scope} {w : World} {A : Around} {env : Env} {h₀ hs : Heap} {ax gl : Addr} {all : List PV} {tgt : PySem.Expr} {body : List Stmt} (hA : ∀ (p q : PV) (ρ : Vars), p.frozen = true → q.frozen = true → AsgL sc tgt true (.tup [p, q]) ρ (("ch", .val q) :: ("pos", .val p) :: ρ))
    (hb : ∀ (i c : Nat) (ρ : Vars), (c = 40 ∨ c = 41) → Atoms ρ → ρ.lookup ("escape" : Str) = some (.val (.bool false)) → GS k w A env h₀ hs ax gl false true true all body (("ch", .val (.str ⟨#[c]⟩)) :: ("pos", .val (.int (i : Int))) :: ρ) [.tup [.int (i : Int), .str ⟨#[c]⟩]] (some (.next, ("ch", .val (.str ⟨#[c]⟩)) :: ("pos", .val (.int (i : Int))) :: ρ))) :
    ∀ (l : List Nat) (i : Nat) (ρ : Vars), (∀ c ∈ l, c = 40 ∨ c = 41) → Atoms ρ → ρ.lookup ("escape" : Str) = some (.val (.bool false)) → ∃ ρ', GLoop k sc w A env h₀ hs ax gl false true true all tgt true body [] (enumFrom i l) ρ (enumFrom i l) (some (.next, ρ')) ∧ Atoms ρ' ∧ ρ'.lookup ("escape" : Str) = some (.val (.bool false))
  | [], i, ρ, _, ha, he => ⟨ρ, .done ha GS.nil, ha, he⟩
  | c :: r, i, ρ, hc, ha, he => by
    have ha' : Atoms (("ch", .val (.str ⟨#[c]⟩)) :: ("pos", .val (.int (i : Int))) :: ρ) := .cons rfl (.cons rfl ha)
    have he' : List.lookup ("escape" : Str) (("ch", .val (.str ⟨#[c]⟩)) :: ("pos", .val (.int (i : Int))) :: ρ) = some (.val (.bool false)) := he
    obtain ⟨ρ', a, b, d⟩ := esc_loop hA hb r (i + 1) _ (fun x hx => hc x (List.mem_cons_of_mem _ hx)) ha' he'
    exact ⟨ρ', .next ha (hA _ _ _ rfl rfl) (hb i c ρ (hc c List.mem_cons_self) ha he) a, b, d⟩
end Mine

namespace Mine
open PySem PySem.W PySem.Builtin PySem.Builtin.Str PySem.StrLaws

theorem Tst.bool {k : Nat} {sc : Scope} {ρ : Vars} {e : PySem.Expr} {b : Bool} (he : ∀ env whole, isTrue e env whole = (do let v ← whole; standAt e.pos; holding [v] (truthy v))) (hx : Ev k sc ρ e (.bool b)) : Tst k sc ρ e b := Tst.plain he hx Tru.bool
def opV (p : List Bool) (o : Int) : Vars := [("opens", .val (.int o)), ("addr", .val (.str (pathS p)))]
theorem ne1 : ((⟨#[41]⟩ : Str) == ("(" : Str)) = false := by decide +kernel
theorem eq1 : ((⟨#[40]⟩ : Str) == ("(" : Str)) = true := by decide +kernel
theorem eq2 : ((⟨#[41]⟩ : Str) == (")" : Str)) = true := by decide +kernel
theorem bs40 : ((⟨#[40]⟩ : Str) == ("\\" : Str)) = false := by decide +kernel
theorem bs41 : ((⟨#[41]⟩ : Str) == ("\\" : Str)) = false := by decide +kernel
section
variable {k : Nat} {sc : Scope} {w : World} {A : Around} {env : Env} {h₀ hs : Heap} {ax gl : Addr} {all : List PV}
theorem gs_top {ss : List Stmt} {ρ : Vars} {ys : List PV} (h : ∃ ρ', GS k w A env h₀ hs ax gl true true true all ss ρ ys (some (.next, ρ'))) : ∃ o, GS k w A env h₀ hs ax gl true true true all ss ρ ys o ∧ (∀ f ρ', o = some (f, ρ') → true = true ∧ (f = .next ∨ f = .ret .none)) ∧ (o = Option.none → all ≠ []) := by
  obtain ⟨ρ', h⟩ := h
  exact ⟨some (.next, ρ'), @h, fun f ρ'' e => by cases e; exact ⟨rfl, .inl rfl⟩, fun e => nomatch e⟩
theorem gs_pre {st : Stmt} {ss : List Stmt} {ρ ρ₁ : Vars} {ys : List PV} (h1 : GS1 k w A env h₀ hs ax gl true true true all st ρ [] (some (.next, ρ₁))) (h : ∃ ρ', GS k w A env h₀ hs ax gl true true true all ss ρ₁ ys (some (.next, ρ'))) : ∃ ρ', GS k w A env h₀ hs ax gl true true true all (st :: ss) ρ ([] ++ ys) (some (.next, ρ')) := by
  obtain ⟨ρ', h⟩ := h
  exact ⟨ρ', GS.cons h1 h⟩
theorem gs_for {L : Vars → Prop} {P : Vars → Prop} {st : Stmt} {ss : List Stmt} {ρ : Vars} {ys : List PV} (H : ∀ ρ', L ρ' → GS1 k w A env h₀ hs ax gl true true true all st ρ ys (some (.next, ρ'))) (D : ∃ ρ', L ρ' ∧ P ρ') (hr : ∀ ρ', P ρ' → GS k w A env h₀ hs ax gl true true true all ss ρ' [] (some (.next, ρ'))) : ∃ ρ', GS k w A env h₀ hs ax gl true true true all (st :: ss) ρ (ys ++ []) (some (.next, ρ')) := by
  obtain ⟨ρ', h1, h2⟩ := D
  exact ⟨ρ', GS.cons (H _ h1) (hr _ h2)⟩
end
theorem chk_top {g : Bool} {k : Nat} {sc : Scope} {ρ : Vars} {L : Out → Prop} {st : Stmt} {rest : List Stmt} {V : Nat → Vars} {b : Bool} (H : ∀ o, L o → Ex1 g k sc ρ st o) (D : (∃ o' : Nat, L (.next (V o')) ∧ b = o'.beq 0) ∨ (L (.ret (.bool false)) ∧ b = false)) (hr : ∀ o' : Nat, Ex g k sc (V o') rest (.ret (.bool (o'.beq 0)))) : Ex g k sc ρ (st :: rest) (.ret (.bool b)) := by
  rcases D with ⟨o', h1, rfl⟩ | ⟨h1, rfl⟩
  · exact Ex.cons (H _ h1) (hr o')
  · exact Ex.ret (H _ h1)
set_option maxHeartbeats 1000000
theorem check_call {k : Nat} {p : List Bool} : CallG (k + 3) [.str (pathS p)] (.ref 52) (.bool (checkB 0 p)) := by
  intro w A F s vs R B Lv r
  refine Call.intro (g := true) (fun w => ⟨_, rfl, rfl⟩) rfl (sc := ⟨_, _, _, _, _⟩) rfl rfl rfl rfl rfl rfl rfl (fun w => rfl) (names := ["addr"]) (ps := [.str (pathS p)]) ?_ rfl (by decide +kernel) ?_ (by decide +kernel) rfl ?_ R B Lv r
  · intro vs h
    match vs, h with
    | [u], _ => rfl
  · intro z hz
    rw [List.mem_singleton.mp hz]
    exact .inl rfl
  · refine Ex.cons (Ex1.assign (.inl rfl) (fun _ => rfl) (p := .str (pathS p)) (Ev.call (.inl fun w => rfl) rfl (by decide +kernel) (.inr (.inr fun w => rfl)) (fun _ _ => rfl) (.cons (Ev.name rfl (by decide +kernel)) .nil) strip_call) rfl) ?_
    refine Ex.cons (Ex1.assign (.inl rfl) (fun _ => rfl) (p := .int 0) Ev.int rfl) ?_
    refine Ex.sub (ρ₂ := opV p 0) (.cons rfl (.cons rfl .nil)) ?_
    refine chk_top (V := fun o => opV p o) (L := fun o => LoopG (k + 1) _ _ true true _ _ (enumFrom 0 (chars p)) (opV p 0) o) (fun o hl => Ex1.forGen (gsc := ⟨_, _, _, _, _⟩) (x := "addr") (gp := fun _ => .str (pathS p)) (.inl fun w => rfl) rfl (by decide +kernel) (.inr (.inr fun w => rfl)) (fun _ _ => rfl) (Ev.name rfl (by decide +kernel)) (fun _ => rfl) (fun h => .inl fun _ => h) (fun w => ⟨_, rfl, rfl⟩) rfl rfl rfl rfl rfl rfl rfl rfl (fun w => rfl) (fun v => rfl) rfl (by decide +kernel) ?_ hl (fun _ _ => rfl) ?_) (chk_loop (V := opV p) (fun p q ρ h h' => Asg.pair (.inl rfl) (.inl rfl) h h') ?_ ?_ ?_ p 0 0) ?_
    · intro w A env h₀ hs ax gl G hbase hax
      have hch : ∀ c ∈ chars p, c = 40 ∨ c = 41 := fun c hc => by
        obtain ⟨b, _, rfl⟩ := List.mem_map.mp hc
        cases b
        · exact .inr rfl
        · exact .inl rfl
      have hA0 : Atoms [("escape", .val (.bool false)), ("pos", .val (.int 0)), ("addr", .val (.str (pathS p)))] := .cons rfl (.cons rfl (.cons rfl .nil))
      suffices h : ∃ o, GS (k + 1) w A env h₀ hs ax gl true true true (enumFrom 0 (chars p)) _ [("addr", .val (.str (pathS p)))] ([] ++ ([] ++ (enumFrom 0 (chars p) ++ []))) o ∧ (∀ f ρ', o = some (f, ρ') → true = true ∧ (f = .next ∨ f = .ret .none)) ∧ (o = Option.none → enumFrom 0 (chars p) ≠ []) by
        simpa only [List.nil_append, List.append_nil] using h
      refine gs_top (gs_pre (GS1.assign G rfl (fun _ _ => rfl) Ev.int rfl) (gs_pre (GS1.assign G rfl (fun _ _ => rfl) Ev.bool rfl) (gs_for (L := fun ρ' => GLoop (k + 1) _ w A env h₀ hs ax gl false true true (enumFrom 0 (chars p)) _ true _ [] (enumFrom 0 (chars p)) _ (enumFrom 0 (chars p)) (some (.next, ρ'))) (P := fun ρ' => Atoms ρ' ∧ ρ'.lookup ("escape" : Str) = some (.val (.bool false))) (fun ρ' hl => GS1.for_ G hbase (EvG.enumStr (x := pathS p) rfl (fun _ _ => rfl) (Ev.name rfl (by decide +kernel)) path_ascii hax) hl (fun _ _ => rfl)) (esc_loop (fun p q ρ h h' => AsgL.pair rfl rfl h h') ?_ (chars p) 0 _ hch hA0 rfl) ?_)))
      · intro i c ρ hc ha he
        have he' : List.lookup ("escape" : Str) (("ch", .val (.str ⟨#[c]⟩)) :: ("pos", .val (.int (i : Int))) :: ρ) = some (.val (.bool false)) := he
        have hbs : ((⟨#[c]⟩ : Str) == ("\\" : Str)) = false := by
          rcases hc with rfl | rfl
          · exact bs40
          · exact bs41
        intro I
        exact GS.one (GS1.ifB G (Tst.bool (fun _ _ => rfl) (Ev.name he' (by decide +kernel))) (fun e => nomatch e) (fun _ => GS.one (GS1.ifB G (Tst.cmp (Ev.name rfl (by decide +kernel)) Ev.str (Op2.eq Op2.eqS (congrArg PV.bool hbs)) rfl) (fun e => nomatch e) (fun _ => GS.one (GS1.yield (.inl rfl) G (.cons rfl (.cons rfl ha)) (YV.pair (p := .int _) (q := .str _) (fun _ _ => rfl) (Ev.name rfl (by decide +kernel)) (Ev.name rfl (by decide +kernel)) rfl rfl))))))
      · intro ρ' hp
        exact GS.one (GS1.ifB G (Tst.bool (fun _ _ => rfl) (Ev.name hp.2 (by decide +kernel))) (fun e => nomatch e) (fun _ => GS.nil))
    · intro w A a g v s Q E' hg hq
      exact notOwned_gen v s Q E' hg hq
    · intro i o
      refine Ex.post ?_ (Ex.one (Ex1.ifT (Tst.g <| Tst.cmp (Ev.name rfl (by decide +kernel)) Ev.str (Op2.eq Op2.eqS (congrArg PV.bool eq1)) rfl) (Ex.one (Ex1.aug (p := .int (o : Int)) (q := .int 1) (t := .int ((o + 1 : Nat) : Int)) (.inl rfl) rfl Ev.int (Op2.eq Op2.iaddI (congrArg PV.int (by push_cast; rfl))) rfl))))
      exact .cons rfl (.cons rfl .nil)
    · intro i o
      refine Ex.post ?_ (Ex.one (Ex1.ifF (Tst.g <| Tst.cmp (Ev.name rfl (by decide +kernel)) Ev.str (Op2.eq Op2.eqS (congrArg PV.bool ne1)) rfl) (Ex.one (Ex1.ifT (Tst.g <| Tst.cmp (Ev.name rfl (by decide +kernel)) Ev.str (Op2.eq Op2.eqS (congrArg PV.bool eq2)) rfl) (Ex.cons (Ex1.aug (p := .int ((o + 1 : Nat) : Int)) (q := .int 1) (t := .int (o : Int)) (.inl rfl) rfl Ev.int (Op2.eq Op2.isubI (congrArg PV.int (by push_cast; omega))) rfl) (Ex.one (Ex1.ifF (Tst.g <| Tst.cmp (Ev.name rfl (by decide +kernel)) Ev.int (Op2.eq Op2.ltI (congrArg PV.bool (decide_eq_false (by omega)))) rfl) Ex.nil)))))))
      exact .cons rfl (.cons rfl .nil)
    · intro i
      refine Ex.ret (Ex1.ifF (Tst.g <| Tst.cmp (Ev.name rfl (by decide +kernel)) Ev.str (Op2.eq Op2.eqS (congrArg PV.bool ne1)) rfl) (Ex.ret (Ex1.ifT (Tst.g <| Tst.cmp (Ev.name rfl (by decide +kernel)) Ev.str (Op2.eq Op2.eqS (congrArg PV.bool eq2)) rfl) (Ex.cons (Ex1.aug (p := .int 0) (q := .int 1) (t := .int (-1)) (.inl rfl) rfl Ev.int (Op2.eq Op2.isubI (congrArg PV.int (by decide))) rfl) (Ex.ret (Ex1.ifT (Tst.g <| Tst.cmp (Ev.name rfl (by decide +kernel)) Ev.int (Op2.eq Op2.ltI (congrArg PV.bool (by decide))) rfl) (Ex.ret (Ex1.retE (p := .bool false) Ev.bool rfl))))))))
    · intro o'
      refine Ex.ret (Ex1.retE (Ev.cmp (Ev.name rfl (by decide +kernel)) Ev.int (Op2.eq Op2.eqI (congrArg PV.bool ?_)) rfl) rfl)
      apply Bool.eq_iff_iff.mpr
      rw [beq_iff_eq, Nat.beq_eq]; omega
end Mine

namespace Mine
open PySem PySem.W PySem.Builtin PySem.Builtin.Str PySem.StrLaws

section
variable {k : Nat} {sc : Scope} {w : World} {A : Around} {env : Env} {h₀ : Heap} {hs : Heap} {ax gl : Addr} {fin tt : Bool} {all : List PV}
theorem GS1.forSub {tgt iter : PySem.Expr} {tl : Bool} {body orelse : List Stmt} {pos : Pos} {ps : List PV} {ρ ρ₂ : Vars} {ys : List PV} {o : Option (Flow × Vars)} (G : GEnv sc env hs gl) (hbase : ∀ b o, h₀.get? b = some o → ∃ o₁, hs.get? b = some o₁)
    (hi : EvG k sc ρ hs ax gl tgt tl iter ps) (hsub : Sub ρ₂ ρ) (hl : GLoop k sc w A env h₀ hs ax gl false fin tt all tgt tl body orelse ps ρ₂ ys o) (hfs : ∀ env x, foldedSetIterable iter env x = pure x) : GS1 k w A env h₀ hs ax gl true fin tt all (.For tgt iter body orelse pos) ρ ys o := fun {I} hst {c fs K H gd lv s₀ s rem} F R S hI g hpre hn hc => by
  rw [exec_For]
  refine seg_bind_wrap (wpAny_standAt (seg_bind_wrap (wpAny_mono (hi R G.ok S G.loc (hst.lv rfl _ hI)) (fun v s₁ h₁ => ?_) fun _ _ x => x.elim)))
  refine seg_bind_wrap (wpAny_of_eq (hfs env v) (seg_bind_wrap (wpAny_standAt (seg_bind_wrap (wpAny_holding (wpAny_mono h₁ (fun it s₂ h₂ => ?_) fun _ _ x => x.elim))))))
  obtain ⟨k₂, J, fp, wr, P, Md, Stt, rfl, W, st0, hcl, hfp, hwr, hit⟩ := h₂
  refine seg_call fun p => ?_
  refine gloop_run G W hcl hfp hwr hbase hit (by simp only [splitAtGen, F.split]; rfl) (by rw [List.any_cons, F.any, Bool.or_false]; exact F.guard) (over_room rfl rfl R) (over_room rfl rfl R) hst hl (Nat.zero_le _) rfl ((S.up k₂.up).sub hsub) st0 (hst.loc _ _ (But.of_up k₂.up) hI) (g.up k₂) hpre hn fun f ρ' e c' hc' s₀' s' S' hI' g' hq => ?_
  exact seg_leaf (.ok f) (hc f ρ' e s₀' s' S' hI' g' hq)
end

theorem EvG.lat {k : Nat} {sc : Scope} {ρ : Vars} {hs : Heap} {ax gl : Addr} {x y : Str} {px pos : Pos} {ns : List Int} (hx : ρ.lookup y = some (.val (.lat ax (iL ns)))) (hd : (y == ("__debug__" : Str)) = false) :
    EvG k sc ρ hs ax gl (.Name x px) false (.Name y pos) (iL ns) := fun {w A env h₀ s} R E S hgl hlv => by
  obtain ⟨_, v, sl, r⟩ := S.vars y _ hx
  obtain ⟨rfl, hF, vs, n, ho, r⟩ := r
  have haxgl : ax ≠ gl := fun q => hF (List.mem_append_right _ (by rw [q, ← hgl]; exact mem_locals))
  refine wpAny_Name (sl.load E ?_) hd
  have hl : s.heap.IsList ax vs.toArray := ⟨_, ho, rfl, n, rfl⟩
  have u1 : Up s.heap (s.heap.push { cls := .type "list_iterator", data := .fields #[.ref ax, .int 0 0] }) := fun _ _ e => Heap.get?_push_of_some _ e
  have fresh0 : s.heap.get? s.heap.objs.size = Option.none := none_of_size _
  have hS : hs.get? s.heap.objs.size = Option.none := by
    cases e : hs.get? s.heap.objs.size with
    | none => rfl
    | some o => obtain ⟨o', e'⟩ := hlv _ _ e; rw [fresh0] at e'; cases e'
  have hgl0 : s.heap.objs.size ≠ gl := fun q => by
    obtain ⟨m, o, _, _, ho, _⟩ := S.ns
    rw [hgl, ← q, fresh0] at ho; cases ho
  have hax0 : s.heap.objs.size ≠ ax := fun q => by rw [← q, fresh0] at ho; cases ho
  have esz : vs.toArray.size = (iL ns).length := by rw [List.size_toArray, r.length]
  have hW : ∀ A' : Around, A'.handled = Option.none → _ := fun A' hh => KTurns.ofWalks (target := .Name x px) (Walks.list (prog := prg) (w := w) (A := A') hh s.heap.objs.size ax (Ne.symm hax0) vs.toArray) fun i v s Q E' _ h => notOwned_name h
  rw [esz] at hW
  refine wpAny_pyIter_list hl ⟨Kp.heap s u1, s.heap.objs.size, _, _, _, _, _, rfl, hW, ⟨⟨_, Heap.get?_push_size _ rfl, rfl, rfl⟩, hl.push _⟩, fun i h hst b hb => ?_, fun b hb => ?_, fun b hb => ?_, fun i v h p hP hp F => ?_⟩
  · rcases List.mem_cons.mp hb with rfl | hb
    · obtain ⟨⟨o, h2, h3, _⟩, _⟩ := hst
      exact .inr ⟨o, h2, fun d => by rcases d with d | d | d <;> (rw [h3] at d; simp at d)⟩
    · exact .inl (List.mem_singleton.mp hb)
  · rcases List.mem_cons.mp hb with rfl | hb
    · exact ⟨hgl0, .inr hS⟩
    · rw [List.mem_singleton.mp hb]; exact ⟨haxgl, .inl rfl⟩
  · rw [List.mem_singleton.mp hb]; exact hax0
  · have hi := r.item hp (by simpa using hP)
    obtain ⟨z, hz, rfl⟩ : ∃ z : Int, ns[i]? = some z ∧ p = .int z := by
      rw [List.getElem?_map] at hp
      cases e : ns[i]? with
      | none => rw [e] at hp; cases hp
      | some z => rw [e] at hp; exact ⟨z, rfl, (Option.some.inj hp).symm⟩
    exact hi
end Mine

namespace Mine
open PySem PySem.W PySem.Builtin PySem.Builtin.Str

/-- the frame of a def, entered, where its object is known by the heap -/
theorem Call.introC {g : Bool} {k : Nat} {a : Addr} {fd : FuncData} {body : List Stmt} {sc : Scope} {names : List Str} {ps : List PV} {q : PV}
    {w : World} {s : Shared} {o : Obj} (ho : s.heap.get? a = some o) (hdata : o.data = .func fd) (hb : fd.body = .stmts body) (hsc : fd.scope = sc) (hco : sc.isCoroutine = false) (hgen : sc.isGenerator = false) (hk : sc.kind = .function)
    (hcl : fd.closure = []) (hgl : fd.globals = mainGlobals) (hbi : fd.builtins = builtinsNs) (hcd : s.heap.CodeRec fd.code fd.qualname)
    (hbind : ∀ vs : List Value, vs.length = ps.length → bindArgs fd ⟨vs, []⟩ = pure (names.zip vs)) (hlen : names.length = ps.length) (hn : names.Nodup) (hst : ∀ x ∈ names, Stb sc x) (hnd : ((cellsFrom 0 sc.names []).map (·.1)).Nodup)
    (hf : PV.frozens ps = true) (hx : Ex g k sc (parV names ps) body (.ret q)) {A : Around} {F : List Addr} {vs : List Value} (R : Room (k + 1) A) (B : Base w s.heap) (L : Live F s.heap) (r : RVs w s.heap F ps vs) :
    codeAny (model prg w) A (.call (.ref a) ⟨vs, []⟩) (fun r s' => ∃ v, r = .ok (.ret v) ∧ GK g s s' ∧ Up s.heap s'.heap ∧ RV w s'.heap F q v) s := by
  obtain ⟨X, mean, mg, mb, T⟩ := B
  subst hsc
  have hl2 : vs.length = ps.length := r.length
  have hfst : (names.zip vs).map (·.1) = names := by rw [List.map_fst_zip]; omega
  refine codeAny_call_function R.depth ho hdata hco hgen hb hcd (wpAny_of_eq (hbind vs hl2) ?_)
  rw [hcl]
  have hkind : ∀ n, ∀ x ∈ names.zip vs, fd.scope.names.lookup x.1 = some .local ∨ (fd.scope.names.lookup x.1 = some .cell ∧ ((cellsFrom n fd.scope.names []).lookup x.1).isSome = true) := fun n x hx => by
    have hm : x.1 ∈ names := hfst ▸ List.mem_map_of_mem (f := (·.1)) hx
    exact (hst _ hm).imp id fun e => ⟨e, cellsFrom_in (mem_of_lookup e)⟩
  refine wpAny_newFunctionEnv_cells hk (hkind _) fun env he s' x => ?_
  have hns := x.toInCall.ns
  have hkeep := x.toInCall.keep
  obtain ⟨h₁, tk, hs', _⟩ := x.done
  refine ⟨T.nolimit.keeps hkeep, codeAny_func ?_⟩
  have hsc : env.scope = fd.scope := by rw [he]; rfl
  have hcells : env.cells = cellsFrom (s.heap.objs.size + 1) fd.scope.names [] := by rw [he]; rfl
  have hloc : env.locals = s.heap.objs.size := by rw [he]; rfl
  have hE : EnvOK fd.scope env := ⟨hsc, hk, by rw [he]; exact hgl, by rw [he]; exact hbi⟩
  have hC : CellsOK fd.scope env := fun y hy => by rw [hcells]; exact cellsFrom_in (mem_of_lookup hy)
  have hnd' : (env.cells.map (·.1)).Nodup := by
    rw [hcells]
    exact PyProof.Rows.cellsFrom_names fd.scope.names 0 (s.heap.objs.size + 1) [] [] rfl ▸ hnd
  have cellAt : ∀ p ∈ env.cells, s'.heap.IsCell p.2 (bindC env.kindOf (names.zip vs) (fun _ => none) p.1) := fun p hp => x.cell p.1 p.2 (PyProof.Rows.lookup_of_mem_nodup hnd' hp)
  have hfresh : ∀ b ∈ muts env [], s.heap.get? b = none := fun b hb => by
    have hge : s.heap.objs.size ≤ b := by
      rcases List.mem_cons.mp hb with e | hb
      · rw [e, hloc]; exact Nat.le_refl _
      · rcases List.mem_append.mp hb with hb | hb
        · obtain ⟨p, hp, rfl⟩ := List.mem_map.mp hb
          have := x.above p.1 p.2 hp
          rw [hloc] at this; exact Nat.le_of_lt this
        · cases hb
    cases e : s.heap.get? b with
    | none => rfl
    | some o => exact absurd (Heap.lt_size e) (Nat.not_lt.mpr hge)
  have rF : ∀ {p v}, p.frozen = true → RV w s.heap F p v → RV w s'.heap (Fof env F []) p v := fun {p v} f h => RV.mono (fun b o hb e => ⟨hkeep b o e, fun hm => by
    rcases List.mem_append.mp hm with hm | hm
    · exact hb hm
    · rw [hfresh b hm] at e; cases e⟩) p f h
  have S : St w env s.heap F [] (parV names ps) s'.heap := by
    refine ⟨⟨X, mean, mg, mb, T⟩, hkeep, fun b hb => let ⟨o, e⟩ := L b hb; ⟨o, hkeep _ _ e⟩, ⟨_, hns⟩, fun p hp => ⟨_, cellAt p hp⟩, (fun _ hp => nomatch hp), hfresh, (fun _ hp => nomatch hp), ?_, fun y e hy => ?_⟩
    · refine List.nodup_cons.mpr ⟨fun hm => ?_, ?_⟩
      · rcases List.mem_append.mp hm with hm | hm
        · obtain ⟨p, hp, e⟩ := List.mem_map.mp hm
          exact absurd e (Nat.ne_of_gt (x.above p.1 p.2 hp))
        · cases hm
      · rw [List.map_nil, List.append_nil]
        exact List.pairwise_map.mpr x.apart
    · obtain ⟨p, v, rfl, f, hm, rv⟩ := parV_lookup r hy
      have hyn : y ∈ names := hfst ▸ List.mem_map_of_mem (f := (·.1)) hm
      refine ⟨f hf, v, ?_, rF (f hf) rv⟩
      have ek : ∀ kd, fd.scope.names.lookup y = some kd → env.kindOf y = some kd := fun kd e => by show env.scope.names.lookup y = _; rw [hsc]; exact e
      rcases hst y hyn with e | e
      · exact .inl ⟨ek _ e, _, hns, bindL_in (ek _ e) (by rw [hfst]; exact hn) hm⟩
      · obtain ⟨c, hc⟩ := Option.isSome_iff_exists.mp (hC y e)
        refine .inr ⟨.inl (ek _ e), c, hc, ?_⟩
        have := x.cell y c hc
        rw [bindC_in (by rw [ek _ e]; decide) (by rw [hfst]; exact hn) hm] at this
        exact this
  refine wpAny_mono (hx (R.deeper env) hE hC S) (fun f s₂ h₂ => ?_) fun _ _ x => x.elim
  obtain ⟨gk, bt, q⟩ := h₂
  cases f with
  | ret v =>
    refine ⟨v, rfl, GK.trans (.of_eq ⟨h₁, tk, hs'⟩) gk, fun b o e => (bt b o (hkeep _ _ e)).1 fun hm => ?_, q⟩
    rw [hfresh b hm] at e; cases e
  | next => exact q.elim
  | brk => exact q.elim
  | cont => exact q.elim

end Mine

namespace Mine
open PySem PySem.W PySem.Builtin PySem.Builtin.Str PySem.StrLaws

/-! how many hold each letter -/
def heldGo : Nat → List Nat → List Nat
  | _, [] => []
  | h, x :: r => (x % (h + 2)) :: heldGo (x % (h + 2)) r
theorem heldGo_tail : ∀ (h : Nat) (a : List Nat), heldGo h (a ++ [1, 2, 3, 0]) = heldGo h a ++ [1, 2, 3, 0]
  | h, [] => by
    show [1 % (h + 2), 2 % (1 % (h + 2) + 2), 3 % (2 % (1 % (h + 2) + 2) + 2), 0 % (3 % (2 % (1 % (h + 2) + 2) + 2) + 2)] = [1, 2, 3, 0]
    rw [show 1 % (h + 2) = 1 from Nat.mod_eq_of_lt (by omega)]
  | h, x :: r => congrArg (x % (h + 2) :: ·) (heldGo_tail _ r)
theorem heldGo_steps : ∀ (h : Nat) (a : List Nat), stepsOK h (heldGo h a) = true
  | _, [] => rfl
  | h, x :: r => by
    show (Nat.ble (x % (h + 2)) (h + 1) && stepsOK (x % (h + 2)) (heldGo (x % (h + 2)) r)) = true
    rw [heldGo_steps, Bool.and_true]
    have := Nat.mod_lt x (show h + 2 > 0 by omega)
    exact Nat.ble_eq_true_of_le (by omega)
theorem heldGo_len : ∀ (h : Nat) (a : List Nat), (heldGo h a).length = a.length
  | _, [] => rfl
  | h, x :: r => congrArg (· + 1) (heldGo_len _ r)
theorem steps_bound : ∀ {l : List Nat} {h : Nat}, stepsOK h l = true → ∀ x ∈ l, x ≤ h + l.length
  | [], _, _, _, hx => nomatch hx
  | g :: r, h, hs, x, hx => by
    have s' : (Nat.ble g (h + 1) && stepsOK g r) = true := hs
    rw [Bool.and_eq_true] at s'
    have hg := Nat.le_of_ble_eq_true s'.1
    rw [List.length_cons]
    rcases List.mem_cons.mp hx with rfl | hx
    · omega
    · have := steps_bound s'.2 x hx
      omega
def numsOf (ns : List Int) : List Nat := (ns.take 6).map fun x => (x.fmod 1000000).toNat
def heldOf (ns : List Int) : List Nat := 0 :: heldGo 0 (numsOf ns ++ [1, 2, 3, 0])
structure HeldOK (held : List Nat) : Prop where
  ne : held ≠ []
  len : held.length ≤ 11
  small : ∀ h ∈ held, h ≤ 10
  zero : ∃ r, held = 0 :: r ∧ stepsOK 0 r = true
  law : lawP held (pathB held) = true
theorem held_ok (ns : List Int) : HeldOK (heldOf ns) := by
  have hl : (numsOf ns).length ≤ 6 := by
    unfold numsOf
    rw [List.length_map, List.length_take]
    exact Nat.min_le_left _ _
  have hs := heldGo_steps 0 (numsOf ns ++ [1, 2, 3, 0])
  have he : heldOf ns = 0 :: (heldGo 0 (numsOf ns) ++ [1, 2, 3, 0]) := by unfold heldOf; rw [heldGo_tail]
  have hlen : (heldOf ns).length ≤ 11 := by
    rw [he]; simp [heldGo_len]; omega
  refine ⟨List.cons_ne_nil _ _, hlen, fun h hm => ?_, ⟨_, rfl, hs⟩, ?_⟩
  · rcases List.mem_cons.mp hm with rfl | hm
    · omega
    · have := steps_bound hs h hm
      unfold heldOf at hlen
      rw [List.length_cons] at hlen
      omega
  · rw [he]
    exact law_all (by rw [heldGo_len]; exact hl) (heldGo_steps 0 _)
theorem cond_true' {a b : Bool} (h : cond a b false = true) : a = true ∧ b = true := by
  cases a
  · cases h
  · exact ⟨rfl, h⟩
theorem eqL_eq : ∀ {a b : List Nat}, eqL a b = true → a = b
  | [], [], _ => rfl
  | [], _ :: _, h => nomatch h
  | _ :: _, [], h => nomatch h
  | a :: r, b :: s, h => by
    obtain ⟨h1, h2⟩ := cond_true' h
    rw [Nat.eq_of_beq_eq_true h1, eqL_eq h2]
structure LawIs (held : List Nat) (p : List Bool) : Prop where
  back : backB p = held
  yes : checkB 0 p = true
  more : checkB 0 (true :: p) = false
  rev : checkB 0 p.reverse = false
  cuts : ((orderL held (mxL held + 1) 0).map fun j => aheadN held j + behindN held j) = hts 0 p
  marks : ∃ l, stopsL p (idxF (fun b => !b) 0 p) held.length 12 0 = some l ∧ marksOf held (trimR (sizesL held).reverse) = some l
  dues : law5 held = true
theorem law_is {held : List Nat} {p : List Bool} (h : lawP held p = true) : LawIs held p := by
  obtain ⟨h1, h⟩ := cond_true' h
  obtain ⟨h2, h⟩ := cond_true' h
  obtain ⟨h3, h⟩ := cond_true' h
  obtain ⟨h4, h5⟩ := cond_true' h
  unfold law2 at h2
  obtain ⟨h21, h22⟩ := cond_true' h2
  have h23 : checkB 0 (true :: p) = false ∧ checkB 0 p.reverse = false := by
    cases e1 : checkB 0 (true :: p) with
    | true => rw [e1] at h22; cases h22
    | false =>
      rw [e1] at h22
      cases e2 : checkB 0 p.reverse with
      | true => rw [e2] at h22; cases h22
      | false => exact ⟨rfl, rfl⟩
  refine ⟨eqL_eq h1, h21, h23.1, h23.2, eqL_eq h3, ?_, h5⟩
  unfold law4 at h4
  rw [forceN_eq, forceN_eq] at h4
  cases e1 : stopsL p (idxF (fun b => !b) 0 p) held.length 12 0 with
  | none => rw [e1] at h4; cases h4
  | some a =>
    rw [e1] at h4
    cases e2 : marksOf held (trimR (sizesL held).reverse) with
    | none => rw [e2] at h4; cases h4
    | some b =>
      rw [e2] at h4
      exact ⟨a, rfl, by rw [eqL_eq h4]⟩
theorem check_shuts : ∀ o : Nat, checkB o (List.replicate o false) = true
  | 0 => rfl
  | o + 1 => by rw [List.replicate_succ]; exact check_shuts o
theorem cut_ok : ∀ (p : List Bool) (o i t s h : Nat), checkB o p = true → (idxF id i p)[t]? = some s → (hts o p)[t]? = some h → i ≤ s ∧ s < i + p.length ∧ checkB o (p.take (s - i) ++ List.replicate h false) = true
  | [], _, _, _, _, _, _, h1, _ => by simp [idxF] at h1
  | true :: r, o, i, 0, s, h, hc, h1, h2 => by
    have e1 : s = i := by
      have : some i = some s := h1
      exact (Option.some.inj this).symm
    have e2 : h = o := by
      have : some o = some h := h2
      exact (Option.some.inj this).symm
    subst e1 e2
    refine ⟨Nat.le_refl _, by simp, ?_⟩
    rw [Nat.sub_self, List.take_zero, List.nil_append]
    exact check_shuts h
  | true :: r, o, i, t + 1, s, h, hc, h1, h2 => by
    obtain ⟨a, b, c⟩ := cut_ok r (o + 1) (i + 1) t s h hc h1 h2
    refine ⟨by omega, by rw [List.length_cons]; omega, ?_⟩
    rw [show s - i = (s - (i + 1)) + 1 from by omega, List.take_succ_cons]
    exact c
  | false :: r, 0, i, t, s, h, hc, h1, h2 => nomatch hc
  | false :: r, o + 1, i, t, s, h, hc, h1, h2 => by
    obtain ⟨a, b, c⟩ := cut_ok r o (i + 1) t s h hc h1 h2
    refine ⟨by omega, by rw [List.length_cons]; omega, ?_⟩
    rw [show s - i = (s - (i + 1)) + 1 from by omega, List.take_succ_cons]
    exact c
theorem idx_len {α : Type} (c : α → Bool) : ∀ (l : List α) (i : Nat), (idxF c i l).length = cntF c l
  | [], _ => rfl
  | a :: r, i => by
    show (cond (c a) (i :: idxF c (i + 1) r) (idxF c (i + 1) r)).length = cond (c a) (cntF c r + 1) (cntF c r)
    cases c a with
    | true => exact congrArg (· + 1) (idx_len c r (i + 1))
    | false => exact idx_len c r (i + 1)

/-! dots compared -/
theorem rep_lt (c : Nat) : ∀ a b : Nat, (List.replicate a c < List.replicate b c) ↔ a < b
  | 0, 0 => by simp
  | 0, b + 1 => by rw [List.replicate_succ]; simp
  | a + 1, 0 => by rw [List.replicate_succ]; simp
  | a + 1, b + 1 => by
    rw [List.replicate_succ, List.replicate_succ, List.cons_lt_cons_iff]
    have := rep_lt c a b
    simp [this]
theorem coll_dots (a b : Nat) : (collI (dots a) (dots b) == 0) = a.beq b := by
  unfold collI
  rw [dots_list, dots_list]
  have h1 := rep_lt 46 b a
  have h2 := rep_lt 46 a b
  by_cases q : a = b
  · subst q
    rw [Nat.beq_refl]
    have : decide (List.replicate a 46 < List.replicate a 46) = false := decide_eq_false (by rw [h1]; omega)
    rw [this]; rfl
  · have hq : a.beq b = false := by rw [Bool.eq_false_iff]; exact fun e => q (Nat.eq_of_beq_eq_true e)
    rw [hq]
    rcases Nat.lt_or_gt_of_ne q with h | h
    · rw [decide_eq_false (by rw [h1]; omega), decide_eq_true (h2.mpr h)]; rfl
    · rw [decide_eq_true (h1.mpr h), decide_eq_false (by rw [h2]; omega)]; rfl

/-! brackets counted -/
theorem shuts_mul (n : Nat) : Txt.mul ")" (n : Int) = pathS (List.replicate n false) := by
  rw [mul_run (c := 41) (by decide +kernel)]
  refine str_inj ?_
  rw [pathS_list, List.map_replicate]; rfl
theorem join_rows : ∀ L : List (Nat × Str), Txt.join "" (L.map fun p => (dots p.1 ++ p.2) ++ ("\r\n" : Str)) = wireS L := by
  intro L
  refine str_inj ?_
  rw [join_flat]
  induction L with
  | nil => rfl
  | cons p L ih =>
    rw [List.map_cons, List.map_cons, List.flatten_cons, ih, wireS_cons, Str.cps_append, Array.toList_append, Str.cps_append, Array.toList_append, dots_list, crlf_list]
    simp
theorem rows_get : ∀ {held : List Nat} {low i : Nat} {h : Nat}, held[i]? = some h → (rowsFrom low held)[i]? = some (h + 2, wordN (low + i))
  | a :: r, low, 0, h, e => by
    simp at e; subst e; rfl
  | a :: r, low, i + 1, h, e => by
    have := rows_get (held := r) (low := low + 1) (i := i) (h := h) (by simpa using e)
    rw [show low + 1 + i = low + (i + 1) from by omega] at this
    simpa [rowsFrom] using this
theorem map_range {α : Type} (l : List α) (d : α) {β : Type} (f : α → β) (g : Nat → β) (h : ∀ i a, l[i]? = some a → g i = f a) : (List.range l.length).map g = l.map f := by
  apply List.ext_getElem
  · simp
  · intro i h1 h2
    simp at h1 h2 ⊢
    exact h i _ (List.getElem?_eq_getElem h1)
end Mine

namespace Mine
open PySem PySem.W PySem.Builtin PySem.Builtin.Str
theorem RVs.atoms {w : World} {h h' : Heap} {F F' : List Addr} : ∀ {ps : List PV} {vs : List Value}, (∀ p ∈ ps, atom p = true) → RVs w h F ps vs → RVs w h' F' ps vs
  | [], _, _, x => x
  | p :: ps, _, ha, ⟨v, r, e, x, y⟩ => ⟨v, r, e, RV.atoms (ha p List.mem_cons_self) x, RVs.atoms (fun q hq => ha q (List.mem_cons_of_mem _ hq)) y⟩
section
variable {k : Nat} {sc sc' : Scope} {ρ ρin : Vars}
/-- x = [...] where the store comes ahead of the letting go -/
theorem Ex1.assignCompO {g : Bool} {x : Str} {xp spos : Pos} {elt target iter : PySem.Expr} {ifs : List PySem.Expr} {gens : List Comprehension} {epos : Pos} {tt : Bool} {ps out : List PV} {ρ' : Vars} (hx : sc.names.lookup x = some .local) (hsc : CompSc sc sc') (hi : EvIt k sc ρ target tt iter ps) (hin : InVars sc sc' ρ ρin)
    (run : CompRuns k (rl sc' sc) elt (⟨target, iter, ifs, 0⟩ :: gens) sc' epos 0 target tt ps ρin out ρ') (hs : ∀ env x, foldedSetIterable iter env x = pure x) (hsz : out.length ≤ sizeLine) (hat : ∀ p ∈ out, atom p = true)
    (hsw : ∀ env : Env, env.scope = sc → swapsWith (.ListComp elt (⟨target, iter, ifs, 0⟩ :: gens) sc' epos) (some (.Name x xp)) spos.line env = pure true) :
    Ex1 g k sc ρ (.Assign [.Name x xp] (.ListComp elt (⟨target, iter, ifs, 0⟩ :: gens) sc' epos) spos) (.next ((x, .own out) :: ρ)) := fun {w A env h₀ F₀ own s} R E C S => by
  rw [exec_Assign_Name_used _ _ _ _ (hsw env E.scope)]
  refine wpAny_bind (wpAny_standAt (wpAny_bind ?_))
  show wpAny _ A (do let _ ← comprehension (.ListComp elt (⟨target, iter, ifs, 0⟩ :: gens) sc' epos) sc' env _ (newList []) false (eval iter env) (some (PySem.assign (.Name x xp) env))) _ _ s
  refine wpAny_bind (comp_core (use := some (PySem.assign (.Name x xp) env)) hsc hi hin run hs hsz R E (fun n hn => C n (hsc.free _ hn rfl)) S fun D L m s' ys n gk u hD hL hDL hm hD' hys hf => ?_)
  show wpAny _ A (PySem.assign (.Name x xp) env (.ref D)) _ _ _
  obtain ⟨oL, hoL⟩ : ∃ o, s'.heap.get? L = some o := let ⟨o, _, _, ho, _⟩ := hm; ⟨o, ho⟩
  have S' := S.forbid u (wr := [D, L]) (fun b hb => by
      rcases List.mem_cons.mp hb with rfl | hb
      · exact hD
      · rw [List.mem_singleton.mp hb]; exact hL) fun b hb => by
      rcases List.mem_cons.mp hb with rfl | hb
      · exact ⟨_, hD'⟩
      · rw [List.mem_singleton.mp hb]; exact ⟨oL, hoL⟩
  have hLm : L ∉ muts env own := fun hm' => Live.none S.live hL (List.mem_append_right _ hm')
  have hDm : D ∉ muts env own := fun hm' => Live.none S.live hD (List.mem_append_right _ hm')
  refine wpAny_assign_Name (S'.storeL E hx fun s₂ he hs₂ hl S₂ sl => ?_)
  have hLL : L ≠ env.locals := fun q => hLm (q ▸ mem_locals)
  refine ⟨m, hm.sameBut hs₂ hLL, fun h' hs' => wpAny_pure (wpAny_pure ?_)⟩
  have hk := But.of_locals hs₂ hl
  have h0 : ∀ b, s.heap.get? b = none → h₀.get? b = none := fun b hb => by
    cases e : h₀.get? b with
    | none => rfl
    | some o => rw [S.keep _ _ e] at hb; cases hb
  have kk : ∀ b o, b ∉ [L] → s₂.heap.get? b = some o → h'.get? b = some o := fun b o hb e => hs'.extBut b o (fun q => hb (by rw [q]; simp)) e
  have S₃ : St w env h₀ (D :: F₀) own (ρ.filter fun p => p.1 != x) h' := S₂.change (M := [L]) (F₁ := D :: F₀) (fun b hb => by rw [List.mem_singleton.mp hb]; simp) (fun b hb => by rw [List.mem_singleton.mp hb]; exact h0 L hL) (fun b hb => by rw [List.mem_singleton.mp hb]; exact hLm) kk (fun b hb => by
      rcases List.mem_cons.mp hb with rfl | hb
      · simp
      · simp [hb]) fun b hb => by
    have hbL : b ≠ L := fun q => by
      rcases List.mem_cons.mp hb with e | hb
      · exact hDL (e.symm.trans q)
      · obtain ⟨o', e'⟩ := S.alive b hb
        rw [q, hL] at e'; cases e'
    obtain ⟨o, e⟩ := S₂.alive b (by
      rcases List.mem_cons.mp hb with rfl | hb
      · simp
      · simp [hb])
    exact ⟨o, hs'.extBut b o hbL e⟩
  have sl' : SlotIs env h' x (.ref D) := by
    rcases sl with ⟨a, m₀, n₀, e⟩ | ⟨a, _⟩
    · exact .inl ⟨a, m₀, n₀.sameBut hs' (Ne.symm hLL), e⟩
    · have : env.kindOf x = some .local := by show env.scope.names.lookup x = _; rw [E.scope]; exact hx
      rw [this] at a
      rcases a with a | a
      · cases a
      · cases a.1
  have hDll : D ≠ env.locals := fun q => hDm (q ▸ mem_locals)
  have hDo : h'.get? D = some (lstObj ys n) := hs'.extBut _ _ hDL ((hk D _ hD').1 fun q => hDll (List.mem_singleton.mp q))
  have r' : RVs w h' (D :: Fof env F₀ own) out ys := RVs.atoms hat hys
  have S₄ := (S₃.unforbid (F₁ := F₀) fun b hb => List.mem_cons_of_mem _ hb).takeOwn ys n sl' hDo (Live.none S.live hD) (h0 D hD) (fun y e _ hy => S₃.vars y e hy) hf r'
  refine .next ((gk.wide.trans (.of_eq he)).trans (.of_eq ⟨h', _, rfl⟩)) (fun b o e => ?_) (fun p hp => ?_) (S₄.sub sub_filter)
  · have hbL : b ≠ L := fun q => by rw [q, hL] at e; cases e
    refine ⟨fun hb => hs'.extBut b o hbL ((hk b o (u _ _ e)).1 fun q => hb (by rw [List.mem_singleton.mp q]; exact mem_locals)), ?_⟩
    obtain ⟨o', e'⟩ := (hk b o (u _ _ e)).2
    exact ⟨o', hs'.extBut b o' hbL e'⟩
  · rcases List.mem_cons.mp hp with rfl | hp
    · exact .inr hD
    · exact .inl hp
end
/-! brackets that open, counted -/
theorem rows_of_path : ∀ q : List Bool, ∃ (rows : List Str) (last : Str), chars q = catL [40] last.cps.toList (rows.map fun p => p.cps.toList) ∧ rows.length = cntF id q ∧ (∀ r ∈ rows, 40 ∉ r.cps.toList) ∧ 40 ∉ last.cps.toList
  | [] => ⟨[], Str.empty, rfl, rfl, (fun r h => nomatch h), by decide⟩
  | true :: r => by
    obtain ⟨rows, last, h1, h2, h3, h4⟩ := rows_of_path r
    refine ⟨Str.empty :: rows, last, ?_, ?_, fun x hx => ?_, h4⟩
    · show 40 :: chars r = _
      rw [h1]; rfl
    · show rows.length + 1 = cntF id r + 1
      rw [h2]
    · rcases List.mem_cons.mp hx with rfl | hx
      · decide
      · exact h3 x hx
  | false :: r => by
    obtain ⟨rows, last, h1, h2, h3, h4⟩ := rows_of_path r
    have hc : ∀ x : Str, 40 ∉ x.cps.toList → 40 ∉ (⟨(41 :: x.cps.toList).toArray⟩ : Str).cps.toList := fun x hx hm => by
      have hm' : 40 ∈ 41 :: x.cps.toList := hm
      rcases List.mem_cons.mp hm' with e | hm'
      · cases e
      · exact hx hm'
    cases rows with
    | nil =>
      refine ⟨[], ⟨(41 :: last.cps.toList).toArray⟩, ?_, h2, fun x hx => (nomatch hx), hc _ h4⟩
      show 41 :: chars r = 41 :: last.cps.toList
      rw [h1]; rfl
    | cons x rows =>
      refine ⟨⟨(41 :: x.cps.toList).toArray⟩ :: rows, last, ?_, h2, fun y hy => ?_, h4⟩
      · show 41 :: chars r = _
        rw [h1]; rfl
      · rcases List.mem_cons.mp hy with rfl | hy
        · exact hc _ (h3 x List.mem_cons_self)
        · exact h3 y (List.mem_cons_of_mem _ hy)
theorem count_path (q : List Bool) : Txt.count (pathS q) "(" = ((cntF id q : Nat) : Int) := by
  obtain ⟨rows, last, h1, h2, h3, h4⟩ := rows_of_path q
  have hy : ("(" : Str).cps.toList = [40] := by decide +kernel
  have hx : (pathS q).cps.toList = catL ("(" : Str).cps.toList last.cps.toList (rows.map fun p => p.cps.toList) := by rw [hy, ← h1]; rfl
  have := (split_rows hy (by decide +kernel) hx h3 h4).2
  rw [length_partsBetween] at this
  show (((occurrences (pathS q) "(" 0 (pathS q).length ((pathS q).length + 1)).length : Nat) : Int) = _
  rw [← h2]
  omega
end Mine

namespace Mine
open PySem PySem.W PySem.Builtin PySem.Builtin.Str PySem.StrLaws

section
variable {g : Bool} {k : Nat} {sc : Scope} {tgt test : PySem.Expr} {body orelse : List Stmt}
theorem hl_loop {V : List Nat → Vars} (hA : ∀ (p : PV) (ρ : Vars), p.frozen = true → Asg sc tgt false p ρ (("x", .val p) :: ρ)) (hb : ∀ (acc : List Nat) (h x : Nat), acc.length ≤ 100 → Ex g k sc (("x", .val (.int (x : Int))) :: V (acc ++ [h])) body (.next (V ((acc ++ [h]) ++ [x % (h + 2)])))) (ho : ∀ ρ, Ex g k sc ρ orelse (.next ρ)) :
    ∀ (nums acc : List Nat) (h : Nat), acc.length + nums.length ≤ 100 → Loop g k sc tgt false body orelse (nL nums) (V (acc ++ [h])) (.next (V ((acc ++ [h]) ++ heldGo h nums)))
  | [], acc, h, _ => by
    rw [show (acc ++ [h]) ++ heldGo h [] = acc ++ [h] from List.append_nil _]
    exact .done (ho _)
  | x :: r, acc, h, hl => by
    rw [List.length_cons] at hl
    rw [show (acc ++ [h]) ++ heldGo h (x :: r) = ((acc ++ [h]) ++ [x % (h + 2)]) ++ heldGo (x % (h + 2)) r from List.append_cons _ _ _]
    exact .next (hA _ _ rfl) (hb acc h x (by omega)) (hl_loop hA hb ho r (acc ++ [h]) (x % (h + 2)) (by rw [List.length_append]; simp; omega))
theorem const_loop {tt : Bool} {V : Vars} (ho : Ex g k sc V orelse (.next V)) : ∀ {ps : List PV}, (∀ p ∈ ps, ∃ ρ₁, Asg sc tgt tt p V ρ₁ ∧ Ex g k sc ρ₁ body (.next V)) → Loop g k sc tgt tt body orelse ps V (.next V)
  | [], _ => .done ho
  | p :: ps, h => by
    obtain ⟨ρ₁, h1, h2⟩ := h p List.mem_cons_self
    exact .next h1 h2 (const_loop ho fun q hq => h q (List.mem_cons_of_mem _ hq))
def trimTest : List Nat → Bool
  | a :: b :: _ => a.beq b
  | _ => false
theorem tr_loop {V : List Nat → Vars} (ht : ∀ s : List Nat, s.length ≤ 100 → TstG g k sc (V s) test (trimTest s)) (hb : ∀ (a : Nat) (r : List Nat), r.length ≤ 100 → Ex g k sc (V (a :: r)) body (.next (V r))) (ho : ∀ ρ, Ex g k sc ρ orelse (.next ρ)) :
    ∀ s : List Nat, s.length ≤ 100 → WLoop g k sc test body orelse s.length (V s) (.next (V (trimR s)))
  | [], hl => .stop (ht [] hl) (ho _)
  | [a], hl => .stop (ht [a] hl) (ho _)
  | a :: b :: r, hl => by
    have h : TstG g k sc (V (a :: b :: r)) test (a.beq b) := ht (a :: b :: r) hl
    show WLoop g k sc test body orelse _ _ (.next (V (cond (a.beq b) (trimR (b :: r)) (a :: b :: r))))
    cases e : a.beq b with
    | true =>
      rw [e] at h
      exact .next h (hb a (b :: r) (by simp at hl ⊢; omega)) (tr_loop ht hb ho (b :: r) (by simp at hl ⊢; omega))
    | false =>
      rw [e] at h
      exact .stop h (ho _)
def lastN (ms : List Nat) : Nat := (ms.drop (ms.length - 1)).sum
theorem lastN_snoc (ms : List Nat) (m : Nat) : lastN (ms ++ [m]) = m := by
  unfold lastN
  rw [List.length_append]
  simp
theorem mk_loop {V : List Nat → Vars} {many : Nat} (hA : ∀ (p : PV) (ρ : Vars), p.frozen = true → Asg sc tgt false p ρ (("size", .val p) :: ρ)) (h1 : ∀ (ms : List Nat) (s : Nat), ms.length ≤ 100 → lastN ms ≤ many → many.ble (lastN ms + s) = false → Ex false k sc (("size", .val (.int (s : Int))) :: V ms) body (.next (V (ms ++ [lastN ms + s]))))
    (h2 : ∀ (ms : List Nat) (s : Nat), ms.length ≤ 100 → lastN ms ≤ many → many.ble (lastN ms + s) = true → Ex false k sc (("size", .val (.int (s : Int))) :: V ms) body (.brk (V (ms ++ [lastN ms + s])))) :
    ∀ (all ms l : List Nat), lastN ms ≤ many → marksL many (lastN ms) all = some l → ms.length + all.length ≤ 100 → LoopG k sc tgt false false body orelse (nL all) (V ms) (.next (V (ms ++ l)))
  | [], ms, l, _, h, _ => nomatch h
  | s :: r, ms, l, hm, h, hl => by
    rw [List.length_cons] at hl
    have h' : cond (many.ble (lastN ms + s)) (some [lastN ms + s]) ((marksL many (lastN ms + s) r).map ((lastN ms + s) :: ·)) = some l := h
    cases e : many.ble (lastN ms + s) with
    | true =>
      rw [e] at h'
      have : [lastN ms + s] = l := Option.some.inj h'
      rw [← this]
      exact .brk (hA _ _ rfl) (h2 ms s (by omega) hm e)
    | false =>
      rw [e] at h'
      cases e2 : marksL many (lastN ms + s) r with
      | none => rw [e2] at h'; cases h'
      | some l' =>
        rw [e2] at h'
        have : (lastN ms + s) :: l' = l := Option.some.inj h'
        rw [← this, List.append_cons]
        exact .next (hA _ _ rfl) (h1 ms s (by omega) hm e) (mk_loop hA h1 h2 r (ms ++ [lastN ms + s]) l' (by
          rw [lastN_snoc]
          have hb : ¬ many ≤ lastN ms + s := fun q => by rw [Nat.ble_eq_true_of_le q] at e; cases e
          omega) (by rw [lastN_snoc]; exact e2) (by rw [List.length_append]; simp; omega))
def finP : Nat → List Nat → Nat
  | p, [] => p
  | _, x :: r => finP x r
theorem st_loop {V : Nat → List Nat → Vars} {p : List Bool} {shut : List Nat} {many : Nat} (ht : ∀ (place : Nat) (st : List Nat), TstG g k sc (V place st) test (!many.ble place)) (hb : ∀ (place : Nat) (st : List Nat) (e : Nat), shut[place]? = some e → st.length ≤ 100 → Ex g k sc (V place st) body (.next (V (cntF id (p.take e)) (st ++ [cntF id (p.take e)])))) (ho : ∀ ρ, Ex g k sc ρ orelse (.next ρ)) :
    ∀ (f place : Nat) (st l : List Nat), stopsL p shut many f place = some l → f + st.length ≤ 100 → WLoop g k sc test body orelse f (V place st) (.next (V (finP place l) (st ++ l)))
  | 0, _, _, _, h, _ => nomatch h
  | f + 1, place, st, l, h, hl => by
    have h' : cond (many.ble place) (some []) (match shut[place]? with
      | none => none
      | some e => (stopsL p shut many f (cntF id (p.take e))).map (cntF id (p.take e) :: ·)) = some l := h
    have hT : TstG g k sc (V place st) test (!many.ble place) := ht place st
    cases e : many.ble place with
    | true =>
      rw [e] at h' hT
      have : [] = l := Option.some.inj h'
      rw [← this, List.append_nil]
      exact .stop hT (ho _)
    | false =>
      rw [e] at h' hT
      cases e1 : shut[place]? with
      | none => rw [e1] at h'; cases h'
      | some q =>
        rw [e1] at h'
        cases e2 : stopsL p shut many f (cntF id (p.take q)) with
        | none =>
          have h'' : (stopsL p shut many f (cntF id (p.take q))).map (cntF id (p.take q) :: ·) = some l := h'
          rw [e2] at h''; cases h''
        | some l' =>
          have h'' : (stopsL p shut many f (cntF id (p.take q))).map (cntF id (p.take q) :: ·) = some l := h'
          rw [e2] at h''
          have : cntF id (p.take q) :: l' = l := Option.some.inj h''
          rw [← this, List.append_cons]
          exact .next hT (hb place st q e1 (by omega)) (st_loop ht hb ho f _ _ l' e2 (by rw [List.length_append]; simp; omega))
end
/-- a list of small numbers, told last first -/
def revP (s : List Nat) : List PV := nL s.reverse
theorem revP_cons (a : Nat) (r : List Nat) : revP (a :: r) = revP r ++ [.int (a : Int)] := by simp [revP, nL]
theorem revP_len (s : List Nat) : (revP s).length = s.length := by simp [revP, nL]
end Mine

namespace Mine
open PySem PySem.W PySem.Builtin PySem.Builtin.Str PySem.StrLaws

theorem item_path {p : List Bool} {i : Nat} (h : i < p.length) : (Txt.charAt (pathS p) (i : Int)).isSome = true ∧ ∀ b, (Txt.item (pathS p) (i : Int) == (if b = true then ("(" : Str) else ")")) = (p.getD i false == b) := by
  have e : Txt.charAt (pathS p) (i : Int) = some (if p.getD i false = true then 40 else 41) := by
    unfold Txt.charAt
    have h1 : seqIndex? (i : Int) (pathS p).length = some i := by
      unfold seqIndex?
      rw [pathS_len]
      simp; omega
    rw [h1]
    show (pathS p).cps[i]? = _
    rw [← Array.getElem?_toList, pathS_list, List.getElem?_map, List.getD_eq_getElem?_getD, List.getElem?_eq_getElem h]; rfl
  refine ⟨by rw [e]; rfl, fun b => ?_⟩
  unfold Txt.item
  rw [e]
  cases p.getD i false <;> cases b <;> decide +kernel
theorem fits_nat {i : Nat} (h : i < 1000) : fitsSsize (i : Int) = true := by
  unfold fitsSsize
  simp; omega
section
variable {k : Nat} {sc : Scope} {ρ : Vars}
theorem order_run {t0 t1 i1 elt : PySem.Expr} {ifs : List PySem.Expr} {held : List Nat} (h0 : ∀ d : Nat, AsgL sc t0 false (.int (d : Int)) ρ (("depth", .val (.int (d : Int))) :: ρ)) (h1 : ∀ d : Nat, EvIt k sc (("depth", .val (.int (d : Int))) :: ρ) t1 false i1 (nL (List.range held.length)))
    (h2 : ∀ d : Nat, CRun k sc t1 false ifs elt (nL (List.range held.length)) (("depth", .val (.int (d : Int))) :: ρ) (nL (idxF (fun h => h.beq d) 0 held)) (("depth", .val (.int (d : Int))) :: ρ)) (hs : ∀ d : Nat, Sub ρ (("depth", .val (.int (d : Int))) :: ρ)) :
    ∀ n d : Nat, NRun k sc t0 false t1 false i1 ifs elt ((List.range' d n).map fun j : Nat => PV.int (j : Int)) ρ (nL (orderL held n d)) ρ
  | 0, d => .nil
  | n + 1, d => by
    rw [List.range'_succ, List.map_cons, show orderL held (n + 1) d = idxF (fun h => h.beq d) 0 held ++ orderL held n (d + 1) from rfl, nL_app]
    exact .cons (h0 d) (h1 d) (h2 d) (hs d) (order_run h0 h1 h2 hs n (d + 1))
end
theorem order_lt {held : List Nat} : ∀ {n d : Nat}, ∀ j ∈ orderL held n d, j < held.length
  | 0, _, _, h => nomatch h
  | n + 1, d, j, h => by
    have h' : j ∈ idxF (fun h => h.beq d) 0 held ++ orderL held n (d + 1) := h
    rcases List.mem_append.mp h' with h | h
    · have := (idx_lt _ held 0 j h).2; omega
    · exact order_lt j h
theorem order_len {held : List Nat} : ∀ {n d : Nat}, (orderL held n d).length ≤ n * held.length
  | 0, _ => Nat.zero_le _
  | n + 1, d => by
    show (idxF (fun h => h.beq d) 0 held ++ orderL held n (d + 1)).length ≤ _
    rw [List.length_append, idx_len, Nat.add_mul, Nat.one_mul]
    have := order_len (held := held) (n := n) (d := d + 1)
    have : ∀ l : List Nat, cntF (fun h => h.beq d) l ≤ l.length := fun l => by
      induction l with
      | nil => exact Nat.le_refl _
      | cons a l ih =>
        show cond (a.beq d) _ _ ≤ _
        cases a.beq d <;> simp only [cond_true, cond_false, List.length_cons] <;> omega
    have := this held
    omega
theorem idx_range {α : Type} (c : α → Bool) (d : α) (l : List α) : (List.range l.length).filter (fun i => c (l.getD i d)) = idxF c 0 l := by
  rw [List.range_eq_range']
  exact idx_filter c d l 0 _ fun j a hj => by rw [Nat.zero_add, List.getD_eq_getElem?_getD, hj]; rfl
theorem ahead_len (held : List Nat) {j : Nat} (hj : j < held.length) : ((List.range j).filter fun i => (held.getD i 0).beq (held.getD j 0)).length = aheadN held j := by
  unfold aheadN
  rw [← idx_len _ _ 0, List.range_eq_range']
  have e : (held.take j).length = j := by rw [List.length_take]; omega
  have := idx_filter (fun h => h.beq (held.getD j 0)) 0 (held.take j) 0 (fun i => (held.getD i 0).beq (held.getD j 0)) fun i a hi => by
    have hlt := (List.getElem?_eq_some_iff.mp hi).1
    rw [List.getElem?_take_of_lt (by omega)] at hi
    rw [Nat.zero_add, List.getD_eq_getElem?_getD (i := i), hi]; rfl
  rw [e] at this
  rw [this]
theorem behind_len (held : List Nat) (j : Nat) : ((List.range' (j + 1) (held.length - (j + 1))).filter fun i => (held.getD i 0 + 1).beq (held.getD j 0)).length = behindN held j := by
  unfold behindN
  rw [← idx_len _ _ (j + 1)]
  have e : (held.drop (j + 1)).length = held.length - (j + 1) := List.length_drop
  have := idx_filter (fun h => (h + 1).beq (held.getD j 0)) 0 (held.drop (j + 1)) (j + 1) (fun i => (held.getD i 0 + 1).beq (held.getD j 0)) fun i a hi => by
    rw [List.getElem?_drop] at hi
    rw [List.getD_eq_getElem?_getD (i := j + 1 + i), hi]; rfl
  rw [e] at this
  rw [this]
theorem lead_list (d : Nat) : ∀ (held : List Nat) (low : Nat), (rowsFrom low held).map (fun p => dots (p.1 + d)) = held.map fun h => dots (h + (2 + d))
  | [], _ => rfl
  | h :: r, low => by
    show dots (h + 2 + d) :: List.map _ (rowsFrom (low + 1) r) = _
    rw [lead_list d r (low + 1), Nat.add_assoc]; rfl
abbrev leadS (d : Nat) (held : List Nat) : List Str := held.map fun h => dots (h + d)
theorem lead_get {held : List Nat} {i d : Nat} (h : i < held.length) : (sL (leadS d held))[i]? = some (.str (dots (held.getD i 0 + d))) := by
  have e : held[i]? = some (held.getD i 0) := by rw [List.getD_eq_getElem?_getD, List.getElem?_eq_getElem h]; rfl
  rw [List.getElem?_map, List.getElem?_map, e]; rfl
theorem zip_get {order spots : List Nat} {p : PV} (h : p ∈ pairUp (nL order) (nL spots)) : ∃ t j s : Nat, order[t]? = some j ∧ spots[t]? = some s ∧ p = .tup [.int ((j : Nat) : Int), .int ((s : Nat) : Int)] := by
  obtain ⟨t, ht⟩ := List.mem_iff_getElem?.mp h
  obtain ⟨a, b, h1, h2, rfl⟩ := pairUp_get ht
  rw [List.getElem?_map] at h1 h2
  cases e1 : order[t]? with
  | none => rw [e1] at h1; cases h1
  | some j =>
    cases e2 : spots[t]? with
    | none => rw [e2] at h2; cases h2
    | some s =>
      rw [e1] at h1
      rw [e2] at h2
      cases h1; cases h2
      exact ⟨t, j, s, e1, e2, rfl⟩
theorem upto_path (p : List Bool) (n : Nat) : slS (pathS p) Option.none (some (n : Int)) Option.none = pathS (p.take n) := str_inj (by rw [slS_upto, pathS_list, pathS_list, List.map_take])
end Mine

namespace Mine
open PySem PySem.W PySem.Builtin PySem.Builtin.Str PySem.StrLaws

theorem depth_mem : ∀ {r : List Nat} {h d : Nat}, stepsOK h r = true → h ≤ d → d ≤ mxL (h :: r) → d ∈ h :: r
  | [], h, d, _, h1, h2 => by
    have : d ≤ Nat.max h 0 := h2
    have e : Nat.max h 0 = h := Nat.max_eq_left (Nat.zero_le _)
    rw [e] at this
    have : d = h := by omega
    rw [this]; exact List.mem_cons_self
  | g :: r, h, d, hs, h1, h2 => by
    have s' : (Nat.ble g (h + 1) && stepsOK g r) = true := hs
    rw [Bool.and_eq_true] at s'
    have hg := Nat.le_of_ble_eq_true s'.1
    by_cases q : d = h
    · rw [q]; exact List.mem_cons_self
    · have h2' : d ≤ Nat.max h (mxL (g :: r)) := h2
      have : d ≤ mxL (g :: r) := by
        rcases Nat.le_total (mxL (g :: r)) h with z | z
        · rw [show Nat.max h (mxL (g :: r)) = h from Nat.max_eq_left z] at h2'; omega
        · rwa [show Nat.max h (mxL (g :: r)) = mxL (g :: r) from Nat.max_eq_right z] at h2'
      exact List.mem_cons_of_mem _ (depth_mem s'.2 (by omega) this)
theorem cnt_pos {d : Nat} : ∀ {l : List Nat}, d ∈ l → 1 ≤ cntF (fun h => h.beq d) l
  | a :: l, h => by
    show 1 ≤ cond (a.beq d) _ _
    rcases List.mem_cons.mp h with rfl | h
    · rw [Nat.beq_refl]
      show 1 ≤ cntF _ l + 1
      omega
    · have := cnt_pos h
      cases a.beq d <;> simp only [cond_true, cond_false] <;> omega
theorem cnt_count (d : Nat) : ∀ l : List Nat, ((l.map fun n : Nat => (n : Int)).count (d : Int)) = cntF (fun h => h.beq d) l
  | [] => rfl
  | a :: l => by
    rw [List.map_cons, List.count_cons, cnt_count d l]
    show _ = cond (a.beq d) (cntF (fun h => h.beq d) l + 1) (cntF (fun h => h.beq d) l)
    have e : ((a : Int) == (d : Int)) = a.beq d := by
      apply Bool.eq_iff_iff.mpr
      rw [beq_iff_eq, Nat.beq_eq]; omega
    rw [e]
    cases a.beq d <;> rfl
theorem trim_mem : ∀ {s : List Nat} {x : Nat}, x ∈ trimR s → x ∈ s
  | [], _, h => h
  | [a], _, h => h
  | a :: b :: r, x, h => by
    have h' : x ∈ cond (a.beq b) (trimR (b :: r)) (a :: b :: r) := h
    cases e : a.beq b with
    | true => rw [e] at h'; exact List.mem_cons_of_mem _ (trim_mem h')
    | false => rw [e] at h'; exact h'
theorem trim_ne : ∀ {s : List Nat}, s ≠ [] → trimR s ≠ []
  | [], h => h
  | [a], h => h
  | a :: b :: r, h => by
    show cond (a.beq b) (trimR (b :: r)) (a :: b :: r) ≠ []
    cases a.beq b with
    | true => exact trim_ne (List.cons_ne_nil _ _)
    | false => exact List.cons_ne_nil _ _
theorem trim_len : ∀ {s : List Nat}, (trimR s).length ≤ s.length
  | [] => Nat.le_refl _
  | [a] => Nat.le_refl _
  | a :: b :: r => by
    show (cond (a.beq b) (trimR (b :: r)) (a :: b :: r)).length ≤ _
    cases a.beq b with
    | true => exact Nat.le_succ_of_le trim_len
    | false => exact Nat.le_refl _
def GoodN (s : Nat) : Prop := 1 ≤ s ∧ s ≤ 100
theorem sizes_good {held : List Nat} (h0 : ∃ r, held = 0 :: r ∧ stepsOK 0 r = true) (hl : held.length ≤ 11) : ∀ s ∈ sizesL held, GoodN s := by
  intro s hs
  obtain ⟨d, hd, rfl⟩ := List.mem_map.mp hs
  obtain ⟨r, rfl, hst⟩ := h0
  have hd' := List.mem_range.mp hd
  have hm := depth_mem hst (Nat.zero_le d) (by omega)
  refine ⟨cnt_pos hm, ?_⟩
  have : ∀ l : List Nat, cntF (fun h => h.beq d) l ≤ l.length := fun l => by
    induction l with
    | nil => exact Nat.le_refl _
    | cons a l ih =>
      show cond (a.beq d) _ _ ≤ _
      cases a.beq d <;> simp only [cond_true, cond_false, List.length_cons] <;> omega
  have := this (0 :: r)
  omega
theorem gl_loop {k : Nat} {sc : Scope} {w : World} {A : Around} {env : Env} {h₀ hs : Heap} {ax gl : Addr} {all : List PV} {tgt : PySem.Expr} {body orelse : List Stmt} {m : Nat} (hA : ∀ (p : PV) (ρ : Vars), p.frozen = true → AsgL sc tgt false p ρ (("interval", .val p) :: ρ))
    (hb : ∀ (s : Nat) (ρ : Vars), GoodN s → Atoms ρ → GS k w A env h₀ hs ax gl false false false all body (("interval", .val (.int (s : Int))) :: ρ) ([] ++ ([] ++ ([.int (s : Int)] ++ []))) (some (.next, ("last_interval", .val (.int (s : Int))) :: ("interval", .val (.int (s : Int))) :: ρ)))
    (hc : ∀ (l0 : Nat) (ρ : Vars), Atoms ρ → ρ.lookup ("last_interval" : Str) = some (.val (.int (l0 : Int))) → GS k w A env h₀ hs ax gl false false false all body (("interval", .val (.int ((0 : Nat) : Int))) :: ρ) ([] ++ ([] ++ List.replicate (m + 1) (.int (l0 : Int)))) Option.none) :
    ∀ (ss : List Nat) (l0 : Nat) (ρ : Vars), (∀ s ∈ ss, GoodN s) → Atoms ρ → (ss = [] → ρ.lookup ("last_interval" : Str) = some (.val (.int (l0 : Int)))) → GLoop k sc w A env h₀ hs ax gl false false false all tgt false body orelse (nL (ss ++ [0])) ρ (nL ss ++ List.replicate (m + 1) (.int ((ss.getLastD l0 : Nat) : Int))) Option.none
  | [], l0, ρ, _, ha, hl => by
    exact .cut ha (hA _ _ rfl) (hc l0 ρ ha (hl rfl))
  | s :: ss, l0, ρ, hg, ha, _ => by
    have h2 := gl_loop (orelse := orelse) hA hb hc ss s (("last_interval", .val (.int (s : Int))) :: ("interval", .val (.int (s : Int))) :: ρ) (fun x hx => hg x (List.mem_cons_of_mem _ hx)) (.cons rfl (.cons rfl ha)) (fun _ => rfl)
    have h3 := GLoop.next ha (hA (.int (s : Int)) ρ rfl) (hb s ρ (hg s List.mem_cons_self) ha) h2
    rw [List.getLastD_cons]
    exact h3
end Mine

namespace Mine
open PySem PySem.W PySem.Builtin PySem.Builtin.Str PySem.StrLaws

theorem fmod_nat (x : Int) : PV.int (((x.fmod 1000000).toNat : Nat) : Int) = PV.int (x.fmod 1000000) := by
  have := Int.fmod_nonneg_of_pos x (show (0 : Int) < 1000000 by decide)
  rw [Int.toNat_of_nonneg this]
theorem nums_small (ns : List Int) : ∀ x ∈ numsOf ns ++ [1, 2, 3, 0], x < 1000000 := by
  intro x hx
  rcases List.mem_append.mp hx with hx | hx
  · obtain ⟨y, _, rfl⟩ := List.mem_map.mp hx
    have h1 := Int.fmod_nonneg_of_pos y (show (0 : Int) < 1000000 by decide)
    have h2 := Int.fmod_lt_of_pos y (show (0 : Int) < 1000000 by decide)
    omega
  · simp at hx; omega
theorem sum_bound : ∀ {l : List Nat} {B : Nat}, (∀ x ∈ l, x < B) → l.sum ≤ l.length * B
  | [], _, _ => Nat.zero_le _
  | a :: l, B, h => by
    have h1 := h a List.mem_cons_self
    have h2 := sum_bound fun x hx => h x (List.mem_cons_of_mem _ hx)
    rw [List.sum_cons, List.length_cons, Nat.add_mul, Nat.one_mul]; omega
theorem numsOf_len (ns : List Int) : (numsOf ns).length ≤ 6 := by
  unfold numsOf
  rw [List.length_map, List.length_take]
  exact Nat.min_le_left _ _
theorem nums_len (ns : List Int) : (numsOf ns ++ [1, 2, 3, 0]).length ≤ 10 := by
  have := numsOf_len ns
  rw [List.length_append]; simp; omega
theorem mod_nat (a b : Nat) (hb : b ≠ 0) : ((a : Nat) : Int).fmod ((b : Nat) : Int) = ((a % b : Nat) : Int) := by
  rw [Int.fmod_eq_emod_of_nonneg _ (by omega)]; rfl
def heV (low : Nat) (nums : List Nat) (hs : List Nat) : Vars := [("held", .own (nL hs)), ("low", .val (.int (low : Int))), ("numbers", .val (.list (nL nums)))]
def h1V (low : Nat) (held : List Nat) : Vars := [("many", .val (.int ((held.length : Nat) : Int))), ("held", .val (.list (nL held))), ("low", .val (.int (low : Int)))]
theorem rows_comp (held : List Nat) (low : Nat) : Txt.join "" ((List.range held.length).map fun i => (dots (held.getD i 0 + 2) ++ wordN (low + i)) ++ ("\r\n" : Str)) = wireS (rowsFrom low held) := by
  rw [← join_rows]
  congr 1
  have := map_range (rowsFrom low held) ((0 : Nat), Str.empty) (fun p : Nat × Str => (dots p.1 ++ p.2) ++ ("\r\n" : Str)) (fun i => (dots (held.getD i 0 + 2) ++ wordN (low + i)) ++ ("\r\n" : Str)) fun i a hi => by
    have hlt : i < held.length := by
      have := (List.getElem?_eq_some_iff.mp hi).1
      rwa [rows_len] at this
    have h2 := rows_get (low := low) (List.getElem?_eq_getElem hlt)
    rw [hi] at h2
    rw [Option.some.inj h2, List.getD_eq_getElem?_getD, List.getElem?_eq_getElem hlt]; rfl
  rw [rows_len] at this
  exact this
theorem getD_of {l : List Nat} {i : Nat} (h : i < l.length) : l[i]? = some (l.getD i 0) := by
  rw [List.getD_eq_getElem?_getD, List.getElem?_eq_getElem h]; rfl
theorem getD_mem {l : List Nat} {i : Nat} (h : i < l.length) : l.getD i 0 ∈ l := List.mem_of_getElem? (getD_of h)
theorem neL_same {k : Nat} {a b : List Nat} (h : a = b) : Op2 (k + 3) (.list (nL a)) (.list (nL b)) (compareOp .NotEq) (.bool false) := fun {w A F s u v} R _ _ hu hv => by
  subst h
  rw [nL_iL] at hu hv
  have := ne_l R (RVl.of_list hu) (RVl.of_list hv)
  simpa using this
theorem eqL_same {k : Nat} {a b : List Nat} (h : a = b) : Op2 (k + 3) (.list (nL a)) (.list (nL b)) (compareOp .Eq) (.bool true) := fun {w A F s u v} R _ _ hu hv => by
  subst h
  rw [nL_iL] at hu hv
  have := eq_l R (RVl.of_list hu) (RVl.of_list hv)
  simpa using this
def h2V (low : Nat) (held : List Nat) : Vars := [("path", .val (.str (pathS (pathB held)))), ("wire", .val (.str (wireS (rowsFrom low held)))), ("many", .val (.int ((held.length : Nat) : Int))), ("held", .val (.list (nL held))), ("low", .val (.int (low : Int)))]
theorem rev_path (p : List Bool) : slS (pathS p) Option.none Option.none (some (-1)) = pathS p.reverse := str_inj (by rw [slS_rev, pathS_list, pathS_list, List.map_reverse])
theorem open_path (p : List Bool) : ("(" : Str) ++ pathS p = pathS (true :: p) := by
  rw [show true :: p = [true] ++ p from rfl, pathS_append, pathS_true]
theorem pathB_len (held : List Nat) (h1 : held.length ≤ 11) (h2 : mxL held ≤ 10) : (pathB held).length < 200 := by
  have : ∀ n due, (pathFrom held n due).length ≤ 11 * n := by
    intro n
    induction n with
    | zero => intro due; exact Nat.le_refl _
    | succ n ih =>
      intro due
      show (dueB due held (pathFrom held n (due + 1))).length ≤ _
      rw [dueB_app, List.length_append]
      have := dueB_len due held
      have := ih (due + 1)
      omega
  have := this (mxL held + 2) 2
  show (pathFrom held (mxL held + 2) 2).length < 200
  omega
theorem mxL_small {held : List Nat} (h0 : held ≠ []) (h : ∀ x ∈ held, x ≤ 10) : mxL held ≤ 10 ∧ mxL held ∈ held := by
  cases held with
  | nil => exact absurd rfl h0
  | cons a r => exact ⟨h _ mxL_mem, mxL_mem⟩
theorem rows_up_ok {held : List Nat} {low : Nat} (h1 : held.length ≤ 11) (h2 : low + held.length ≤ 32) (h3 : ∀ h ∈ held, h ≤ 10) : LOK (up1 (rowsFrom low held)) := by
  refine ⟨by simp [up1, rows_len]; omega, fun p hp => ?_⟩
  obtain ⟨q, hq, rfl⟩ := List.mem_map.mp hp
  have hok := (rows_ok h1 h2 h3).ok q hq
  have : q.1 ∈ held.map (· + 2) := by rw [← rows_leads (low := low)]; exact List.mem_map_of_mem (f := (·.1)) hq
  obtain ⟨h, hh, e⟩ := List.mem_map.mp this
  have := h3 h hh
  exact ⟨hok.1, by simp; omega⟩
theorem more_list (held : List Nat) (low : Nat) : (up1 (rowsFrom low held)).map (fun p => dots p.1) = leadS 3 held := by
  unfold up1
  rw [List.map_map]
  exact lead_list 1 held low
def h3V (low : Nat) (held : List Nat) : Vars := ("more", .val (.list (sL (leadS 3 held)))) :: ("lead", .val (.list (sL (leadS 2 held)))) :: h2V low held
def h4V (low : Nat) (held : List Nat) : Vars := ("spots", .val (.list (nL (idxF id 0 (pathB held))))) :: ("order", .val (.list (nL (orderL held (mxL held + 1) 0)))) :: h3V low held
theorem int_beq (a b : Nat) : ((a : Int) == (b : Int)) = a.beq b := by
  apply Bool.eq_iff_iff.mpr
  rw [beq_iff_eq, Nat.beq_eq]; omega
theorem cntF_le {α : Type} (c : α → Bool) : ∀ l : List α, cntF c l ≤ l.length
  | [] => Nat.le_refl _
  | a :: l => by
    have := cntF_le c l
    show cond (c a) _ _ ≤ _
    cases c a <;> simp only [cond_true, cond_false, List.length_cons] <;> omega
theorem between_ok : ∀ a < 13, ∀ b < 13, a ≤ b → Builtin.Range.small (a : Nat) (b : Nat) 1 = true ∧ Builtin.Range.rangeSize (a : Nat) (b : Nat) 1 = ((b - a : Nat) : Int) := by decide +kernel
theorem coll_same (a b : Nat) : (collI (dots (a + 2)) (dots (b + 2)) == 0) = a.beq b := by
  rw [coll_dots]
  apply Bool.eq_iff_iff.mpr
  rw [Nat.beq_eq, Nat.beq_eq]; omega
theorem coll_next (a b : Nat) : (collI (dots (a + 3)) (dots (b + 2)) == 0) = (a + 1).beq b := by
  rw [coll_dots]
  apply Bool.eq_iff_iff.mpr
  rw [Nat.beq_eq, Nat.beq_eq]; omega
theorem cut_path (p : List Bool) (s n : Nat) : pathS (p.take s) ++ Txt.mul ")" (n : Int) = pathS (p.take s ++ List.replicate n false) := by rw [shuts_mul, pathS_append]
theorem Tst.and_last {k : Nat} {sc : Scope} {ρ : Vars} {x : PySem.Expr} {pos : Pos} {b : Bool} (hx : Tst k sc ρ x b) : Tst k sc ρ (.BoolOp .And [x] pos) b := by
  cases b with
  | true => exact Tst.and_t @hx Tst.and_nil
  | false => exact Tst.and_f @hx
theorem last_snoc (l : List PV) (p : PV) : (l ++ [p])[((-1 : Int) + ((l ++ [p]).length : Nat)).toNat]? = some p := by
  have : ((-1 : Int) + ((l ++ [p]).length : Nat)).toNat = l.length := by simp; omega
  rw [this]; simp
theorem nL_drop (l : List Nat) (n : Nat) : (nL l).drop n = nL (l.drop n) := List.map_drop.symm
def stV (held mk : List Nat) (place : Nat) (st : List Nat) : Vars := [("place", .val (.int (place : Int))), ("stops", .own (nL st)), ("shut", .val (.list (nL (idxF (fun b => !b) 0 (pathB held))))), ("marks", .own (nL mk)), ("many", .val (.int ((held.length : Nat) : Int))), ("path", .val (.str (pathS (pathB held))))]
theorem meth_countL : Meth "list" "count" "list.count" := ⟨PySem.F.plainAttrs_list, PySem.F.slot_list_count, PySem.F.type_list_count⟩
theorem meth_countS : Meth "str" "count" "str.count" := ⟨PySem.F.plainAttrs_str, PySem.F.slot_str_count, PySem.F.type_str_count⟩
theorem countL_call {k : Nat} {l : List Nat} {d : Nat} : OpN k [.list (nL l), .int (d : Int)] (fun vs => PySem.call (.builtin "list.count") vs) (.int ((cntF (fun h => h.beq d) l : Nat) : Int)) := by
  rw [nL_iL, ← cnt_count]
  exact OpN.of2 (f := fun vs => PySem.call (.builtin "list.count") vs) Op2.countL
theorem countS_call {k : Nat} {q : List Bool} : OpN k [.str (pathS q), .str "("] (fun vs => PySem.call (.builtin "str.count") vs) (.int ((cntF id q : Nat) : Int)) := by
  rw [← count_path]
  exact OpN.of2 (f := fun vs => PySem.call (.builtin "str.count") vs) Op2.countS
theorem lenO_call {k : Nat} {l : List PV} (h : l.length ≤ 1000) : OpN k [.olist l] (fun vs => PySem.call (.builtin "len") vs) (.int l.length) := OpN.of1 (f := fun vs => PySem.call (.builtin "len") vs) (Op1.lenO (by have : sizeLine = 2 ^ 24 := rfl; omega))
theorem sizes_len (held : List Nat) : (sizesL held).length = mxL held + 1 := by simp [sizesL]
def trV (held : List Nat) (s : List Nat) : Vars := [("sizes", .own (revP s)), ("many", .val (.int ((held.length : Nat) : Int))), ("path", .val (.str (pathS (pathB held))))]
theorem rev_get (s : List Nat) (t : Nat) (v : Nat) (h : s[t]? = some v) : (revP s)[(-((t + 1 : Nat) : Int) + ((revP s).length : Nat)).toNat]? = some (.int (v : Int)) := by
  have hlt := (List.getElem?_eq_some_iff.mp h).1
  rw [revP_len, show (-((t + 1 : Nat) : Int) + (s.length : Nat)).toNat = s.length - 1 - t from by omega]
  unfold revP
  rw [List.getElem?_map, List.getElem?_reverse (by omega), show s.length - 1 - (s.length - 1 - t) = t from by omega, h]; rfl
def mkV (held tr ms : List Nat) : Vars := [("marks", .own (nL ms)), ("sizes", .val (.list (revP tr))), ("many", .val (.int ((held.length : Nat) : Int))), ("path", .val (.str (pathS (pathB held))))]
theorem EvG.latN {k : Nat} {sc : Scope} {ρ : Vars} {hs : Heap} {ax gl : Addr} {x y : Str} {px pos : Pos} {l : List Nat} (hx : ρ.lookup y = some (.val (.lat ax (nL l)))) (hd : (y == ("__debug__" : Str)) = false) : EvG k sc ρ hs ax gl (.Name x px) false (.Name y pos) (nL l) := by
  rw [nL_iL] at hx ⊢
  exact EvG.lat hx hd
theorem int_ne (a b : Nat) (h : a ≠ b) : ((a : Int) == (b : Int)) = false := beq_eq_false_iff_ne.mpr fun e => h (by omega)
theorem last_head (tr : List Nat) : tr.reverse.getLastD 0 = tr.headD 0 := by
  cases tr with
  | nil => rfl
  | cons a r => simp
theorem sizes_gen {k : Nat} {sc : Scope} {ss : List Nat} {st1 : Stmt} {tgt it : PySem.Expr} {body orelse : List Stmt} {fpos : Pos} (hne : ss ≠ []) (hg : ∀ s ∈ ss, GoodN s) (hit : ∀ {ρ : Vars} {hs : Heap} {ax gl : Addr} {l : List Nat}, ρ.lookup ("grouping" : Str) = some (.val (.lat ax (nL l))) → EvG k sc ρ hs ax gl tgt false it (nL l)) (hfs : ∀ env x, foldedSetIterable it env x = pure x)
    (h1 : ∀ {w : World} {A : Around} {env : Env} {h₀ hs : Heap} {ax gl : Addr} {all : List PV} {ρ : Vars}, GEnv sc env hs gl → GS1 k w A env h₀ hs ax gl true false false all st1 ρ [] (some (.next, ("last_interval", .val .none) :: ρ)))
    (hA : ∀ (p : PV) (ρ : Vars), p.frozen = true → AsgL sc tgt false p ρ (("interval", .val p) :: ρ))
    (hb : ∀ {w : World} {A : Around} {env : Env} {h₀ hs : Heap} {ax gl : Addr} {all : List PV}, GEnv sc env hs gl → ∀ (s : Nat) (ρ : Vars), GoodN s → Atoms ρ → GS k w A env h₀ hs ax gl false false false all body (("interval", .val (.int (s : Int))) :: ρ) ([] ++ ([] ++ ([.int (s : Int)] ++ []))) (some (.next, ("last_interval", .val (.int (s : Int))) :: ("interval", .val (.int (s : Int))) :: ρ)))
    (hc : ∀ {w : World} {A : Around} {env : Env} {h₀ hs : Heap} {ax gl : Addr} {all : List PV}, GEnv sc env hs gl → ∀ (l0 : Nat) (ρ : Vars), Atoms ρ → ρ.lookup ("last_interval" : Str) = some (.val (.int (l0 : Int))) → GS k w A env h₀ hs ax gl false false false all body (("interval", .val (.int ((0 : Nat) : Int))) :: ρ) ([] ++ ([] ++ List.replicate (11 + 1) (.int (l0 : Int)))) Option.none) :
    GenOK k sc [st1, .For tgt it body orelse fpos] "grouping" (fun a => .lat a (nL (ss ++ [0]))) false false (nL (ss ++ List.replicate 12 (ss.getLastD 0))) := by
  intro w A env h₀ hs ax gl G hbase hax
  have e : nL (ss ++ List.replicate 12 (ss.getLastD 0)) = nL ss ++ List.replicate (11 + 1) (.int ((ss.getLastD 0 : Nat) : Int)) := by rw [nL_app]; simp [nL]
  refine ⟨Option.none, ?_, (fun f ρ' e => nomatch e), fun _ => by rw [e]; simp⟩
  suffices h : GS k w A env h₀ hs ax gl true false false (nL (ss ++ List.replicate 12 (ss.getLastD 0))) [st1, .For tgt it body orelse fpos] [("grouping", .val (.lat ax (nL (ss ++ [0]))))] ([] ++ nL (ss ++ List.replicate 12 (ss.getLastD 0))) Option.none by
    rw [List.nil_append] at h
    exact @h
  refine GS.cons (h1 G) (GS.stop (GS1.forSub (ρ₂ := [("last_interval", .val .none)]) G hbase (hit rfl) (.cons rfl .nil) ?_ hfs) (fun f ρ' e => by cases e))
  have key := gl_loop (orelse := orelse) (all := nL (ss ++ List.replicate 12 (ss.getLastD 0))) (h₀ := h₀) (hs := hs) (ax := ax) (gl := gl) (w := w) (A := A) (env := env) (m := 11) hA (hb G) (hc G) ss 0 [("last_interval", .val .none)] hg (.cons rfl .nil) (fun e => absurd e hne)
  rw [← e] at key
  exact key
set_option maxHeartbeats 4000000
theorem law_call {k : Nat} {ns : List Int} {w : World} {A : Around} {F : List Addr} {s : Shared} {vs : List Value} (R : Room (k + 6) A) (B : Base w s.heap) (Lv : Live F s.heap) (r : RVs w s.heap F [.list (iL ns)] vs) (hnl : ns.length ≤ 100) :
    codeAny (model prg w) A (.call (.ref 125) ⟨vs, []⟩) (fun r s' => ∃ v, r = .ok (.ret v) ∧ GK true s s' ∧ Up s.heap s'.heap ∧ RV w s'.heap F (.bool true) v) s := by
  have hO := held_ok ns
  have hL := law_is hO.law
  have hnums := nums_len ns
  have hns := nums_small ns
  have hsum := sum_bound hns
  have hheld : 0 :: heldGo 0 (numsOf ns ++ [1, 2, 3, 0]) = heldOf ns := rfl
  have hnumsI : nL (numsOf ns ++ [1, 2, 3, 0]) = (((ns.take 6).filter fun _ => true).map fun x => PV.int (x.fmod 1000000)) ++ [.int 1, .int 2, .int 3, .int 0] := by
    rw [filter_true, nL_app]
    congr 1
    unfold numsOf
    show ((ns.take 6).map _).map _ = _
    rw [List.map_map]
    exact List.map_congr_left fun x _ => fmod_nat x
  generalize hnu : numsOf ns ++ [1, 2, 3, 0] = nums at *
  generalize hhe : heldOf ns = held at *
  refine Call.introC (g := true) (B.1 125 _ rfl) rfl rfl (sc := ⟨_, _, _, _, _⟩) rfl rfl rfl rfl rfl rfl rfl (codeRec_of B.1 rfl) (names := ["script"]) (ps := [.list (iL ns)]) ?_ rfl (by decide +kernel) ?_ (by decide +kernel) ?_ ?_ R B Lv r
  · intro vs h
    match vs, h with
    | [u], _ => rfl
  · intro z hz
    rw [List.mem_singleton.mp hz]
    exact .inl rfl
  · show (PV.frozens (iL ns) && true) = true
    rw [ints_frozen]; rfl
  · refine Ex.cons (Ex1.assign (.inl rfl) (fun _ => rfl) (p := .list (nL nums)) ?_ (nL_frozen _)) ?_
    · refine Ev.cast (congrArg PV.list hnumsI.symm) ?_
      refine Ev.bin (p := .list _) (q := .list _) ?_ (Ev.list (ps := [.int 1, .int 2, .int 3, .int 0]) (.const (.const (.const (.const .nil)))) (.cons Ev.int (.cons Ev.int (.cons Ev.int (.cons Ev.int .nil)))) (by decide)) (Op2.addL ?_)
      · apply Ev.compF (ns.take 6) (fun x => .int x) (fun x => PV.int (x.fmod 1000000)) (fun _ => true) []
        case hsc => exact ⟨rfl, by decide +kernel, by decide +kernel, by decide +kernel, by decide +kernel⟩
        case hfr => decide +kernel
        case hxs => simp
        case hx => rfl
        case hi =>
          refine EvIt.list (Ev.cast (congrArg PV.list ?_) (Ev.sliceL (fun h => RVl.of_list h) (Ev.name rfl (by decide +kernel)) .none (.some (Ev.int (i := 6))) .none (by decide) ?_ (fun _ _ => ⟨_, rfl⟩))) (ints_frozen _)
          · rw [show (6 : Int) = ((6 : Nat) : Int) from rfl, slP_upto]
            exact List.map_take.symm
          · rw [List.length_map]
            exact Nat.le_trans hnl (by decide)
        case hin => exact .nil
        case hρ => rfl
        case hf => exact fun _ _ => rfl
        case ht => exact fun _ _ => .nil
        case hs => exact fun _ _ => rfl
        case hsz => rw [List.length_take]; omega
        case hv => exact fun x _ _ => ⟨Ev.bin (Ev.name rfl (by decide +kernel)) Ev.int (Op2.modI (by decide)), rfl⟩
      · rw [filter_true, List.length_map, List.length_take]
        show min 6 ns.length + 4 ≤ _
        have : sizeLine = 2 ^ 24 := rfl
        omega
    refine Ex.cons (Ex1.assign (.inr rfl) (fun _ => rfl) (p := .int ((nums.sum % 21 : Nat) : Int)) (Ev.bin (Ev.call globIs_sum rfl (by decide +kernel) (.inl ⟨_, rfl⟩) (fun _ _ => rfl) (.cons (Ev.name rfl (by decide +kernel)) .nil) (sum_callN ?_)) Ev.int (Op2.eq (Op2.modI (by decide)) (congrArg PV.int (mod_nat nums.sum 21 (by decide))))) rfl) ?_
    · omega
    refine Ex.cons (Ex1.assignOwn (ps := [.int 0]) (.inr rfl) (.const .nil) (.cons Ev.int .nil) rfl (by decide)) ?_
    refine Ex.cons (Ex1.sub (ρ₂ := heV (nums.sum % 21) nums [0]) ?_ (Ex1.for_ (tt := false) (ps := nL nums) (EvIt.list (Ev.name rfl (by decide +kernel)) (nL_frozen _)) ?_ (fun _ _ => rfl))) (ρ' := heV (nums.sum % 21) nums held) ?_
    · exact .cons rfl (.cons rfl (.cons rfl .nil))
    · rw [← hheld]
      refine hl_loop (V := heV (nums.sum % 21) nums) (fun p ρ h => Asg.name (.inl rfl) h) ?_ (fun ρ => Ex.nil) nums [] 0 (by simp; omega)
      intro acc h x hl
      refine Ex.post ?_ (Ex.one (Ex1.append (p := .int ((x % (h + 2) : Nat) : Int)) rfl (by decide +kernel) (fun _ => rfl) (by decide +kernel) (fun _ _ => rfl) (Ev.bin (Ev.name rfl (by decide +kernel)) (Ev.bin (Ev.sub getT_list rfl (Ev.nameO rfl (by decide +kernel)) (Ev.unary Ev.int Op1.negI) (Op2.getOn (i := -1) (p := .int (h : Int)) (by decide) ?_ (by decide) ?_) (fun _ _ => ⟨_, rfl⟩)) Ev.int Op2.addI) (Op2.eq (Op2.modI (by omega)) (congrArg PV.int ?_))) rfl ?_))
      · refine .cons ?_ (.cons rfl (.cons rfl .nil))
        rw [nL_app (acc ++ [h])]; rfl
      · rw [nL_len, List.length_append, List.length_singleton]; omega
      · rw [nL_len, nL_app]
        have : ((-1 : Int) + ((acc ++ [h]).length : Nat)).toNat = (nL acc).length := by rw [nL_len]; simp; omega
        rw [this]; simp [nL]
      · rw [show (h : Int) + 2 = ((h + 2 : Nat) : Int) from by push_cast; rfl]
        exact mod_nat x (h + 2) (by omega)
      · rw [nL_len, List.length_append]
        have : sizeLine = 2 ^ 24 := rfl
        simp; omega
    · refine Ex.freeze (x := "held") rfl ?_
      have hlow : nums.sum % 21 ≤ 20 := by omega
      generalize nums.sum % 21 = low at *
      have hlen := hO.len
      have hsml := hO.small
      obtain ⟨hr0, hr1, hr2⟩ := hO.zero
      have hwire : wireS (poured (pileOf low held)) = wireS (rowsFrom low held) := by rw [hr1, pile_poured hr2]
      have hrok := rows_ok (low := low) hlen (by omega) hsml
      have hs : sizeLine = 2 ^ 24 := rfl
      intro w A env h₀ F₀ own s
      refine Ex.cons (Ex1.assign (.inr rfl) (fun _ => rfl) (p := .int ((held.length : Nat) : Int)) (Ev.cast (congrArg (fun n : Nat => PV.int (n : Int)) (nL_len held)) (Ev.call globIs_len rfl (by decide +kernel) (.inl ⟨_, rfl⟩) (fun _ _ => rfl) (.cons (Ev.name rfl (by decide +kernel)) .nil) (lenL_call (by rw [nL_len]; omega)))) rfl) ?_
      refine Ex.sub (ρ₂ := h1V low held) (.cons rfl (.cons rfl (.cons rfl .nil))) ?_
      refine Ex.cons (Ex1.assign (.inl rfl) (fun _ => rfl) (p := .str (wireS (rowsFrom low held))) (Ev.cast (congrArg PV.str hwire) (Ev.call (.inl fun w => rfl) rfl (by decide +kernel) (.inr (.inr fun w => rfl)) (fun _ _ => rfl) (.cons (Ev.name rfl (by decide +kernel)) (.cons (Ev.name rfl (by decide +kernel)) .nil)) (wire_call hlen hlow))) rfl) ?_
      refine Ex.cons (Ex1.ifF (Tst.g <| Tst.cmp (Ev.name rfl (by decide +kernel)) (q := .str (wireS (rowsFrom low held))) ?_ (Op2.eq Op2.neS (congrArg PV.bool (by simp))) rfl) Ex.nil) ?_
      · refine Ev.cast (congrArg PV.str (rows_comp held low)) ?_
        have hel : ∀ i, i < held.length → (dots (held.getD i 0 + 2) ++ wordN (low + i)).length ≤ 40 := fun i hi => by
          have := hsml _ (getD_mem hi)
          have := word_len (low + i) (by omega)
          rw [Str.length_append, dots_len]; omega
        have hcl : ("\r\n" : Str).length = 2 := by decide +kernel
        intro w A env h₀ F₀ own s
        refine Ev.meth (ps := [.list (sL ((List.range held.length).map fun i => (dots (held.getD i 0 + 2) ++ wordN (low + i)) ++ ("\r\n" : Str)))]) meth_join rfl ?_ ?_ ?_ ?_ Ev.str ?_ (join_call ?_)
        · exact fun _ => rfl
        · decide +kernel
        · simp
        · exact fun _ _ => rfl
        · refine .cons ?_ .nil
          rw [show sL ((List.range held.length).map fun i => (dots (held.getD i 0 + 2) ++ wordN (low + i)) ++ ("\r\n" : Str)) = ((List.range held.length).filter fun _ => true).map fun i => PV.str ((dots (held.getD i 0 + 2) ++ wordN (low + i)) ++ ("\r\n" : Str)) from by rw [filter_true]; simp [sL]]
          apply Ev.compF (List.range held.length) (fun i => .int (i : Int)) (fun i => PV.str ((dots (held.getD i 0 + 2) ++ wordN (low + i)) ++ ("\r\n" : Str))) (fun _ => true) ["held", "low"] (ρin := [("held", .val (.list (nL held))), ("low", .val (.int (low : Int)))])
          case hsc => exact ⟨rfl, by decide +kernel, by decide +kernel, by decide +kernel, by decide +kernel⟩
          case hfr => decide +kernel
          case hxs =>
            intro y hy
            rcases List.mem_cons.mp hy with rfl | hy
            · rfl
            · rw [List.mem_singleton.mp hy]; rfl
          case hx => rfl
          case hi =>
            obtain ⟨g1, g2⟩ := range1_ok held.length (by omega)
            rw [← nat_range]
            intro w A env h₀ F₀ own s
            exact EvIt.range1 rfl (fun _ _ => rfl) (Ev.name rfl (by decide +kernel)) g1 g2
          case hin => exact .cons rfl rfl rfl (by decide +kernel) (.cons rfl rfl rfl (by decide +kernel) .nil)
          case hρ => rfl
          case hf => exact fun _ _ => rfl
          case ht => exact fun _ _ => .nil
          case hs => exact fun _ _ => rfl
          case hsz => rw [List.length_range]; omega
          case hv =>
            intro i hi _
            have hi' := List.mem_range.mp hi
            have hg := getD_of hi'
            have h30 := hsml _ (getD_mem hi')
            have h40 := hel i hi'
            refine ⟨?_, rfl⟩
            intro w A env h₀ F₀ own s
            refine Ev.bin (Ev.bin (p := .str (dots (held.getD i 0 + 2))) (Ev.bin Ev.str (Ev.bin (Ev.sub getT_list rfl (Ev.name rfl (by decide +kernel)) (Ev.name rfl (by decide +kernel)) (Op2.getL (i := (i : Int)) (by omega) (by omega) (nL_get hg)) (fun _ _ => ⟨_, rfl⟩)) Ev.int (Op2.eq Op2.addI (congrArg PV.int (show ((held.getD i 0 : Nat) : Int) + 2 = ((held.getD i 0 + 2 : Nat) : Int) from by push_cast; rfl)))) (Op2.eq (Op2.mulS (mulOk_run (c := 46) (by decide +kernel) (by omega))) (congrArg PV.str mul_dots))) (Ev.call (.inl fun w => rfl) rfl (by decide +kernel) (.inr (.inr fun w => rfl)) (fun _ _ => rfl) (.cons (Ev.bin (Ev.name rfl (by decide +kernel)) (Ev.name rfl (by decide +kernel)) (Op2.eq Op2.addI (congrArg PV.int (show (low : Int) + (i : Int) = ((low + i : Nat) : Int) from by push_cast; rfl)))) .nil) (word_call (p := low + i) (by omega))) (Op2.addS ?_)) Ev.str (Op2.addS ?_)
            · rw [← Str.length_append]; omega
            · rw [hcl]; omega
        · refine joinOk_of (B := 50) (fun y hy => ?_) ?_
          · obtain ⟨i, hi, rfl⟩ := List.mem_map.mp hy
            have := hel i (List.mem_range.mp hi)
            rw [Str.length_append, hcl]; omega
          · rw [List.length_map, List.length_range, show ("" : Str).length = 0 from by decide +kernel]; omega
      refine Ex.cons (Ex1.assign (.inr rfl) (fun _ => rfl) (p := .str (pathS (pathB held))) (Ev.call (.inl fun w => rfl) rfl (by decide +kernel) (.inr (.inr fun w => rfl)) (fun _ _ => rfl) (.cons (Ev.name rfl (by decide +kernel)) (.cons (Ev.name rfl (by decide +kernel)) .nil)) (brackets_call hO.ne hlen hlow hsml hL.dues)) rfl) ?_
      refine Ex.sub (ρ₂ := h2V low held) (.cons rfl (.cons rfl (.cons rfl (.cons rfl (.cons rfl .nil))))) ?_
      obtain ⟨hmx, hmxm⟩ := mxL_small hO.ne hsml
      have hpl := pathB_len held hlen hmx
      have hps := pathS_len (p := pathB held)
      intro w A env h₀ F₀ own s
      refine Ex.cons (Ex1.ifF (Tst.g <| Tst.cmp (Ev.call (.inl fun w => rfl) rfl (by decide +kernel) (.inr (.inr fun w => rfl)) (fun _ _ => rfl) (.cons (Ev.name rfl (by decide +kernel)) .nil) (back_call hL.back hO.ne hlen hpl)) (Ev.name rfl (by decide +kernel)) (neL_same rfl) rfl) Ex.nil) ?_
      refine Ex.cons (Ex1.for_ (tt := true) (ps := [.tup [.str (pathS (pathB held)), .bool true], .tup [.str (pathS (true :: pathB held)), .bool false], .tup [.str (pathS (pathB held).reverse), .bool false]]) (o := .next (h2V low held)) ?_ (const_loop Ex.nil ?_) (fun _ _ => rfl)) ?_
      · refine EvIt.listT (Ev.list (fun _ _ => rfl) (.cons (Ev.tuple (ps := [.str (pathS (pathB held)), .bool true]) (fun _ _ => rfl) (.cons (Ev.name rfl (by decide +kernel)) (.cons Ev.bool .nil)) (show 2 ≤ sizeLine by decide)) (.cons (Ev.tuple (ps := [.str (pathS (true :: pathB held)), .bool false]) (fun _ _ => rfl) (.cons (Ev.bin Ev.str (Ev.name rfl (by decide +kernel)) (Op2.eq (Op2.addS ?_) (congrArg PV.str (open_path _)))) (.cons Ev.bool .nil)) (show 2 ≤ sizeLine by decide)) (.cons (Ev.tuple (ps := [.str (pathS (pathB held).reverse), .bool false]) (fun _ _ => rfl) (.cons (Ev.cast (congrArg PV.str (rev_path _)) (Ev.sliceS (Ev.name rfl (by decide +kernel)) .none .none (.some (Ev.unary Ev.int Op1.negI)) (by decide) ?_ ?_ (fun _ _ => ⟨_, rfl⟩))) (.cons Ev.bool .nil)) (show 2 ≤ sizeLine by decide)) .nil))) (show 3 ≤ sizeLine by decide)) rfl ?_
        · rw [show ("(" : Str).length = 1 from by decide +kernel]; omega
        · omega
        · rw [rev_path, pathS_len, List.length_reverse]; omega
        · intro p hp
          rcases List.mem_cons.mp hp with rfl | hp
          · exact ⟨_, rfl⟩
          · rcases List.mem_cons.mp hp with rfl | hp
            · exact ⟨_, rfl⟩
            · rw [List.mem_singleton.mp hp]; exact ⟨_, rfl⟩
      · have e1 := hL.yes
        have e2 := hL.more
        have e3 := hL.rev
        generalize pathB held = pth at *
        intro p hp
        simp only [List.mem_cons, List.not_mem_nil, or_false] at hp
        rcases hp with rfl | rfl | rfl
        · exact ⟨_, Asg.pair (.inl rfl) (.inl rfl) rfl rfl, Ex.post (.cons rfl (.cons rfl (.cons rfl (.cons rfl (.cons rfl .nil))))) (Ex.one (Ex1.ifF (TstG.cmpK (EvK.call (.inl fun w => rfl) rfl (by decide +kernel) (.inr (.inr fun w => rfl)) (fun _ _ => rfl) (.cons (Ev.name rfl (by decide +kernel)) .nil) check_call) (Ev.name rfl (by decide +kernel)) (Op2.eq Op2.isNotB (congrArg PV.bool (show (checkB 0 pth != true) = false by rw [e1]; rfl))) rfl) Ex.nil))⟩
        · exact ⟨_, Asg.pair (.inl rfl) (.inl rfl) rfl rfl, Ex.post (.cons rfl (.cons rfl (.cons rfl (.cons rfl (.cons rfl .nil))))) (Ex.one (Ex1.ifF (TstG.cmpK (EvK.call (.inl fun w => rfl) rfl (by decide +kernel) (.inr (.inr fun w => rfl)) (fun _ _ => rfl) (.cons (Ev.name rfl (by decide +kernel)) .nil) check_call) (Ev.name rfl (by decide +kernel)) (Op2.eq Op2.isNotB (congrArg PV.bool (show (checkB 0 (true :: pth) != false) = false by rw [e2]; rfl))) rfl) Ex.nil))⟩
        · exact ⟨_, Asg.pair (.inl rfl) (.inl rfl) rfl rfl, Ex.post (.cons rfl (.cons rfl (.cons rfl (.cons rfl (.cons rfl .nil))))) (Ex.one (Ex1.ifF (TstG.cmpK (EvK.call (.inl fun w => rfl) rfl (by decide +kernel) (.inr (.inr fun w => rfl)) (fun _ _ => rfl) (.cons (Ev.name rfl (by decide +kernel)) .nil) check_call) (Ev.name rfl (by decide +kernel)) (Op2.eq Op2.isNotB (congrArg PV.bool (show (checkB 0 pth.reverse != false) = false by rw [e3]; rfl))) rfl) Ex.nil))⟩
      refine Ex.cons (Ex1.assign (.inr rfl) (fun _ => rfl) (p := .list (sL (leadS 2 held))) (Ev.cast (congrArg (fun l => PV.list (sL l)) (lead_list 0 held low)) (Ev.call (.inl fun w => rfl) rfl (by decide +kernel) (.inr (.inr fun w => rfl)) (fun _ _ => rfl) (.cons (Ev.name rfl (by decide +kernel)) .nil) (leads_call hrok.lok))) (strs_frozen _)) ?_
      refine Ex.cons (Ex1.assign (.inr rfl) (fun _ => rfl) (p := .list (sL (leadS 3 held))) (Ev.cast (congrArg (fun l => PV.list (sL l)) (more_list held low)) (Ev.call (.inl fun w => rfl) rfl (by decide +kernel) (.inr (.inr fun w => rfl)) (fun _ _ => rfl) (.cons (Ev.cast (congrArg PV.str (quote_wire hrok.rows)) (Ev.call (.inl fun w => rfl) rfl (by decide +kernel) (.inr (.inr fun w => rfl)) (fun _ _ => rfl) (.cons (Ev.name rfl (by decide +kernel)) .nil) (quote_call (Nat.le_trans hrok.size (by decide))))) .nil) (leads_call (rows_up_ok hlen (by omega) hsml)))) (strs_frozen _)) ?_
      refine Ex.sub (ρ₂ := h3V low held) (.cons rfl (.cons rfl (.cons rfl (.cons rfl (.cons rfl (.cons rfl (.cons rfl .nil))))))) ?_
      refine Ex.cons (Ex1.assignComp (ps := (List.range' 0 (mxL held + 1)).map fun j : Nat => PV.int (j : Int)) (out := nL (orderL held (mxL held + 1) 0)) (ρin := [("held", .val (.list (nL held))), ("many", .val (.int ((held.length : Nat) : Int)))]) (tt := false) rfl ?hsc1 ?hi1 (.cons rfl rfl rfl (by decide +kernel) (.cons rfl rfl rfl (by decide +kernel) .nil)) (nest_loop (fun _ _ => rfl) (order_run ?ho0 ?ho1 ?ho2 ?hos _ _)) (fun _ _ => rfl) ?hsz1 ?hsw1) ?rest1
      case hsc1 => exact ⟨rfl, by decide +kernel, by decide +kernel, by decide +kernel, by decide +kernel⟩
      case hi1 =>
        obtain ⟨g1, g2⟩ := range1_ok (mxL held + 1) (by omega)
        rw [← List.range_eq_range', ← nat_range]
        intro w A env h₀ F₀ own s
        exact EvIt.range1 rfl (fun _ _ => rfl) (Ev.bin (Ev.call globIs_max rfl (by decide +kernel) (.inl ⟨_, rfl⟩) (fun _ _ => rfl) (.cons (Ev.name rfl (by decide +kernel)) .nil) (max_callN hmxm (fun n hn => le_mxL hn))) Ev.int (Op2.eq Op2.addI (congrArg PV.int (show ((mxL held : Nat) : Int) + 1 = ((mxL held + 1 : Nat) : Int) from by push_cast; rfl)))) g1 g2
      case ho0 => exact fun d => AsgL.name rfl rfl
      case ho1 =>
        intro d
        obtain ⟨g1, g2⟩ := range1_ok held.length (by omega)
        show EvIt _ _ _ _ _ _ ((List.range held.length).map fun j : Nat => PV.int (j : Int))
        rw [← nat_range]
        intro w A env h₀ F₀ own s
        exact EvIt.range1 rfl (fun _ _ => rfl) (Ev.name rfl (by decide +kernel)) g1 g2
      case ho2 =>
        intro d
        rw [← idx_range (fun h : Nat => h.beq d) 0 held]
        refine CRun.fm (fun i : Nat => PV.int (i : Int)) (fun i : Nat => PV.int (i : Int)) (fun i => (held.getD i 0).beq d) rfl rfl (fun _ _ => rfl) (fun i hi => ?_) (fun i _ _ => ⟨Ev.name rfl (by decide +kernel), rfl⟩)
        have hi' := List.mem_range.mp hi
        exact .one (Tst.cmp (Ev.sub getT_list rfl (Ev.name rfl (by decide +kernel)) (Ev.name rfl (by decide +kernel)) (Op2.getL (i := (i : Int)) (by omega) (by omega) (nL_get (getD_of hi'))) (fun _ _ => ⟨_, rfl⟩)) (Ev.name rfl (by decide +kernel)) (Op2.eq Op2.eqI (congrArg PV.bool (int_beq _ _))) rfl)
      case hos => exact fun d => Sub.skip rfl
      case hsz1 =>
        rw [nL_len]
        have h1 := order_len (held := held) (n := mxL held + 1) (d := 0)
        have h2 : (mxL held + 1) * held.length ≤ 11 * 11 := Nat.mul_le_mul (by omega) hlen
        omega
      case hsw1 => exact swaps_local rfl rfl rfl (by decide +kernel)
      case rest1 =>
        refine Ex.cons (Ex1.assignComp (ps := (List.range (pathB held).length).map fun j : Nat => PV.int (j : Int)) (out := nL (idxF id 0 (pathB held))) (ρin := [("path", .val (.str (pathS (pathB held))))]) (ρ' := [("path", .val (.str (pathS (pathB held))))]) (tt := false) rfl ?hsc2 ?hi2 (.cons rfl rfl rfl (by decide +kernel) .nil) ?run2 (fun _ _ => rfl) ?hsz2 ?hsw2) ?rest2
        case hsc2 => exact ⟨rfl, by decide +kernel, by decide +kernel, by decide +kernel, by decide +kernel⟩
        case hi2 =>
          obtain ⟨g1, g2⟩ := range1_ok (pathB held).length hpl
          rw [← nat_range]
          intro w A env h₀ F₀ own s
          exact EvIt.range1 rfl (fun _ _ => rfl) (Ev.cast (congrArg (fun n : Nat => PV.int (n : Int)) hps) (Ev.call globIs_len rfl (by decide +kernel) (.inl ⟨_, rfl⟩) (fun _ _ => rfl) (.cons (Ev.name rfl (by decide +kernel)) .nil) (lenS_call (by omega)))) g1 g2
        case run2 =>
          rw [← idx_range id false (pathB held)]
          refine CRun.one (CRun.fm (fun i : Nat => PV.int (i : Int)) (fun i : Nat => PV.int (i : Int)) (fun i => id ((pathB held).getD i false)) rfl rfl (fun _ _ => rfl) (fun i hi => ?_) (fun i _ _ => ⟨Ev.name rfl (by decide +kernel), rfl⟩))
          have hi' := List.mem_range.mp hi
          obtain ⟨i1, i2⟩ := item_path hi'
          have i3 := i2 true
          refine .one (Tst.cmp (Ev.sub getT_str rfl (Ev.name rfl (by decide +kernel)) (Ev.name rfl (by decide +kernel)) (Op2.getS (fits_nat (by omega)) i1) (fun _ _ => ⟨_, rfl⟩)) Ev.str (Op2.eq Op2.eqS (congrArg PV.bool (i3.trans ?_))) rfl)
          cases (pathB held).getD i false <;> rfl
        case hsz2 =>
          rw [nL_len, idx_len]
          have := cntF_le id (pathB held)
          omega
        case hsw2 => exact swaps_local rfl rfl rfl (by decide +kernel)
        case rest2 =>
          refine Ex.sub (ρ₂ := h4V low held) (.cons rfl (.cons rfl (.cons rfl (.cons rfl (.cons rfl (.cons rfl (.cons rfl (.cons rfl (.cons rfl .nil))))))))) ?_
          refine Ex.cons (Ex1.for_ (tt := true) (ps := pairUp (nL (orderL held (mxL held + 1) 0)) (nL (idxF id 0 (pathB held)))) (o := .next (h4V low held)) ?_ (const_loop Ex.nil ?_) (fun _ _ => rfl)) ?_
          · exact EvIt.zip rfl (fun _ _ => rfl) (Ev.name rfl (by decide +kernel)) (Ev.name rfl (by decide +kernel)) (nL_frozen _) (nL_frozen _)
          · intro q hq
            obtain ⟨t, j, sp, e1, e2, rfl⟩ := zip_get hq
            have hj : j < held.length := order_lt j (List.mem_of_getElem? e1)
            have hcut : (hts 0 (pathB held))[t]? = some (aheadN held j + behindN held j) := by rw [← hL.cuts, List.getElem?_map, e1]; rfl
            obtain ⟨_, hsp, hchk⟩ := cut_ok (pathB held) 0 0 t sp _ hL.yes e2 hcut
            rw [Nat.sub_zero] at hchk
            rw [Nat.zero_add] at hsp
            have hal := ahead_len held hj
            have hbl := behind_len held j
            have ha10 : aheadN held j ≤ 11 := by rw [← hal]; exact Nat.le_trans (List.length_filter_le _ _) (by rw [List.length_range]; omega)
            have hb10 : behindN held j ≤ 11 := by rw [← hbl]; exact Nat.le_trans (List.length_filter_le _ _) (by rw [List.length_range']; omega)
            refine ⟨_, Asg.pair (.inr rfl) (.inl rfl) rfl rfl, ?_⟩
            intro w A env h₀ F₀ own s
            refine Ex.cons (Ex1.assign (.inl rfl) (fun _ => rfl) (p := .int ((aheadN held j : Nat) : Int)) ?_ rfl) ?_
            · refine Ev.cast (congrArg (fun n : Nat => PV.int (n : Int)) ?_) (Ev.call (ps := [.list (((List.range j).filter fun i => (held.getD i 0).beq (held.getD j 0)).map fun i : Nat => PV.int (i : Int))]) globIs_len rfl (by decide +kernel) (.inl ⟨_, rfl⟩) (fun _ _ => rfl) (.cons ?_ .nil) (lenL_call ?_))
              · rw [List.length_map]; exact hal
              · apply Ev.compF (List.range j) (fun i : Nat => PV.int (i : Int)) (fun i : Nat => PV.int (i : Int)) (fun i => (held.getD i 0).beq (held.getD j 0)) ["lead", "j"] (ρin := [("lead", .val (.list (sL (leadS 2 held)))), ("j", .val (.int (j : Int)))])
                case hsc => exact ⟨rfl, by decide +kernel, by decide +kernel, by decide +kernel, by decide +kernel⟩
                case hfr => decide +kernel
                case hxs =>
                  intro y hy
                  simp only [List.mem_cons, List.not_mem_nil, or_false] at hy
                  rcases hy with rfl | rfl <;> rfl
                case hx => rfl
                case hi =>
                  obtain ⟨g1, g2⟩ := range1_ok j (by omega)
                  rw [← nat_range]
                  intro w A env h₀ F₀ own s
                  exact EvIt.range1 rfl (fun _ _ => rfl) (Ev.name rfl (by decide +kernel)) g1 g2
                case hin => exact .cons rfl rfl rfl (by decide +kernel) (.cons rfl rfl rfl (by decide +kernel) (.nil))
                case hρ => rfl
                case hf => exact fun _ _ => rfl
                case hs => exact fun _ _ => rfl
                case hsz => rw [List.length_range]; omega
                case ht =>
                  intro i hi
                  have hi' : i < held.length := by have := List.mem_range.mp hi; omega
                  exact .one (Tst.cmp (Ev.call (.inl fun w => rfl) rfl (by decide +kernel) (.inr (.inr fun w => rfl)) (fun _ _ => rfl) (.cons (Ev.sub getT_list rfl (Ev.name rfl (by decide +kernel)) (Ev.name rfl (by decide +kernel)) (Op2.getL (i := (i : Int)) (by omega) (by omega) (lead_get hi')) (fun _ _ => ⟨_, rfl⟩)) (.cons (Ev.sub getT_list rfl (Ev.name rfl (by decide +kernel)) (Ev.name rfl (by decide +kernel)) (Op2.getL (i := (j : Int)) (by omega) (by omega) (lead_get hj)) (fun _ _ => ⟨_, rfl⟩)) .nil)) strcoll_call) Ev.int (Op2.eq Op2.eqI (congrArg PV.bool (coll_same _ _))) rfl)
                case hv => exact fun i _ _ => ⟨Ev.name rfl (by decide +kernel), rfl⟩
              · rw [List.length_map, hal]; omega
            refine Ex.cons (Ex1.assign (.inl rfl) (fun _ => rfl) (p := .int ((behindN held j : Nat) : Int)) ?_ rfl) ?_
            · refine Ev.cast (congrArg (fun n : Nat => PV.int (n : Int)) ?_) (Ev.call (ps := [.list (((List.range' (j + 1) (held.length - (j + 1))).filter fun i => (held.getD i 0 + 1).beq (held.getD j 0)).map fun i : Nat => PV.int (i : Int))]) globIs_len rfl (by decide +kernel) (.inl ⟨_, rfl⟩) (fun _ _ => rfl) (.cons ?_ .nil) (lenL_call ?_))
              · rw [List.length_map]; exact hbl
              · apply Ev.compF (List.range' (j + 1) (held.length - (j + 1))) (fun i : Nat => PV.int (i : Int)) (fun i : Nat => PV.int (i : Int)) (fun i => (held.getD i 0 + 1).beq (held.getD j 0)) ["lead", "more", "j"] (ρin := [("lead", .val (.list (sL (leadS 2 held)))), ("more", .val (.list (sL (leadS 3 held)))), ("j", .val (.int (j : Int)))])
                case hsc => exact ⟨rfl, by decide +kernel, by decide +kernel, by decide +kernel, by decide +kernel⟩
                case hfr => decide +kernel
                case hxs =>
                  intro y hy
                  simp only [List.mem_cons, List.not_mem_nil, or_false] at hy
                  rcases hy with rfl | rfl | rfl <;> rfl
                case hx => rfl
                case hi =>
                  obtain ⟨g1, g2⟩ := between_ok (j + 1) (by omega) held.length (by omega) (by omega)
                  rw [← from_range]
                  intro w A env h₀ F₀ own s
                  exact EvIt.range2 rfl (fun _ _ => rfl) (Ev.bin (Ev.name rfl (by decide +kernel)) Ev.int (Op2.eq Op2.addI (congrArg PV.int (show (j : Int) + 1 = ((j + 1 : Nat) : Int) from by push_cast; rfl)))) (Ev.name rfl (by decide +kernel)) g1 g2
                case hin => exact .cons rfl rfl rfl (by decide +kernel) (.cons rfl rfl rfl (by decide +kernel) (.cons rfl rfl rfl (by decide +kernel) (.nil)))
                case hρ => rfl
                case hf => exact fun _ _ => rfl
                case hs => exact fun _ _ => rfl
                case hsz => rw [List.length_range']; omega
                case ht =>
                  intro i hi
                  have hi' : i < held.length := by
                    obtain ⟨a, h1, h2⟩ := List.mem_range'.mp hi
                    omega
                  exact .one (Tst.cmp (Ev.call (.inl fun w => rfl) rfl (by decide +kernel) (.inr (.inr fun w => rfl)) (fun _ _ => rfl) (.cons (Ev.sub getT_list rfl (Ev.name rfl (by decide +kernel)) (Ev.name rfl (by decide +kernel)) (Op2.getL (i := (i : Int)) (by omega) (by omega) (lead_get hi')) (fun _ _ => ⟨_, rfl⟩)) (.cons (Ev.sub getT_list rfl (Ev.name rfl (by decide +kernel)) (Ev.name rfl (by decide +kernel)) (Op2.getL (i := (j : Int)) (by omega) (by omega) (lead_get hj)) (fun _ _ => ⟨_, rfl⟩)) .nil)) strcoll_call) Ev.int (Op2.eq Op2.eqI (congrArg PV.bool (coll_next _ _))) rfl)
                case hv => exact fun i _ _ => ⟨Ev.name rfl (by decide +kernel), rfl⟩
              · rw [List.length_map, hbl]; omega
            refine Ex.post ?_ (Ex.one (Ex1.ifF (TstG.cmpK (p := .bool true) (EvK.call (ps := [.str (pathS ((pathB held).take sp ++ List.replicate (aheadN held j + behindN held j) false))]) (.inl fun w => rfl) rfl (by decide +kernel) (.inr (.inr fun w => rfl)) (fun _ _ => rfl) (.cons ?_ .nil) ?_) Ev.bool (Op2.eq Op2.isNotB (congrArg PV.bool rfl)) rfl) Ex.nil))
            · exact .cons rfl (.cons rfl (.cons rfl (.cons rfl (.cons rfl (.cons rfl (.cons rfl (.cons rfl (.cons rfl .nil))))))))
            · refine Ev.cast (congrArg PV.str (cut_path (pathB held) sp (aheadN held j + behindN held j))) ?_
              intro w A env h₀ F₀ own s
              refine Ev.bin (p := .str (pathS ((pathB held).take sp))) (q := .str (Txt.mul ")" ((aheadN held j + behindN held j : Nat) : Int))) (Ev.cast (congrArg PV.str (upto_path _ _)) (Ev.sliceS (Ev.name rfl (by decide +kernel)) .none (.some (Ev.name rfl (by decide +kernel))) .none (by decide) ?_ ?_ (fun _ _ => ⟨_, rfl⟩))) (Ev.bin Ev.str (Ev.bin (Ev.name rfl (by decide +kernel)) (Ev.name rfl (by decide +kernel)) (Op2.eq Op2.addI (congrArg PV.int (show ((aheadN held j : Nat) : Int) + ((behindN held j : Nat) : Int) = ((aheadN held j + behindN held j : Nat) : Int) from by push_cast; rfl)))) (Op2.mulS (mulOk_run (c := 41) (by decide +kernel) (by omega)))) (Op2.addS ?_)
              · omega
              · rw [upto_path, pathS_len, List.length_take]; omega
              · rw [shuts_mul, pathS_len, pathS_len, List.length_take, List.length_replicate]; omega
            · rw [← hchk]; exact @check_call _ _
          · refine Ex.cons (Ex1.assignCompO (ps := (List.range (mxL held + 1)).map fun j : Nat => PV.int (j : Int)) (out := nL (sizesL held)) (ρin := [("held", .val (.list (nL held)))]) (ρ' := [("held", .val (.list (nL held)))]) (tt := false) rfl ?hsc3 ?hi3 (.cons rfl rfl rfl (by decide +kernel) .nil) ?run3 (fun _ _ => rfl) ?hsz3 ?hat3 ?hsw3) ?rest3
            case hsc3 => exact ⟨rfl, by decide +kernel, by decide +kernel, by decide +kernel, by decide +kernel⟩
            case hi3 =>
              obtain ⟨g1, g2⟩ := range1_ok (mxL held + 1) (by omega)
              rw [← nat_range]
              intro w A env h₀ F₀ own s
              exact EvIt.range1 rfl (fun _ _ => rfl) (Ev.bin (Ev.call globIs_max rfl (by decide +kernel) (.inl ⟨_, rfl⟩) (fun _ _ => rfl) (.cons (Ev.name rfl (by decide +kernel)) .nil) (max_callN hmxm (fun n hn => le_mxL hn))) Ev.int (Op2.eq Op2.addI (congrArg PV.int (show ((mxL held : Nat) : Int) + 1 = ((mxL held + 1 : Nat) : Int) from by push_cast; rfl)))) g1 g2
            case run3 =>
              rw [show nL (sizesL held) = ((List.range (mxL held + 1)).filter fun _ => true).map fun d : Nat => PV.int ((cntF (fun h => h.beq d) held : Nat) : Int) from by rw [filter_true]; simp [nL, sizesL]]
              exact CRun.one (CRun.fm (fun i : Nat => PV.int (i : Int)) (fun d : Nat => PV.int ((cntF (fun h => h.beq d) held : Nat) : Int)) (fun _ => true) rfl rfl (fun _ _ => rfl) (fun _ _ => .nil) fun d hd _ => ⟨Ev.meth meth_countL rfl (fun _ => rfl) (by decide +kernel) (by simp) (fun _ _ => rfl) (Ev.name rfl (by decide +kernel)) (.cons (Ev.name rfl (by decide +kernel)) .nil) countL_call, rfl⟩)
            case hsz3 => rw [nL_len, sizes_len]; omega
            case hat3 =>
              intro p hp
              obtain ⟨n, _, rfl⟩ := List.mem_map.mp hp
              rfl
            case hsw3 => exact swaps_local rfl rfl rfl (by decide +kernel)
            case rest3 =>
              have hrs : nL (sizesL held) = revP (sizesL held).reverse := by unfold revP; rw [List.reverse_reverse]
              have hsl : (sizesL held).reverse.length ≤ 100 := by rw [List.length_reverse, sizes_len]; omega
              rw [hrs]
              intro w A env h₀ F₀ own s
              refine Ex.sub (ρ₂ := trV held (sizesL held).reverse) (.cons rfl (.cons rfl (.cons rfl .nil))) ?_
              refine Ex.cons (ρ' := trV held (trimR (sizesL held).reverse)) (Ex1.while_ (n := (sizesL held).reverse.length) (tr_loop ?_ ?_ (fun ρ => Ex.nil) _ hsl)) ?_
              · intro s hl
                rcases s with _ | ⟨a, _ | ⟨b, r⟩⟩
                · exact Tst.g <| Tst.and_f (Tst.cmp (Ev.call globIs_len rfl (by decide +kernel) (.inl ⟨_, rfl⟩) (fun _ _ => rfl) (.cons (Ev.nameO rfl (by decide +kernel)) .nil) (lenO_call (Nat.zero_le _))) Ev.int (Op2.eq Op2.gtI (congrArg PV.bool (decide_eq_false (by rw [revP_len]; simp)))) rfl)
                · exact Tst.g <| Tst.and_f (Tst.cmp (Ev.call globIs_len rfl (by decide +kernel) (.inl ⟨_, rfl⟩) (fun _ _ => rfl) (.cons (Ev.nameO rfl (by decide +kernel)) .nil) (lenO_call (by rw [revP_len]; simp))) Ev.int (Op2.eq Op2.gtI (congrArg PV.bool (decide_eq_false (by rw [revP_len]; simp)))) rfl)
                · show TstG _ _ _ _ _ (a.beq b)
                  rw [List.length_cons, List.length_cons] at hl
                  rw [← int_beq]
                  have r1 : (revP (a :: b :: r))[((-1 : Int) + ((revP (a :: b :: r)).length : Nat)).toNat]? = some (.int (a : Int)) := rev_get (a :: b :: r) 0 a rfl
                  have r2 : (revP (a :: b :: r))[((-2 : Int) + ((revP (a :: b :: r)).length : Nat)).toNat]? = some (.int (b : Int)) := rev_get (a :: b :: r) 1 b rfl
                  intro w A env h₀ F₀ own s
                  refine Tst.g <| Tst.and_t ?_ (Tst.and_last ?_)
                  · refine Tst.cmp (Ev.call globIs_len rfl (by decide +kernel) (.inl ⟨_, rfl⟩) (fun _ _ => rfl) (.cons (Ev.nameO rfl (by decide +kernel)) .nil) (lenO_call ?_)) Ev.int (Op2.eq Op2.gtI (congrArg PV.bool (decide_eq_true ?_))) rfl
                    · rw [revP_len, List.length_cons, List.length_cons]; omega
                    · rw [revP_len, List.length_cons, List.length_cons]; omega
                  · refine Tst.cmp (p := .int (a : Int)) (q := .int (b : Int)) ?_ ?_ (Op2.eq Op2.eqI rfl) rfl
                    · refine Ev.sub getT_list rfl (Ev.nameO rfl (by decide +kernel)) (Ev.unary Ev.int Op1.negI) (Op2.getOn (i := -1) (by decide) ?_ (by decide) r1) (fun _ _ => ⟨_, rfl⟩)
                      rw [revP_len, List.length_cons, List.length_cons]; omega
                    · refine Ev.sub getT_list rfl (Ev.nameO rfl (by decide +kernel)) (Ev.unary Ev.int Op1.negI) (Op2.getOn (i := -2) (by decide) ?_ (by decide) r2) (fun _ _ => ⟨_, rfl⟩)
                      rw [revP_len, List.length_cons, List.length_cons]; omega
              · intro a r hl
                refine Ex.post ?_ (Ex.one (Ex1.pop (l := revP r) (p := .int (a : Int)) ?_ rfl (by decide +kernel) (fun _ => rfl) (by decide +kernel) ?_))
                · exact .cons rfl (.cons rfl (.cons rfl .nil))
                · show some (VE.own (revP (a :: r))) = _
                  rw [revP_cons]
                · rw [List.length_append, revP_len]
                  simp; omega
              · have htl := Nat.le_trans (trim_len (s := (sizesL held).reverse)) hsl
                have htg : ∀ x ∈ trimR (sizesL held).reverse, GoodN x := fun x hx => sizes_good hO.zero hlen x (List.mem_reverse.mp (trim_mem hx))
                have htn : trimR (sizesL held).reverse ≠ [] := trim_ne (by
                  intro e
                  have := congrArg List.length e
                  rw [List.length_reverse, sizes_len] at this
                  simp at this)
                have htl2 : (trimR (sizesL held).reverse).length ≤ 11 := Nat.le_trans trim_len (by rw [List.length_reverse, sizes_len]; omega)
                obtain ⟨mk, hst, hmk⟩ := hL.marks
                generalize trimR (sizesL held).reverse = tr at *
                intro w A env h₀ F₀ own s
                refine Ex.freeze (x := "sizes") rfl ?_
                refine Ex.cons (Ex1.assignOwn (.inl rfl) (fun _ _ => rfl) .nil rfl (Nat.zero_le _)) ?_
                refine Ex.sub (ρ₂ := mkV held tr []) (.cons rfl (.cons rfl (.cons rfl (.cons rfl .nil)))) ?_
                refine Ex.cons (ρ' := mkV held tr mk) (Ex1.forGen (gsc := ⟨_, _, _, _, _⟩) (x := "grouping") (p := .list (nL (tr.reverse ++ [0]))) (gp := fun a => .lat a (nL (tr.reverse ++ [0]))) (fin := false) (tt := false) (all := nL (tr.reverse ++ List.replicate 12 (tr.reverse.getLastD 0))) (.inl fun w => rfl) rfl (by decide +kernel) (.inr (.inr fun w => rfl)) (fun _ _ => rfl) ?he4 (fun _ => nL_frozen _) ?hgp4 (fun w => ⟨_, rfl, rfl⟩) rfl rfl rfl rfl rfl rfl rfl rfl (fun w => rfl) (fun v => rfl) rfl (by decide +kernel) ?hok4 ?hl4 (fun _ _ => rfl) ?htt4) ?rest4
                case he4 =>
                  refine Ev.cast (congrArg PV.list (show revP tr ++ [PV.int 0] = nL (tr.reverse ++ [0]) from by unfold revP; rw [nL_app]; rfl)) (Ev.bin (p := .list (revP tr)) (q := .list [.int 0]) (Ev.name rfl (by decide +kernel)) (Ev.list (.const .nil) (.cons Ev.int .nil) (by decide)) (Op2.addL ?_))
                  rw [revP_len]
                  have : sizeLine = 2 ^ 24 := rfl
                  simp; omega
                case hgp4 =>
                  intro w h F v r
                  obtain ⟨a, vs, n, e1, e2, e3, e4⟩ := r
                  exact .inr ⟨a, e2, ⟨_, e3⟩, e1, e2, vs, n, e3, e4⟩
                case hok4 =>
                  refine sizes_gen (by simpa using htn) (fun x hx => htg x (List.mem_reverse.mp hx)) (fun h => EvG.latN h (by decide +kernel)) (fun _ _ => rfl) (fun G => GS1.assign G rfl (fun _ _ => rfl) Ev.none rfl) (fun p ρ h => AsgL.name rfl h) ?_ ?_
                  · intro w A env h₀ hs ax gl all G s ρ hgd ha
                    exact GS.cons (GS1.ifB G (Tst.cmp (Ev.name rfl (by decide +kernel)) (Ev.glob (v := .int 127 _) (p := .int 127) (.inl fun w => rfl) rfl (by decide +kernel) (fun _ _ _ => ⟨_, rfl⟩)) (Op2.eq Op2.eqI (congrArg PV.bool (int_ne s 127 (by have := hgd.2; omega)))) rfl) (fun e => by cases e) (fun _ => GS.nil)) (GS.cons (GS1.ifB G (Tst.cmp (Ev.name rfl (by decide +kernel)) Ev.int (Op2.eq Op2.eqI (congrArg PV.bool (int_ne s 0 (by have := hgd.1; omega)))) rfl) (fun e => by cases e) (fun _ => GS.nil)) (GS.cons (GS1.yield (.inl rfl) G (.cons rfl ha) (YV.atom (p := .int (s : Int)) (Ev.name rfl (by decide +kernel)) rfl)) (GS.one (GS1.assign G rfl (fun _ _ => rfl) (Ev.name rfl (by decide +kernel)) rfl))))
                  · intro w A env h₀ hs ax gl all G l0 ρ ha hl
                    refine GS.cons (GS1.ifB G (Tst.cmp (Ev.name rfl (by decide +kernel)) (Ev.glob (v := .int 127 _) (p := .int 127) (.inl fun w => rfl) rfl (by decide +kernel) (fun _ _ _ => ⟨_, rfl⟩)) (Op2.eq Op2.eqI (congrArg PV.bool (int_ne 0 127 (by decide)))) rfl) (fun e => by cases e) (fun _ => GS.nil)) (GS.stop (o := Option.none) ?_ (fun f ρ' e => by cases e))
                    refine GS1.ifB (cb := true) G (Tst.cmp (Ev.name rfl (by decide +kernel)) Ev.int (Op2.eq Op2.eqI (congrArg PV.bool (show (((0 : Nat) : Int) == 0) = true from rfl))) rfl) (fun _ => ?_) (fun e => by cases e)
                    refine GS.cons (ρ₁ := ("interval", .val (.int ((0 : Nat) : Int))) :: ρ) (GS1.ifB (cb := false) G (Tst.cmp (p := .int (l0 : Int)) (Ev.name (show List.lookup ("last_interval" : Str) (("interval", VE.val (PV.int ((0 : Nat) : Int))) :: ρ) = some (VE.val (PV.int (l0 : Int))) from hl) (by decide +kernel)) Ev.none Op2.isIN rfl) (fun e => by cases e) (fun _ => GS.nil)) (GS.stop (o := Option.none) ?_ (fun f ρ' e => by cases e))
                    exact GS1.forever G (.cons rfl ha) (YV.atom (p := .int (l0 : Int)) (Ev.name (show List.lookup ("last_interval" : Str) (("interval", VE.val (PV.int ((0 : Nat) : Int))) :: ρ) = some (VE.val (PV.int (l0 : Int))) from hl) (by decide +kernel)) rfl) rfl
                case hl4 =>
                  refine mk_loop (V := mkV held tr) (many := held.length) (fun p ρ h => Asg.name (.inl rfl) h) ?_ ?_ (tr.reverse ++ List.replicate 12 (tr.reverse.getLastD 0)) [] mk (Nat.zero_le _) (by rw [last_head]; exact hmk) (by simp; omega)
                  · intro ms s hms hlm hbl
                    have hsum2 : (ms.drop (ms.length - 1)).sum < 2 ^ 63 := by
                      have : lastN ms ≤ held.length := hlm
                      unfold lastN at this
                      omega
                    have hble : decide ((held.length : Int) ≤ ((lastN ms + s : Nat) : Int)) = false := by
                      rw [← hbl]
                      apply Bool.eq_iff_iff.mpr
                      rw [decide_eq_true_iff, Nat.ble_eq]; omega
                    have hsz2 : (nL ms).length ≤ sizeLine := by
                      rw [nL_len]
                      exact Nat.le_trans hms (by decide)
                    intro w A env h₀ F₀ own s'
                    refine Ex.cons (Ex1.append (p := .int ((lastN ms + s : Nat) : Int)) rfl (by decide +kernel) (fun _ => rfl) (by decide +kernel) (fun _ _ => rfl) (Ev.bin (Ev.call (ps := [.list (nL (ms.drop (ms.length - 1)))]) globIs_sum rfl (by decide +kernel) (.inl ⟨_, rfl⟩) (fun _ _ => rfl) (.cons (Ev.cast (congrArg PV.list (show slP (nL ms) (some (-1)) Option.none Option.none = nL (ms.drop (ms.length - 1)) from by rw [slP_last, nL_drop, nL_len])) (Ev.sliceL (fun h => RVl.of_olist h) (Ev.nameO rfl (by decide +kernel)) (.some (Ev.unary Ev.int Op1.negI)) .none .none (by decide) hsz2 (fun _ _ => ⟨_, rfl⟩))) .nil) (sum_callN hsum2)) (Ev.name rfl (by decide +kernel)) (Op2.eq Op2.addI (congrArg PV.int (show (((ms.drop (ms.length - 1)).sum : Nat) : Int) + (s : Int) = ((lastN ms + s : Nat) : Int) from by unfold lastN; push_cast; rfl)))) rfl hsz2) ?_
                    refine Ex.post ?_ (Ex.one (Ex1.ifF (Tst.g <| Tst.cmp (Ev.sub getT_list rfl (Ev.nameO rfl (by decide +kernel)) (Ev.unary Ev.int Op1.negI) (Op2.getOn (i := -1) (by decide) (by rw [List.length_append, List.length_singleton]; omega) (by decide) (last_snoc _ _)) (fun _ _ => ⟨_, rfl⟩)) (Ev.name rfl (by decide +kernel)) (Op2.eq Op2.geI (congrArg PV.bool hble)) rfl) Ex.nil))
                    refine .cons ?_ (.cons rfl (.cons rfl (.cons rfl .nil)))
                    rw [nL_app]; rfl
                  · intro ms s hms hlm hbl
                    have hsum2 : (ms.drop (ms.length - 1)).sum < 2 ^ 63 := by
                      have : lastN ms ≤ held.length := hlm
                      unfold lastN at this
                      omega
                    have hble : decide ((held.length : Int) ≤ ((lastN ms + s : Nat) : Int)) = true := by
                      rw [← hbl]
                      apply Bool.eq_iff_iff.mpr
                      rw [decide_eq_true_iff, Nat.ble_eq]; omega
                    have hsz2 : (nL ms).length ≤ sizeLine := by
                      rw [nL_len]
                      exact Nat.le_trans hms (by decide)
                    intro w A env h₀ F₀ own s'
                    refine Ex.cons (Ex1.append (p := .int ((lastN ms + s : Nat) : Int)) rfl (by decide +kernel) (fun _ => rfl) (by decide +kernel) (fun _ _ => rfl) (Ev.bin (Ev.call (ps := [.list (nL (ms.drop (ms.length - 1)))]) globIs_sum rfl (by decide +kernel) (.inl ⟨_, rfl⟩) (fun _ _ => rfl) (.cons (Ev.cast (congrArg PV.list (show slP (nL ms) (some (-1)) Option.none Option.none = nL (ms.drop (ms.length - 1)) from by rw [slP_last, nL_drop, nL_len])) (Ev.sliceL (fun h => RVl.of_olist h) (Ev.nameO rfl (by decide +kernel)) (.some (Ev.unary Ev.int Op1.negI)) .none .none (by decide) hsz2 (fun _ _ => ⟨_, rfl⟩))) .nil) (sum_callN hsum2)) (Ev.name rfl (by decide +kernel)) (Op2.eq Op2.addI (congrArg PV.int (show (((ms.drop (ms.length - 1)).sum : Nat) : Int) + (s : Int) = ((lastN ms + s : Nat) : Int) from by unfold lastN; push_cast; rfl)))) rfl hsz2) ?_
                    refine Ex.brk (Ex1.ifT (Tst.g <| Tst.cmp (Ev.sub getT_list rfl (Ev.nameO rfl (by decide +kernel)) (Ev.unary Ev.int Op1.negI) (Op2.getOn (i := -1) (by decide) (by rw [List.length_append, List.length_singleton]; omega) (by decide) (last_snoc _ _)) (fun _ _ => ⟨_, rfl⟩)) (Ev.name rfl (by decide +kernel)) (Op2.eq Op2.geI (congrArg PV.bool hble)) rfl) (Ex.postB ?_ (Ex.brk Ex1.break_)))
                    refine .cons ?_ (.cons rfl (.cons rfl (.cons rfl .nil)))
                    rw [nL_app]; rfl
                case htt4 =>
                  intro w A a g v s Q E' hg hq
                  exact notOwned_name hq
                case rest4 =>
                  refine Ex.cons (Ex1.assignComp (ps := (List.range (pathB held).length).map fun j : Nat => PV.int (j : Int)) (out := nL (idxF (fun b => !b) 0 (pathB held))) (ρin := [("path", .val (.str (pathS (pathB held))))]) (ρ' := [("path", .val (.str (pathS (pathB held))))]) (tt := false) rfl ?hsc5 ?hi5 (.cons rfl rfl rfl (by decide +kernel) .nil) ?run5 (fun _ _ => rfl) ?hsz5 ?hsw5) ?rest5
                  case hsc5 => exact ⟨rfl, by decide +kernel, by decide +kernel, by decide +kernel, by decide +kernel⟩
                  case hi5 =>
                    obtain ⟨g1, g2⟩ := range1_ok (pathB held).length hpl
                    rw [← nat_range]
                    intro w A env h₀ F₀ own s
                    exact EvIt.range1 rfl (fun _ _ => rfl) (Ev.cast (congrArg (fun n : Nat => PV.int (n : Int)) hps) (Ev.call globIs_len rfl (by decide +kernel) (.inl ⟨_, rfl⟩) (fun _ _ => rfl) (.cons (Ev.name rfl (by decide +kernel)) .nil) (lenS_call (by omega)))) g1 g2
                  case run5 =>
                    rw [← idx_range (fun b => !b) false (pathB held)]
                    refine CRun.one (CRun.fm (fun i : Nat => PV.int (i : Int)) (fun i : Nat => PV.int (i : Int)) (fun i => !((pathB held).getD i false)) rfl rfl (fun _ _ => rfl) (fun i hi => ?_) (fun i _ _ => ⟨Ev.name rfl (by decide +kernel), rfl⟩))
                    have hi' := List.mem_range.mp hi
                    obtain ⟨i1, i2⟩ := item_path hi'
                    have i3 := i2 false
                    refine .one (Tst.cmp (Ev.sub getT_str rfl (Ev.name rfl (by decide +kernel)) (Ev.name rfl (by decide +kernel)) (Op2.getS (fits_nat (by omega)) i1) (fun _ _ => ⟨_, rfl⟩)) Ev.str (Op2.eq Op2.eqS (congrArg PV.bool (i3.trans ?_))) rfl)
                    cases (pathB held).getD i false <;> rfl
                  case hsz5 =>
                    rw [nL_len, idx_len]
                    have := cntF_le (fun b => !b) (pathB held)
                    omega
                  case hsw5 => exact swaps_local rfl rfl rfl (by decide +kernel)
                  case rest5 =>
                    refine Ex.cons (Ex1.assignOwn (.inl rfl) (fun _ _ => rfl) .nil rfl (Nat.zero_le _)) ?_
                    refine Ex.cons (Ex1.assign (.inl rfl) (fun _ => rfl) (p := .int 0) Ev.int rfl) ?_
                    refine Ex.sub (ρ₂ := stV held mk 0 []) (.cons rfl (.cons rfl (.cons rfl (.cons rfl (.cons rfl (.cons rfl .nil)))))) ?_
                    refine Ex.cons (ρ' := stV held mk (finP 0 mk) ([] ++ mk)) (Ex1.while_ (n := 12) (st_loop (V := stV held mk) (p := pathB held) (shut := idxF (fun b => !b) 0 (pathB held)) (many := held.length) ?_ ?_ (fun ρ => Ex.nil) 12 0 [] mk hst (by decide))) ?_
                    · intro place st
                      refine Tst.g <| Tst.cmp (Ev.name rfl (by decide +kernel)) (Ev.name rfl (by decide +kernel)) (Op2.eq Op2.ltI (congrArg PV.bool ?_)) rfl
                      apply Bool.eq_iff_iff.mpr
                      rw [decide_eq_true_iff, Bool.not_eq_true', Bool.eq_false_iff, Ne, Nat.ble_eq]; omega
                    · intro place st e he hst2
                      have hpe := upto_path (pathB held) e
                      have hpe2 : (pathS ((pathB held).take e)).length ≤ sizeLine := by
                        rw [pathS_len, List.length_take]; omega
                      have hpz : (pathS (pathB held)).length ≤ sizeLine := by omega
                      have hplc : place < 1000 := by
                        have h1 := (List.getElem?_eq_some_iff.mp he).1
                        rw [idx_len] at h1
                        have := cntF_le (fun b => !b) (pathB held)
                        omega
                      intro w A env h₀ F₀ own s
                      refine Ex.cons (Ex1.assign (.inl rfl) (fun _ => rfl) (p := .int ((cntF id ((pathB held).take e) : Nat) : Int)) ?_ rfl) ?_
                      · refine Ev.meth (p := .str (pathS ((pathB held).take e))) (ps := [.str "("]) meth_countS rfl ?_ ?_ ?_ ?_ ?_ (.cons Ev.str .nil) countS_call
                        · exact fun _ => rfl
                        · decide +kernel
                        · simp
                        · exact .const .nil
                        · refine Ev.cast (congrArg PV.str hpe) ?_
                          exact Ev.sliceS (Ev.name rfl (by decide +kernel)) .none (.some (Ev.sub getT_list rfl (Ev.name rfl (by decide +kernel)) (Ev.name rfl (by decide +kernel)) (Op2.getL (i := (place : Int)) (by omega) (by omega) (nL_get he)) (fun _ _ => ⟨_, rfl⟩))) .none (by decide) hpz (by rw [hpe]; exact hpe2) (fun _ _ => ⟨_, rfl⟩)
                      · refine Ex.post ?_ (Ex.one (Ex1.append (p := .int ((cntF id ((pathB held).take e) : Nat) : Int)) rfl (by decide +kernel) (fun _ => rfl) (by decide +kernel) (fun _ _ => rfl) (Ev.name rfl (by decide +kernel)) rfl (by rw [nL_len]; omega)))
                        refine .cons rfl (.cons ?_ (.cons rfl (.cons rfl (.cons rfl (.cons rfl .nil)))))
                        rw [nL_app]; rfl
                    · refine Ex.freeze (x := "stops") rfl (Ex.freeze (x := "marks") rfl ?_)
                      exact Ex.ret (Ex1.retE (Ev.cmp (Ev.name rfl (by decide +kernel)) (Ev.name rfl (by decide +kernel)) (eqL_same (List.nil_append mk)) rfl) rfl)
end Mine

namespace Mine
open PySem PySem.W PyProof.Rows

theorem post_ok (ns : List Int) : PySem.Challenge.rw_tc0002_01.row.claim.post [ofPy (PyData.list (List.map PyData.int ns))] (WData.bool true) [ofPy (PyData.list (List.map PyData.int ns))] = true := by
  kernel_rfl
theorem room_top : Room 6 callerA := ⟨rfl, by decide +kernel, by decide +kernel⟩
theorem intsAre_list {w : World} {h : Heap} {ns : List Int} {la : Addr} {vs : List Value} (hL : h.IsList la vs.toArray) (hI : IntsAre vs ns) (W : Well w.params h (.ref la) (ofPy (PyData.list (ns.map PyData.int)))) : RVs w h [] [.list (iL ns)] [.ref la] := by
  refine RVs.one ⟨la, vs, 0, rfl, (fun h => nomatch h), ?_, RVs.of_ints hI⟩
  obtain ⟨o, ho, _, n, hd⟩ := hL
  have e : ∃ xs, ofPy (PyData.list (ns.map PyData.int)) = WData.list xs := ⟨_, rfl⟩
  obtain ⟨xs, e⟩ := e
  rw [e] at W
  cases W with
  | list h1 _ =>
    rw [ho] at h1
    have h2 := Option.some.inj h1
    rw [h2] at hd
    injection hd with h3 h4
    rw [ho, h2, h3]
set_option maxHeartbeats 4000000
theorem fin : PySem.Challenge.rw_tc0002_01.Holds := hd (by
  k_fill
  intro w s₀ s₁ mg mb G Y fa o pm cd doc dV kV ho hd hcd hD hmg hg args vals as hpre hlay hrd hwl hlo
  have KX := kIn_of Y
  refine Ground.open G ?_
  intro T B D TE TW
  have hfa : mg "law" = some (.ref 125) := mg_of KX T.g rfl
  have hfe : (Value.ref fa) = Value.ref 125 := Option.some.inj (hmg.symm.trans hfa)
  have hfe2 : fa = 125 := Value.ref.inj hfe
  subst hfe2
  clear ho hd hcd hD hmg B D TE TW Y
  wrow_args hpre hlay hrd hwl hlo
  refine enter_call ?_
  rename_i ns _ _ _ _ _ _ _ la vs _ hIL _ hW _ hIA _ hlen _
  have Bs : Base w s₁.heap := ⟨KX, _, _, _, T⟩
  have hlen' : ns.length ≤ 100 := by omega
  refine codeAny_mono (law_call (k := 0) (F := []) room_top Bs (fun _ h => nomatch h) (intsAre_list hIL hIA hW) hlen') ?_
  rintro r s' ⟨v, rfl, gk, up, rv⟩
  have rv' : v = .bool true := rv
  subst rv'
  obtain ⟨h', tk, gs, rfl, _, hbare⟩ := gk
  refine ⟨.inl ⟨_, .bool true, [], rfl, ?_, .bool true, ?_, fun _ => ⟨List.nodup_nil, fun a h => nomatch h⟩⟩, OldK.of_keep up, rfl, hbare (.of_eq hg)⟩
  · intro cls
    rfl
  · exact post_ok ns)
end Mine

theorem PySem.Challenge.cw_tc0002_01_holds : PySem.Challenge.rw_tc0002_01.Holds :=
  Mine.fin
