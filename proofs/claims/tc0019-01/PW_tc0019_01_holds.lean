import PyProof.Rows.All
import Wide.All
import OpenK.AllK
import Wide.FinOn
import PySem.Challenge.RW_tc0019_01

set_option Elab.async false
set_option linter.all false
set_option maxRecDepth 100000

namespace Mine
open PySem

inductive D where
  | none
  | bool (b : Bool)
  | int (i : Int)
  | str (x : Str)
  | fn (v : Value)
  | tup (ds : List D)
  | lst (ds : List D)
  | idict (kvs : List (Int × D))
  | sdict (kvs : List (Str × D))

structure Lv (n : Nat) (A : Around) : Prop where
  hh : A.handled = none
  hu : A.units + 3 * n ≤ 100
  hd : A.depth + n ≤ 400

theorem Lv.mono {n m : Nat} {A : Around} (h : Lv n A) (hm : m ≤ n) : Lv m A := ⟨h.hh, by have := h.hu; omega, by have := h.hd; omega⟩
theorem Lv.deeper {n : Nat} {A : Around} (h : Lv (n + 1) A) (env : Env) : Lv n (A.deeper env) :=
  ⟨h.hh, by have := h.hu; simp only [Around.deeper_units]; omega, by have := h.hd; show A.depth + 1 + n ≤ 400; omega⟩
theorem Lv.room {n : Nat} {A : Around} (h : Lv n A) : A.depth < recursionLimit := by have := h.hd; unfold recursionLimit; omega
theorem Lv.units {n : Nat} {A : Around} (h : Lv n A) : A.units + 64 < cLine := by have := h.hu; unfold cLine; omega

section
variable (prog : Program) (w : World)

mutual
inductive Rd (Z : List Addr) (h : Heap) : Value → D → Prop
  | none : Rd Z h .none .none
  | bool (b : Bool) : Rd Z h (.bool b) (.bool b)
  | int (i : Int) (t : Tok) : Rd Z h (.int i t) (.int i)
  | str (x : Str) (t : Tok) : Rd Z h (.str x t) (.str x)
  | fn (v : Value) : Rd Z h v (.fn v)
  | tup {a : Addr} {vs : Array Value} {ds : List D} : a ∉ Z → h.IsTuple a vs → RdAll Z h vs.toList ds → Rd Z h (.ref a) (.tup ds)
  | lst {a : Addr} {vs : Array Value} {ds : List D} : a ∉ Z → h.PlainList a vs → RdAll Z h vs.toList ds → Rd Z h (.ref a) (.lst ds)
  | idict {a : Addr} {kvs : List (Int × Value)} {kds : List (Int × D)} : a ∉ Z ∧ (a == sysModules) = false → h.DictOf (intKind prog w) a kvs → kvs.map (·.1) = kds.map (·.1) →
      RdAll Z h (kvs.map (·.2)) (kds.map (·.2)) → Rd Z h (.ref a) (.idict kds)
  | sdict {a : Addr} {kvs : List (Str × Value)} {kds : List (Str × D)} : a ∉ Z ∧ (a == sysModules) = false → h.DictOf (strKind prog w) a kvs → kvs.map (·.1) = kds.map (·.1) →
      RdAll Z h (kvs.map (·.2)) (kds.map (·.2)) → Rd Z h (.ref a) (.sdict kds)
inductive RdAll (Z : List Addr) (h : Heap) : List Value → List D → Prop
  | nil : RdAll Z h [] []
  | cons {v : Value} {d : D} {vs : List Value} {ds : List D} : Rd Z h v d → RdAll Z h vs ds → RdAll Z h (v :: vs) (d :: ds)
end

/-- a value that may be met in place: its own top may be a protected list or dict, its items are free data -/
inductive RdB (Z : List Addr) (h : Heap) : Value → D → Prop
  | free {v : Value} {d : D} : Rd prog w Z h v d → RdB Z h v d
  | lst {a : Addr} {vs : Array Value} {ds : List D} : h.PlainList a vs → RdAll prog w Z h vs.toList ds → RdB Z h (.ref a) (.lst ds)
  | idict {a : Addr} {kvs : List (Int × Value)} {kds : List (Int × D)} : (a == sysModules) = false → h.DictOf (intKind prog w) a kvs → kvs.map (·.1) = kds.map (·.1) →
      RdAll prog w Z h (kvs.map (·.2)) (kds.map (·.2)) → RdB Z h (.ref a) (.idict kds)
  | sdict {a : Addr} {kvs : List (Str × Value)} {kds : List (Str × D)} : (a == sysModules) = false → h.DictOf (strKind prog w) a kvs → kvs.map (·.1) = kds.map (·.1) →
      RdAll prog w Z h (kvs.map (·.2)) (kds.map (·.2)) → RdB Z h (.ref a) (.sdict kds)
end

section
variable {prog : Program} {w : World} {Z Z' : List Addr} {h h' : Heap}

theorem dictOf_at {K : Type} [DecidableEq K] {knd : KeyKind prog w K} {a : Addr} {kvs : List (K × Value)} (x : h.DictOf knd a kvs) (e : ∀ o, h.get? a = some o → h'.get? a = some o) : h'.DictOf knd a kvs :=
  let ⟨o, es, ep, ho, r⟩ := x; ⟨o, es, ep, e _ ho, r⟩
theorem isList_at {a : Addr} {vs : Array Value} (x : h.IsList a vs) (e : ∀ o, h.get? a = some o → h'.get? a = some o) : h'.IsList a vs := let ⟨o, ho, r⟩ := x; ⟨o, e _ ho, r⟩

mutual
theorem Rd.move (k : ∀ b o, b ∉ Z → h.get? b = some o → h'.get? b = some o ∧ b ∉ Z') : ∀ {v : Value} {d : D}, Rd prog w Z h v d → Rd prog w Z' h' v d
  | _, _, .none => .none
  | _, _, .bool b => .bool b
  | _, _, .int i t => .int i t
  | _, _, .str x t => .str x t
  | _, _, .fn v => .fn v
  | _, _, .tup (a := a) ha ht r => .tup (let ⟨o, ho, _⟩ := ht; (k a o ha ho).2) (ht.at fun o e => (k a o ha e).1) (RdAll.move k r)
  | _, _, .lst (a := a) ha ht r => .lst (let ⟨_, ho⟩ := ht; (k a _ ha ho).2) (ht.at fun o e => (k a o ha e).1) (RdAll.move k r)
  | _, _, .idict (a := a) ha ht e r => .idict ⟨let ⟨o, _, _, ho, _⟩ := ht; (k a o ha.1 ho).2, ha.2⟩ (dictOf_at ht fun o e => (k a o ha.1 e).1) e (RdAll.move k r)
  | _, _, .sdict (a := a) ha ht e r => .sdict ⟨let ⟨o, _, _, ho, _⟩ := ht; (k a o ha.1 ho).2, ha.2⟩ (dictOf_at ht fun o e => (k a o ha.1 e).1) e (RdAll.move k r)
theorem RdAll.move (k : ∀ b o, b ∉ Z → h.get? b = some o → h'.get? b = some o ∧ b ∉ Z') : ∀ {vs : List Value} {ds : List D}, RdAll prog w Z h vs ds → RdAll prog w Z' h' vs ds
  | _, _, .nil => .nil
  | _, _, .cons x r => .cons (Rd.move k x) (RdAll.move k r)
end

theorem Rd.keep (k : ∀ b o, h.get? b = some o → h'.get? b = some o) {v : Value} {d : D} (x : Rd prog w Z h v d) : Rd prog w Z h' v d := x.move fun b o hb e => ⟨k b o e, hb⟩
theorem RdAll.keep (k : ∀ b o, h.get? b = some o → h'.get? b = some o) {v : List Value} {d : List D} (x : RdAll prog w Z h v d) : RdAll prog w Z h' v d := x.move fun b o hb e => ⟨k b o e, hb⟩
theorem Rd.less (hz : ∀ a ∈ Z', a ∈ Z) {v : Value} {d : D} (x : Rd prog w Z h v d) : Rd prog w Z' h v d := x.move fun b _ hb e => ⟨e, fun hm => hb (hz b hm)⟩
theorem RdAll.less (hz : ∀ a ∈ Z', a ∈ Z) {v : List Value} {d : List D} (x : RdAll prog w Z h v d) : RdAll prog w Z' h v d := x.move fun b _ hb e => ⟨e, fun hm => hb (hz b hm)⟩
theorem RdB.less (hz : ∀ a ∈ Z', a ∈ Z) {v : Value} {d : D} (x : RdB prog w Z h v d) : RdB prog w Z' h v d := by
  cases x with
  | free x => exact .free (x.less hz)
  | lst l r => exact .lst l (r.less hz)
  | idict q l e r => exact .idict q l e (r.less hz)
  | sdict q l e r => exact .sdict q l e (r.less hz)
theorem RdB.keep (k : ∀ b o, h.get? b = some o → h'.get? b = some o) {v : Value} {d : D} (x : RdB prog w Z h v d) : RdB prog w Z h' v d := by
  cases x with
  | free x => exact .free (x.keep k)
  | lst l r => exact .lst (l.at fun o e => k _ _ e) (r.keep k)
  | idict q l e r => exact .idict q (dictOf_at l fun o e => k _ _ e) e (r.keep k)
  | sdict q l e r => exact .sdict q (dictOf_at l fun o e => k _ _ e) e (r.keep k)

/-- new protected places that were not there before: what was read stays read -/
theorem Rd.more {S : List Addr} (hs : ∀ a ∈ S, h.get? a = Option.none) {v : Value} {d : D} (x : Rd prog w Z h v d) : Rd prog w (S ++ Z) h v d :=
  x.move fun b o hb e => ⟨e, fun hm => by
    rcases List.mem_append.mp hm with q | q
    · rw [hs b q] at e; cases e
    · exact hb q⟩
theorem RdAll.more {S : List Addr} (hs : ∀ a ∈ S, h.get? a = Option.none) {v : List Value} {d : List D} (x : RdAll prog w Z h v d) : RdAll prog w (S ++ Z) h v d :=
  x.move fun b o hb e => ⟨e, fun hm => by
    rcases List.mem_append.mp hm with q | q
    · rw [hs b q] at e; cases e
    · exact hb q⟩

theorem RdAll.length {vs : List Value} {ds : List D} (x : RdAll prog w Z h vs ds) : vs.length = ds.length := by
  induction vs generalizing ds with
  | nil => cases x; rfl
  | cons v vs ih => cases x with | cons a b => simp [ih b]
theorem RdAll.append {vs us : List Value} {ds es : List D} (x : RdAll prog w Z h vs ds) (y : RdAll prog w Z h us es) : RdAll prog w Z h (vs ++ us) (ds ++ es) := by
  induction vs generalizing ds with
  | nil => cases x; exact y
  | cons v vs ih => cases x with | cons a b => exact .cons a (ih b)
theorem RdAll.get {vs : List Value} {ds : List D} (x : RdAll prog w Z h vs ds) {i : Nat} {d : D} (e : ds[i]? = some d) : ∃ v, vs[i]? = some v ∧ Rd prog w Z h v d := by
  induction vs generalizing ds i with
  | nil => cases x; simp at e
  | cons v vs ih =>
    cases x with
    | cons a b =>
      cases i with
      | zero => simp at e; subst e; exact ⟨v, rfl, a⟩
      | succ i => simp at e; obtain ⟨u, h1, h2⟩ := ih b e; exact ⟨u, by simpa using h1, h2⟩
theorem RdAll.getV {vs : List Value} {ds : List D} (x : RdAll prog w Z h vs ds) {i : Nat} {v : Value} (e : vs[i]? = some v) : ∃ d, ds[i]? = some d ∧ Rd prog w Z h v d := by
  induction vs generalizing ds i with
  | nil => simp at e
  | cons u vs ih =>
    cases x with
    | cons a b =>
      cases i with
      | zero => simp at e; subst e; exact ⟨_, rfl, a⟩
      | succ i => simp at e; obtain ⟨d, h1, h2⟩ := ih b e; exact ⟨d, by simpa using h1, h2⟩
theorem RdAll.take {vs : List Value} {ds : List D} (x : RdAll prog w Z h vs ds) (n : Nat) : RdAll prog w Z h (vs.take n) (ds.take n) := by
  induction vs generalizing ds n with
  | nil => cases x; simpa using RdAll.nil
  | cons v vs ih => cases x with | cons a b => cases n with
    | zero => simpa using RdAll.nil
    | succ n => exact .cons a (ih b n)
theorem RdAll.drop {vs : List Value} {ds : List D} (x : RdAll prog w Z h vs ds) (n : Nat) : RdAll prog w Z h (vs.drop n) (ds.drop n) := by
  induction vs generalizing ds n with
  | nil => cases x; simpa using RdAll.nil
  | cons v vs ih => cases x with | cons a b => cases n with
    | zero => exact .cons a b
    | succ n => exact ih b n
theorem RdAll.set {vs : List Value} {ds : List D} (x : RdAll prog w Z h vs ds) {v : Value} {d : D} (y : Rd prog w Z h v d) (i : Nat) : RdAll prog w Z h (vs.set i v) (ds.set i d) := by
  induction vs generalizing ds i with
  | nil => cases x; simpa using RdAll.nil
  | cons u vs ih => cases x with | cons a b => cases i with
    | zero => exact .cons y b
    | succ i => exact .cons a (ih b i)
theorem RdAll.one {v : Value} {d : D} (y : Rd prog w Z h v d) : RdAll prog w Z h [v] [d] := .cons y .nil
theorem RdAll.of {vs : List Value} {ds : List D} (hl : vs.length = ds.length) (x : ∀ (i : Nat) v d, vs[i]? = some v → ds[i]? = some d → Rd prog w Z h v d) : RdAll prog w Z h vs ds := by
  induction vs generalizing ds with
  | nil => cases ds with
    | nil => exact .nil
    | cons _ _ => simp at hl
  | cons v vs ih => cases ds with
    | nil => simp at hl
    | cons d ds => exact .cons (x 0 v d rfl rfl) (ih (by simpa using hl) fun i v d e f => x (i + 1) v d (by simpa using e) (by simpa using f))
end

inductive Own where
  | lst (ds : List D)
  | idict (kvs : List (Int × D))
  | nest (dss : List (List D))

inductive Slot where
  | unset
  | dat (d : D)
  | own (o : Own)

/-- variables of a frame and their values -/
structure Fm (env : Env) (vm : Str → Option Value) (h : Heap) : Prop where
  ns : ∃ m, h.Ns env.locals m ∧ ∀ x, env.kindOf x = some .local → m x = vm x
  cell : ∀ x c, env.cells.lookup x = some c → h.IsCell c (vm x)

def OwnAt (prog : Program) (w : World) (Z : List Addr) (h : Heap) (v : Value) (as : List Addr) : Own → Prop
  | .lst ds => ∃ a vs, v = .ref a ∧ as = [a] ∧ h.PlainList a vs ∧ RdAll prog w Z h vs.toList ds
  | .idict kds => ∃ a kvs, v = .ref a ∧ as = [a] ∧ (a == sysModules) = false ∧ h.DictOf (intKind prog w) a kvs ∧ kvs.map (·.1) = kds.map (·.1) ∧ RdAll prog w Z h (kvs.map (·.2)) (kds.map (·.2))
  | .nest dss => ∃ a bs, v = .ref a ∧ as = a :: bs ∧ h.PlainList a (bs.map Value.ref).toArray ∧ bs.length = dss.length ∧
      ∀ (i : Nat) b ds, bs[i]? = some b → dss[i]? = some ds → ∃ vs, h.PlainList b vs ∧ RdAll prog w Z h vs.toList ds

def SlotAt (prog : Program) (w : World) (Z : List Addr) (h : Heap) (v : Option Value) (as : List Addr) : Slot → Prop
  | .unset => as = []
  | .dat d => as = [] ∧ ∃ u, v = some u ∧ Rd prog w Z h u d
  | .own o => ∃ u, v = some u ∧ OwnAt prog w Z h u as o

abbrev Store := List (Str × Slot)

inductive SlotsAre (prog : Program) (w : World) (Z : List Addr) (h : Heap) (vm : Str → Option Value) : Store → List (List Addr) → Prop
  | nil : SlotsAre prog w Z h vm [] []
  | cons {x : Str} {sl : Slot} {as : List Addr} {r : Store} {ls : List (List Addr)} : SlotAt prog w Z h (vm x) as sl → SlotsAre prog w Z h vm r ls → SlotsAre prog w Z h vm ((x, sl) :: r) (as :: ls)

structure Wf (env : Env) (names : List Str) : Prop where
  kind : env.scope.kind = .function
  globals : env.globals = mainGlobals
  builtins : env.builtins = builtinsNs
  nodup : names.Nodup
  home : ∀ x ∈ names, (env.kindOf x = some .local ∧ env.cells.lookup x = none) ∨ ((env.kindOf x = some .cell ∨ env.kindOf x = some .free) ∧ ∃ c, env.cells.lookup x = some c)
  plain : ∀ x ∈ names, (x == ("__debug__" : Str)) = false ∧ (x == ("__classdict__" : Str)) = false

/-- what an expression needs -/
structure RSt (prog : Program) (w : World) (g₀ : Heap) (env : Env) (Z : List Addr) (vm : Str → Option Value) (ρ : Store) (h : Heap) : Prop where
  wf : Wf env (ρ.map (·.1))
  base : ∀ b o, g₀.get? b = some o → h.get? b = some o
  frame : Fm env vm h
  slots : ∃ ls, SlotsAre prog w Z h vm ρ ls
  alive : ∀ a ∈ Z, ∃ o, h.get? a = some o
  apart : ∀ a ∈ Z, g₀.get? a = none

def Zs (env : Env) (ls : List (List Addr)) (Zc : List Addr) : List Addr := (env.locals :: env.cells.map (·.2)) ++ (ls.flatten ++ Zc)

/-- what a statement needs: Zc are the callers' places -/
structure St (prog : Program) (w : World) (g₀ g : Heap) (env : Env) (Zc : List Addr) (vm : Str → Option Value) (ρ : Store) (ls : List (List Addr)) (h : Heap) : Prop where
  wf : Wf env (ρ.map (·.1))
  nofree : ∀ x ∈ ρ.map (·.1), env.kindOf x ≠ some .free
  base : ∀ b o, g₀.get? b = some o → g.get? b = some o
  keep : ∀ b o, g.get? b = some o → h.get? b = some o
  frame : Fm env vm h
  slots : SlotsAre prog w (Zs env ls Zc) h vm ρ ls
  nodup : (Zs env ls Zc).Nodup
  alive : ∀ a ∈ Zs env ls Zc, ∃ o, h.get? a = some o
  fresh : ∀ a ∈ (env.locals :: env.cells.map (·.2)) ++ ls.flatten, g.get? a = none
  zc : ∀ a ∈ Zc, g₀.get? a = none

section
variable {prog : Program} {w : World} {g₀ g : Heap} {env : Env} {Z Z' Zc : List Addr} {vm vm' : Str → Option Value} {ρ ρ' : Store} {ls : List (List Addr)} {h h' : Heap}

theorem Fm.keeps (x : Fm env vm h) (k : ∀ b o, h.get? b = some o → h'.get? b = some o) : Fm env vm h' :=
  ⟨let ⟨m, a, b⟩ := x.ns; ⟨m, a.keeps k, b⟩, fun n c e => (x.cell n c e).keeps k⟩

theorem SlotAt.move {v : Option Value} {as : List Addr} {sl : Slot} (x : SlotAt prog w Z h v as sl) (k : ∀ b o, b ∉ Z → h.get? b = some o → h'.get? b = some o ∧ b ∉ Z')
    (ka : ∀ a ∈ as, ∀ o, h.get? a = some o → h'.get? a = some o) : SlotAt prog w Z' h' v as sl := by
  cases sl with
  | unset => exact x
  | dat d => obtain ⟨a, u, b, r⟩ := x; exact ⟨a, u, b, r.move k⟩
  | own o =>
    obtain ⟨u, hu, r⟩ := x
    refine ⟨u, hu, ?_⟩
    cases o with
    | lst ds => obtain ⟨a, vs, e, rfl, l, r⟩ := r; exact ⟨a, vs, e, rfl, l.at (ka a (.head _)), r.move k⟩
    | idict ds => obtain ⟨a, vs, e, rfl, ne, l, q, r⟩ := r; exact ⟨a, vs, e, rfl, ne, dictOf_at l (ka a (.head _)), q, r.move k⟩
    | nest dss =>
      obtain ⟨a, bs, e, rfl, l, q, r⟩ := r
      refine ⟨a, bs, e, rfl, l.at (ka a (.head _)), q, fun i b ds hb hd => ?_⟩
      obtain ⟨vs, l', r'⟩ := r i b ds hb hd
      exact ⟨vs, l'.at (ka b (.tail _ (List.mem_of_getElem? hb))), r'.move k⟩

theorem SlotsAre.move {ls : List (List Addr)} (x : SlotsAre prog w Z h vm ρ ls) (hv : ∀ y ∈ ρ.map (·.1), vm' y = vm y) (k : ∀ b o, b ∉ Z → h.get? b = some o → h'.get? b = some o ∧ b ∉ Z')
    (ka : ∀ a ∈ ls.flatten, ∀ o, h.get? a = some o → h'.get? a = some o) : SlotsAre prog w Z' h' vm' ρ ls := by
  induction x with
  | nil => exact .nil
  | cons a r ih =>
    refine .cons (by rw [hv _ (.head _)]; exact a.move k fun b hb => ka b (by simp [hb])) (ih (fun y hy => hv y (.tail _ hy)) fun b hb => ka b (by rw [List.flatten_cons]; exact List.mem_append_right _ hb))
theorem SlotsAre.keep {ls : List (List Addr)} (x : SlotsAre prog w Z h vm ρ ls) (k : ∀ b o, h.get? b = some o → h'.get? b = some o) : SlotsAre prog w Z h' vm ρ ls :=
  x.move (fun _ _ => rfl) (fun b o hb e => ⟨k b o e, hb⟩) fun a _ o => k a o
theorem SlotsAre.at {ls : List (List Addr)} (x : SlotsAre prog w Z h vm ρ ls) {y : Str} {sl : Slot} (hm : (y, sl) ∈ ρ) : ∃ as ∈ ls, SlotAt prog w Z h (vm y) as sl := by
  induction x with
  | nil => cases hm
  | cons a r ih =>
    rcases List.mem_cons.mp hm with e | hm
    · cases e; exact ⟨_, .head _, a⟩
    · obtain ⟨as, h1, h2⟩ := ih hm; exact ⟨as, .tail _ h1, h2⟩

theorem RSt.keep (x : RSt prog w g₀ env Z vm ρ h) (k : ∀ b o, h.get? b = some o → h'.get? b = some o) : RSt prog w g₀ env Z vm ρ h' :=
  ⟨x.wf, fun b o e => k b o (x.base b o e), x.frame.keeps k, let ⟨ls, s⟩ := x.slots; ⟨ls, s.keep k⟩, fun a ha => let ⟨o, e⟩ := x.alive a ha; ⟨o, k a o e⟩, x.apart⟩
theorem St.keeps (x : St prog w g₀ g env Zc vm ρ ls h) (k : ∀ b o, h.get? b = some o → h'.get? b = some o) : St prog w g₀ g env Zc vm ρ ls h' :=
  ⟨x.wf, x.nofree, x.base, fun b o e => k b o (x.keep b o e), x.frame.keeps k, x.slots.keep k, x.nodup, fun a ha => let ⟨o, e⟩ := x.alive a ha; ⟨o, k a o e⟩, x.fresh, x.zc⟩
theorem St.r (x : St prog w g₀ g env Zc vm ρ ls h) : RSt prog w g₀ env (Zs env ls Zc) vm ρ h :=
  ⟨x.wf, fun b o e => x.keep b o (x.base b o e), x.frame, ⟨ls, x.slots⟩, x.alive, fun a ha => by
    unfold Zs at ha
    rw [← List.append_assoc] at ha
    rcases List.mem_append.mp ha with ha | ha
    · cases e : g₀.get? a with
      | none => rfl
      | some o => have := x.base a o e; rw [x.fresh a ha] at this; cases this
    · exact x.zc a ha⟩

/-- the store with one name's slot changed -/
inductive PutS (x : Str) (sl : Slot) : Store → Store → Prop
  | here {s₀ : Slot} {r : Store} : PutS x sl ((x, s₀) :: r) ((x, sl) :: r)
  | there {p : Str × Slot} {r r' : Store} : PutS x sl r r' → PutS x sl (p :: r) (p :: r')

theorem PutS.names {x : Str} {sl : Slot} (p : PutS x sl ρ ρ') : ρ'.map (·.1) = ρ.map (·.1) := by
  induction p with
  | here => rfl
  | there _ ih => simp [ih]
theorem PutS.mem {x : Str} {sl : Slot} (p : PutS x sl ρ ρ') : x ∈ ρ.map (·.1) := by
  induction p with
  | here => exact .head _
  | there _ ih => exact .tail _ ih

theorem SlotsAre.put {x : Str} {sl : Slot} (p : PutS x sl ρ ρ') : ∀ {ls : List (List Addr)}, SlotsAre prog w Z h vm ρ ls → (ρ.map (·.1)).Nodup →
    ∃ pre as₀ post s₀, ls = pre ++ as₀ :: post ∧ (x, s₀) ∈ ρ ∧ SlotAt prog w Z h (vm x) as₀ s₀ ∧
      ∀ (Z' : List Addr) (h' : Heap) (vm' : Str → Option Value) (as : List Addr), (∀ y, y ≠ x → vm' y = vm y) → (∀ b o, b ∉ Z → h.get? b = some o → h'.get? b = some o ∧ b ∉ Z') →
        (∀ a ∈ (pre ++ post).flatten, ∀ o, h.get? a = some o → h'.get? a = some o) → SlotAt prog w Z' h' (vm' x) as sl → SlotsAre prog w Z' h' vm' ρ' (pre ++ as :: post) := by
  induction p with
  | here =>
    intro ls s hn
    cases s with
    | cons a r =>
      refine ⟨[], _, _, _, rfl, .head _, a, fun Z' h' vm' as hv k ka new => ?_⟩
      rw [List.map_cons, List.nodup_cons] at hn
      refine .cons new (r.move (fun y hy => hv y fun e => hn.1 (e ▸ hy)) k fun a ha => ka a (by simpa using ha))
  | there p ih =>
    intro ls s hn
    cases s with
    | cons a r =>
      rw [List.map_cons, List.nodup_cons] at hn
      obtain ⟨pre, as₀, post, s₀, rfl, hm, hs, f⟩ := ih r hn.2
      refine ⟨_ :: pre, as₀, post, s₀, rfl, .tail _ hm, hs, fun Z' h' vm' as hv k ka new => ?_⟩
      refine .cons ?_ (f Z' h' vm' as hv k (fun a ha => ka a (by rw [List.cons_append, List.flatten_cons]; exact List.mem_append_right _ ha)) new)
      rw [hv _ fun e => hn.1 (by rw [e]; exact p.mem)]
      exact a.move k fun b hb => ka b (by rw [List.cons_append, List.flatten_cons]; exact List.mem_append_left _ hb)

theorem Heap.not_alive_fresh {a : Addr} (ha : h.get? a = Option.none) (hz : ∀ a ∈ Z, ∃ o, h.get? a = some o) : a ∉ Z := fun hm => by
  obtain ⟨o, e⟩ := hz a hm; rw [ha] at e; cases e

theorem Zs_mem {env : Env} {pre post : List (List Addr)} {as Zc : List Addr} {a : Addr} :
    a ∈ Zs env (pre ++ as :: post) Zc ↔ a ∈ as ∨ a ∈ Zs env (pre ++ post) Zc := by
  unfold Zs
  simp only [List.flatten_append, List.flatten_cons, List.mem_append]
  constructor
  · rintro (h | (h | h | h) | h) <;> simp [h]
  · rintro (h | h | (h | h) | h) <;> simp [h]
theorem Zs_perm {env : Env} {pre post : List (List Addr)} {as Zc : List Addr} : (Zs env (pre ++ as :: post) Zc).Perm (as ++ Zs env (pre ++ post) Zc) := by
  unfold Zs
  simp only [List.flatten_append, List.flatten_cons, List.append_assoc]
  refine List.Perm.trans (List.Perm.append_left _ (List.perm_append_comm_assoc ..)) ?_
  exact List.perm_append_comm_assoc ..
theorem Zs_nodup {env : Env} {pre post : List (List Addr)} {as Zc : List Addr} : (Zs env (pre ++ as :: post) Zc).Nodup ↔ as.Nodup ∧ (Zs env (pre ++ post) Zc).Nodup ∧ ∀ a ∈ as, a ∉ Zs env (pre ++ post) Zc := by
  rw [Zs_perm.nodup_iff, List.nodup_append]
  constructor
  · rintro ⟨h1, h2, h3⟩; exact ⟨h1, h2, fun a ha hb => h3 a ha a hb rfl⟩
  · rintro ⟨h1, h2, h3⟩; exact ⟨h1, h2, fun a ha b hb e => h3 a ha (e ▸ hb)⟩

theorem pairwise_of_nodup_map : ∀ {l : List (Str × Addr)}, (l.map (·.2)).Nodup → l.Pairwise fun x y => x.2 ≠ y.2
  | [], _ => .nil
  | x :: r, h => by
    rw [List.map_cons, List.nodup_cons] at h
    exact .cons (fun y hy e => h.1 (e ▸ List.mem_map_of_mem hy)) (pairwise_of_nodup_map h.2)

/-- a name is given a value: its slot is new, all else stands -/
theorem St.store {M : Model} {A : Around} {E : Value → Shared → Prop} {s : Shared} {h₀ : Heap} {x : Str} {sl : Slot} {as : List Addr} {v : Value} {Q : Unit → Shared → Prop}
    (x₀ : St prog w g₀ g env Zc vm ρ ls h₀) (k : ∀ b o, h₀.get? b = some o → s.heap.get? b = some o) (p : PutS x sl ρ ρ')
    (new : SlotAt prog w (as ++ Zs env ls Zc) s.heap (some v) as sl) (hn : as.Nodup) (hf : ∀ a ∈ as, h₀.get? a = Option.none)
    (hal : ∀ a ∈ as, ∃ o, s.heap.get? a = some o)
    (hQ : ∀ vm' ls' h' tk, St prog w g₀ g env Zc vm' ρ' ls' h' → Q () { s with heap := h', toks := tk }) : wpAny M A (storeName env x v) Q E s := by
  obtain ⟨pre, as₀, post, s₀, rfl, hm, hs₀, f⟩ := x₀.slots.put p x₀.wf.nodup
  have nd := Zs_nodup.mp x₀.nodup
  have hxn : x ∈ ρ.map (·.1) := p.mem
  have asZ : ∀ a ∈ as, a ∉ Zs env (pre ++ as₀ :: post) Zc := fun a ha => Heap.not_alive_fresh (hf a ha) x₀.alive
  have nd' : (Zs env (pre ++ as :: post) Zc).Nodup := Zs_nodup.mpr ⟨hn, nd.2.1, fun a ha hb => asZ a ha (Zs_mem.mpr (.inr hb))⟩
  have key : ∀ (L : Addr) (h' : Heap) (vm' : Str → Option Value), L ∈ env.locals :: env.cells.map (·.2) → Heap.SameBut L s.heap h' → (∃ o, h'.get? L = some o) → (∀ y, y ≠ x → vm' y = vm y) → vm' x = some v → Fm env vm' h' →
      St prog w g₀ g env Zc vm' ρ' (pre ++ as :: post) h' := by
    intro L h' vm' hL hsb hLo hv hx F
    have LZ : L ∈ Zs env (pre ++ post) Zc := List.mem_append_left _ hL
    have LZ' : L ∈ Zs env (pre ++ as₀ :: post) Zc := Zs_mem.mpr (.inr LZ)
    have kk : ∀ b o, b ≠ L → h₀.get? b = some o → h'.get? b = some o := fun b o hb e => hsb.extBut b o hb (k b o e)
    have Lg : g.get? L = Option.none := x₀.fresh L (List.mem_append_left _ hL)
    have nd2 := nd.2.1
    unfold Zs at nd2
    have hLp : L ∉ (pre ++ post).flatten := fun hm => (List.nodup_append.mp nd2).2.2 L hL L (List.mem_append_left _ hm) rfl
    have hLa : L ∉ as := fun hm => asZ L hm LZ'
    refine ⟨p.names ▸ x₀.wf, p.names ▸ x₀.nofree, x₀.base, fun b o e => kk b o (fun z => by subst z; rw [Lg] at e; cases e) (x₀.keep b o e), F, ?_, nd', ?_, ?_, x₀.zc⟩
    · refine f _ h' vm' as hv (fun b o hb e => ⟨kk b o (fun z => hb (z ▸ LZ')) e, fun hm => ?_⟩) (fun a ha o e => kk a o (fun z => hLp (z ▸ ha)) e) ?_
      · rcases Zs_mem.mp hm with hm | hm
        · rw [hf b hm] at e; cases e
        · exact hb (Zs_mem.mpr (.inr hm))
      · rw [hx]
        refine new.move (fun b o hb e => ⟨hsb.extBut b o (fun z => hb (List.mem_append_right _ (z ▸ LZ'))) e, fun hm => hb ?_⟩) fun a ha o e => hsb.extBut a o (fun z => hLa (z ▸ ha)) e
        rcases Zs_mem.mp hm with hm | hm
        · exact List.mem_append_left _ hm
        · exact List.mem_append_right _ (Zs_mem.mpr (.inr hm))
    · intro a ha
      by_cases hb : a = L
      · exact hb ▸ hLo
      · rcases Zs_mem.mp ha with ha | ha
        · obtain ⟨o, e⟩ := hal a ha; exact ⟨o, hsb.extBut a o hb e⟩
        · obtain ⟨o, e⟩ := x₀.alive a (Zs_mem.mpr (.inr ha)); exact ⟨o, kk a o hb e⟩
    · intro a ha
      rcases List.mem_append.mp ha with ha | ha
      · exact x₀.fresh a (List.mem_append_left _ ha)
      · by_cases hb : a ∈ as
        · cases e : g.get? a with
          | none => rfl
          | some o => have := x₀.keep a o e; rw [hf a hb] at this; cases this
        · refine x₀.fresh a (List.mem_append_right _ ?_)
          simp only [List.flatten_append, List.flatten_cons, List.mem_append] at ha ⊢
          rcases ha with ha | ha | ha
          · exact .inl ha
          · exact absurd ha hb
          · exact .inr (.inr ha)
  have F₁ : Fm env vm s.heap := x₀.frame.keeps k
  have hz : (env.scope.kind == .class || (env.scope.kind == .module && env.locals != env.globals)) = false := by rw [x₀.wf.kind]; rfl
  obtain ⟨m, hm₁, hm₂⟩ := F₁.ns
  have hcl : ∀ n c, env.cells.lookup n = some c → c ∈ env.cells.map (·.2) := fun n c e => List.mem_map.mpr ⟨(n, c), mem_of_lookup e, rfl⟩
  have nd3 : (env.locals :: env.cells.map (·.2)).Nodup := (List.nodup_append.mp (show ((env.locals :: env.cells.map (·.2)) ++ ((pre ++ post).flatten ++ Zc)).Nodup from nd.2.1)).1
  rw [List.nodup_cons] at nd3
  rcases x₀.wf.home x hxn with ⟨hl, hlc⟩ | ⟨hc | hfr, c, hlk⟩
  · refine wpAny_storeName_local hl hm₁ (fun h' hn' hs' => ?_) hz
    refine hQ _ _ h' _ (key env.locals h' (fun y => if y = x then some v else vm y) (.head _) hs' (let ⟨o, _, _, ho, _⟩ := hn'; ⟨o, ho⟩) (fun y hy => if_neg hy) (if_pos rfl) ⟨⟨_, hn', fun y hy => ?_⟩, fun n c e => ?_⟩)
    · by_cases hyx : y = x
      · simp [hyx]
      · simp [hyx, hm₂ y hy]
    · have hnc : c ≠ env.locals := fun z => nd3.1 (z ▸ hcl n c e)
      by_cases hnx : n = x
      · subst hnx; rw [hlc] at e; cases e
      · rw [if_neg hnx]; exact (F₁.cell n c e).sameBut hs' hnc
  · refine wpAny_storeName_cell x₀.wf.kind hc hlk (F₁.cell x c hlk) fun h' hc' hs' => ?_
    refine hQ _ _ h' s.toks (key c h' (fun y => if y = x then some v else vm y) (.tail _ (hcl x c hlk)) hs' (let ⟨o, ho, _⟩ := hc'; ⟨o, ho⟩) (fun y hy => if_neg hy) (if_pos rfl) ⟨⟨m, hm₁.sameBut hs' (fun z => nd3.1 (z ▸ hcl x c hlk)), fun y hy => ?_⟩, fun n c' e => ?_⟩)
    · by_cases hyx : y = x
      · subst hyx; rw [hc] at hy; cases hy
      · simp [hyx, hm₂ y hy]
    · by_cases hnx : n = x
      · subst hnx; rw [hlk] at e; cases e; simpa using hc'
      · rw [if_neg hnx]
        refine (F₁.cell n c' e).sameBut hs' fun z => hnx ?_
        subst z
        exact name_of_addr (pairwise_of_nodup_map nd3.2) (mem_of_lookup e) (mem_of_lookup hlk)
  · exact absurd hfr (x₀.nofree x hxn)

theorem slot_unique {x : Str} {s₁ s₀ : Slot} : ∀ {ρ : Store}, (ρ.map (·.1)).Nodup → (x, s₁) ∈ ρ → (x, s₀) ∈ ρ → s₁ = s₀
  | [], _, hm, _ => nomatch hm
  | q :: r, hn, hm₁, hm => by
    rw [List.map_cons, List.nodup_cons] at hn
    rcases List.mem_cons.mp hm with e | hm <;> rcases List.mem_cons.mp hm₁ with e' | hm₁
    · rw [← e'] at e; exact (Prod.mk.inj e).2.symm
    · exact absurd (by rw [← e]; exact List.mem_map_of_mem (f := (·.1)) hm₁) hn.1
    · exact absurd (by rw [← e']; exact List.mem_map_of_mem (f := (·.1)) hm) hn.1
    · exact slot_unique hn.2 hm₁ hm

/-- one place of a name's own list or dict is changed -/
theorem St.turn {x : Str} {sl : Slot} {a : Addr} (x₀ : St prog w g₀ g env Zc vm ρ ls h) (p : PutS x sl ρ ρ') {as₀ : List Addr} {s₀ : Slot}
    (own : ∀ as, SlotAt prog w (Zs env ls Zc) h (vm x) as s₀ → as = as₀) (hm : (x, s₀) ∈ ρ) (ha : a ∈ as₀) (hs : Heap.SameBut a h h') (hal : ∃ o, h'.get? a = some o)
    (new : SlotAt prog w (Zs env ls Zc) h' (vm x) as₀ sl) : St prog w g₀ g env Zc vm ρ' ls h' := by
  obtain ⟨pre, as₁, post, s₁, rfl, hm₁, hs₁, f⟩ := x₀.slots.put p x₀.wf.nodup
  have e₁ : s₁ = s₀ :=
    slot_unique x₀.wf.nodup hm₁ hm
  subst e₁
  have e₂ := own as₁ hs₁
  subst e₂
  have nd := Zs_nodup.mp x₀.nodup
  have aZ : a ∉ Zs env (pre ++ post) Zc := nd.2.2 a ha
  have aZ' : a ∈ Zs env (pre ++ as₁ :: post) Zc := Zs_mem.mpr (.inl ha)
  have kk : ∀ b o, b ≠ a → h.get? b = some o → h'.get? b = some o := fun b o hb e => hs.extBut b o hb e
  have ag : g.get? a = none := x₀.fresh a (List.mem_append_right _ (by simp [ha]))
  have hL : ∀ b ∈ env.locals :: env.cells.map (·.2), b ≠ a := fun b hb e => aZ (List.mem_append_left _ (e ▸ hb))
  refine ⟨p.names ▸ x₀.wf, p.names ▸ x₀.nofree, x₀.base, fun b o e => kk b o (fun z => by subst z; rw [ag] at e; cases e) (x₀.keep b o e), ⟨?_, ?_⟩, ?_, x₀.nodup, fun b hb => ?_, x₀.fresh, x₀.zc⟩
  · obtain ⟨m, hm, hv⟩ := x₀.frame.ns
    exact ⟨m, hm.sameBut hs (hL _ (.head _)), hv⟩
  · exact fun n c e => (x₀.frame.cell n c e).sameBut hs (hL _ (.tail _ (List.mem_map.mpr ⟨(n, c), mem_of_lookup e, rfl⟩)))
  · refine f _ h' vm as₁ (fun _ _ => rfl) (fun b o hb e => ⟨kk b o (fun z => hb (z ▸ aZ')) e, hb⟩) (fun b hb o e => kk b o (fun z => aZ ?_) e) new
    unfold Zs
    rw [← z]
    exact List.mem_append_right _ (List.mem_append_left _ hb)
  · by_cases hba : b = a
    · exact hba ▸ hal
    · obtain ⟨o, e⟩ := x₀.alive b hb; exact ⟨o, kk b o hba e⟩

/-- a name's own list or dict is given up: from now on it is data like any other -/
theorem St.freeze {x : Str} {o : Own} {d : D} (x₀ : St prog w g₀ g env Zc vm ρ ls h) (p : PutS x (.dat d) ρ ρ') (hm : (x, .own o) ∈ ρ)
    (hod : match o with | .lst ds => d = .lst ds | .idict kvs => d = .idict kvs | .nest dss => d = .lst (dss.map .lst)) : ∃ ls', St prog w g₀ g env Zc vm ρ' ls' h := by
  obtain ⟨pre, as₁, post, s₁, rfl, hm₁, hs₁, f⟩ := x₀.slots.put p x₀.wf.nodup
  have e₁ : s₁ = .own o :=
    slot_unique x₀.wf.nodup hm₁ hm
  subst e₁
  have nd := Zs_nodup.mp x₀.nodup
  have sub : ∀ a ∈ Zs env (pre ++ [] :: post) Zc, a ∈ Zs env (pre ++ as₁ :: post) Zc := fun a ha => by
    rcases Zs_mem.mp ha with h | h
    · cases h
    · exact Zs_mem.mpr (.inr h)
  have out : ∀ a ∈ as₁, a ∉ Zs env (pre ++ [] :: post) Zc := fun a ha hb => by
    rcases Zs_mem.mp hb with h | h
    · cases h
    · exact nd.2.2 a ha h
  refine ⟨pre ++ [] :: post, p.names ▸ x₀.wf, p.names ▸ x₀.nofree, x₀.base, x₀.keep, x₀.frame, ?_, Zs_nodup.mpr ⟨.nil, nd.2.1, fun _ h => nomatch h⟩, fun b hb => x₀.alive b (sub b hb), fun b hb => x₀.fresh b ?_, x₀.zc⟩
  · refine f _ h vm [] (fun _ _ => rfl) (fun b o hb e => ⟨e, fun hm => hb (sub b hm)⟩) (fun b hb o e => e) ?_
    obtain ⟨u, hu, r⟩ := hs₁
    refine ⟨rfl, u, hu, ?_⟩
    cases o with
    | lst ds => obtain ⟨a, vs, rfl, rfl, l, r⟩ := r; subst hod; exact .lst (out a (.head _)) l (r.less sub)
    | idict ds => obtain ⟨a, vs, rfl, rfl, ne, l, q, r⟩ := r; subst hod; exact .idict ⟨out a (.head _), ne⟩ l q (r.less sub)
    | nest dss =>
      obtain ⟨a, bs, rfl, rfl, l, q, r⟩ := r
      subst hod
      refine .lst (out a (.head _)) l (RdAll.of (by simp [q]) fun i v d hv hd => ?_)
      simp only [List.getElem?_map, Option.map_eq_some_iff] at hv hd
      obtain ⟨b, hb, rfl⟩ := hv
      obtain ⟨ds, hd, rfl⟩ := hd
      obtain ⟨vs, l', r'⟩ := r i b ds hb hd
      exact .lst (out b (.tail _ (List.mem_of_getElem? hb))) l' (r'.less sub)
  · rcases List.mem_append.mp hb with h | h
    · exact List.mem_append_left _ h
    · refine List.mem_append_right _ ?_
      simp only [List.flatten_append, List.flatten_cons, List.nil_append, List.mem_append] at h ⊢
      rcases h with h | h
      · exact .inl h
      · exact .inr (.inr h)

theorem RSt.free {x : Str} {d : D} (x₀ : RSt prog w g₀ env Z vm ρ h) (hm : (x, .dat d) ∈ ρ) : ∃ v, vm x = some v ∧ Rd prog w Z h v d := by
  obtain ⟨ls, s⟩ := x₀.slots
  obtain ⟨as, _, _, u, hu, r⟩ := s.at hm
  exact ⟨u, hu, r⟩
theorem RSt.own {x : Str} {o : Own} (x₀ : RSt prog w g₀ env Z vm ρ h) (hm : (x, .own o) ∈ ρ) : ∃ v as, vm x = some v ∧ OwnAt prog w Z h v as o := by
  obtain ⟨ls, s⟩ := x₀.slots
  obtain ⟨as, _, u, hu, r⟩ := s.at hm
  exact ⟨u, as, hu, r⟩
/-- a name is read -/
theorem RSt.load {M : Model} {A : Around} {E : Value → Shared → Prop} {s : Shared} {x : Str} {v : Value} {Q : Value → Shared → Prop} (x₀ : RSt prog w g₀ env Z vm ρ s.heap) (hx : x ∈ ρ.map (·.1)) (hv : vm x = some v)
    (h : Q v s) : wpAny M A (loadName env x) Q E s := by
  rcases x₀.wf.home x hx with ⟨hl, _⟩ | ⟨hc | hc, c, hlk⟩
  · obtain ⟨m, hm, e⟩ := x₀.frame.ns
    exact wpAny_loadName_local x₀.wf.kind hl hm ((e x hl).trans hv) h
  · exact wpAny_loadName_cell x₀.wf.kind hc hlk (hv ▸ x₀.frame.cell x c hlk) h
  · exact wpAny_loadName_free x₀.wf.kind hc hlk (hv ▸ x₀.frame.cell x c hlk) h (x₀.wf.plain x hx).2
end

end Mine

namespace Mine
open PySem

structure Kp (s s' : Shared) : Prop where
  ex : Keeps s s'
  tk : s.toks ≤ s'.toks
theorem Kp.refl (s : Shared) : Kp s s := ⟨⟨s.heap, s.toks, rfl, fun _ _ e => e⟩, Nat.le_refl _⟩
theorem Kp.trans {s s' s'' : Shared} (x : Kp s s') (y : Kp s' s'') : Kp s s'' := by
  obtain ⟨⟨h, t, rfl, k⟩, p⟩ := x
  obtain ⟨⟨h', t', rfl, k'⟩, q⟩ := y
  exact ⟨⟨h', t', rfl, fun b o e => k' b o (k b o e)⟩, Nat.le_trans p q⟩
theorem Kp.up {s s' : Shared} (x : Kp s s') : ∀ b o, s.heap.get? b = some o → s'.heap.get? b = some o := by
  obtain ⟨⟨h, t, rfl, k⟩, _⟩ := x; exact k
theorem Kp.tok (s : Shared) (t : Nat) (h : s.toks ≤ t := by omega) : Kp s { s with toks := t } := ⟨⟨s.heap, t, rfl, fun _ _ e => e⟩, h⟩
theorem Kp.push (s : Shared) (o : Obj) (t : Nat) (h : s.toks ≤ t := by omega) : Kp s { s with heap := s.heap.push o, toks := t } := ⟨⟨s.heap.push o, t, rfl, fun _ _ e => Heap.get?_push_of_some _ e⟩, h⟩
theorem Kp.of {s : Shared} {h' : Heap} {t : Nat} (k : ∀ b o, s.heap.get? b = some o → h'.get? b = some o) (h : s.toks ≤ t := by omega) : Kp s { s with heap := h', toks := t } := ⟨⟨h', t, rfl, k⟩, h⟩

/-- the tokens rise by themselves -/
theorem wpAny_kp {α : Type} {M : Model} {A : Around} {E : Value → Shared → Prop} {s₀ s : Shared} {t : Sem α} {P : α → Shared → Prop} (k : Kp s₀ s)
    (h : wpAny M A t (fun v s' => Keeps s s' ∧ P v s') E s) : wpAny M A t (fun v s' => Kp s₀ s' ∧ P v s') E s :=
  wpAny_with_toks (n := s.toks) (Nat.le_refl _) (wpAny_mono h (fun v s' q hk => ⟨k.trans ⟨q.1, hk⟩, q.2⟩) fun _ _ e _ => e)

/-- an expression's ground, with the tokens begun -/
structure RS (prog : Program) (w : World) (g₀ : Heap) (env : Env) (Z : List Addr) (vm : Str → Option Value) (ρ : Store) (s : Shared) : Prop extends RSt prog w g₀ env Z vm ρ s.heap where
  tok : 1 ≤ s.toks
theorem RS.keep {prog : Program} {w : World} {g₀ : Heap} {env : Env} {Z : List Addr} {vm : Str → Option Value} {ρ : Store} {s s' : Shared} (x : RS prog w g₀ env Z vm ρ s) (k : Kp s s') : RS prog w g₀ env Z vm ρ s' :=
  ⟨x.toRSt.keep k.up, Nat.le_trans x.tok k.tk⟩

structure Gf (g₀ : Heap) (mg mb : Str → Option Value) : Prop where
  g : g₀.Ns mainGlobals mg
  b : g₀.Ns builtinsNs mb
  limit : g₀.NoLimit
  sys : ∃ o, g₀.get? sysModules = some o

section
variable (prog : Program) (w : World) (g₀ : Heap) (n : Nat) (env : Env) (ρ : Store)

def unstarred : Expr → Bool
  | .Starred .. => false
  | _ => true

def Run {α : Type} (t : Sem α) (P : List Addr → Shared → α → Shared → Prop) : Prop :=
  ∀ (A : Around) (E : Value → Shared → Prop) (Z : List Addr) (vm : Str → Option Value) (s : Shared), Lv n A → RS prog w g₀ env Z vm ρ s →
    wpAny (model prog w) A t (fun v s' => Kp s s' ∧ P Z s v s') E s

/-- the expression gives the datum d; it may be met in place -/
def EvB (e : Expr) (d : D) : Prop := Run prog w g₀ n env ρ (eval e env) fun Z _ v s' => RdB prog w Z s'.heap v d
/-- the expression gives the datum d, free of protected places -/
def Ev (e : Expr) (d : D) : Prop := Run prog w g₀ n env ρ (eval e env) fun Z _ v s' => Rd prog w Z s'.heap v d
/-- the expression gives a new list or dict of its own -/
def EvO (e : Expr) (o : Own) : Prop := Run prog w g₀ n env ρ (eval e env) fun Z s v s' => ∃ as, OwnAt prog w (as ++ Z) s'.heap v as o ∧ as.Nodup ∧ (∀ a ∈ as, s.heap.get? a = none) ∧ ∀ a ∈ as, ∃ o, s'.heap.get? a = some o
/-- a test -/
def Tst (e : Expr) (b : Bool) : Prop := Run prog w g₀ n env ρ (isTrue e env (eval e env)) fun _ _ v _ => v = b
/-- several expressions, each free -/
def EvAll (es : List Expr) (ds : List D) : Prop := es.all unstarred = true ∧ Run prog w g₀ n env ρ (spliced (starEach es env)) fun Z _ vs s' => RdAll prog w Z s'.heap vs ds
/-- several expressions, each met in place -/
inductive RdBAll (Z : List Addr) (h : Heap) : List Value → List D → Prop
  | nil : RdBAll Z h [] []
  | cons {v : Value} {d : D} {vs : List Value} {ds : List D} : RdB prog w Z h v d → RdBAll Z h vs ds → RdBAll Z h (v :: vs) (d :: ds)
def EvBAll (es : List Expr) (ds : List D) : Prop := es.all unstarred = true ∧ Run prog w g₀ n env ρ (spliced (starEach es env)) fun Z _ vs s' => RdBAll prog w Z s'.heap vs ds
end

section
variable {prog : Program} {w : World} {g₀ : Heap} {n : Nat} {env : Env} {ρ : Store} {mg mb : Str → Option Value}

theorem RdBAll.keep {Z : List Addr} {h h' : Heap} (k : ∀ b o, h.get? b = some o → h'.get? b = some o) {vs : List Value} {ds : List D} (x : RdBAll prog w Z h vs ds) : RdBAll prog w Z h' vs ds := by
  induction x with
  | nil => exact .nil
  | cons a _ ih => exact .cons (a.keep k) ih

theorem Run.mono {α : Type} {t : Sem α} {P Q : List Addr → Shared → α → Shared → Prop} (x : Run prog w g₀ n env ρ t P)
    (k : ∀ Z vm s v s', RS prog w g₀ env Z vm ρ s → Kp s s' → P Z s v s' → Q Z s v s') : Run prog w g₀ n env ρ t Q := fun A E Z vm s hA hS =>
  wpAny_mono (x A E Z vm s hA hS) (fun v s' h => ⟨h.1, k Z vm s v s' hS h.1 h.2⟩) fun _ _ e => e
theorem Run.lv {α : Type} {t : Sem α} {P : List Addr → Shared → α → Shared → Prop} {m : Nat} (x : Run prog w g₀ m env ρ t P) (hm : m ≤ n) : Run prog w g₀ n env ρ t P := fun A E Z vm s hA hS =>
  x A E Z vm s (hA.mono hm) hS

theorem Ev.toB {e : Expr} {d : D} (x : Ev prog w g₀ n env ρ e d) : EvB prog w g₀ n env ρ e d := x.mono fun _ _ _ _ _ _ _ h => .free h
theorem EvO.toEv {e : Expr} {o : Own} {d : D} (x : EvO prog w g₀ n env ρ e o) (hod : match o with | .lst ds => d = .lst ds | .idict kvs => d = .idict kvs | .nest dss => d = .lst (dss.map .lst)) :
    Ev prog w g₀ n env ρ e d := x.mono fun Z vm s v s' hS _ ⟨as, r, _, hf, _⟩ => by
  have out : ∀ a ∈ as, a ∉ Z := fun a ha hz => by obtain ⟨o, e⟩ := hS.alive a hz; rw [hf a ha] at e; cases e
  have sub : ∀ a ∈ Z, a ∈ as ++ Z := fun a ha => List.mem_append_right _ ha
  cases o with
  | lst ds => obtain ⟨a, vs, rfl, rfl, l, r⟩ := r; subst hod; exact .lst (out a (.head _)) l (r.less sub)
  | idict ds => obtain ⟨a, vs, rfl, rfl, ne, l, q, r⟩ := r; subst hod; exact .idict ⟨out a (.head _), ne⟩ l q (r.less sub)
  | nest dss =>
    obtain ⟨a, bs, rfl, rfl, l, q, r⟩ := r
    subst hod
    refine .lst (out a (.head _)) l (RdAll.of (by simp [q]) fun i v d hv hd => ?_)
    simp only [List.getElem?_map, Option.map_eq_some_iff] at hv hd
    obtain ⟨b, hb, rfl⟩ := hv
    obtain ⟨ds, hd, rfl⟩ := hd
    obtain ⟨vs, l', r'⟩ := r i b ds hb hd
    exact .lst (out b (.tail _ (List.mem_of_getElem? hb))) l' (r'.less sub)
theorem EvO.lst {e : Expr} {ds : List D} (x : EvO prog w g₀ n env ρ e (.lst ds)) : Ev prog w g₀ n env ρ e (.lst ds) := x.toEv rfl

/-! ### constants and names -/
theorem Ev.int {i : Int} {k : Nat} {p : Pos} : Ev prog w g₀ n env ρ (.Constant (.int i) k p) (.int i) := fun A E Z vm s _ _ =>
  wpAny_Constant_int ⟨Kp.tok _ _, .int ..⟩
theorem Ev.str {x : Str} {k : Nat} {p : Pos} : Ev prog w g₀ n env ρ (.Constant (.str x) k p) (.str x) := fun A E Z vm s _ _ =>
  Calls.Constant_str ⟨Kp.tok _ _, .str ..⟩
theorem Ev.bool {b : Bool} {k : Nat} {p : Pos} : Ev prog w g₀ n env ρ (.Constant (.bool b) k p) (.bool b) := fun A E Z vm s _ _ =>
  show wpAny _ _ (pure (Value.bool b)) _ _ _ from wpAny_pure ⟨.refl _, .bool b⟩

theorem mem_names {x : Str} {sl : Slot} (h : (x, sl) ∈ ρ) : x ∈ ρ.map (·.1) := List.mem_map.mpr ⟨_, h, rfl⟩
theorem Ev.name {x : Str} {p : Pos} {d : D} (hx : (x, .dat d) ∈ ρ) : Ev prog w g₀ n env ρ (.Name x p) d := fun A E Z vm s _ hS => by
  obtain ⟨v, hv, r⟩ := hS.free hx
  exact wpAny_Name (hS.load (mem_names hx) hv ⟨.refl _, r⟩) (hS.wf.plain x (mem_names hx)).1
theorem EvB.lst {x : Str} {p : Pos} {ds : List D} (hx : (x, .own (.lst ds)) ∈ ρ) : EvB prog w g₀ n env ρ (.Name x p) (.lst ds) := fun A E Z vm s _ hS => by
  obtain ⟨v, as, hv, a, vs, rfl, _, l, r⟩ := hS.own hx
  exact wpAny_Name (hS.load (mem_names hx) hv ⟨.refl _, .lst l r⟩) (hS.wf.plain x (mem_names hx)).1
theorem EvB.idict {x : Str} {p : Pos} {ds : List (Int × D)} (hx : (x, .own (.idict ds)) ∈ ρ) : EvB prog w g₀ n env ρ (.Name x p) (.idict ds) := fun A E Z vm s _ hS => by
  obtain ⟨v, as, hv, a, vs, rfl, _, ne, l, q, r⟩ := hS.own hx
  exact wpAny_Name (hS.load (mem_names hx) hv ⟨.refl _, .idict ne l q r⟩) (hS.wf.plain x (mem_names hx)).1

/-- a global name of the text's own -/
theorem Ev.glob {x : Str} {p : Pos} {d : D} (G : Gf g₀ mg mb) (hx : env.kindOf x = some .globalImplicit) (he : env.globals = mainGlobals) (hk : env.scope.kind = .function)
    (hv : ∃ v, mg x = some v ∧ Rd prog w [] g₀ v d) (hd : (x == ("__debug__" : Str)) = false) :
    Ev prog w g₀ n env ρ (.Name x p) d := fun A E Z vm s _ hS => by
  obtain ⟨v, hv, r⟩ := hv
  refine Calls.Name_function_global hk hx (Calls.loadGlobal_global (he ▸ G.g.keeps hS.base) hv ⟨.refl _, r.move fun b o _ e => ⟨hS.base b o e, fun hm => ?_⟩⟩) hd
  rw [hS.apart b hm] at e; cases e
/-- a built-in name -/
theorem Ev.bi {x : Str} {p : Pos} {v : Value} (G : Gf g₀ mg mb) (hx : env.kindOf x = some .globalImplicit) (he : env.globals = mainGlobals) (hb : env.builtins = builtinsNs) (hk : env.scope.kind = .function)
    (hv : mg x = none ∧ mb x = some v) (hd : (x == ("__debug__" : Str)) = false) :
    Ev prog w g₀ n env ρ (.Name x p) (.fn v) := fun A E Z vm s _ hS =>
  Calls.Name_function_global hk hx (Calls.loadGlobal_builtin (he ▸ G.g.keeps hS.base) hv.1 (hb ▸ G.b.keeps hS.base) hv.2 ⟨.refl _, .fn v⟩) hd

/-! ### two in a row -/
theorem Run.two {α β γ : Type} {t : Sem α} {u : Sem β} {r : α → β → Sem γ} {P : List Addr → Shared → α → Shared → Prop} {Q : List Addr → Shared → β → Shared → Prop} {R : List Addr → Shared → γ → Shared → Prop}
    {A : Around} {E : Value → Shared → Prop} {Z : List Addr} {vm : Str → Option Value} {s : Shared} (hA : Lv n A) (hS : RS prog w g₀ env Z vm ρ s)
    (x : Run prog w g₀ n env ρ t P) (y : Run prog w g₀ n env ρ u Q)
    (k : ∀ a s₁ b s₂, Kp s s₁ → Kp s₁ s₂ → RS prog w g₀ env Z vm ρ s₂ → P Z s a s₁ → Q Z s₁ b s₂ → wpAny (model prog w) A (r a b) (fun c s₃ => Kp s s₃ ∧ R Z s c s₃) E s₂) :
    wpAny (model prog w) A t (fun a s₁ => wpAny (model prog w) A u (fun b s₂ => wpAny (model prog w) A (r a b) (fun c s₃ => Kp s s₃ ∧ R Z s c s₃) E s₂) E s₁) E s :=
  wpAny_mono (x A E Z vm s hA hS) (fun a s₁ ha => wpAny_mono (y A E Z vm s₁ hA (hS.keep ha.1)) (fun b s₂ hb => k a s₁ b s₂ ha.1 hb.1 (hS.keep (ha.1.trans hb.1)) ha.2 hb.2) fun _ _ e => e) fun _ _ e => e

/-! ### sums and the like -/
inductive BinR : Operator → D → D → D → Prop
  | addI (a b : Int) : BinR .Add (.int a) (.int b) (.int (a + b))
  | subI (a b : Int) : BinR .Sub (.int a) (.int b) (.int (a - b))
  | mulI (a b : Int) (h : IntMulOk a b) : BinR .Mult (.int a) (.int b) (.int (a * b))
  | divI (a b : Int) (h : b ≠ 0 ∧ b.natAbs < 1073741824) : BinR .FloorDiv (.int a) (.int b) (.int (a.fdiv b))
  | modI (a b : Int) (h : b ≠ 0) : BinR .Mod (.int a) (.int b) (.int (a.fmod b))
  | powI (a b : Int) (h : 0 ≤ b ∧ b ≤ 1000000 ∧ a.natAbs < 2 ^ 64 ∧ (Builtin.Int.intBits a : Int) * b ≤ 2 ^ 27) : BinR .Pow (.int a) (.int b) (.int (a ^ b.toNat))

theorem Rd.int_inv {Z : List Addr} {h : Heap} {v : Value} {i : Int} (x : Rd prog w Z h v (.int i)) : ∃ t, v = .int i t := by cases x; exact ⟨_, rfl⟩
theorem Rd.str_inv {Z : List Addr} {h : Heap} {v : Value} {i : Str} (x : Rd prog w Z h v (.str i)) : ∃ t, v = .str i t := by cases x; exact ⟨_, rfl⟩
theorem Rd.bool_inv {Z : List Addr} {h : Heap} {v : Value} {i : Bool} (x : Rd prog w Z h v (.bool i)) : v = .bool i := by cases x; rfl
theorem RdB.int_inv {Z : List Addr} {h : Heap} {v : Value} {i : Int} (x : RdB prog w Z h v (.int i)) : ∃ t, v = .int i t := by cases x with | free x => exact x.int_inv
theorem RdB.str_inv {Z : List Addr} {h : Heap} {v : Value} {i : Str} (x : RdB prog w Z h v (.str i)) : ∃ t, v = .str i t := by cases x with | free x => exact x.str_inv
theorem RdB.bool_inv {Z : List Addr} {h : Heap} {v : Value} {i : Bool} (x : RdB prog w Z h v (.bool i)) : v = .bool i := by cases x with | free x => exact x.bool_inv
theorem RdB.lst_inv {Z : List Addr} {h : Heap} {v : Value} {ds : List D} (x : RdB prog w Z h v (.lst ds)) : ∃ a vs, v = .ref a ∧ h.IsList a vs ∧ RdAll prog w Z h vs.toList ds := by
  cases x with
  | free x => cases x with | lst _ l r => exact ⟨_, _, rfl, l.isList, r⟩
  | lst l r => exact ⟨_, _, rfl, l.isList, r⟩
theorem RdB.lst_invP {Z : List Addr} {h : Heap} {v : Value} {ds : List D} (x : RdB prog w Z h v (.lst ds)) : ∃ a vs, v = .ref a ∧ h.PlainList a vs ∧ RdAll prog w Z h vs.toList ds := by
  cases x with
  | free x => cases x with | lst _ l r => exact ⟨_, _, rfl, l, r⟩
  | lst l r => exact ⟨_, _, rfl, l, r⟩
theorem RdB.tup_inv {Z : List Addr} {h : Heap} {v : Value} {ds : List D} (x : RdB prog w Z h v (.tup ds)) : ∃ a vs, v = .ref a ∧ h.IsTuple a vs ∧ RdAll prog w Z h vs.toList ds := by
  cases x with
  | free x => cases x with | tup _ l r => exact ⟨_, _, rfl, l, r⟩

theorem BinR.sound {op : Operator} {x y z : D} (r : BinR op x y z) {A : Around} {E : Value → Shared → Prop} {Z : List Addr} {s : Shared} {u v : Value} (hu : RdB prog w Z s.heap u x) (hv : RdB prog w Z s.heap v y) :
    wpAny (model prog w) A (binaryOp op u v) (fun c s' => Kp s s' ∧ Rd prog w Z s'.heap c z) E s := by
  cases r with
  | addI a b => obtain ⟨t, rfl⟩ := hu.int_inv; obtain ⟨t', rfl⟩ := hv.int_inv; exact PyProof.Rows.add_int ⟨Kp.tok _ _, .int ..⟩
  | subI a b => obtain ⟨t, rfl⟩ := hu.int_inv; obtain ⟨t', rfl⟩ := hv.int_inv; exact PyProof.Rows.sub_int ⟨Kp.tok _ _, .int ..⟩
  | mulI a b h => obtain ⟨t, rfl⟩ := hu.int_inv; obtain ⟨t', rfl⟩ := hv.int_inv; exact PyProof.Rows.mul_int ⟨Kp.tok _ _, .int ..⟩ h
  | divI a b h => obtain ⟨t, rfl⟩ := hu.int_inv; obtain ⟨t', rfl⟩ := hv.int_inv; exact PyProof.Rows.floordiv_int h.1 ⟨Kp.tok _ _, .int ..⟩ (.inl (PyProof.noPylong_small h.2))
  | modI a b h => obtain ⟨t, rfl⟩ := hu.int_inv; obtain ⟨t', rfl⟩ := hv.int_inv; exact PyProof.Rows.mod_int' h ⟨Kp.tok _ _, .int ..⟩
  | powI a b h => obtain ⟨t, rfl⟩ := hu.int_inv; obtain ⟨t', rfl⟩ := hv.int_inv; exact PyProof.Rows.pow_int h.1 h.2.2.2 ⟨Kp.tok _ _, .int ..⟩

theorem Ev.bin {l r : Expr} {op : Operator} {p : Pos} {x y z : D} (hl : EvB prog w g₀ n env ρ l x) (hr : EvB prog w g₀ n env ρ r y) (h : BinR op x y z) : Ev prog w g₀ n env ρ (.BinOp l op r p) z :=
  fun A E Z vm s hA hS => wpAny_BinOp (Run.two (R := fun Z _ v s' => Rd prog w Z s'.heap v z) hA hS hl hr fun a s₁ b s₂ k₁ k₂ _ ha hb =>
    wpAny_mono (h.sound (ha.keep k₂.up) hb) (fun _ _ q => ⟨(k₁.trans k₂).trans q.1, q.2⟩) fun _ _ e => e)

end
end Mine

namespace Mine
open PySem

section
variable {prog : Program} {w : World} {g₀ : Heap} {n : Nat} {env : Env} {ρ : Store} {mg mb : Str → Option Value} {Z : List Addr}

theorem fresh_of {s s' : Shared} (k : Kp s s') : s.heap.get? s'.heap.objs.size = none := by
  cases e : s.heap.get? s'.heap.objs.size with
  | none => rfl
  | some o => exact absurd (Heap.lt_size (k.up _ _ e)) (Nat.lt_irrefl _)

/-- a new list -/
theorem own_new {s : Shared} {vs : List Value} {ds : List D} {t : Nat} (r : RdAll prog w Z s.heap vs ds) {s₀ : Shared} (k : Kp s₀ s) :
    ∃ as, OwnAt prog w (as ++ Z) (s.heap.push { cls := .type "list", data := .seq vs.toArray }) (.ref s.heap.objs.size) as (.lst ds) ∧ as.Nodup ∧ (∀ a ∈ as, s₀.heap.get? a = none) ∧ ∀ a ∈ as, ∃ o, (s.heap.push { cls := .type "list", data := .seq vs.toArray }).get? a = some o := by
  have hf : ∀ a ∈ [s.heap.objs.size], s.heap.get? a = none := fun a ha => by
    rw [List.mem_singleton.mp ha]; exact fresh_of (.refl s)
  have r' := (r.more hf).keep (h' := s.heap.push { cls := .type "list", data := .seq vs.toArray }) fun b o e => Heap.get?_push_of_some _ e
  refine ⟨[s.heap.objs.size], ⟨_, vs.toArray, rfl, rfl, ⟨0, Heap.get?_push_size _ rfl⟩, by simpa using r'⟩, by simp, fun a ha => ?_, fun a ha => ?_⟩
  · rw [List.mem_singleton.mp ha]; exact fresh_of k
  · rw [List.mem_singleton.mp ha]; exact ⟨_, Heap.get?_push_size _ rfl⟩

/-! ### several expressions in a row -/
theorem starEach_cons {e : Expr} {es : List Expr} (h : unstarred e = true) : starEach (e :: es) env = (false, eval e env) :: starEach es env := by
  cases e <;> first | rfl | exact absurd (show false = true from h) Bool.false_ne_true

theorem backTo_plain {p : Pos} : ∀ {es : List Expr}, es.all unstarred = true → backTo p (starEach es env) = starEach es env
  | [], _ => rfl
  | e :: es, h => by
    rw [List.all_cons, Bool.and_eq_true] at h
    rw [starEach_cons h.1]
    show (false, eval e env) :: backTo p (starEach es env) = _
    rw [backTo_plain h.2]
theorem EvAll.nil : EvAll prog w g₀ n env ρ [] [] := ⟨rfl, fun A E Z vm s _ _ => Calls.spliced_nil ⟨.refl _, .nil⟩⟩
theorem EvAll.cons {e : Expr} {es : List Expr} {d : D} {ds : List D} (x : Ev prog w g₀ n env ρ e d) (y : EvAll prog w g₀ n env ρ es ds) (h : unstarred e = true := by rfl) :
    EvAll prog w g₀ n env ρ (e :: es) (d :: ds) := ⟨by rw [List.all_cons, h, y.1]; rfl, fun A E Z vm s hA hS => by
  rw [starEach_cons h]
  refine Calls.spliced_cons (wpAny_mono (x A E Z vm s hA hS) (fun v s₁ h₁ => wpAny_mono (y.2 A E Z vm s₁ hA (hS.keep h₁.1)) (fun vs s₂ h₂ => ⟨h₁.1.trans h₂.1, .cons (h₁.2.keep h₂.1.up) h₂.2⟩) fun _ _ e => e) fun _ _ e => e)⟩
theorem EvBAll.nil : EvBAll prog w g₀ n env ρ [] [] := ⟨rfl, fun A E Z vm s _ _ => Calls.spliced_nil ⟨.refl _, .nil⟩⟩
theorem EvBAll.cons {e : Expr} {es : List Expr} {d : D} {ds : List D} (x : EvB prog w g₀ n env ρ e d) (y : EvBAll prog w g₀ n env ρ es ds) (h : unstarred e = true := by rfl) :
    EvBAll prog w g₀ n env ρ (e :: es) (d :: ds) := ⟨by rw [List.all_cons, h, y.1]; rfl, fun A E Z vm s hA hS => by
  rw [starEach_cons h]
  refine Calls.spliced_cons (wpAny_mono (x A E Z vm s hA hS) (fun v s₁ h₁ => wpAny_mono (y.2 A E Z vm s₁ hA (hS.keep h₁.1)) (fun vs s₂ h₂ => ⟨h₁.1.trans h₂.1, .cons (h₁.2.keep h₂.1.up) h₂.2⟩) fun _ _ e => e) fun _ _ e => e)⟩

/-! ### displays -/
theorem EvO.list {es : List Expr} {ds : List D} {p : Pos} (x : EvAll prog w g₀ n env ρ es ds) (hs : ds.length ≤ sizeLine := by simp [sizeLine]) : EvO prog w g₀ n env ρ (.List es p) (.lst ds) := fun A E Z vm s hA hS => by
  rw [PySem.arm_eval_List, backTo_plain x.1]
  refine wpAny_bind (wpAny_standAt (wpAny_bind (wpAny_mono (x.2 A E Z vm s hA hS) (fun vs s₁ h₁ => ?_) fun _ _ e => e)))
  refine wpAny_newObj_type ⟨h₁.1.trans (Kp.push _ _ _), own_new (t := 0) h₁.2 h₁.1⟩ ?_
  show vs.toArray.size ≤ sizeLine
  rw [List.size_toArray, h₁.2.length]; exact hs
theorem Ev.tuple {es : List Expr} {ds : List D} {k : Nat} {p : Pos} (x : EvAll prog w g₀ n env ρ es ds) (hs : ds.length ≤ sizeLine := by simp [sizeLine]) : Ev prog w g₀ n env ρ (.Tuple es k p) (.tup ds) := fun A E Z vm s hA hS => by
  rw [PySem.arm_eval_Tuple, backTo_plain x.1]
  refine wpAny_bind (wpAny_standAt (wpAny_bind (wpAny_mono (x.2 A E Z vm s hA hS) (fun vs s₁ h₁ => ?_) fun _ _ e => e)))
  refine wpAny_newObj_type ⟨h₁.1.trans (Kp.push _ _ _), .tup (a := s₁.heap.objs.size) (vs := vs.toArray) ?_ ⟨_, Heap.get?_push_size _ rfl, rfl, 0, rfl⟩ ?_⟩ ?_
  · intro hm
    obtain ⟨o, e⟩ := hS.alive _ hm
    exact absurd (Heap.lt_size (h₁.1.up _ _ e)) (Nat.lt_irrefl _)
  · simpa using h₁.2.keep fun b o e => Heap.get?_push_of_some _ e
  · show vs.toArray.size ≤ sizeLine
    rw [List.size_toArray, h₁.2.length]; exact hs

/-! ### lists and tuples joined -/
theorem EvO.addL {l r : Expr} {p : Pos} {xs ys : List D} (hl : EvB prog w g₀ n env ρ l (.lst xs)) (hr : EvB prog w g₀ n env ρ r (.lst ys)) (hs : xs.length + ys.length ≤ sizeLine) :
    EvO prog w g₀ n env ρ (.BinOp l .Add r p) (.lst (xs ++ ys)) := fun A E Z vm s hA hS =>
  wpAny_BinOp (Run.two (R := fun Z s v s' => ∃ as, OwnAt prog w (as ++ Z) s'.heap v as (.lst (xs ++ ys)) ∧ as.Nodup ∧ (∀ a ∈ as, s.heap.get? a = none) ∧ ∀ a ∈ as, ∃ o, s'.heap.get? a = some o) hA hS hl hr fun u s₁ v s₂ k₁ k₂ _ ha hb => by
    obtain ⟨l, vs, rfl, hl, rl⟩ := (ha.keep k₂.up).lst_inv
    obtain ⟨b, ws, rfl, hb, rb⟩ := hb.lst_inv
    obtain ⟨⟨cls, dd, data, sl⟩, ho, hc, n, hd⟩ := id hl
    obtain ⟨⟨cls2, dd2, data2, sl2⟩, ho2, hc2, n2, hd2⟩ := id hb
    simp only at hc hd hc2 hd2
    subst hc hd hc2 hd2
    have e1 := rl.length
    have e2 := rb.length
    have o := own_new (t := 0) (rl.append rb) (k₁.trans k₂)
    refine concat_meets ⟨_, ho, rfl⟩ ⟨_, ho2, rfl⟩ noFill_list_add seq_list_add PySem.F.slot_list_add PySem.F.entry_list_add (PySem.F.args_list_add_2 _ _)
      (PyProof.Rows.list_addW l b vs ws n n2 dd dd2 sl sl2 (by simp only [Array.length_toList] at e1 e2; omega)) ⟨ho, ho2, ?_⟩
    have ev : (vs.toList ++ ws.toList).toArray = vs ++ ws := by simp
    rw [ev] at o
    exact ⟨(k₁.trans k₂).trans (Kp.push _ _ _), o⟩)

theorem isTuple_new {s : Shared} {vs : List Value} {ds : List D} (r : RdAll prog w Z s.heap vs ds) (hz : ∀ a ∈ Z, ∃ o, s.heap.get? a = some o) :
    Rd prog w Z (s.heap.push { cls := .type "tuple", data := .seq vs.toArray }) (.ref s.heap.objs.size) (.tup ds) := by
  refine .tup (vs := vs.toArray) (fun hm => ?_) ⟨_, Heap.get?_push_size _ rfl, rfl, 0, rfl⟩ (by simpa using r.keep fun b o e => Heap.get?_push_of_some _ e)
  obtain ⟨o, e⟩ := hz _ hm
  exact absurd (Heap.lt_size e) (Nat.lt_irrefl _)

theorem Ev.addT {l r : Expr} {p : Pos} {xs ys : List D} (hl : Ev prog w g₀ n env ρ l (.tup xs)) (hr : Ev prog w g₀ n env ρ r (.tup ys)) (hx : xs.isEmpty = false ∧ ys.isEmpty = false) (hs : xs.length + ys.length ≤ sizeLine) :
    Ev prog w g₀ n env ρ (.BinOp l .Add r p) (.tup (xs ++ ys)) := fun A E Z vm s hA hS =>
  wpAny_BinOp (Run.two (R := fun Z s v s' => Rd prog w Z s'.heap v (.tup (xs ++ ys))) hA hS hl hr fun u s₁ v s₂ k₁ k₂ hS₂ ha hb => by
    obtain ⟨l, vs, rfl, hl, rl⟩ := (RdB.free (ha.keep k₂.up)).tup_inv
    obtain ⟨b, ws, rfl, hb, rb⟩ := (RdB.free hb).tup_inv
    obtain ⟨⟨cls, dd, data, sl⟩, ho, hc, n, hd⟩ := id hl
    obtain ⟨⟨cls2, dd2, data2, sl2⟩, ho2, hc2, n2, hd2⟩ := id hb
    simp only at hc hd hc2 hd2
    subst hc hd hc2 hd2
    have e1 := rl.length
    have e2 := rb.length
    simp only [Array.length_toList] at e1 e2
    have o := isTuple_new (rl.append rb) hS₂.alive
    have q1 : ¬ vs.isEmpty = true := by
      intro h; simp at h; subst h; simp at e1; cases xs <;> simp_all
    have q2 : ¬ ws.isEmpty = true := by
      intro h; simp at h; subst h; simp at e2; cases ys <;> simp_all
    refine concat_meets ⟨_, ho, rfl⟩ ⟨_, ho2, rfl⟩ noFill_tuple_add seq_tuple_add PySem.F.slot_tuple_add PySem.F.entry_tuple_add (PySem.F.args_tuple_add_2 _ _)
      (PyProof.Rows.tuple_addW2 l b vs ws n n2 dd dd2 sl sl2 q1 q2 (by omega)) ⟨ho, ho2, ?_⟩
    have ev : (vs.toList ++ ws.toList).toArray = vs ++ ws := by simp
    rw [ev] at o
    exact ⟨(k₁.trans k₂).trans (Kp.push _ _ _), o⟩)

/-! ### minus, comparisons -/
theorem Ev.neg {e : Expr} {p : Pos} {i : Int} (x : EvB prog w g₀ n env ρ e (.int i)) : Ev prog w g₀ n env ρ (.UnaryOp .USub e p) (.int (-i)) := fun A E Z vm s hA hS => by
  show wpAny _ _ (do let v ← eval e env; standAt p; holding [v] (unaryOp .USub v)) _ _ _
  refine wpAny_bind (wpAny_mono (x A E Z vm s hA hS) (fun v s₁ h₁ => wpAny_bind (wpAny_standAt (wpAny_holding ?_))) fun _ _ e => e)
  obtain ⟨t, rfl⟩ := h₁.2.int_inv
  exact PyProof.Rows.neg_int ⟨h₁.1.trans (Kp.tok _ _), .int ..⟩

def nums (is : List Int) : List D := is.map .int
def occurs (x y : Str) : Bool := !(Builtin.Str.occurrences x y 0 x.length 1).isEmpty

inductive CmpR : CmpOp → D → D → Bool → Prop
  | ltI (a b : Int) : CmpR .Lt (.int a) (.int b) (decide (a < b))
  | geI (a b : Int) : CmpR .GtE (.int a) (.int b) (decide (b ≤ a))
  | gtI (a b : Int) : CmpR .Gt (.int a) (.int b) (decide (b < a))
  | eqI (a b : Int) : CmpR .Eq (.int a) (.int b) (a == b)
  | eqS (a b : Str) : CmpR .Eq (.str a) (.str b) (a == b)
  | neS (a b : Str) : CmpR .NotEq (.str a) (.str b) (a != b)
  | neI (a b : Int) : CmpR .NotEq (.int a) (.int b) (a != b)
  | inS (a b : Str) : CmpR .In (.str a) (.str b) (occurs b a)
  | ninS (a b : Str) : CmpR .NotIn (.str a) (.str b) (!occurs b a)
  | isn (a b : Bool) : CmpR .IsNot (.bool a) (.bool b) (a != b)
  | eqL (a b : List Int) : CmpR .Eq (.lst (nums a)) (.lst (nums b)) (a == b)
  | ninL (a : List Int) (bs : List (List Int)) : CmpR .NotIn (.lst (nums a)) (.lst (bs.map fun b => .lst (nums b))) (!bs.contains a)

theorem Rd.nums_inv {h : Heap} : ∀ {vs : List Value} {is : List Int}, RdAll prog w Z h vs (nums is) → ReadsAll h vs (is.map .int) []
  | _, [], r => by cases r; exact .nil
  | _, i :: is, r => by
    cases r with
    | cons a b =>
      obtain ⟨t, rfl⟩ := a.int_inv
      exact ReadsAll.cons (.int i t) (Rd.nums_inv b)
theorem canLay_nums : ∀ is : List Int, PyData.canLayAll0 (is.map .int) = true
  | [] => rfl
  | i :: is => by simp [PyData.canLayAll0, PyData.canLay0, canLay_nums is]
theorem depth_nums : ∀ is : List Int, PyData.depthAll (is.map .int) = 0
  | [] => rfl
  | i :: is => by simp [PyData.depthAll, PyData.depth, depth_nums is]
theorem eqv_nums : ∀ is js : List Int, PyData.eqvAll (is.map .int) (js.map .int) = (is == js)
  | [], [] => rfl
  | [], _ :: _ => rfl
  | _ :: _, [] => rfl
  | i :: is, j :: js => by simp only [List.map_cons, PyData.eqvAll, PyData.eqv, eqv_nums is js]; rfl
theorem shaped_nums (is : List Int) : SeqAt.shaped (.list (is.map .int)) = true := by
  simp [SeqAt.shaped, PyData.canLay0, canLay_nums, PyData.depth, depth_nums]
theorem IsList.reads {h : Heap} {a : Addr} {vs : Array Value} {xs : List PyData} {as : List Addr} (l : h.IsList a vs) (r : ReadsAll h vs.toList xs as) : Reads h (.ref a) (.list xs) (a :: as) := by
  obtain ⟨o, ho, hc, n, hd⟩ := l
  exact .list ho hc hd r
theorem Rd.numss_inv {h : Heap} : ∀ {vs : List Value} {bs : List (List Int)}, RdAll prog w Z h vs (bs.map fun b => .lst (nums b)) → ∃ as, ReadsAll h vs (bs.map fun b => .list (b.map .int)) as
  | _, [], r => by cases r; exact ⟨_, .nil⟩
  | _, b :: bs, r => by
    cases r with
    | cons x y =>
      obtain ⟨a, vs, rfl, l, r⟩ := (RdB.free x).lst_inv
      obtain ⟨as, q⟩ := Rd.numss_inv y
      exact ⟨_, .cons (IsList.reads l (Rd.nums_inv r)) q⟩
theorem canLay_numss : ∀ bs : List (List Int), PyData.canLayAll0 (bs.map fun b => .list (b.map .int)) = true
  | [] => rfl
  | b :: bs => by simp [PyData.canLayAll0, PyData.canLay0, canLay_nums, canLay_numss bs]
theorem any_numss (a : List Int) : ∀ bs : List (List Int), ((bs.map fun b => PyData.list (b.map .int)).any fun y => PyData.eqv y (.list (a.map .int))) = bs.contains a
  | [] => rfl
  | b :: bs => by
    have := any_numss a bs
    have e : (b == a) = (a == b) := by
      rw [Bool.eq_iff_iff]
      constructor <;> intro h <;> (have := eq_of_beq h; subst this; exact beq_self_eq_true _)
    rw [List.map_cons, List.any_cons, this, PyData.eqv, eqv_nums, List.contains_cons, e]

theorem CmpR.sound {op : CmpOp} {x y : D} {b : Bool} (r : CmpR op x y b) {A : Around} (hA : Lv n A) {E : Value → Shared → Prop} {s : Shared} {u v : Value} (hu : RdB prog w Z s.heap u x) (hv : RdB prog w Z s.heap v y) :
    wpAny (model prog w) A (compareOp op u v) (fun c s' => Kp s s' ∧ c = .bool b) E s := by
  cases r with
  | ltI a b => obtain ⟨t, rfl⟩ := hu.int_inv; obtain ⟨t', rfl⟩ := hv.int_inv; exact PyProof.Rows.lt_int ⟨.refl _, rfl⟩
  | geI a b => obtain ⟨t, rfl⟩ := hu.int_inv; obtain ⟨t', rfl⟩ := hv.int_inv; exact PyProof.Rows.ge_int ⟨.refl _, rfl⟩
  | gtI a b => obtain ⟨t, rfl⟩ := hu.int_inv; obtain ⟨t', rfl⟩ := hv.int_inv; exact PyProof.Rows.gt_int ⟨.refl _, rfl⟩
  | eqI a b => obtain ⟨t, rfl⟩ := hu.int_inv; obtain ⟨t', rfl⟩ := hv.int_inv; exact PyProof.Rows.eq_int ⟨.refl _, rfl⟩
  | eqS a b => obtain ⟨t, rfl⟩ := hu.str_inv; obtain ⟨t', rfl⟩ := hv.str_inv; exact PyProof.Rows.eq_str ⟨.refl _, rfl⟩
  | neS a b => obtain ⟨t, rfl⟩ := hu.str_inv; obtain ⟨t', rfl⟩ := hv.str_inv; exact PyProof.Rows.ne_str ⟨.refl _, rfl⟩
  | neI a b => obtain ⟨t, rfl⟩ := hu.int_inv; obtain ⟨t', rfl⟩ := hv.int_inv; exact PyProof.Rows.ne_int ⟨.refl _, rfl⟩
  | inS a b => obtain ⟨t, rfl⟩ := hu.str_inv; obtain ⟨t', rfl⟩ := hv.str_inv; exact PyProof.Rows.in_str ⟨.refl _, rfl⟩
  | ninS a b => obtain ⟨t, rfl⟩ := hu.str_inv; obtain ⟨t', rfl⟩ := hv.str_inv; exact PyProof.Rows.notIn_str ⟨.refl _, rfl⟩
  | isn a b => obtain rfl := hu.bool_inv; obtain rfl := hv.bool_inv; exact PyProof.Rows.isnot_bool ⟨.refl _, rfl⟩
  | eqL a b =>
    obtain ⟨p, vs, rfl, l, r⟩ := hu.lst_inv
    obtain ⟨q, ws, rfl, l', r'⟩ := hv.lst_inv
    refine PyProof.Rows.eq_dataH (IsList.reads l (Rd.nums_inv r)) (IsList.reads l' (Rd.nums_inv r')) (shaped_nums a) (shaped_nums b) hA.units ⟨.refl _, ?_⟩
    rw [PyData.eqv, eqv_nums]
  | ninL a bs =>
    obtain ⟨p, vs, rfl, l, r⟩ := hu.lst_inv
    obtain ⟨q, ws, rfl, l', r'⟩ := hv.lst_inv
    obtain ⟨as, r'⟩ := Rd.numss_inv r'
    refine SeqAt.notIn_list_reads (IsList.reads l' r') (IsList.reads l (Rd.nums_inv r)) (canLay_numss bs) (by simp [PyData.canLay0, canLay_nums]) ?_ ⟨.refl _, ?_⟩
    · have := hA.units
      have := Nat.min_le_right (PyData.depthAll (bs.map fun b => PyData.list (b.map .int))) (PyData.list (a.map .int)).depth
      have e : (PyData.list (a.map .int)).depth = 1 := by simp [PyData.depth, depth_nums]
      omega
    · rw [any_numss]

theorem Ev.cmp {l r : Expr} {op : CmpOp} {p : Pos} {x y : D} {b : Bool} (hl : EvB prog w g₀ n env ρ l x) (hr : EvB prog w g₀ n env ρ r y) (h : CmpR op x y b) (hm : behindInMarks op r = false := by with_unfolding_all rfl) :
    Ev prog w g₀ n env ρ (.Compare l [op] [r] p) (.bool b) := fun A E Z vm s hA hS =>
  wpAny_Compare1 (Run.two (R := fun Z _ v s' => Rd prog w Z s'.heap v (.bool b)) hA hS hl hr fun a s₁ c s₂ k₁ k₂ _ ha hb =>
    wpAny_mono (h.sound hA (ha.keep k₂.up) hb) (fun _ _ q => ⟨(k₁.trans k₂).trans q.1, q.2 ▸ .bool b⟩) fun _ _ e => e) hm
theorem Tst.cmp {l r : Expr} {op : CmpOp} {p : Pos} {x y : D} {b : Bool} (hl : EvB prog w g₀ n env ρ l x) (hr : EvB prog w g₀ n env ρ r y) (h : CmpR op x y b) (hm : behindInMarks op r = false := by with_unfolding_all rfl) :
    Tst prog w g₀ n env ρ (.Compare l [op] [r] p) b := fun A E Z vm s hA hS =>
  wpAny_isTrue_Compare1 (wpAny_mono (hl A E Z vm s hA hS) (fun a s₁ ha => wpAny_mono (hr A E Z vm s₁ hA (hS.keep ha.1)) (fun c s₂ hc =>
    wpAny_mono (h.sound hA (ha.2.keep hc.1.up) hc.2) (fun v s₃ q => by obtain ⟨k, rfl⟩ := q; exact wpAny_truthy_bool ⟨(ha.1.trans hc.1).trans k, rfl⟩) fun _ _ e => e) fun _ _ e => e) fun _ _ e => e) hm

/-- a test that is a plain value -/
theorem Tst.val {e : Expr} {b : Bool} (x : Ev prog w g₀ n env ρ e (.bool b)) (he : isTrue e env (eval e env) = (do let v ← eval e env; standAt e.pos; holding [v] (truthy v)) := by rfl) :
    Tst prog w g₀ n env ρ e b := fun A E Z vm s hA hS =>
  PyProof.Rows.isTrue_plain (wpAny_mono (x A E Z vm s hA hS) (fun v s₁ h => by obtain rfl := h.2.bool_inv; exact wpAny_truthy_bool ⟨h.1, rfl⟩) fun _ _ e => e) he
theorem Tst.not {e : Expr} {b : Bool} {p : Pos} (x : Tst prog w g₀ n env ρ e b) : Tst prog w g₀ n env ρ (.UnaryOp .Not e p) (!b) := fun A E Z vm s hA hS =>
  PyProof.Rows.isTrue_not (wpAny_mono (x A E Z vm s hA hS) (fun v s₁ h => ⟨h.1, by rw [h.2]⟩) fun _ _ e => e)

theorem Tst.or2 {e f : Expr} {b : Bool} {p : Pos} {b' : Bool} (x : Tst prog w g₀ n env ρ e b) (y : b = false → Tst prog w g₀ n env ρ f b') : Tst prog w g₀ n env ρ (.BoolOp .Or [e, f] p) (b || b') := fun A E Z vm s hA hS => by
  refine PyProof.Rows.isTrue_or (wpAny_mono (x A E Z vm s hA hS) (fun v s₁ h => ?_) fun _ _ e => e)
  obtain ⟨k, rfl⟩ := h
  cases v with
  | true => exact ⟨k, rfl⟩
  | false =>
    simp only [Bool.false_eq_true, if_false]
    refine PyProof.Rows.isTrue_or (wpAny_mono (y rfl A E Z vm s₁ hA (hS.keep k)) (fun v s₂ h => ?_) fun _ _ e => e)
    obtain ⟨k', rfl⟩ := h
    cases v with
    | true => exact ⟨k.trans k', rfl⟩
    | false => exact PyProof.Rows.isTrue_or_nil ⟨k.trans k', rfl⟩
theorem Tst.or3 {e f h : Expr} {b : Bool} {p : Pos} {b' b'' : Bool} (x : Tst prog w g₀ n env ρ e b) (y : b = false → Tst prog w g₀ n env ρ f b') (z : b = false → b' = false → Tst prog w g₀ n env ρ h b'') :
    Tst prog w g₀ n env ρ (.BoolOp .Or [e, f, h] p) (b || b' || b'') := fun A E Z vm s hA hS => by
  refine PyProof.Rows.isTrue_or (wpAny_mono (x A E Z vm s hA hS) (fun v s₁ h => ?_) fun _ _ e => e)
  obtain ⟨k, rfl⟩ := h
  cases v with
  | true => exact ⟨k, rfl⟩
  | false =>
    simp only [Bool.false_eq_true, if_false]
    refine PyProof.Rows.isTrue_or (wpAny_mono (y rfl A E Z vm s₁ hA (hS.keep k)) (fun v s₂ h => ?_) fun _ _ e => e)
    obtain ⟨k', rfl⟩ := h
    cases v with
    | true => exact ⟨k.trans k', rfl⟩
    | false =>
      simp only [Bool.false_eq_true, if_false]
      refine PyProof.Rows.isTrue_or (wpAny_mono (z rfl rfl A E Z vm s₂ hA (hS.keep (k.trans k'))) (fun v s₃ h => ?_) fun _ _ e => e)
      obtain ⟨k'', rfl⟩ := h
      cases v with
      | true => exact ⟨(k.trans k').trans k'', rfl⟩
      | false => exact PyProof.Rows.isTrue_or_nil ⟨(k.trans k').trans k'', rfl⟩

/-- e and f, as a value -/
theorem Ev.and2 {e f : Expr} {p : Pos} {b b' : Bool} (x : Ev prog w g₀ n env ρ e (.bool b)) (y : b = true → Ev prog w g₀ n env ρ f (.bool b')) : Ev prog w g₀ n env ρ (.BoolOp .And [e, f] p) (.bool (b && b')) := fun A E Z vm s hA hS => by
  show wpAny _ _ (do let v ← eval e env; standAt p; let t ← holding [v] (truthy v); match BoolOp.And, t with | .And, false | .Or, true => pure v | _, _ => boolOp p .And [eval f env]) _ _ _
  refine wpAny_bind (wpAny_mono (x A E Z vm s hA hS) (fun v s₁ h => wpAny_bind (wpAny_standAt (wpAny_bind (wpAny_holding ?_)))) fun _ _ e => e)
  obtain ⟨k, h⟩ := h
  obtain rfl := h.bool_inv
  refine wpAny_truthy_bool ?_
  cases b with
  | false => exact wpAny_pure ⟨k, .bool _⟩
  | true => exact wpAny_mono (y rfl A E Z vm s₁ hA (hS.keep k)) (fun v s₂ h => ⟨k.trans h.1, h.2⟩) fun _ _ e => e

theorem Ev.ite {t e f : Expr} {p : Pos} {b : Bool} {d : D} (x : Tst prog w g₀ n env ρ t b) (y : if b = true then Ev prog w g₀ n env ρ e d else Ev prog w g₀ n env ρ f d) : Ev prog w g₀ n env ρ (.IfExp t e f p) d := fun A E Z vm s hA hS => by
  refine wpAny_IfExp (wpAny_mono (x A E Z vm s hA hS) (fun v s₁ h => ?_) fun _ _ e => e)
  obtain ⟨k, rfl⟩ := h
  cases v with
  | true => exact wpAny_mono ((if_pos rfl ▸ y) A E Z vm s₁ hA (hS.keep k)) (fun v s₂ h => ⟨k.trans h.1, h.2⟩) fun _ _ e => e
  | false => exact wpAny_mono ((if_neg Bool.false_ne_true ▸ y) A E Z vm s₁ hA (hS.keep k)) (fun v s₂ h => ⟨k.trans h.1, h.2⟩) fun _ _ e => e
end

end Mine

namespace Mine
open PySem

section
variable {prog : Program} {w : World} {g₀ : Heap} {n : Nat} {env : Env} {ρ : Store} {mg mb : Str → Option Value} {Z : List Addr}

def look {K : Type} [DecidableEq K] (kds : List (K × D)) (k : K) : Option D := (kds.find? fun kv => kv.1 = k).map (·.2)

theorem look_value {K : Type} [DecidableEq K] {h : Heap} {k : K} {d : D} : ∀ {kvs : List (K × Value)} {kds : List (K × D)}, kvs.map (·.1) = kds.map (·.1) → RdAll prog w Z h (kvs.map (·.2)) (kds.map (·.2)) → look kds k = some d →
    ∃ v, valueAt kvs k = some v ∧ Rd prog w Z h v d
  | [], [], _, _, e => by simp [look] at e
  | [], _ :: _, q, _, _ => by simp at q
  | _ :: _, [], q, _, _ => by simp at q
  | kv :: kvs, kd :: kds, q, r, e => by
    simp only [List.map_cons, List.cons.injEq] at q
    cases r with
    | cons a b =>
      unfold look at e
      unfold valueAt
      rw [List.find?_cons] at e ⊢
      by_cases hk : kd.1 = k
      · simp only [hk, decide_true, Option.map_some, Option.some.injEq] at e
        subst e
        simp only [q.1, hk, decide_true, Option.map_some]
        exact ⟨_, rfl, a⟩
      · simp only [hk, decide_false] at e
        simp only [q.1, hk, decide_false]
        exact look_value q.2 b e
theorem look_none {K : Type} [DecidableEq K] {k : K} : ∀ {kvs : List (K × Value)} {kds : List (K × D)}, kvs.map (·.1) = kds.map (·.1) → look kds k = none → valueAt kvs k = none
  | [], [], _, e => rfl
  | [], _ :: _, q, _ => by simp at q
  | _ :: _, [], q, _ => by simp at q
  | kv :: kvs, kd :: kds, q, e => by
    simp only [List.map_cons, List.cons.injEq] at q
    unfold look at e
    unfold valueAt
    rw [List.find?_cons] at e ⊢
    by_cases hk : kd.1 = k
    · simp [hk] at e
    · simp only [hk, decide_false] at e
      simp only [q.1, hk, decide_false]
      exact look_none q.2 e

/-! ### an item -/
inductive SubR : D → D → D → Prop
  | lst (ds : List D) (k : Int) (d : D) (h : 0 ≤ k ∧ k < 2 ^ 63) (e : ds[k.toNat]? = some d) : SubR (.lst ds) (.int k) d
  | lstNeg (ds : List D) (k : Int) (d : D) (h : k < 0 ∧ -(ds.length : Int) ≤ k ∧ -(2 ^ 63) ≤ k) (e : ds[(k + ds.length).toNat]? = some d) : SubR (.lst ds) (.int k) d
  | tup (ds : List D) (k : Int) (d : D) (h : 0 ≤ k ∧ k < 2 ^ 63) (e : ds[k.toNat]? = some d) : SubR (.tup ds) (.int k) d
  | str (x : Str) (k : Int) (c : Nat) (h : 0 ≤ k ∧ k < 2 ^ 63) (e : x.cps[k.toNat]? = some c) : SubR (.str x) (.int k) (.str ⟨#[c]⟩)
  | idict (kds : List (Int × D)) (k : Int) (d : D) (e : look kds k = some d) : SubR (.idict kds) (.int k) d
  | sdict (kds : List (Str × D)) (k : Str) (d : D) (e : look kds k = some d) : SubR (.sdict kds) (.str k) d

theorem seqIndex_nonneg {k : Int} {m : Nat} (h0 : 0 ≤ k) (h : k.toNat < m) : seqIndex? k m = some k.toNat := by
  unfold seqIndex?
  have h1 : ¬ k < 0 := by omega
  have h2 : k < (m : Int) := by omega
  simp [h1, h0, h2]

theorem RdB.idict_inv {h : Heap} {v : Value} {kds : List (Int × D)} (x : RdB prog w Z h v (.idict kds)) :
    ∃ a kvs, v = .ref a ∧ (a == sysModules) = false ∧ h.DictOf (intKind prog w) a kvs ∧ kvs.map (·.1) = kds.map (·.1) ∧ RdAll prog w Z h (kvs.map (·.2)) (kds.map (·.2)) := by
  cases x with
  | free x => cases x with | idict ne l e r => exact ⟨_, _, rfl, ne.2, l, e, r⟩
  | idict ne l e r => exact ⟨_, _, rfl, ne, l, e, r⟩
theorem RdB.sdict_inv {h : Heap} {v : Value} {kds : List (Str × D)} (x : RdB prog w Z h v (.sdict kds)) :
    ∃ a kvs, v = .ref a ∧ (a == sysModules) = false ∧ h.DictOf (strKind prog w) a kvs ∧ kvs.map (·.1) = kds.map (·.1) ∧ RdAll prog w Z h (kvs.map (·.2)) (kds.map (·.2)) := by
  cases x with
  | free x => cases x with | sdict ne l e r => exact ⟨_, _, rfl, ne.2, l, e, r⟩
  | sdict ne l e r => exact ⟨_, _, rfl, ne, l, e, r⟩

theorem SubR.sound {x k d : D} (r : SubR x k d) {A : Around} {E : Value → Shared → Prop} {s₀ s : Shared} (hk : Kp s₀ s) {u v : Value} (hu : RdB prog w Z s.heap u x) (hv : RdB prog w Z s.heap v k) :
    ∃ T id, s.TypeIs u T ∧ typeLookup (.type T) "__getitem__" = pure (some (.builtin id)) ∧ wpAny (model prog w) A (getItem u v) (fun c s' => Kp s₀ s' ∧ Rd prog w Z s'.heap c d) E s := by
  cases r with
  | lst ds k d h e =>
    obtain ⟨a, vs, rfl, l, r⟩ := hu.lst_inv
    obtain ⟨t, rfl⟩ := hv.int_inv
    obtain ⟨v, hv, rv⟩ := r.get e
    exact ⟨_, _, l.typeIs, slot_list_getitem.lookup, wpAny_getItem_list l h.1 h.2 (by simpa using hv) ⟨hk, rv⟩⟩
  | lstNeg ds k d h e =>
    obtain ⟨a, vs, rfl, l, r⟩ := hu.lst_inv
    obtain ⟨t, rfl⟩ := hv.int_inv
    obtain ⟨v, hv, rv⟩ := r.get e
    have hl := r.length
    simp only [Array.length_toList] at hl
    exact ⟨_, _, l.typeIs, slot_list_getitem.lookup, wpAny_getItem_list_neg l h.1 (by rw [hl]; exact h.2.1) h.2.2 (by rw [hl]; simpa using hv) ⟨hk, rv⟩⟩
  | tup ds k d h e =>
    obtain ⟨a, vs, rfl, l, r⟩ := hu.tup_inv
    obtain ⟨t, rfl⟩ := hv.int_inv
    obtain ⟨v, hv, rv⟩ := r.get e
    have hl := r.length
    simp only [Array.length_toList] at hl
    have hlt : k.toNat < vs.size := by rw [hl]; exact (List.getElem?_eq_some_iff.mp e).1
    refine ⟨"tuple", _, (show _ from let ⟨o, ho, hc, _⟩ := l; ⟨o, ho, hc⟩), PyProof.Rows.slot_tuple_getitem.lookup, PyProof.Rows.getItem_tuple l (by omega) h.2 (seqIndex_nonneg h.1 hlt) (by simpa using hv) ⟨hk, rv⟩⟩
  | str x k c h e =>
    obtain ⟨t, rfl⟩ := hu.str_inv
    obtain ⟨t', rfl⟩ := hv.int_inv
    have hlt : k.toNat < x.length := (Array.getElem?_eq_some_iff.mp e).1
    refine ⟨"str", _, typeIs_str s x t, PyProof.Rows.slot_str_getitem.lookup, PyProof.Rows.getItem_str (c := c) ?_ ?_ ⟨hk.trans (Kp.tok _ _), .str ..⟩⟩
    · simp; omega
    · rw [seqIndex_nonneg h.1 hlt]; exact e
  | idict kds k d e =>
    obtain ⟨a, kvs, rfl, ne, l, q, r⟩ := hu.idict_inv
    obtain ⟨t, rfl⟩ := hv.int_inv
    obtain ⟨v, hv, rv⟩ := look_value q r e
    exact ⟨_, _, l.typeIs, slot_dict_getitem.lookup, wpAny_getItem_of (knd := intKind prog w) (intKind_is prog w k t) l.mapOf hv ⟨hk.trans (Kp.tok _ _), rv⟩⟩
  | sdict kds k d e =>
    obtain ⟨a, kvs, rfl, ne, l, q, r⟩ := hu.sdict_inv
    obtain ⟨t, rfl⟩ := hv.str_inv
    obtain ⟨v, hv, rv⟩ := look_value q r e
    exact ⟨_, _, l.typeIs, slot_dict_getitem.lookup, wpAny_getItem_of (knd := strKind prog w) (strKind_is prog w k t) l.mapOf hv ⟨hk.trans (Kp.tok _ _), rv⟩⟩

theorem Ev.sub {o i : Expr} {p : Pos} {x k d : D} (ho : EvB prog w g₀ n env ρ o x) (hi : EvB prog w g₀ n env ρ i k) (h : SubR x k d)
    (hs : ∀ a b, subscripted i false a b = operate [a, b] (getItem a b) := by intro _ _; with_unfolding_all rfl) : Ev prog w g₀ n env ρ (.Subscript o i p) d := fun A E Z vm s hA hS => by
  refine PyProof.Rows.Subscript_ (wpAny_mono (ho A E Z vm s hA hS) (fun u s₁ h₁ => wpAny_mono (hi A E Z vm s₁ hA (hS.keep h₁.1)) (fun v s₂ h₂ => ?_) fun _ _ e => e) fun _ _ e => e)
  obtain ⟨T, id, hT, hl, hg⟩ := h.sound (A := A) (E := E) (h₁.1.trans h₂.1) (h₁.2.keep h₂.1.up) h₂.2
  exact PyProof.Rows.tail_any hT hl hg (hs u v)

/-! ### slices: lists and texts, by ones -/
def cutL {α : Type} (xs : List α) (lo hi : Option Int) : List α :=
  (xs.drop (lo.elim 0 (clipAt xs.length))).take (hi.elim xs.length (clipAt xs.length) - lo.elim 0 (clipAt xs.length))

/-- a bound of a slice -/
inductive EvPart (prog : Program) (w : World) (g₀ : Heap) (n : Nat) (env : Env) (ρ : Store) : Option Expr → Option Int → Prop
  | no : EvPart prog w g₀ n env ρ none none
  | yes {e : Expr} {i : Int} (x : EvB prog w g₀ n env ρ e (.int i)) : EvPart prog w g₀ n env ρ (some e) (some i)

theorem EvPart.run {e : Option Expr} {i : Option Int} (x : EvPart prog w g₀ n env ρ e i) :
    Run prog w g₀ n env ρ (evalPart e env) fun _ _ v _ => IsPart v i ∧ ∃ t : Option (Int × Tok), t.map (·.1) = i ∧ v = partValue t := fun A E Z vm s hA hS => by
  cases x with
  | no => exact wpAny_pure ⟨.refl _, .none, Option.none, rfl, rfl⟩
  | yes x =>
    refine wpAny_mono (x A E Z vm s hA hS) (fun v s' h => ?_) fun _ _ e => e
    obtain ⟨t, rfl⟩ := h.2.int_inv
    exact ⟨h.1, .int _ t, Option.some (_, t), rfl, rfl⟩

theorem subscripted_slice {l u : Option Expr} {p : Pos} {a b : Value} : subscripted (.Slice l u none p) false a b = operate [b, a] (getItem a b) := rfl

theorem EvO.cut {o : Expr} {lo hi : Option Expr} {p q : Pos} {ds : List D} {i j : Option Int} (ho : EvB prog w g₀ n env ρ o (.lst ds)) (hl : EvPart prog w g₀ n env ρ lo i) (hu : EvPart prog w g₀ n env ρ hi j)
    (hs : ds.length ≤ sizeLine) : EvO prog w g₀ n env ρ (.Subscript o (.Slice lo hi none p) q) (.lst (cutL ds i j)) := fun A E Z vm s hA hS => by
  refine PyProof.Rows.Subscript_ (wpAny_mono (ho A E Z vm s hA hS) (fun u s₁ h₁ => wpAny_Slice (wpAny_mono (hl.run A E Z vm s₁ hA (hS.keep h₁.1)) (fun v s₂ h₂ => wpAny_mono (hu.run A E Z vm s₂ hA (hS.keep (h₁.1.trans h₂.1))) (fun v' s₃ h₃ => ?_) fun _ _ e => e) fun _ _ e => e)) fun _ _ e => e)
  obtain ⟨a, vs, rfl, l, r⟩ := (h₁.2.keep (h₂.1.trans h₃.1).up).lst_inv
  rw [evalPart_none]
  refine wpAny_pure ?_
  have len := r.length
  simp only [Array.length_toList] at len
  have k : Kp s { s₃ with heap := s₃.heap.push { cls := .type "slice", data := .fields #[v, v', .none] } } := ((h₁.1.trans h₂.1).trans h₃.1).trans (Kp.push s₃ _ _)
  refine PyProof.Rows.tail_any (l.push _).typeIs slot_list_getitem.lookup (wpAny_getItem_list_slice (l.push _) (Heap.IsSliceOf.new ..) h₂.2.1 h₃.2.1 .none (by simp) ?_ (by omega)) subscripted_slice
  refine ⟨k.trans (Kp.push _ _ _), ?_⟩
  have r' : RdAll prog w Z (s₃.heap.push { cls := .type "slice", data := .fields #[v, v', .none] }) ((vs.toList.drop (i.elim 0 (clipAt ds.length))).take (j.elim ds.length (clipAt ds.length) - i.elim 0 (clipAt ds.length))) (cutL ds i j) :=
    ((r.drop _).take _).keep fun b o e => Heap.get?_push_of_some _ e
  have o := own_new (s := { s₃ with heap := s₃.heap.push { cls := .type "slice", data := .fields #[v, v', .none] } }) (t := 0) r' k
  rw [slicePick_plain, len]
  exact o

/-- a text cut behind its first k signs -/
def takeS (x : Str) (k : Nat) : Str := ⟨(x.cps.toList.take k).toArray⟩
theorem strSlice_upto {x : Str} {k : Nat} (hk : k ≤ x.length) : (Builtin.Str.strSliceIndices none (some (k : Int)) 1 x.length).filterMap (x.cps[·]?) = x.cps.toList.take k := by
  have := StrLaws.sliced_plain x (a := 0) (b := k) (Nat.zero_le _) hk
  rw [StrLaws.sliceIdx_none_lo]
  simpa using this

theorem Ev.cutS {o e : Expr} {p q : Pos} {x : Str} {k : Int} (ho : EvB prog w g₀ n env ρ o (.str x)) (he : EvB prog w g₀ n env ρ e (.int k)) (hk : 0 ≤ k ∧ k ≤ x.length) (hx : x.length ≤ sizeLine) :
    Ev prog w g₀ n env ρ (.Subscript o (.Slice none (some e) none p) q) (.str (takeS x k.toNat)) := fun A E Z vm s hA hS => by
  refine PyProof.Rows.Subscript_ (wpAny_mono (ho A E Z vm s hA hS) (fun u s₁ h₁ => wpAny_Slice (wpAny_pure (wpAny_mono (he A E Z vm s₁ hA (hS.keep h₁.1)) (fun v' s₃ h₃ => ?_) fun _ _ e => e))) fun _ _ e => e)
  obtain ⟨t, rfl⟩ := h₁.2.str_inv
  obtain ⟨t', rfl⟩ := h₃.2.int_inv
  rw [evalPart_none]
  refine wpAny_pure ?_
  have k0 : Kp s { s₃ with heap := s₃.heap.push { cls := .type "slice", data := .fields #[.none, .int k t', .none] } } := (h₁.1.trans h₃.1).trans (Kp.push s₃ _ _)
  obtain ⟨m, rfl⟩ : ∃ m : Nat, k = m := ⟨k.toNat, by omega⟩
  refine PyProof.Rows.tail_any (typeIs_str _ _ _) F.slot_str_getitem.lookup (wpAny_getItem_str_slice (l := none) (u := some ((m : Int), t')) (st := none) ⟨_, Heap.get?_push_size _ rfl, rfl, rfl⟩ rfl ?_) subscripted_slice
  have e := strSlice_upto (x := x) (k := m) (by omega)
  unfold sliceMade slicePicked
  have ev : takeS x (m : Int).toNat = ⟨((Builtin.Str.strSliceIndices (Option.map (·.1) (none : Option (Int × Tok))) (Option.map (·.1) (some ((m : Int), t'))) ((Option.map (·.1) (none : Option (Int × Tok))).getD 1) x.length).filterMap (x.cps[·]?)).toArray⟩ := by
    show takeS x (m : Int).toNat = ⟨((Builtin.Str.strSliceIndices none (some (m : Int)) 1 x.length).filterMap (x.cps[·]?)).toArray⟩
    rw [e]; rfl
  split
  · rename_i hl
    have hl' : (Builtin.Str.strSliceIndices none (some (m : Int)) 1 x.length).length = x.length := by simpa using hl
    have hm : m = x.length := by
      have e2 := congrArg List.length e
      rw [List.length_take, Array.length_toList] at e2
      have := List.length_filterMap_le (x.cps[·]?) (Builtin.Str.strSliceIndices none (some (m : Int)) 1 x.length)
      rw [StrLaws.sliceIdx_none_lo, show (0 : Int) = ((0 : Nat) : Int) from rfl, StrLaws.strSliceIndices_plain (Nat.zero_le _) (by omega)] at hl'
      simp at hl'
      exact hl'
    have : takeS x (m : Int).toNat = x := by
      unfold takeS
      rw [Int.toNat_natCast, List.take_of_length_le (by rw [Array.length_toList, hm]; exact Nat.le_refl _)]
    rw [this]
    exact ⟨k0, .str ..⟩
  · rw [← ev]
    refine ⟨?_, k0.trans (Kp.tok _ _), .str ..⟩
    show (takeS x _).length ≤ sizeLine
    have : (takeS x (m : Int).toNat).length ≤ x.length := by simp [takeS, Str.length]; omega
    omega
end
end Mine

namespace Mine
open PySem

section
variable {prog : Program} {w : World} {g₀ : Heap} {n : Nat} {env : Env} {ρ : Store} {mg mb : Str → Option Value} {Z : List Addr}

theorem InLong_of {i : Int} (h0 : 0 ≤ i) (h1 : i < 2 ^ 63) : InLong i := ⟨by omega, h1⟩
theorem sum_nonneg : ∀ {is : List Int}, (∀ x ∈ is, 0 ≤ x) → 0 ≤ is.sum
  | [], _ => by simp
  | i :: is, h => by
    have := sum_nonneg (is := is) fun x hx => h x (.tail _ hx)
    have := h i (.head _)
    simp only [List.sum_cons]; omega
theorem take_sum_le : ∀ {is : List Int} (k : Nat), (∀ x ∈ is, 0 ≤ x) → 0 ≤ (is.take k).sum ∧ (is.take k).sum ≤ is.sum
  | [], k, _ => by simp
  | i :: is, 0, h => by have := sum_nonneg h; simpa using this
  | i :: is, k + 1, h => by
    have := take_sum_le (is := is) k fun x hx => h x (.tail _ hx)
    have := h i (.head _)
    simp only [List.take_succ_cons, List.sum_cons]; omega
theorem mem_le_sum : ∀ {is : List Int} {x : Int}, (∀ x ∈ is, 0 ≤ x) → x ∈ is → x ≤ is.sum
  | i :: is, x, h, hx => by
    have h1 := sum_nonneg (is := is) fun x hx => h x (.tail _ hx)
    have h2 := h i (.head _)
    rcases List.mem_cons.mp hx with rfl | hx
    · simp only [List.sum_cons]; omega
    · have := mem_le_sum (is := is) (fun x hx => h x (.tail _ hx)) hx
      simp only [List.sum_cons]; omega

/-- what a built-in function or type gives, its arguments met in place -/
inductive CallR : Value → List D → D → Prop
  | lenL (ds : List D) (h : ds.length < 2 ^ 62) : CallR (.builtin "len") [.lst ds] (.int ds.length)
  | lenI (kds : List (Int × D)) (h : kds.length < 2 ^ 62) : CallR (.builtin "len") [.idict kds] (.int kds.length)
  | sum (is : List Int) (h : (∀ x ∈ is, 0 ≤ x) ∧ is.sum < 2 ^ 63) : CallR (.builtin "sum") [.lst (nums is)] (.int is.sum)
  | isInt (i : Int) : CallR (.builtin "isinstance") [.int i, .fn (.type "int")] (.bool true)
  | isBool (i : Int) : CallR (.builtin "isinstance") [.int i, .fn (.type "bool")] (.bool false)

theorem Rd.fn_inv {h : Heap} {v u : Value} (x : Rd prog w Z h v (.fn u)) : v = u := by cases x; rfl
theorem RdB.fn_inv {h : Heap} {v u : Value} (x : RdB prog w Z h v (.fn u)) : v = u := by cases x with | free x => exact x.fn_inv
theorem RdBAll.one {h : Heap} {vs : List Value} {d : D} (x : RdBAll prog w Z h vs [d]) : ∃ v, vs = [v] ∧ RdB prog w Z h v d := by
  cases x with | cons a b => cases b; exact ⟨_, rfl, a⟩
theorem RdBAll.two {h : Heap} {vs : List Value} {d e : D} (x : RdBAll prog w Z h vs [d, e]) : ∃ v u, vs = [v, u] ∧ RdB prog w Z h v d ∧ RdB prog w Z h u e := by
  cases x with | cons a b => obtain ⟨u, rfl, q⟩ := b.one; exact ⟨_, _, rfl, a, q⟩
theorem RdBAll.none {h : Heap} {vs : List Value} (x : RdBAll prog w Z h vs []) : vs = [] := by cases x; rfl

theorem numAt_of {h : Heap} {vs : Array Value} {is : List Int} (r : RdAll prog w Z h vs.toList (nums is)) {i : Nat} {v : Value} (e : vs[i]? = some v) : ∃ t, v = .int (is.getD i 0) t := by
  obtain ⟨d, hd, rd⟩ := r.getV (by simpa using e)
  unfold nums at hd
  rw [List.getElem?_map, Option.map_eq_some_iff] at hd
  obtain ⟨j, hj, rfl⟩ := hd
  obtain ⟨t, rfl⟩ := rd.int_inv
  exact ⟨t, by rw [List.getD_eq_getElem?_getD, hj]; rfl⟩
theorem preSum_take (is : List Int) : ∀ j, preSum (fun i => is.getD i 0) j = (is.take j).sum
  | 0 => by simp [preSum]
  | j + 1 => by
    rw [preSum, preSum_take is j, List.take_add_one, List.sum_append, List.getD_eq_getElem?_getD]
    cases is[j]? <;> simp

theorem CallR.sound {f : Value} {ds : List D} {d : D} (r : CallR f ds d) {A : Around} (hA : Lv n A) {E : Value → Shared → Prop} {s₀ s : Shared} (hk : Kp s₀ s) {vs : List Value} (hv : RdBAll prog w Z s.heap vs ds) :
    wpAny (model prog w) A (call f vs []) (fun c s' => Kp s₀ s' ∧ Rd prog w Z s'.heap c d) E s := by
  cases r with
  | lenL ds h =>
    obtain ⟨v, rfl, hv1⟩ := hv.one
    obtain ⟨a, vs, rfl, l, r⟩ := hv1.lst_inv
    have hl := r.length
    simp only [Array.length_toList] at hl
    exact Calls.call_len_list l (by omega) ⟨hk.trans (Kp.tok _ _), hl ▸ .int ..⟩
  | lenI kds h =>
    obtain ⟨v, rfl, hv1⟩ := hv.one
    obtain ⟨a, kvs, rfl, ne, l, q, r⟩ := hv1.idict_inv
    have hl : kvs.length = kds.length := by simpa using congrArg List.length q
    exact call_len_dict ne l (by omega) ⟨hk.trans (Kp.tok _ _), hl ▸ .int ..⟩
  | sum is h =>
    obtain ⟨v, rfl, hv1⟩ := hv.one
    obtain ⟨a, vs, rfl, l, r⟩ := hv1.lst_inv
    have hl := r.length
    simp only [Array.length_toList, nums, List.length_map] at hl
    refine wpAny_kp hk (call_sum_walk ?_)
    have hne : a ≠ s.heap.objs.size := by obtain ⟨o, ho, _⟩ := l; exact Nat.ne_of_lt (Heap.lt_size ho)
    refine wpAny_pyIter_list l ⟨_, _, _, _, _, _, fun i => is.getD i 0, rfl, Walks.list (A := A.in1) hA.hh s.heap.objs.size a hne vs, ⟨⟨_, Heap.get?_push_size _ rfl, rfl, rfl⟩, l.push _⟩, ?_, fun i v e => numAt_of r e, ?_, ?_⟩
    · intro b hb
      obtain ⟨o, ho, _⟩ := l
      have := Heap.lt_size ho
      rw [Heap.size_push]
      simp only [List.mem_cons, List.not_mem_nil, or_false] at hb
      rcases hb with rfl | rfl
      · exact Nat.lt_succ_self _
      · exact Nat.lt_succ_of_lt this
    · intro j hj
      have hj' : j < is.length := by omega
      have hm : is.getD j 0 ∈ is := by rw [List.getD_eq_getElem?_getD, List.getElem?_eq_getElem hj']; exact List.getElem_mem hj'
      refine ⟨InLong_of (h.1 _ hm) (Int.lt_of_le_of_lt (mem_le_sum h.1 hm) h.2), ?_⟩
      rw [preSum_take]
      have := take_sum_le (j + 1) h.1
      exact InLong_of this.1 (by omega)
    · intro h' tk t' hkp
      rw [preSum_take, hl, List.take_length]
      refine ⟨⟨h', tk, rfl, fun b o e => hkp b o (fun hb => ?_) (Heap.get?_push_of_some _ e)⟩, .int ..⟩
      rw [List.mem_singleton] at hb
      subst hb
      exact Nat.lt_irrefl _ (Heap.lt_size e)
  | isInt i =>
    obtain ⟨v, u, rfl, hv1, hu⟩ := hv.two
    obtain ⟨t, rfl⟩ := hv1.int_inv
    obtain rfl := hu.fn_inv
    exact call_isinstance (isinstance_true PyProof.Rows.meta_int (Tx := "int") isSubtype_int_int) ⟨typeIs_int _ _ _, hk, .bool _⟩
  | isBool i =>
    obtain ⟨v, u, rfl, hv1, hu⟩ := hv.two
    obtain ⟨t, rfl⟩ := hv1.int_inv
    obtain rfl := hu.fn_inv
    exact call_isinstance (isinstance_false_int (by decide) PyProof.Rows.meta_bool isSubtype_int_bool) ⟨hk.trans (Kp.tok _ _), .bool _⟩

theorem any_starEach {es : List Expr} : es.all unstarred = true → (starEach es env).any (·.1) = false := by
  induction es with
  | nil => intro _; rfl
  | cons e es ih =>
    intro h
    rw [List.all_cons, Bool.and_eq_true] at h
    rw [starEach_cons h.1, List.any_cons, ih h.2]; rfl
theorem evalArgs_of {f : Value} {es : List Expr} {A : Around} {E : Value → Shared → Prop} {s : Shared} {Q : Args → Shared → Prop} (hs : es.all unstarred = true)
    (h : wpAny (model prog w) A (spliced (starEach es env)) (fun vs s' => Q ⟨vs, []⟩ s') E s) : wpAny (model prog w) A (evalArgs f true (starEach es env) []) Q E s := by
  cases es with
  | nil =>
    unfold evalArgs
    show wpAny (model prog w) A (spliced (starEach [] env) >>= _) Q E s
    refine wpAny_bind (wpAny_mono h (fun vs s' h' => ?_) fun _ _ x => x)
    refine wpAny_holding ?_
    exact wpAny_bind (wpAny_pure (wpAny_bind (wpAny_pure (wpAny_pure h'))))
  | cons e es =>
    rw [List.all_cons, Bool.and_eq_true] at hs
    rw [starEach_cons hs.1] at h ⊢
    exact Calls.evalArgs_plain h

theorem callWith_bi {f : Value} {es : List Expr} {pos : Pos} {first : List Value} {A : Around} {E : Value → Shared → Prop} {s : Shared} {Q : Value → Shared → Prop} (hf : (∃ id, f = .builtin id) ∨ ∃ T, f = .type T) (hs : es.all unstarred = true)
    (h : wpAny (model prog w) A (spliced (starEach es env)) (fun vs s' => wpAny (model prog w) A (call f (first ++ vs) []) Q E s') E s) : wpAny (model prog w) A (callWith pos f first (starEach es env) []) Q E s := by
  rcases hf with ⟨id, rfl⟩ | ⟨T, rfl⟩
  · exact Calls.callWith_builtin (any_starEach hs) (evalArgs_of hs h)
  · exact PySem.callWith_type (any_starEach hs) (evalArgs_of hs h)

/-- a built-in called by its name -/
theorem Ev.call {x : Str} {p pos : Pos} {es : List Expr} {ds : List D} {d : D} {f : Value} (hf : Ev prog w g₀ n env ρ (.Name x p) (.fn f)) (ha : EvBAll prog w g₀ n env ρ es ds) (hc : CallR f ds d) :
    Ev prog w g₀ n env ρ (.Call (.Name x p) es [] pos) d := fun A E Z vm s hA hS => by
  refine PyProof.Rows.Call_Name (backTo_plain ha.1) (wpAny_mono (hf A E Z vm s hA hS) (fun v s₁ h₁ => ?_) fun _ _ e => e)
  obtain rfl := h₁.2.fn_inv
  have hk : (∃ id, v = .builtin id) ∨ ∃ T, v = .type T := by cases hc <;> exact .inl ⟨_, rfl⟩
  refine callWith_bi hk ha.1 (wpAny_mono (ha.2 A E Z vm s₁ hA (hS.keep h₁.1)) (fun vs s₂ h₂ => ?_) fun _ _ e => e)
  exact hc.sound hA (h₁.1.trans h₂.1) h₂.2

/-! ### methods -/
def texts (ss : List Str) : List D := ss.map .str

theorem StrsAre_of {h : Heap} : ∀ {vs : List Value} {ss : List Str}, RdAll prog w Z h vs (texts ss) → PyProof.Rows.StrsAre vs ss
  | _, [], r => by cases r; exact .nil
  | _, s :: ss, r => by
    cases r with
    | cons a b => obtain ⟨t, rfl⟩ := a.str_inv; exact .cons s t (StrsAre_of b)
theorem RdAll_strs {h : Heap} : ∀ {l : List (Str × Tok)}, RdAll prog w Z h (strValues l) (texts (l.map (·.1)))
  | [] => .nil
  | (x, t) :: l => .cons (.str x t) RdAll_strs

/-- texts: what their methods give -/
inductive MethS : Str → Str → List D → D → Prop
  | join (sep : Str) (ss : List Str) (h : (ss.map (·.length)).sum + ss.length * sep.length ≤ 16777216) : MethS "join" sep [.lst (texts ss)] (.str (Txt.join sep ss))
  | upper (x : Str) (h : x.length ≤ 1000000) : MethS "upper" x [] (.str (Txt.upper x))
  | lower (x : Str) (h : x.length ≤ 1000000) : MethS "lower" x [] (.str (Txt.lower x))

theorem MethS.sound {m : Str} {x : Str} {ds : List D} {d : D} (r : MethS m x ds d) :
    ∃ id, PySem.Slot "str" m id ∧ typeOf (.builtin id) = pure (.type "method_descriptor") ∧ ∀ {A : Around} {E : Value → Shared → Prop} {s₀ s : Shared} (hk : Kp s₀ s) {Z : List Addr} {vs : List Value} (hv : RdBAll prog w Z s.heap vs ds) {t : Tok},
      wpAny (model prog w) A (call (.builtin id) (.str x t :: vs) []) (fun c s' => Kp s₀ s' ∧ Rd prog w Z s'.heap c d) E s := by
  cases r with
  | join sep ss h =>
    refine ⟨_, F.slot_str_join, F.type_str_join, fun {A E s₀ s} hk {Z vs} hv {t} => ?_⟩
    obtain ⟨v, rfl, hv1⟩ := hv.one
    obtain ⟨a, vs, rfl, l, r⟩ := hv1.lst_inv
    exact wpAny_kp hk (PyProof.Rows.join_list l (StrsAre_of r) h fun t' k => ⟨⟨s.heap, k, rfl, fun _ _ e => e⟩, .str ..⟩)
  | upper x h =>
    refine ⟨_, F.slot_str_upper, F.type_str_upper, fun {A E s₀ s} hk {Z vs} hv {t} => ?_⟩
    obtain rfl := hv.none
    exact PyProof.Rows.SCL.upper (by omega) fun _ => ⟨hk.trans (Kp.tok _ _), .str ..⟩
  | lower x h =>
    refine ⟨_, F.slot_str_lower, F.type_str_lower, fun {A E s₀ s} hk {Z vs} hv {t} => ?_⟩
    obtain rfl := hv.none
    exact PyProof.Rows.SCL.lower (by omega) fun _ => ⟨hk.trans (Kp.tok _ _), .str ..⟩

/-- the facts of a method call's spelling -/
structure MethForm (o : Expr) (name : Str) (apos pos : Pos) (es : List Expr) (env : Env) : Prop where
  base : attributeBase o name env (eval o env) = eval o env
  line : (apos.endLine == pos.line) = true
  few : es.length < 25

theorem call_method {o : Expr} {name : Str} {apos pos : Pos} {es : List Expr} {A : Around} {E : Value → Shared → Prop} {s : Shared} {Q : Value → Shared → Prop} (f : MethForm o name apos pos es env) (hs : es.all unstarred = true)
    (h : wpAny (model prog w) A (eval o env) (fun ov s₁ => MethodOn prog w A name pos ov (starEach es env) Q E s₁) E s) :
    wpAny (model prog w) A (eval (.Call (.Attribute o name apos) es [] pos) env) Q E s := by
  refine wpAny_Call_method_late f.base ?_ f.line (backTo_plain hs) h
  rw [backTo_plain hs]
  have h1 : (starEach es env).all (fun x => !x.1) = true := by
    have := any_starEach (env := env) hs
    rw [List.all_eq_not_any_not]
    simpa using this
  rw [h1]
  have := f.few
  simp [backToKw, keywordEach]
  omega

/-- a text's method -/
theorem Ev.methS {o : Expr} {name : Str} {apos pos : Pos} {es : List Expr} {x : Str} {ds : List D} {d : D} (f : MethForm o name apos pos es env) (ho : EvB prog w g₀ n env ρ o (.str x)) (ha : EvBAll prog w g₀ n env ρ es ds) (r : MethS name x ds d) :
    Ev prog w g₀ n env ρ (.Call (.Attribute o name apos) es [] pos) d := fun A E Z vm s hA hS => by
  refine call_method f ha.1 (wpAny_mono (ho A E Z vm s hA hS) (fun v s₁ h₁ => ?_) fun _ _ e => e)
  obtain ⟨t, rfl⟩ := h₁.2.str_inv
  obtain ⟨id, slot, ty, run⟩ := r.sound (prog := prog) (w := w)
  refine ⟨"str", id, F.plainAttrs_str, slot, ty, typeIs_str _ _ _, (fun _ e => nomatch e), ?_⟩
  exact callWith_bi (first := [.str x t]) (.inl ⟨_, rfl⟩) ha.1 (wpAny_mono (ha.2 A E Z vm s₁ hA (hS.keep h₁.1)) (fun vs s₂ h₂ => run (h₁.1.trans h₂.1) h₂.2) fun _ _ e => e)

/-- a text cut up: new lists -/
theorem own_values {s s₀ : Shared} {l : List (Str × Tok)} {k : Nat} (hk : Kp s₀ s) (ht : s.toks ≤ k) : Kp s₀ { s with heap := s.heap.push { cls := .type "list", data := .seq (strValues l).toArray }, toks := k } ∧
    ∃ as, OwnAt prog w (as ++ Z) (s.heap.push { cls := .type "list", data := .seq (strValues l).toArray }) (.ref s.heap.objs.size) as (.lst (texts (l.map (·.1)))) ∧ as.Nodup ∧ (∀ a ∈ as, s₀.heap.get? a = none) ∧
      ∀ a ∈ as, ∃ o, (s.heap.push { cls := .type "list", data := .seq (strValues l).toArray }).get? a = some o :=
  ⟨hk.trans (Kp.push _ _ _ ht), own_new (t := 0) RdAll_strs hk⟩

open Builtin Builtin.Str in
theorem EvO.words {o : Expr} {apos pos : Pos} {x : Str} (f : MethForm o "split" apos pos [] env) (ho : EvB prog w g₀ n env ρ o (.str x)) (hx : x.length ≤ sizeLine ∧ (spaceWords x (x.length + 1)).length ≤ sizeLine) :
    EvO prog w g₀ n env ρ (.Call (.Attribute o "split" apos) [] [] pos) (.lst (texts (Txt.words x))) := fun A E Z vm s hA hS => by
  refine call_method f rfl (wpAny_mono (ho A E Z vm s hA hS) (fun v s₁ h₁ => ?_) fun _ _ e => e)
  obtain ⟨t, rfl⟩ := h₁.2.str_inv
  refine ⟨"str", _, F.plainAttrs_str, F.slot_str_split, F.type_str_split, typeIs_str _ _ _, (fun _ e => nomatch e), ?_⟩
  refine callWith_bi (first := [.str x t]) (es := []) (.inl ⟨_, rfl⟩) rfl (Calls.spliced_nil ?_)
  refine call_meets F.slot_str_split (typeIs_str _ _ _) F.entry_str_split (F.args_str_split_1 _) (meets_str_split_space x t hx.1 hx.2) ?_
  cases hw : spaceWords x (x.length + 1) == [(0, x.length)]
  · simp only [Bool.false_eq_true, if_false]
    rw [strsFrom_eq]
    have e : (numbered s₁.toks (wordsOf x)).map (·.1) = Txt.words x := (numbered_texts _ _).trans (if_neg (ne_true_of_eq_false hw)).symm
    rw [← e]
    exact own_values h₁.1 (Nat.le_add_right _ _)
  · simp only [if_true]
    have e : [(x, t)].map (·.1) = Txt.words x := (if_pos hw).symm
    rw [← e]
    exact own_values (l := [(x, t)]) h₁.1 (Nat.le_refl _)

open Builtin Builtin.Str in
theorem EvO.split {o e : Expr} {apos pos : Pos} {x y : Str} (f : MethForm o "split" apos pos [e] env) (he : unstarred e = true) (ho : EvB prog w g₀ n env ρ o (.str x)) (ha : EvB prog w g₀ n env ρ e (.str y)) (hy : (y.length == 0) = false)
    (hx : x.length ≤ sizeLine ∧ (partsBetween x (occurrences x y 0 x.length (x.length + 1)) y.length).length ≤ sizeLine) :
    EvO prog w g₀ n env ρ (.Call (.Attribute o "split" apos) [e] [] pos) (.lst (texts (Txt.split x y))) := fun A E Z vm s hA hS => by
  have ha' := EvBAll.cons ha EvBAll.nil he
  refine call_method f ha'.1 (wpAny_mono (ho A E Z vm s hA hS) (fun v s₁ h₁ => ?_) fun _ _ e => e)
  obtain ⟨t, rfl⟩ := h₁.2.str_inv
  refine ⟨"str", _, F.plainAttrs_str, F.slot_str_split, F.type_str_split, typeIs_str _ _ _, (fun _ e => nomatch e), ?_⟩
  refine callWith_bi (first := [.str x t]) (.inl ⟨_, rfl⟩) ha'.1 (wpAny_mono (ha'.2 A E Z vm s₁ hA (hS.keep h₁.1)) (fun vs s₂ h₂ => ?_) fun _ _ e => e)
  obtain ⟨v, rfl, hv⟩ := h₂.2.one
  obtain ⟨u, rfl⟩ := hv.str_inv
  have hk := h₁.1.trans h₂.1
  cases h1 : (decide (x.length < y.length) || decide (Builtin.Str.strKind x < Builtin.Str.strKind y))
  · cases hf : (occurrences x y 0 x.length (x.length + 1)).isEmpty
    · refine call_meets F.slot_str_split (typeIs_str _ _ _) F.entry_str_split (F.args_str_split_2 _ _) (meets_str_split_sep x y t u h1 hy hf hx.1 hx.2) ?_
      show wants _ E _ { s₂ with toks := _, heap := s₂.heap.push { cls := .type "list", data := .seq (strsFrom s₂.toks (partsBetween x (occurrences x y 0 x.length (x.length + 1)) y.length)).toArray } }
      rw [strsFrom_eq]
      have e : (numbered s₂.toks (partsBetween x (occurrences x y 0 x.length (x.length + 1)) y.length)).map (·.1) = Txt.split x y :=
        (numbered_texts _ _).trans ((if_neg (ne_true_of_eq_false h1)).trans (if_neg (ne_true_of_eq_false hf))).symm
      rw [← e]
      exact own_values hk (Nat.le_add_right _ _)
    · have e : [(x, t)].map (·.1) = Txt.split x y := ((if_neg (ne_true_of_eq_false h1)).trans (if_pos hf)).symm
      rw [← e]
      exact call_meets F.slot_str_split (typeIs_str _ _ _) F.entry_str_split (F.args_str_split_2 _ _) (meets_str_split_not_found x y t u h1 hy hf) (own_values (l := [(x, t)]) hk (Nat.le_refl _))
  · have e : [(x, t)].map (·.1) = Txt.split x y := (if_pos h1).symm
    rw [← e]
    exact call_meets F.slot_str_split (typeIs_str _ _ _) F.entry_str_split (F.args_str_split_2 _ _) (meets_str_split_cannot_occur x y t u h1) (own_values (l := [(x, t)]) hk (Nat.le_refl _))

/-- one text in place of another, both written -/
theorem Ev.replace {o : Expr} {apos pos : Pos} {x y z : Str} {k k' : Nat} {p p' : Pos} (f : MethForm o "replace" apos pos [.Constant (.str y) k p, .Constant (.str z) k' p'] env) (ho : EvB prog w g₀ n env ρ o (.str x)) (hyz : (y == z) = false)
    (hb : x.length + (x.length + 1) * z.length ≤ 16777216) :
    Ev prog w g₀ n env ρ (.Call (.Attribute o "replace" apos) [.Constant (.str y) k p, .Constant (.str z) k' p'] [] pos) (.str (Txt.replace x y z)) := fun A E Z vm s hA hS => by
  refine call_method f rfl (wpAny_mono (ho A E Z vm s hA hS) (fun v s₁ h₁ => ?_) fun _ _ e => e)
  obtain ⟨t, rfl⟩ := h₁.2.str_inv
  refine ⟨"str", _, F.plainAttrs_str, F.slot_str_replace, F.type_str_replace, typeIs_str _ _ _, (fun _ e => nomatch e), ?_⟩
  refine callWith_bi (first := [.str x t]) (.inl ⟨_, rfl⟩) rfl ?_
  have h1 : 1 ≤ s₁.toks := Nat.le_trans hS.tok h₁.1.tk
  refine Calls.spliced_cons (Calls.Constant_str (Calls.spliced_cons (Calls.Constant_str (Calls.spliced_nil ?_))))
  refine wpAny_kp (s := { s₁ with toks := s₁.toks + 1 + 1 }) (h₁.1.trans (Kp.tok s₁ (s₁.toks + 1 + 1) (by omega))) (SC.replace (by show s₁.toks ≠ 0; omega) (by show s₁.toks + 1 ≠ 0; omega) (by show s₁.toks ≠ s₁.toks + 1; omega) hyz hb fun t' k => ⟨⟨s₁.heap, k, rfl, fun _ _ e => e⟩, .str ..⟩)

/-- a dict of texts, with something in hand for what is not there -/
theorem Ev.getS {o e e' : Expr} {apos pos : Pos} {kds : List (Str × D)} {k : Str} {d : D} (f : MethForm o "get" apos pos [e, e'] env) (he : unstarred e = true ∧ unstarred e' = true) (ho : EvB prog w g₀ n env ρ o (.sdict kds)) (ha : Ev prog w g₀ n env ρ e (.str k))
    (hb : Ev prog w g₀ n env ρ e' d) : Ev prog w g₀ n env ρ (.Call (.Attribute o "get" apos) [e, e'] [] pos) ((look kds k).getD d) := fun A E Z vm s hA hS => by
  have hs : [e, e'].all unstarred = true := by simp [he.1, he.2]
  refine call_method f hs (wpAny_mono (ho A E Z vm s hA hS) (fun v s₁ h₁ => ?_) fun _ _ e => e)
  obtain ⟨a, kvs, rfl, ne, l, q, r⟩ := h₁.2.sdict_inv
  refine ⟨"dict", _, F.plainAttrs_dict, F.slot_dict_get, F.type_dict_get, l.typeIs, l.mapOf.noDict, ?_⟩
  rw [starEach_cons he.1, starEach_cons he.2]
  refine wpAny_dict_get2 (knd := strKind prog w) ne (wpAny_mono (ha A E Z vm s₁ hA (hS.keep h₁.1)) (fun key s₂ h₂ => wpAny_mono (hb A E Z vm s₂ hA (hS.keep (h₁.1.trans h₂.1))) (fun dv s₃ h₃ => ?_) fun _ _ e => e) fun _ _ e => e)
  obtain ⟨t, rfl⟩ := h₂.2.str_inv
  have l₃ := dictOf_at l fun o e => (h₂.1.trans h₃.1).up _ _ e
  refine ⟨k, valueAt kvs, strKind_is prog w k t, l₃.mapOf, ((h₁.1.trans h₂.1).trans h₃.1).trans (Kp.tok _ _), ?_⟩
  cases hl : look kds k with
  | none => rw [look_none q hl]; exact h₃.2
  | some d' =>
    obtain ⟨v, hv, rv⟩ := look_value q r hl
    rw [hv]
    exact rv.keep (h₂.1.trans h₃.1).up

/-! ### the place of an item -/
/-- the first place of x -/
def findI {α : Type} [DecidableEq α] (x : α) : List α → Nat
  | [] => 0
  | y :: r => if y = x then 0 else findI x r + 1
theorem findI_lt {α : Type} [DecidableEq α] {x : α} : ∀ {l : List α}, x ∈ l → findI x l < l.length
  | y :: r, h => by
    unfold findI
    split
    · simp
    · rename_i hne
      have := findI_lt (l := r) ((List.mem_cons.mp h).resolve_left fun e => hne e.symm)
      simp; omega
theorem findI_get {α : Type} [DecidableEq α] {x : α} : ∀ {l : List α} (h : x ∈ l), l[findI x l]? = some x
  | y :: r, h => by
    unfold findI
    split
    · rename_i e; simp [e]
    · rename_i hne
      simpa using findI_get (l := r) ((List.mem_cons.mp h).resolve_left fun e => hne e.symm)
theorem findI_before {α : Type} [DecidableEq α] {x : α} : ∀ {l : List α} {m : Nat} {y : α}, m < findI x l → l[m]? = some y → y ≠ x
  | [], m, y, h, e => by simp at e
  | z :: r, m, y, h, e => by
    unfold findI at h
    split at h
    · omega
    · rename_i hne
      cases m with
      | zero => simp at e; exact e ▸ hne
      | succ m => exact findI_before (l := r) (m := m) (by omega) (by simpa using e)

theorem index_sound {A : Around} (hA : Lv n A) {E : Value → Shared → Prop} {s : Shared} {l : Addr} {vs : Array Value} {xs : List PyData} {d : PyData} {as bs : List Addr} {x : Value} {Q : Value → Shared → Prop} {j : Nat}
    (hl : s.heap.PlainList l vs) (rs : ReadsAll s.heap vs.toList xs as) (rx : Reads s.heap x d bs) (hxs : PyData.canLayAll0 xs = true) (hd : d.canLay0 = true) (hdep : d.depth ≤ 4)
    (hj : j < vs.size) (hsm : j < 2 ^ 62) (hit : ∀ y, xs[j]? = some y → PyData.eqv y d = true) (hno : ∀ m y, m < j → xs[m]? = some y → PyData.eqv y d = false)
    (h : Q (.int j s.toks) { s with toks := s.toks + 1 }) : wpAny (model prog w) A (call (.builtin "list.index") [.ref l, x] []) Q E s := by
  obtain ⟨c, hl⟩ := hl
  have hmap := SeqAt.readsAll_map xs _ _ hxs rs
  have at_ : ∀ i (hi : i < vs.size), xs[i]? = some (SeqAt.readOf s.heap vs[i]) := by
    intro i hi
    have := congrArg (fun l => l[i]?) hmap
    simpa [hi] using this.symm
  refine call_meets F.slot_list_index ⟨_, hl, rfl⟩ F.entry_list_index (F.args_list_index_2 _ _)
    (SeqAt.list_indexAt l vs c none #[] x (fun y => PyData.eqv (SeqAt.readOf s.heap y) d) j hj (by omega) (hit _ (at_ j hj)) fun m hm hmj => hno m _ hmj (at_ m hm)) ⟨hl, ?_, h⟩
  refine SeqAt.items_eqAt (A := A) rs rx hxs hd ?_
  have := hA.hu
  have := Nat.min_le_right (PyData.depthAll xs) d.depth
  unfold cLine
  omega

/-- where a number stands in a list of a name's own -/
theorem Ev.indexI {o e : Expr} {apos pos : Pos} {is : List Int} {i : Int} (f : MethForm o "index" apos pos [e] env) (he : unstarred e = true) (hx : EvB prog w g₀ n env ρ o (.lst (nums is))) (ha : EvB prog w g₀ n env ρ e (.int i)) (hi : i ∈ is) (hl : is.length < 2 ^ 62) :
    Ev prog w g₀ n env ρ (.Call (.Attribute o "index" apos) [e] [] pos) (.int (findI i is)) := fun A E Z vm s hA hS => by
  have ha' := EvBAll.cons ha EvBAll.nil he
  refine call_method f ha'.1 (wpAny_mono (hx A E Z vm s hA hS) (fun ov s₁ h₁ => ?_) fun _ _ e => e)
  obtain ⟨k₁, h₁⟩ := h₁
  obtain ⟨a, vs, rfl, l, r⟩ := h₁.lst_invP
  refine ⟨"list", _, F.plainAttrs_list, F.slot_list_index, F.type_list_index, l.isList.typeIs, (fun b e => by cases e; obtain ⟨c, e⟩ := l; exact ⟨_, e, rfl⟩), ?_⟩
  refine callWith_bi (first := [.ref a]) (.inl ⟨_, rfl⟩) ha'.1 (wpAny_mono (ha'.2 A E Z vm s₁ hA (hS.keep k₁)) (fun us s₂ h₂ => ?_) fun _ _ e => e)
  obtain ⟨u, rfl, hu⟩ := h₂.2.one
  obtain ⟨t, rfl⟩ := hu.int_inv
  have r' := r.keep h₂.1.up
  have hlen := r.length
  simp only [Array.length_toList, nums, List.length_map] at hlen
  have hlt := findI_lt hi
  refine index_sound (j := findI i is) hA (l.at fun o e => h₂.1.up _ _ e) (Rd.nums_inv r') (.int i t) (canLay_nums is) rfl (by simp [PyData.depth]) (by omega) (by omega) ?_ ?_ ⟨(k₁.trans h₂.1).trans (Kp.tok _ _), .int ..⟩
  · intro y hy
    rw [List.getElem?_map, findI_get hi] at hy
    cases hy
    simp [PyData.eqv]
  · intro m y hm hy
    rw [List.getElem?_map, Option.map_eq_some_iff] at hy
    obtain ⟨z, hz, rfl⟩ := hy
    have := findI_before hm hz
    simpa [PyData.eqv] using this

/-- where a list of numbers stands in a list of such lists of a name's own -/
theorem Ev.indexL {o e : Expr} {apos pos : Pos} {iss : List (List Int)} {is : List Int} (f : MethForm o "index" apos pos [e] env) (he : unstarred e = true) (hx : EvB prog w g₀ n env ρ o (.lst (iss.map fun b => .lst (nums b))))
    (ha : EvB prog w g₀ n env ρ e (.lst (nums is))) (hi : is ∈ iss) (hl : iss.length < 2 ^ 62) :
    Ev prog w g₀ n env ρ (.Call (.Attribute o "index" apos) [e] [] pos) (.int (findI is iss)) := fun A E Z vm s hA hS => by
  have ha' := EvBAll.cons ha EvBAll.nil he
  refine call_method f ha'.1 (wpAny_mono (hx A E Z vm s hA hS) (fun ov s₁ h₁ => ?_) fun _ _ e => e)
  obtain ⟨k₁, h₁⟩ := h₁
  obtain ⟨a, vs, rfl, l, r⟩ := h₁.lst_invP
  refine ⟨"list", _, F.plainAttrs_list, F.slot_list_index, F.type_list_index, l.isList.typeIs, (fun b e => by cases e; obtain ⟨c, e⟩ := l; exact ⟨_, e, rfl⟩), ?_⟩
  refine callWith_bi (first := [.ref a]) (.inl ⟨_, rfl⟩) ha'.1 (wpAny_mono (ha'.2 A E Z vm s₁ hA (hS.keep k₁)) (fun us s₂ h₂ => ?_) fun _ _ e => e)
  obtain ⟨u, rfl, hu⟩ := h₂.2.one
  obtain ⟨b, ws, rfl, l', q⟩ := hu.lst_inv
  have r' := r.keep h₂.1.up
  obtain ⟨cs, rr⟩ := Rd.numss_inv r'
  have hlen := r.length
  simp only [Array.length_toList, List.length_map] at hlen
  have hlt := findI_lt hi
  refine index_sound (j := findI is iss) hA (l.at fun o e => h₂.1.up _ _ e) rr (IsList.reads l' (Rd.nums_inv q)) (canLay_numss iss) (by simp [PyData.canLay0, canLay_nums]) (by simp [PyData.depth, depth_nums]) (by omega) (by omega) ?_ ?_ ⟨(k₁.trans h₂.1).trans (Kp.tok _ _), .int ..⟩
  · intro y hy
    rw [List.getElem?_map, findI_get hi] at hy
    cases hy
    simp [PyData.eqv, eqv_nums]
  · intro m y hm hy
    rw [List.getElem?_map, Option.map_eq_some_iff] at hy
    obtain ⟨z, hz, rfl⟩ := hy
    have := findI_before hm hz
    simpa [PyData.eqv, eqv_nums] using this
end
end Mine

namespace Mine
open PySem

section
variable {prog : Program} {w : World} {g₀ g : Heap} {env : Env} {Z Z' Zc : List Addr} {vm vm' : Str → Option Value} {ρ ρ' : Store} {ls : List (List Addr)} {h h' : Heap}

theorem Zs_more {S : List Addr} : (Zs env ls (S ++ Zc)).Perm (S ++ Zs env ls Zc) := by
  unfold Zs
  exact ((List.perm_append_comm_assoc ls.flatten S Zc).append_left _).trans (List.perm_append_comm_assoc _ S (ls.flatten ++ Zc))
theorem Zs_more_mem {S : List Addr} {a : Addr} : a ∈ Zs env ls (S ++ Zc) ↔ a ∈ S ∨ a ∈ Zs env ls Zc := by rw [Zs_more.mem_iff, List.mem_append]

/-- new places are put under protection -/
theorem St.protect {S : List Addr} (x : St prog w g₀ g env Zc vm ρ ls h) (k : ∀ b o, h.get? b = some o → h'.get? b = some o) (hf : ∀ a ∈ S, h.get? a = none) (hn : S.Nodup) (hal : ∀ a ∈ S, ∃ o, h'.get? a = some o) :
    St prog w g₀ g env (S ++ Zc) vm ρ ls h' := by
  have hz : ∀ a ∈ S, a ∉ Zs env ls Zc := fun a ha => Heap.not_alive_fresh (hf a ha) x.alive
  refine ⟨x.wf, x.nofree, x.base, fun b o e => k b o (x.keep b o e), x.frame.keeps k, ?_, ?_, ?_, x.fresh, ?_⟩
  · refine x.slots.move (fun _ _ => rfl) (fun b o hb e => ⟨k b o e, fun hm => ?_⟩) fun a _ o => k a o
    rcases Zs_more_mem.mp hm with hm | hm
    · rw [hf b hm] at e; cases e
    · exact hb hm
  · rw [Zs_more.nodup_iff, List.nodup_append]
    exact ⟨hn, x.nodup, fun a ha b hb e => hz a ha (e ▸ hb)⟩
  · intro a ha
    rcases Zs_more_mem.mp ha with ha | ha
    · exact hal a ha
    · obtain ⟨o, e⟩ := x.alive a ha; exact ⟨o, k a o e⟩
  · intro a ha
    rcases List.mem_append.mp ha with ha | ha
    · cases e : g₀.get? a with
      | none => rfl
      | some o => have := x.keep a o (x.base a o e); rw [hf a ha] at this; cases this
    · exact x.zc a ha

/-- a name is given what stands under protection -/
theorem St.storeP {M : Model} {A : Around} {E : Value → Shared → Prop} {s : Shared} {x : Str} {sl : Slot} {as : List Addr} {v : Value} {Q : Unit → Shared → Prop}
    (x₀ : St prog w g₀ g env (as ++ Zc) vm ρ ls s.heap) (p : PutS x sl ρ ρ') (new : SlotAt prog w (Zs env ls (as ++ Zc)) s.heap (some v) as sl) (hg : ∀ a ∈ as, g.get? a = none)
    (hQ : ∀ L vm' ls' h' tk, L ∈ env.locals :: env.cells.map (·.2) → Heap.SameBut L s.heap h' → s.toks ≤ tk → (∀ a, a ∈ Zs env ls' Zc → a ∈ Zs env ls (as ++ Zc)) → St prog w g₀ g env Zc vm' ρ' ls' h' → Q () { s with heap := h', toks := tk }) :
    wpAny M A (storeName env x v) Q E s := by
  obtain ⟨pre, as₀, post, s₀, rfl, hm, hs₀, f⟩ := x₀.slots.put p x₀.wf.nodup
  have hxn : x ∈ ρ.map (·.1) := p.mem
  have nd0 := x₀.nodup
  rw [Zs_more.nodup_iff, List.nodup_append] at nd0
  have nd := Zs_nodup.mp nd0.2.1
  have asZ : ∀ a ∈ as, a ∉ Zs env (pre ++ as₀ :: post) Zc := fun a ha hb => nd0.2.2 a ha a hb rfl
  have nd' : (Zs env (pre ++ as :: post) Zc).Nodup := Zs_nodup.mpr ⟨nd0.1, nd.2.1, fun a ha hb => asZ a ha (Zs_mem.mpr (.inr hb))⟩
  have sub : ∀ a, a ∈ Zs env (pre ++ as :: post) Zc → a ∈ Zs env (pre ++ as₀ :: post) (as ++ Zc) := fun a ha => by
    rcases Zs_mem.mp ha with ha | ha
    · exact Zs_more_mem.mpr (.inl ha)
    · exact Zs_more_mem.mpr (.inr (Zs_mem.mpr (.inr ha)))
  have key : ∀ (L : Addr) (h' : Heap) (vm' : Str → Option Value), L ∈ env.locals :: env.cells.map (·.2) → Heap.SameBut L s.heap h' → (∃ o, h'.get? L = some o) → (∀ y, y ≠ x → vm' y = vm y) → vm' x = some v → Fm env vm' h' →
      St prog w g₀ g env Zc vm' ρ' (pre ++ as :: post) h' := by
    intro L h' vm' hL hsb hLo hv hx F
    have LZ : L ∈ Zs env (pre ++ post) Zc := List.mem_append_left _ hL
    have LZ' : L ∈ Zs env (pre ++ as₀ :: post) (as ++ Zc) := List.mem_append_left _ hL
    have kk : ∀ b o, b ≠ L → s.heap.get? b = some o → h'.get? b = some o := fun b o hb e => hsb.extBut b o hb e
    have Lg : g.get? L = Option.none := x₀.fresh L (List.mem_append_left _ hL)
    have nd2 := nd.2.1
    unfold Zs at nd2
    have hLp : L ∉ (pre ++ post).flatten := fun hm => (List.nodup_append.mp nd2).2.2 L hL L (List.mem_append_left _ hm) rfl
    have hLa : L ∉ as := fun hm => asZ L hm (List.mem_append_left _ hL)
    refine ⟨p.names ▸ x₀.wf, p.names ▸ x₀.nofree, x₀.base, fun b o e => kk b o (fun z => by subst z; rw [Lg] at e; cases e) (x₀.keep b o e), F, ?_, nd', ?_, ?_, fun a ha => x₀.zc a (List.mem_append_right _ ha)⟩
    · refine f _ h' vm' as hv (fun b o hb e => ⟨kk b o (fun z => hb (z ▸ LZ')) e, fun hm => hb (sub b hm)⟩) (fun a ha o e => kk a o (fun z => hLp (z ▸ ha)) e) ?_
      rw [hx]
      exact new.move (fun b o hb e => ⟨kk b o (fun z => hb (z ▸ LZ')) e, fun hm => hb (sub b hm)⟩) fun a ha o e => kk a o (fun z => hLa (z ▸ ha)) e
    · intro a ha
      by_cases hb : a = L
      · exact hb ▸ hLo
      · obtain ⟨o, e⟩ := x₀.alive a (sub a ha); exact ⟨o, kk a o hb e⟩
    · intro a ha
      rcases List.mem_append.mp ha with ha | ha
      · exact x₀.fresh a (List.mem_append_left _ ha)
      · by_cases hb : a ∈ as
        · exact hg a hb
        · refine x₀.fresh a (List.mem_append_right _ ?_)
          simp only [List.flatten_append, List.flatten_cons, List.mem_append] at ha ⊢
          rcases ha with ha | ha | ha
          · exact .inl ha
          · exact absurd ha hb
          · exact .inr (.inr ha)
  have F₁ : Fm env vm s.heap := x₀.frame
  have hz : (env.scope.kind == .class || (env.scope.kind == .module && env.locals != env.globals)) = false := by rw [x₀.wf.kind]; rfl
  obtain ⟨m, hm₁, hm₂⟩ := F₁.ns
  have hcl : ∀ n c, env.cells.lookup n = some c → c ∈ env.cells.map (·.2) := fun n c e => List.mem_map.mpr ⟨(n, c), mem_of_lookup e, rfl⟩
  have nd3 : (env.locals :: env.cells.map (·.2)).Nodup := (List.nodup_append.mp (show ((env.locals :: env.cells.map (·.2)) ++ ((pre ++ post).flatten ++ Zc)).Nodup from nd.2.1)).1
  rw [List.nodup_cons] at nd3
  rcases x₀.wf.home x hxn with ⟨hl, hlc⟩ | ⟨hc | hfr, c, hlk⟩
  · refine wpAny_storeName_local hl hm₁ (fun h' hn' hs' => ?_) hz
    refine hQ env.locals _ _ h' _ (.head _) hs' (Nat.le_succ _) sub (key env.locals h' (fun y => if y = x then some v else vm y) (.head _) hs' (let ⟨o, _, _, ho, _⟩ := hn'; ⟨o, ho⟩) (fun y hy => if_neg hy) (if_pos rfl) ⟨⟨_, hn', fun y hy => ?_⟩, fun n c e => ?_⟩)
    · by_cases hyx : y = x
      · simp [hyx]
      · simp [hyx, hm₂ y hy]
    · have hnc : c ≠ env.locals := fun z => nd3.1 (z ▸ hcl n c e)
      by_cases hnx : n = x
      · subst hnx; rw [hlc] at e; cases e
      · rw [if_neg hnx]; exact (F₁.cell n c e).sameBut hs' hnc
  · refine wpAny_storeName_cell x₀.wf.kind hc hlk (F₁.cell x c hlk) fun h' hc' hs' => ?_
    refine hQ c _ _ h' s.toks (.tail _ (hcl x c hlk)) hs' (Nat.le_refl _) sub (key c h' (fun y => if y = x then some v else vm y) (.tail _ (hcl x c hlk)) hs' (let ⟨o, ho, _⟩ := hc'; ⟨o, ho⟩) (fun y hy => if_neg hy) (if_pos rfl) ⟨⟨m, hm₁.sameBut hs' (fun z => nd3.1 (z ▸ hcl x c hlk)), fun y hy => ?_⟩, fun n c' e => ?_⟩)
    · by_cases hyx : y = x
      · subst hyx; rw [hc] at hy; cases hy
      · simp [hyx, hm₂ y hy]
    · by_cases hnx : n = x
      · subst hnx; rw [hlk] at e; cases e; simpa using hc'
      · rw [if_neg hnx]
        refine (F₁.cell n c' e).sameBut hs' fun z => hnx ?_
        subst z
        exact name_of_addr (pairwise_of_nodup_map nd3.2) (mem_of_lookup e) (mem_of_lookup hlk)
  · exact absurd hfr (x₀.nofree x hxn)
end

/-! ### statements -/
inductive Fl where
  | next
  | ret (d : D)

structure SS (prog : Program) (w : World) (g₀ g : Heap) (env : Env) (Zc : List Addr) (vm : Str → Option Value) (ρ : Store) (ls : List (List Addr)) (s : Shared) : Prop extends St prog w g₀ g env Zc vm ρ ls s.heap where
  tok : 1 ≤ s.toks

/-- the same run, other heap, more tokens -/
structure Ru (s s' : Shared) : Prop where
  ex : ∃ h' tk, s' = { s with heap := h', toks := tk }
  tk : s.toks ≤ s'.toks
theorem Ru.refl (s : Shared) : Ru s s := ⟨⟨s.heap, s.toks, rfl⟩, Nat.le_refl _⟩
theorem Ru.trans {s s' s'' : Shared} (x : Ru s s') (y : Ru s' s'') : Ru s s'' := by
  obtain ⟨⟨h, t, rfl⟩, p⟩ := x
  obtain ⟨⟨h', t', rfl⟩, q⟩ := y
  exact ⟨⟨h', t', rfl⟩, Nat.le_trans p q⟩
theorem Kp.ru {s s' : Shared} (x : Kp s s') : Ru s s' := by obtain ⟨⟨h, t, e, _⟩, p⟩ := x; exact ⟨⟨h, t, e⟩, p⟩

section
variable (prog : Program) (w : World) (g₀ : Heap) (n : Nat) (env : Env)

/-- what stands behind a statement -/
def Aft (g : Heap) (Zc : List Addr) (fl : Fl) (ρ' : Store) (s : Shared) (f : Flow) (s' : Shared) : Prop :=
  Ru s s' ∧ ∃ vm' ls', SS prog w g₀ g env Zc vm' ρ' ls' s' ∧ match fl with
    | .next => f = .next
    | .ret d => ∃ v, f = .ret v ∧ Rd prog w (Zs env ls' Zc) s'.heap v d

def Ex (ρ : Store) (st : Stmt) (fl : Fl) (ρ' : Store) : Prop := ∀ (A : Around) (E : Value → Shared → Prop) (g : Heap) (Zc : List Addr) (vm : Str → Option Value) (ls : List (List Addr)) (s : Shared), Lv n A → SS prog w g₀ g env Zc vm ρ ls s →
  wpAny (model prog w) A (exec st env) (Aft prog w g₀ env g Zc fl ρ' s) E s
def Exs (ρ : Store) (ss : List Stmt) (fl : Fl) (ρ' : Store) : Prop := ∀ (A : Around) (E : Value → Shared → Prop) (g : Heap) (Zc : List Addr) (vm : Str → Option Value) (ls : List (List Addr)) (s : Shared), Lv n A → SS prog w g₀ g env Zc vm ρ ls s →
  wpAny (model prog w) A (execs ss env) (Aft prog w g₀ env g Zc fl ρ' s) E s
end

section
variable {prog : Program} {w : World} {g₀ : Heap} {n : Nat} {env : Env} {ρ ρ₁ ρ₂ ρ' : Store} {mg mb : Str → Option Value} {fl : Fl}

theorem SS.rs {g : Heap} {Zc : List Addr} {vm : Str → Option Value} {ls : List (List Addr)} {s : Shared} (x : SS prog w g₀ g env Zc vm ρ ls s) : RS prog w g₀ env (Zs env ls Zc) vm ρ s := ⟨x.toSt.r, x.tok⟩
theorem SS.kp {g : Heap} {Zc : List Addr} {vm : Str → Option Value} {ls : List (List Addr)} {s s' : Shared} (x : SS prog w g₀ g env Zc vm ρ ls s) (k : Kp s s') : SS prog w g₀ g env Zc vm ρ ls s' := ⟨x.toSt.keeps k.up, Nat.le_trans x.tok k.tk⟩

theorem Exs.nil : Exs prog w g₀ n env ρ [] .next ρ := fun A E g Zc vm ls s hA hS => wpAny_execs_nil ⟨.refl _, vm, ls, hS, rfl⟩
theorem Exs.cons {st : Stmt} {ss : List Stmt} (x : Ex prog w g₀ n env ρ st .next ρ₁) (y : Exs prog w g₀ n env ρ₁ ss fl ρ₂) : Exs prog w g₀ n env ρ (st :: ss) fl ρ₂ := fun A E g Zc vm ls s hA hS => by
  refine wpAny_execs_cons (wpAny_mono (x A E g Zc vm ls s hA hS) (fun f s₁ h => ?_) fun _ _ e => e)
  obtain ⟨r, vm', ls', hS', rfl⟩ := h
  exact wpAny_mono (y A E g Zc vm' ls' s₁ hA hS') (fun f s₂ h => ⟨r.trans h.1, h.2⟩) fun _ _ e => e
theorem Exs.stop {st : Stmt} {ss : List Stmt} {d : D} (x : Ex prog w g₀ n env ρ st (.ret d) ρ₁) : Exs prog w g₀ n env ρ (st :: ss) (.ret d) ρ₁ := fun A E g Zc vm ls s hA hS => by
  refine wpAny_execs_cons (wpAny_mono (x A E g Zc vm ls s hA hS) (fun f s₁ h => ?_) fun _ _ e => e)
  obtain ⟨r, vm', ls', hS', v, rfl, hv⟩ := h
  exact ⟨r, vm', ls', hS', v, rfl, hv⟩
theorem Exs.freeze {ss : List Stmt} {x : Str} {o : Own} {d : D} (hm : (x, .own o) ∈ ρ) (p : PutS x (.dat d) ρ ρ₁) (hod : match o with | .lst ds => d = .lst ds | .idict kvs => d = .idict kvs | .nest dss => d = .lst (dss.map .lst))
    (y : Exs prog w g₀ n env ρ₁ ss fl ρ₂) : Exs prog w g₀ n env ρ ss fl ρ₂ := fun A E g Zc vm ls s hA hS => by
  obtain ⟨ls', hS'⟩ := hS.toSt.freeze p hm hod
  exact y A E g Zc vm ls' s hA ⟨hS', hS.tok⟩

/-- the value of a slot -/
def EvS (prog : Program) (w : World) (g₀ : Heap) (n : Nat) (env : Env) (ρ : Store) (e : Expr) (sl : Slot) : Prop :=
  Run prog w g₀ n env ρ (eval e env) fun Z s v s' => ∃ as, SlotAt prog w (as ++ Z) s'.heap (some v) as sl ∧ as.Nodup ∧ (∀ a ∈ as, s.heap.get? a = none) ∧ ∀ a ∈ as, ∃ o, s'.heap.get? a = some o
theorem Ev.toS {e : Expr} {d : D} (x : Ev prog w g₀ n env ρ e d) : EvS prog w g₀ n env ρ e (.dat d) := x.mono fun Z vm s v s' _ _ r => ⟨[], ⟨rfl, v, rfl, r⟩, .nil, (fun _ h => nomatch h), fun _ h => nomatch h⟩
theorem EvO.toS {e : Expr} {o : Own} (x : EvO prog w g₀ n env ρ e o) : EvS prog w g₀ n env ρ e (.own o) := x.mono fun Z vm s v s' _ _ ⟨as, r, h⟩ => ⟨as, ⟨v, rfl, r⟩, h⟩

theorem SS.put {g : Heap} {Zc : List Addr} {vm : Str → Option Value} {ls : List (List Addr)} {s s₁ : Shared} {A : Around} {E : Value → Shared → Prop} {x : Str} {sl : Slot} {v : Value} {Q : Unit → Shared → Prop}
    (hS : SS prog w g₀ g env Zc vm ρ ls s) (k : Kp s s₁) (p : PutS x sl ρ ρ') {as : List Addr} (new : SlotAt prog w (as ++ Zs env ls Zc) s₁.heap (some v) as sl) (hn : as.Nodup) (hf : ∀ a ∈ as, s.heap.get? a = none) (hal : ∀ a ∈ as, ∃ o, s₁.heap.get? a = some o)
    (hQ : ∀ vm' ls' s', Ru s s' → SS prog w g₀ g env Zc vm' ρ' ls' s' → Q () s') : wpAny (model prog w) A (storeName env x v) Q E s₁ :=
  wpAny_with_toks (n := s₁.toks) (Nat.le_refl _) (hS.toSt.store k.up p new hn hf hal fun vm' ls' h' tk hst hk => hQ vm' ls' _ (k.ru.trans ⟨⟨h', tk, rfl⟩, hk⟩) ⟨hst, Nat.le_trans hS.tok (Nat.le_trans k.tk hk)⟩)

/-- x = e -/
theorem Ex.assign {x : Str} {px pos : Pos} {e : Expr} {sl : Slot} (hx : EvS prog w g₀ n env ρ e sl) (p : PutS x sl ρ ρ') (hs : swapsWith e (some (.Name x px)) pos.line env = pure false := by rfl) :
    Ex prog w g₀ n env ρ (.Assign [.Name x px] e pos) .next ρ' := fun A E g Zc vm ls s hA hS =>
  wpAny_Assign_Name (wpAny_mono (hx A E _ vm s hA hS.rs) (fun v s₁ h => by
    obtain ⟨k, as, new, hn, hf, hal⟩ := h
    exact hS.put k p new hn hf hal fun vm' ls' s' r hS' => ⟨r, vm', ls', hS', rfl⟩) fun _ _ e => e) hs

/-- x += e, a number -/
theorem Ex.augI {x : Str} {px pos : Pos} {e : Expr} {a b : Int} (hx : (x, .dat (.int a)) ∈ ρ) (he : EvB prog w g₀ n env ρ e (.int b)) (p : PutS x (.dat (.int (a + b))) ρ ρ') :
    Ex prog w g₀ n env ρ (.AugAssign (.Name x px) .Add e pos) .next ρ' := fun A E g Zc vm ls s hA hS => by
  obtain ⟨v, hv, r⟩ := hS.rs.free hx
  obtain ⟨t, rfl⟩ := r.int_inv
  refine wpAny_AugAssign_Name (hS.rs.load (mem_names hx) hv (wpAny_mono (he A E _ vm s hA hS.rs) (fun v s₁ h => ?_) fun _ _ e => e))
  obtain ⟨k, h⟩ := h
  obtain ⟨u, rfl⟩ := h.int_inv
  refine PyProof.Rows.iadd_int ?_
  exact hS.put (k.trans (Kp.tok _ _)) p (as := []) ⟨rfl, _, rfl, .int ..⟩ .nil (fun _ h => nomatch h) (fun _ h => nomatch h) fun vm' ls' s' r hS' => ⟨r, vm', ls', hS', rfl⟩

theorem Ex.ite {t : Expr} {b : Bool} {body orelse : List Stmt} {pos : Pos} (ht : Tst prog w g₀ n env ρ t b) (y : if b = true then Exs prog w g₀ n env ρ body fl ρ' else Exs prog w g₀ n env ρ orelse fl ρ') :
    Ex prog w g₀ n env ρ (.If t body orelse pos) fl ρ' := fun A E g Zc vm ls s hA hS => by
  refine wpAny_If (wpAny_mono (ht A E _ vm s hA hS.rs) (fun v s₁ h => ?_) fun _ _ e => e)
  obtain ⟨k, rfl⟩ := h
  cases v with
  | true => exact wpAny_mono ((if_pos rfl ▸ y) A E g Zc vm ls s₁ hA (hS.kp k)) (fun f s₂ h => ⟨k.ru.trans h.1, h.2⟩) fun _ _ e => e
  | false => exact wpAny_mono ((if_neg Bool.false_ne_true ▸ y) A E g Zc vm ls s₁ hA (hS.kp k)) (fun f s₂ h => ⟨k.ru.trans h.1, h.2⟩) fun _ _ e => e

theorem Ex.ret {e : Expr} {d : D} {pos : Pos} (hx : Ev prog w g₀ n env ρ e d) : Ex prog w g₀ n env ρ (.Return (some e) pos) (.ret d) ρ := fun A E g Zc vm ls s hA hS =>
  wpAny_Return_some (wpAny_mono (hx A E _ vm s hA hS.rs) (fun v s₁ h => ⟨h.1.ru, vm, ls, hS.kp h.1, v, rfl, h.2⟩) fun _ _ e => e)
end
end Mine

namespace Mine
open PySem

/-- all free data stays as it was -/
def Mv (Z : List Addr) (h : Heap) (Z' : List Addr) (h' : Heap) : Prop := ∀ b o, b ∉ Z → h.get? b = some o → h'.get? b = some o ∧ b ∉ Z'
theorem Mv.refl (Z : List Addr) (h : Heap) : Mv Z h Z h := fun _ _ hb e => ⟨e, hb⟩
theorem Mv.trans {Z Z' Z'' : List Addr} {h h' h'' : Heap} (x : Mv Z h Z' h') (y : Mv Z' h' Z'' h'') : Mv Z h Z'' h'' := fun b o hb e => let ⟨e', hb'⟩ := x b o hb e; y b o hb' e'
theorem Mv.kp {Z : List Addr} {s s' : Shared} (k : Kp s s') : Mv Z s.heap Z s'.heap := fun b o hb e => ⟨k.up b o e, hb⟩

section
variable {prog : Program} {w : World} {g₀ g : Heap} {n : Nat} {env : Env} {ρ ρ₁ ρ₂ ρ' : Store} {mg mb : Str → Option Value} {fl : Fl} {Z Zc Zc' : List Addr} {vm : Str → Option Value} {ls : List (List Addr)} {h h' : Heap}

theorem St.perm (x : St prog w g₀ g env Zc vm ρ ls h) (p : Zc.Perm Zc') : St prog w g₀ g env Zc' vm ρ ls h := by
  have pz : (Zs env ls Zc).Perm (Zs env ls Zc') := by unfold Zs; exact (p.append_left _).append_left _
  exact ⟨x.wf, x.nofree, x.base, x.keep, x.frame, x.slots.move (fun _ _ => rfl) (fun b o hb e => ⟨e, fun hm => hb (pz.mem_iff.mpr hm)⟩) (fun _ _ _ e => e), pz.nodup_iff.mp x.nodup, fun a ha => x.alive a (pz.mem_iff.mpr ha), x.fresh, fun a ha => x.zc a (p.mem_iff.mpr ha)⟩

theorem SS.putP {s : Shared} {A : Around} {E : Value → Shared → Prop} {x : Str} {sl : Slot} {v : Value} {as : List Addr} {Q : Unit → Shared → Prop}
    (hS : SS prog w g₀ g env (as ++ Zc) vm ρ ls s) (p : PutS x sl ρ ρ') (new : SlotAt prog w (Zs env ls (as ++ Zc)) s.heap (some v) as sl) (hg : ∀ a ∈ as, g.get? a = none)
    (hQ : ∀ vm' ls' s', Ru s s' → SS prog w g₀ g env Zc vm' ρ' ls' s' → Mv (Zs env ls (as ++ Zc)) s.heap (Zs env ls' Zc) s'.heap → (∀ a ∈ Zc, ∀ o, s.heap.get? a = some o → s'.heap.get? a = some o) → Q () s') : wpAny (model prog w) A (storeName env x v) Q E s := by
  refine hS.toSt.storeP p new hg fun L vm' ls' h' tk hL hsb htk sub hst => hQ vm' ls' _ ⟨⟨h', tk, rfl⟩, htk⟩ ⟨hst, Nat.le_trans hS.tok htk⟩ (fun b o hb e => ⟨hsb.extBut b o (fun z => hb ?_) e, fun hm => hb (sub b hm)⟩) fun a ha o e => hsb.extBut a o (fun z => ?_) e
  · rw [z]; exact List.mem_append_left _ hL
  · have nd := hS.nodup
    unfold Zs at nd
    exact (List.nodup_append.mp nd).2.2 L hL a (List.mem_append_right _ (List.mem_append_right _ ha)) z.symm
theorem SS.putD {s : Shared} {A : Around} {E : Value → Shared → Prop} {x : Str} {d : D} {v : Value} {Q : Unit → Shared → Prop}
    (hS : SS prog w g₀ g env Zc vm ρ ls s) (p : PutS x (.dat d) ρ ρ') (new : Rd prog w (Zs env ls Zc) s.heap v d)
    (hQ : ∀ vm' ls' s', Ru s s' → SS prog w g₀ g env Zc vm' ρ' ls' s' → Mv (Zs env ls Zc) s.heap (Zs env ls' Zc) s'.heap → Q () s') : wpAny (model prog w) A (storeName env x v) Q E s :=
  SS.putP (as := []) hS p ⟨rfl, v, rfl, new⟩ (fun _ h => nomatch h) fun vm' ls' s' r h m _ => hQ vm' ls' s' r h m

/-- a target takes a datum -/
def Asg (prog : Program) (w : World) (g₀ : Heap) (n : Nat) (env : Env) (ρ : Store) (t : Expr) (d : D) (ρ' : Store) : Prop :=
  ∀ (A : Around) (E : Value → Shared → Prop) (g : Heap) (Zc : List Addr) (vm : Str → Option Value) (ls : List (List Addr)) (s : Shared) (v : Value), Lv n A → SS prog w g₀ g env Zc vm ρ ls s → Rd prog w (Zs env ls Zc) s.heap v d →
    wpAny (model prog w) A (assign t env v) (fun _ s' => Ru s s' ∧ ∃ vm' ls', SS prog w g₀ g env Zc vm' ρ' ls' s' ∧ Mv (Zs env ls Zc) s.heap (Zs env ls' Zc) s'.heap) E s

theorem Asg.name {x : Str} {px : Pos} {d : D} (p : PutS x (.dat d) ρ ρ') : Asg prog w g₀ n env ρ (.Name x px) d ρ' := fun A E g Zc vm ls s v hA hS hv =>
  wpAny_assign_Name (hS.putD p hv fun vm' ls' s' r hS' m => ⟨r, vm', ls', hS', m⟩)

/-- what a name's own list turned at a place is -/
theorem SS.turnL {s : Shared} {x : Str} {ds ds' : List D} {h' : Heap} {tk : Nat} {a : Addr} {vs : Array Value} (hS : SS prog w g₀ g env Zc vm ρ ls s) (hx : (x, .own (.lst ds)) ∈ ρ) (hv : vm x = some (.ref a)) (p : PutS x (.own (.lst ds')) ρ ρ')
    (hs : Heap.SameBut a s.heap h') (l : h'.PlainList a vs) (r : RdAll prog w (Zs env ls Zc) s.heap vs.toList ds') (htk : s.toks ≤ tk) :
    Ru s { s with heap := h', toks := tk } ∧ ∃ ls', SS prog w g₀ g env Zc vm ρ' ls' { s with heap := h', toks := tk } ∧ Mv (Zs env ls Zc) s.heap (Zs env ls' Zc) h' := by
  have aZ : a ∈ Zs env ls Zc := by
    obtain ⟨as, hm, u, hu, b, ws, e, e', _⟩ := hS.slots.at hx
    rw [hv] at hu; cases hu; cases e
    unfold Zs
    refine List.mem_append_right _ (List.mem_append_left _ (List.mem_flatten.mpr ⟨as, hm, by rw [e']; exact .head _⟩))
  have k : ∀ b o, b ∉ Zs env ls Zc → s.heap.get? b = some o → h'.get? b = some o ∧ b ∉ Zs env ls Zc := fun b o hb e => ⟨hs.extBut b o (fun z => hb (z ▸ aZ)) e, hb⟩
  have q := hS.toSt.turn p (as₀ := [a]) (s₀ := .own (.lst ds)) (fun as hh => by obtain ⟨u, hu, b, ws, rfl, rfl, _⟩ := hh; rw [hv] at hu; cases hu; rfl) hx (.head _) hs (let ⟨c, e⟩ := l; ⟨_, e⟩)
    ⟨_, hv, a, vs, rfl, rfl, l, r.move k⟩
  exact ⟨⟨⟨h', tk, rfl⟩, htk⟩, ls, ⟨q, Nat.le_trans hS.tok htk⟩, k⟩

theorem SS.turnI {s : Shared} {x : Str} {kds kds' : List (Int × D)} {h' : Heap} {tk : Nat} {a : Addr} {kvs : List (Int × Value)} (hS : SS prog w g₀ g env Zc vm ρ ls s) (hx : (x, .own (.idict kds)) ∈ ρ) (hv : vm x = some (.ref a)) (p : PutS x (.own (.idict kds')) ρ ρ')
    (ne : (a == sysModules) = false) (hs : Heap.SameBut a s.heap h') (l : h'.DictOf (intKind prog w) a kvs) (e : kvs.map (·.1) = kds'.map (·.1)) (r : RdAll prog w (Zs env ls Zc) s.heap (kvs.map (·.2)) (kds'.map (·.2))) (htk : s.toks ≤ tk) :
    Ru s { s with heap := h', toks := tk } ∧ ∃ ls', SS prog w g₀ g env Zc vm ρ' ls' { s with heap := h', toks := tk } ∧ Mv (Zs env ls Zc) s.heap (Zs env ls' Zc) h' := by
  have aZ : a ∈ Zs env ls Zc := by
    obtain ⟨as, hm, u, hu, b, ws, e, e', _⟩ := hS.slots.at hx
    rw [hv] at hu; cases hu; cases e
    unfold Zs
    refine List.mem_append_right _ (List.mem_append_left _ (List.mem_flatten.mpr ⟨as, hm, by rw [e']; exact .head _⟩))
  have k : ∀ b o, b ∉ Zs env ls Zc → s.heap.get? b = some o → h'.get? b = some o ∧ b ∉ Zs env ls Zc := fun b o hb e => ⟨hs.extBut b o (fun z => hb (z ▸ aZ)) e, hb⟩
  have q := hS.toSt.turn p (as₀ := [a]) (s₀ := .own (.idict kds)) (fun as hh => by obtain ⟨u, hu, b, ws, rfl, rfl, _⟩ := hh; rw [hv] at hu; cases hu; rfl) hx (.head _) hs (let ⟨o, _, _, e, _⟩ := l; ⟨_, e⟩)
    ⟨_, hv, a, kvs, rfl, rfl, ne, l, e, r.move k⟩
  exact ⟨⟨⟨h', tk, rfl⟩, htk⟩, ls, ⟨q, Nat.le_trans hS.tok htk⟩, k⟩

theorem SS.own {s : Shared} {x : Str} {ds : List D} (hS : SS prog w g₀ g env Zc vm ρ ls s) (hx : (x, .own (.lst ds)) ∈ ρ) : ∃ a vs, vm x = some (.ref a) ∧ s.heap.PlainList a vs ∧ RdAll prog w (Zs env ls Zc) s.heap vs.toList ds := by
  obtain ⟨as, _, u, hu, a, vs, rfl, _, l, r⟩ := hS.slots.at hx
  exact ⟨a, vs, hu, l, r⟩
theorem SS.ownI {s : Shared} {x : Str} {kds : List (Int × D)} (hS : SS prog w g₀ g env Zc vm ρ ls s) (hx : (x, .own (.idict kds)) ∈ ρ) :
    ∃ a kvs, vm x = some (.ref a) ∧ (a == sysModules) = false ∧ s.heap.DictOf (intKind prog w) a kvs ∧ kvs.map (·.1) = kds.map (·.1) ∧ RdAll prog w (Zs env ls Zc) s.heap (kvs.map (·.2)) (kds.map (·.2)) := by
  obtain ⟨as, _, u, hu, a, kvs, rfl, _, ne, l, q, r⟩ := hS.slots.at hx
  exact ⟨a, kvs, hu, ne, l, q, r⟩

/-- a dict of numbers with one more, or one other, entry -/
def putI (kds : List (Int × D)) (k : Int) (d : D) : List (Int × D) := if kds.any (fun kv => kv.1 = k) then kds.map (fun kv => if kv.1 = k then (kv.1, d) else kv) else kds ++ [(k, d)]
theorem any_keys {k : Int} : ∀ {kvs : List (Int × Value)} {kds : List (Int × D)}, kvs.map (·.1) = kds.map (·.1) → kvs.any (fun kv => kv.1 = k) = kds.any (fun kv => kv.1 = k)
  | [], [], _ => rfl
  | [], _ :: _, q => by simp at q
  | _ :: _, [], q => by simp at q
  | kv :: kvs, kd :: kds, q => by
    simp only [List.map_cons, List.cons.injEq] at q
    simp only [List.any_cons, q.1, any_keys q.2]
theorem map_keys {k : Int} {v : Value} {d : D} (rd : Rd prog w Z h v d) : ∀ {kvs : List (Int × Value)} {kds : List (Int × D)}, kvs.map (·.1) = kds.map (·.1) → RdAll prog w Z h (kvs.map (·.2)) (kds.map (·.2)) →
    (kvs.map (fun kv => if kv.1 = k then (kv.1, v) else kv)).map (·.1) = (kds.map (fun kv => if kv.1 = k then (kv.1, d) else kv)).map (·.1) ∧
    RdAll prog w Z h ((kvs.map (fun kv => if kv.1 = k then (kv.1, v) else kv)).map (·.2)) ((kds.map (fun kv => if kv.1 = k then (kv.1, d) else kv)).map (·.2))
  | [], [], _, _ => ⟨rfl, .nil⟩
  | [], _ :: _, q, _ => by simp at q
  | _ :: _, [], q, _ => by simp at q
  | kv :: kvs, kd :: kds, q, r => by
    simp only [List.map_cons, List.cons.injEq] at q
    cases r with
    | cons a b =>
      obtain ⟨h1, h2⟩ := map_keys rd q.2 b
      rw [List.map_cons, List.map_cons, List.map_cons, List.map_cons, List.map_cons, List.map_cons]
      by_cases hk : kd.1 = k
      · have hk' : kv.1 = k := q.1.trans hk
        rw [if_pos hk, if_pos hk']
        exact ⟨by rw [h1]; simp [q.1], .cons rd h2⟩
      · have hk' : ¬ kv.1 = k := fun e => hk (q.1.symm.trans e)
        rw [if_neg hk, if_neg hk']
        exact ⟨by rw [h1]; simp [q.1], .cons a h2⟩
theorem stored_put {k : Int} {v : Value} {d : D} (rd : Rd prog w Z h v d) {kvs : List (Int × Value)} {kds : List (Int × D)} (q : kvs.map (·.1) = kds.map (·.1)) (r : RdAll prog w Z h (kvs.map (·.2)) (kds.map (·.2))) :
    (stored kvs k v).map (·.1) = (putI kds k d).map (·.1) ∧ RdAll prog w Z h ((stored kvs k v).map (·.2)) ((putI kds k d).map (·.2)) := by
  unfold stored putI
  rw [any_keys q]
  split
  · exact map_keys rd q r
  · simp only [List.map_append, List.map_cons, List.map_nil]
    exact ⟨by rw [q], r.append (.one rd)⟩

theorem setItem_plain {A : Around} {E : Value → Shared → Prop} {s : Shared} {l : Addr} {items : Array Value} {k : Int} {t : Tok} {v : Value} {Q : Unit → Shared → Prop} (hl : s.heap.PlainList l items)
    (h0 : 0 ≤ k) (hfit : k < 2 ^ 63) (hn : k < items.size)
    (hQ : ∀ h', h'.PlainList l (items.setIfInBounds k.toNat v) → Heap.SameBut l s.heap h' → Q () { s with heap := h' }) :
    wpAny (model prog w) A (setItem (.ref l) (.int k t) v) Q E s := by
  obtain ⟨n, ho⟩ := hl
  have hT : s.TypeIs (.ref l) "list" := ⟨_, ho, rfl⟩
  unfold setItem
  try with_reducible refine wpAny_holding ?_
  first | refine wpAny_bind (wpAny_pure ?_) | skip
  refine wpAny_bind (wpAny_sequenceKey hT (by decide) ?_)
  refine wpAny_bind (wpAny_callSpecial?_slot (name := Str.ofString "__setitem__") hT slot_list_setitem
    (wpAny_call_entry slot_list_setitem hT entry_list_setitem ?_ (args_list_setitem _ _ _)))
  show wpAny _ _ (Builtin.List.listSubscript? (.int k t) >>= _) _ _ s
  refine wpAny_bind (wpAny_listSubscript_int (fitsIndex_of h0 hfit) ?_)
  clear hfit
  obtain ⟨j, rfl⟩ := Int.eq_ofNat_of_zero_le h0
  have hj : j < items.size := by omega
  have hx' : items[j]? = some items[j] := Array.getElem?_eq_getElem hj
  show wpAny _ _ ((seqItemAt l j >>= fun r => pure (r.map (j, ·))) >>= _) _ _ s
  refine wpAny_bind (wpAny_bind (wpAny_seqItemAt ho rfl (wpAny_pure ?_)))
  rw [hx']
  show wpAny _ _ (setSeqItemAt l j v >>= _) _ _ s
  have hfin : (s.heap.update l (Obj.mapSeq (·.setIfInBounds j v))).PlainList l (items.setIfInBounds j v) := by
    refine ⟨n, ?_⟩
    rw [Heap.get?_update_self _ ho rfl]
    simp [Obj.mapSeq]
  refine wpAny_bind (wpAny_setSeqItemAt ho rfl ?_)
  first
    | exact wpAny_bind (wpAny_pure (wpAny_pure ⟨.none, rfl, wpAny_pure (hQ _ hfin (Heap.SameBut.update ..))⟩))
    | exact wpAny_pure ⟨.none, rfl, wpAny_pure (hQ _ hfin (Heap.SameBut.update ..))⟩

/-- xs[i] = d, xs a list of the name's own -/
theorem Asg.subL {x : Str} {px pos : Pos} {i : Expr} {ds : List D} {d : D} {k : Int} (hx : (x, .own (.lst ds)) ∈ ρ) (hi : EvB prog w g₀ n env ρ i (.int k)) (hk : 0 ≤ k ∧ k.toNat < ds.length ∧ k < 2 ^ 63) (p : PutS x (.own (.lst (ds.set k.toNat d))) ρ ρ') :
    Asg prog w g₀ n env ρ (.Subscript (.Name x px) i pos) d ρ' := fun A E g Zc vm ls s v hA hS hv => by
  obtain ⟨a, vs, hva, l, r⟩ := hS.own hx
  rw [assign_Subscript]
  refine wpAny_bind (wpAny_holding (wpAny_Name (hS.rs.load (mem_names hx) hva (wpAny_bind (wpAny_holding (wpAny_mono (hi A E _ vm s hA hS.rs) (fun iv s₁ h => ?_) fun _ _ e => e)))) (hS.wf.plain x (mem_names hx)).1))
  obtain ⟨kk, h⟩ := h
  obtain ⟨t, rfl⟩ := h.int_inv
  refine wpAny_bind (wpAny_standAt (wpAny_bind (wpAny_holding ?_)))
  have len := r.length
  simp only [Array.length_toList] at len
  have hS₁ := hS.kp kk
  have rr := (r.keep kk.up).set (hv.keep kk.up) k.toNat
  refine setItem_plain (l.at fun o e => kk.up _ _ e) hk.1 hk.2.2 (by omega) fun h' l' hs' => wpAny_release ?_
  obtain ⟨r1, ls', r2, r3⟩ := hS₁.turnL (tk := s₁.toks) hx hva p hs' l' (by simpa using rr) (Nat.le_refl _)
  exact ⟨kk.ru.trans r1, vm, ls', r2, (Mv.kp kk).trans r3⟩

/-- d[k] = v, d a dict of numbers of the name's own -/
theorem Asg.subI {x : Str} {px pos : Pos} {i : Expr} {kds : List (Int × D)} {d : D} {k : Int} (hx : (x, .own (.idict kds)) ∈ ρ) (hi : EvB prog w g₀ n env ρ i (.int k)) (hl : kds.length ≤ sizeLine) (p : PutS x (.own (.idict (putI kds k d))) ρ ρ') :
    Asg prog w g₀ n env ρ (.Subscript (.Name x px) i pos) d ρ' := fun A E g Zc vm ls s v hA hS hv => by
  obtain ⟨a, kvs, hva, ne, l, q, r⟩ := hS.ownI hx
  rw [assign_Subscript]
  refine wpAny_bind (wpAny_holding (wpAny_Name (hS.rs.load (mem_names hx) hva (wpAny_bind (wpAny_holding (wpAny_mono (hi A E _ vm s hA hS.rs) (fun iv s₁ h => ?_) fun _ _ e => e)))) (hS.wf.plain x (mem_names hx)).1))
  obtain ⟨kk, h⟩ := h
  obtain ⟨t, rfl⟩ := h.int_inv
  refine wpAny_bind (wpAny_standAt (wpAny_bind (wpAny_holding ?_)))
  have hS₁ := hS.kp kk
  have len : kvs.length = kds.length := by simpa using congrArg List.length q
  obtain ⟨e, rr⟩ := stored_put (k := k) (hv.keep kk.up) q (r.keep kk.up)
  refine wpAny_setItem_pairs (knd := intKind prog w) (intKind_is prog w k t) (dictOf_at l fun o e => kk.up _ _ e) (fun h' l' hs' => wpAny_release ?_) (by omega)
  obtain ⟨r1, ls', r2, r3⟩ := hS₁.turnI (tk := s₁.toks + 1) hx hva p ne hs' l' e rr (Nat.le_succ _)
  exact ⟨kk.ru.trans r1, vm, ls', r2, (Mv.kp kk).trans r3⟩

/-- several targets, each one's datum -/
inductive AsgAll (prog : Program) (w : World) (g₀ : Heap) (n : Nat) (env : Env) : Store → List Expr → List D → Store → Prop
  | nil {ρ : Store} : AsgAll prog w g₀ n env ρ [] [] ρ
  | cons {ρ ρ₁ ρ₂ : Store} {t : Expr} {ts : List Expr} {d : D} {ds : List D} (x : Asg prog w g₀ n env ρ t d ρ₁) (y : AsgAll prog w g₀ n env ρ₁ ts ds ρ₂) (h : unstarred t = true := by rfl) : AsgAll prog w g₀ n env ρ (t :: ts) (d :: ds) ρ₂

theorem assignEach_cons {t : Expr} {ts : List Expr} (h : unstarred t = true) : assignEach (t :: ts) env = (false, assign t env) :: assignEach ts env := by
  cases t <;> first | rfl | exact absurd (show false = true from h) Bool.false_ne_true
theorem AsgAll.len {ts : List Expr} {ds : List D} (x : AsgAll prog w g₀ n env ρ ts ds ρ') : (assignEach ts env).length = ds.length ∧ (assignEach ts env).findIdx? (·.1) = none := by
  induction x with
  | nil => exact ⟨rfl, rfl⟩
  | cons a b h ih => rw [assignEach_cons h]; exact ⟨by simp [ih.1], by simp [List.findIdx?_cons, ih.2]⟩
theorem AsgAll.run {ts : List Expr} {ds : List D} (x : AsgAll prog w g₀ n env ρ ts ds ρ') : ∀ (A : Around) (E : Value → Shared → Prop) (g : Heap) (Zc : List Addr) (vm : Str → Option Value) (ls : List (List Addr)) (s : Shared) (vs : List Value), Lv n A →
    SS prog w g₀ g env Zc vm ρ ls s → RdAll prog w (Zs env ls Zc) s.heap vs ds →
    wpAny (model prog w) A (assignInOrder ((assignEach ts env).map (·.2)) vs) (fun _ s' => Ru s s' ∧ ∃ vm' ls', SS prog w g₀ g env Zc vm' ρ' ls' s' ∧ Mv (Zs env ls Zc) s.heap (Zs env ls' Zc) s'.heap) E s := by
  induction x with
  | nil =>
    intro A E g Zc vm ls s vs hA hS hv
    cases hv
    exact wpAny_pure ⟨.refl _, vm, ls, hS, .refl _ _⟩
  | cons a b h ih =>
    intro A E g Zc vm ls s vs hA hS hv
    cases hv with
    | cons hd ht =>
      rw [assignEach_cons h]
      show wpAny _ _ (do holding _ (assign _ env _); assignInOrder _ _) _ _ _
      refine wpAny_bind (wpAny_holding (wpAny_mono (a A E g Zc vm ls s _ hA hS hd) (fun _ s₁ q => ?_) fun _ _ e => e))
      obtain ⟨r, vm', ls', hS', m⟩ := q
      exact wpAny_mono (ih A E g Zc vm' ls' s₁ _ hA hS' (ht.move m)) (fun _ s₂ q => by
        obtain ⟨r', vm'', ls'', hS'', m'⟩ := q
        exact ⟨r.trans r', vm'', ls'', hS'', m.trans m'⟩) fun _ _ e => e

/-- t1, t2, .. as a target -/
theorem Asg.tup {ts : List Expr} {k : Nat} {pos : Pos} {ds : List D} (x : AsgAll prog w g₀ n env ρ ts ds ρ') : Asg prog w g₀ n env ρ (.Tuple ts k pos) (.tup ds) ρ' := fun A E g Zc vm ls s v hA hS hv => by
  obtain ⟨a, vs, rfl, l, r⟩ := (RdB.free hv).tup_inv
  have len := r.length
  simp only [Array.length_toList] at len
  refine wpAny_assign_Tuple hA.hh l (by rw [x.len.1, len]) x.len.2 fun h' hx => ?_
  have kk : Kp s { s with heap := h' } := Kp.of (t := s.toks) (fun b o e => hx b o (Nat.ne_of_lt (Heap.lt_size e)) e) (Nat.le_refl _)
  refine wpAny_mono (x.run A E g Zc vm ls _ vs.toList hA (hS.kp kk) (r.keep kk.up)) (fun _ s₂ q => ?_) fun _ _ e => e
  obtain ⟨r', vm'', ls'', hS'', m'⟩ := q
  exact ⟨kk.ru.trans r', vm'', ls'', hS'', (Mv.kp kk).trans m'⟩

/-- a target takes what an expression gives -/
theorem Ex.assignT {ts : List Expr} {k : Nat} {tp pos : Pos} {e : Expr} {ds : List D} (he : Ev prog w g₀ n env ρ e (.tup ds)) (x : AsgAll prog w g₀ n env ρ ts ds ρ') (hs : swapsWithSole [.Tuple ts k tp] e pos.line env = pure false := by rfl)
    (hw : swappedStores [.Tuple ts k tp] e env = pure none := by rfl) : Ex prog w g₀ n env ρ (.Assign [.Tuple ts k tp] e pos) .next ρ' := fun A E g Zc vm ls s hA hS =>
  PyProof.Rows.Assign_Tuple (wpAny_mono (he A E _ vm s hA hS.rs) (fun v s₁ h => wpAny_mono (Asg.tup (k := k) (pos := tp) x A E g Zc vm ls s₁ v hA (hS.kp h.1) h.2) (fun _ s₂ q => by
    obtain ⟨r', vm'', ls'', hS'', m'⟩ := q
    exact ⟨h.1.ru.trans r', vm'', ls'', hS'', rfl⟩) fun _ _ e => e) fun _ _ e => e) hs hw
theorem Ex.assignS {o i : Expr} {tp pos : Pos} {e : Expr} {d : D} (he : Ev prog w g₀ n env ρ e d) (x : Asg prog w g₀ n env ρ (.Subscript o i tp) d ρ') (hs : swapsWith e (some (.Subscript o i tp)) pos.line env = pure false := by rfl) :
    Ex prog w g₀ n env ρ (.Assign [.Subscript o i tp] e pos) .next ρ' := fun A E g Zc vm ls s hA hS => by
  rw [exec_Assign_Subscript _ _ _ _ _ hs]
  refine wpAny_bind (wpAny_standAt (wpAny_bind (wpAny_mono (he A E _ vm s hA hS.rs) (fun v s₁ h => wpAny_bind (wpAny_mono (x A E g Zc vm ls s₁ v hA (hS.kp h.1) h.2) (fun _ s₂ q => ?_) fun _ _ e => e)) fun _ _ e => e)))
  obtain ⟨r', vm'', ls'', hS'', m'⟩ := q
  exact wpAny_pure ⟨h.1.ru.trans r', vm'', ls'', hS'', rfl⟩
end
end Mine

namespace Mine
open PySem

/-- values in several slots, each with its own places -/
inductive SlotsV (prog : Program) (w : World) (Z : List Addr) (h : Heap) : List Value → List (List Addr) → List Slot → Prop
  | nil : SlotsV prog w Z h [] [] []
  | cons {v : Value} {as : List Addr} {sl : Slot} {vs : List Value} {ass : List (List Addr)} {sls : List Slot} (x : SlotAt prog w Z h (some v) as sl) (y : SlotsV prog w Z h vs ass sls) : SlotsV prog w Z h (v :: vs) (as :: ass) (sl :: sls)

def EvSAll (prog : Program) (w : World) (g₀ : Heap) (n : Nat) (env : Env) (ρ : Store) (es : List Expr) (sls : List Slot) : Prop :=
  es.all unstarred = true ∧ Run prog w g₀ n env ρ (spliced (starEach es env)) fun Z s vs s' => ∃ ass, SlotsV prog w (ass.flatten ++ Z) s'.heap vs ass sls ∧ ass.flatten.Nodup ∧ (∀ a ∈ ass.flatten, s.heap.get? a = none) ∧ ∀ a ∈ ass.flatten, ∃ o, s'.heap.get? a = some o

section
variable {prog : Program} {w : World} {g₀ g : Heap} {n : Nat} {env : Env} {ρ ρ₁ ρ₂ ρ' : Store} {mg mb : Str → Option Value} {fl : Fl} {Z Z' Zc Zc' : List Addr} {vm : Str → Option Value} {ls : List (List Addr)} {h h' : Heap}

theorem SlotsV.move {vs : List Value} {ass : List (List Addr)} {sls : List Slot} (x : SlotsV prog w Z h vs ass sls) (k : ∀ b o, b ∉ Z → h.get? b = some o → h'.get? b = some o ∧ b ∉ Z')
    (ka : ∀ a ∈ ass.flatten, ∀ o, h.get? a = some o → h'.get? a = some o) : SlotsV prog w Z' h' vs ass sls := by
  induction x with
  | nil => exact .nil
  | cons a r ih => exact .cons (a.move k fun b hb => ka b (by simp [hb])) (ih fun b hb => ka b (by rw [List.flatten_cons]; exact List.mem_append_right _ hb))
theorem SlotsV.append {vs us : List Value} {ass bss : List (List Addr)} {sls tls : List Slot} (x : SlotsV prog w Z h vs ass sls) (y : SlotsV prog w Z h us bss tls) : SlotsV prog w Z h (vs ++ us) (ass ++ bss) (sls ++ tls) := by
  induction x with
  | nil => exact y
  | cons a r ih => exact .cons a ih
theorem SlotsV.reverse {vs : List Value} {ass : List (List Addr)} {sls : List Slot} (x : SlotsV prog w Z h vs ass sls) : SlotsV prog w Z h vs.reverse ass.reverse sls.reverse := by
  induction x with
  | nil => exact .nil
  | cons a r ih => simp only [List.reverse_cons]; exact ih.append (.cons a .nil)
theorem SlotsV.len {vs : List Value} {ass : List (List Addr)} {sls : List Slot} (x : SlotsV prog w Z h vs ass sls) : vs.length = sls.length := by
  induction x with
  | nil => rfl
  | cons a r ih => simp [ih]

theorem RS.protect {s s₁ : Shared} {as : List Addr} (hS : RS prog w g₀ env Z vm ρ s) (k : Kp s s₁) (hf : ∀ a ∈ as, s.heap.get? a = none) (hal : ∀ a ∈ as, ∃ o, s₁.heap.get? a = some o) : RS prog w g₀ env (as ++ Z) vm ρ s₁ := by
  have h1 := hS.keep k
  refine ⟨⟨h1.wf, h1.base, h1.frame, ?_, ?_, ?_⟩, h1.tok⟩
  · obtain ⟨ls, x⟩ := hS.slots
    exact ⟨ls, x.move (fun _ _ => rfl) (fun b o hb e => ⟨k.up b o e, fun hm => by
      rcases List.mem_append.mp hm with hm | hm
      · rw [hf b hm] at e; cases e
      · exact hb hm⟩) fun a _ o e => k.up a o e⟩
  · intro a ha
    rcases List.mem_append.mp ha with ha | ha
    · exact hal a ha
    · exact h1.alive a ha
  · intro a ha
    rcases List.mem_append.mp ha with ha | ha
    · cases e : g₀.get? a with
      | none => rfl
      | some o => have := hS.base a o e; rw [hf a ha] at this; cases this
    · exact hS.apart a ha

theorem EvSAll.nil : EvSAll prog w g₀ n env ρ [] [] := ⟨rfl, fun A E Z vm s _ _ => Calls.spliced_nil ⟨.refl _, [], .nil, .nil, (fun _ h => nomatch h), fun _ h => nomatch h⟩⟩
theorem EvSAll.cons {e : Expr} {es : List Expr} {sl : Slot} {sls : List Slot} (x : EvS prog w g₀ n env ρ e sl) (y : EvSAll prog w g₀ n env ρ es sls) (hu : unstarred e = true := by rfl) :
    EvSAll prog w g₀ n env ρ (e :: es) (sl :: sls) := ⟨by rw [List.all_cons, hu, y.1]; rfl, fun A E Z vm s hA hS => by
  rw [starEach_cons hu]
  refine Calls.spliced_cons (wpAny_mono (x A E Z vm s hA hS) (fun v s₁ h₁ => ?_) fun _ _ e => e)
  obtain ⟨k₁, as, r₁, n₁, f₁, a₁⟩ := h₁
  refine wpAny_mono (y.2 A E (as ++ Z) vm s₁ hA (hS.protect k₁ f₁ a₁)) (fun vs s₂ h₂ => ?_) fun _ _ e => e
  obtain ⟨k₂, ass, r₂, n₂, f₂, a₂⟩ := h₂
  have sub : ∀ b, b ∈ (as :: ass).flatten ++ Z → b ∈ ass.flatten ++ (as ++ Z) := fun b hb => by
    simp only [List.flatten_cons, List.mem_append] at hb ⊢; rcases hb with (hb | hb) | hb <;> simp [hb]
  have dis : ∀ a ∈ as, a ∉ ass.flatten := fun a ha hb => by obtain ⟨o, e⟩ := a₁ a ha; rw [f₂ a hb] at e; cases e
  refine ⟨k₁.trans k₂, as :: ass, .cons (r₁.move (fun b o hb e => ⟨k₂.up b o e, fun hm => ?_⟩) fun a _ o e => k₂.up a o e) (r₂.move (fun b o hb e => ⟨e, fun hm => hb (sub b hm)⟩) fun _ _ _ e => e), ?_, ?_, ?_⟩
  · simp only [List.flatten_cons, List.mem_append] at hm
    rcases hm with (hm | hm) | hm
    · exact hb (List.mem_append_left _ hm)
    · rw [f₂ b hm] at e; cases e
    · exact hb (List.mem_append_right _ hm)
  · rw [List.flatten_cons, List.nodup_append]
    exact ⟨n₁, n₂, fun a ha b hb e => dis a ha (e ▸ hb)⟩
  · intro a ha
    rw [List.flatten_cons] at ha
    rcases List.mem_append.mp ha with ha | ha
    · exact f₁ a ha
    · cases e : s.heap.get? a with
      | none => rfl
      | some o => have := k₁.up a o e; rw [f₂ a ha] at this; cases this
  · intro a ha
    rw [List.flatten_cons] at ha
    rcases List.mem_append.mp ha with ha | ha
    · obtain ⟨o, e⟩ := a₁ a ha; exact ⟨o, k₂.up a o e⟩
    · exact a₂ a ha⟩

/-- names put, one after the other -/
inductive Puts : List (Str × Slot) → Store → Store → Prop
  | nil {ρ : Store} : Puts [] ρ ρ
  | cons {x : Str} {sl : Slot} {xs : List (Str × Slot)} {ρ ρ₁ ρ₂ : Store} (p : PutS x sl ρ ρ₁) (q : Puts xs ρ₁ ρ₂) : Puts ((x, sl) :: xs) ρ ρ₂

/-- stores that put a name -/
inductive Stores (env : Env) : List (Value → Sem Unit) → List Str → Prop
  | nil : Stores env [] []
  | cons {t : Value → Sem Unit} {ts : List (Value → Sem Unit)} {x : Str} {xs : List Str}
      (h : ∀ (M : Model) (A : Around) (E : Value → Shared → Prop) (s : Shared) (v : Value) (Q : Unit → Shared → Prop), wpAny M A (storeName env x v) Q E s → wpAny M A (t v) Q E s) (q : Stores env ts xs) : Stores env (t :: ts) (x :: xs)
theorem Stores.bind : ∀ {xs : List Str}, Stores env (xs.map fun x => bindName env x) xs
  | [] => .nil
  | x :: xs => .cons (fun M A E s v Q hq => PyProof.Rows.bindName_ hq) Stores.bind
def nameOf : Expr → Option Str
  | .Name x _ => some x
  | _ => none
theorem Stores.names : ∀ {ts : List Expr} {xs : List Str}, ts.map nameOf = xs.map some → Stores env ((assignEach ts env).map (·.2)) xs
  | [], [], _ => .nil
  | [], _ :: _, e => by simp at e
  | _ :: _, [], e => by simp at e
  | t :: ts, x :: xs, e => by
    simp only [List.map_cons, List.cons.injEq] at e
    obtain ⟨e0, e⟩ := e
    cases t with
    | Name y p =>
      obtain rfl : y = x := Option.some.inj e0
      rw [assignEach_cons rfl]
      exact .cons (fun M A E s v Q hq => PyProof.Rows.assign_Name hq) (Stores.names e)
    | _ => exact nomatch (show (none : Option Str) = some x from e0)

theorem Puts.run {xs : List (Str × Slot)} (p : Puts xs ρ ρ') : ∀ {ts : List (Value → Sem Unit)}, Stores env ts (xs.map (·.1)) → ∀ (A : Around) (E : Value → Shared → Prop) (vm : Str → Option Value) (ls : List (List Addr)) (s : Shared) (vs : List Value) (ass : List (List Addr)),
    SS prog w g₀ g env (ass.flatten ++ Zc) vm ρ ls s → SlotsV prog w (Zs env ls (ass.flatten ++ Zc)) s.heap vs ass (xs.map (·.2)) → (∀ a ∈ ass.flatten, g.get? a = none) →
    wpAny (model prog w) A (assignInOrder ts vs) (fun _ s' => Ru s s' ∧ ∃ vm' ls', SS prog w g₀ g env Zc vm' ρ' ls' s') E s := by
  induction p with
  | nil =>
    intro ts st A E vm ls s vs ass hS hv hg
    cases st; cases hv
    exact wpAny_pure ⟨.refl _, vm, ls, hS⟩
  | @cons x sl xs ρ ρ₁ ρ₂ p q ih =>
    intro ts st A E vm ls s vs ass hS hv hg
    cases st with
    | @cons t ts _ _ ht st =>
      cases hv with
      | @cons v as _ vs ass _ a r =>
        show wpAny _ _ (do holding _ (t v); assignInOrder _ _) _ _ _
        refine wpAny_bind (wpAny_holding (ht _ _ _ _ _ _ ?_))
        have e : (as :: ass).flatten ++ Zc = as ++ (ass.flatten ++ Zc) := by simp [List.append_assoc]
        rw [e] at hS a r
        refine hS.putP p a (fun b hb => hg b (by simp [hb])) fun vm' ls' s' ru hS' mv hz => ?_
        have r' := r.move (h' := s'.heap) (Z' := Zs env ls' (ass.flatten ++ Zc)) mv fun b hb o e => hz b (List.mem_append_left _ hb) o e
        exact wpAny_mono (ih st A E vm' ls' s' vs ass hS' r' fun b hb => hg b (by rw [List.flatten_cons]; exact List.mem_append_right _ hb)) (fun _ s₂ h => ⟨ru.trans h.1, h.2⟩) fun _ _ e => e

theorem isTuple_push {s : Shared} {vs : List Value} : (s.heap.push { cls := .type "tuple", data := .seq vs.toArray }).IsTuple s.heap.objs.size vs.toArray := ⟨_, Heap.get?_push_size _ rfl, rfl, 0, rfl⟩

/-- a tuple whose parts are put into names -/
theorem EvSAll.tuple {es : List Expr} {sls : List Slot} {k : Nat} {p : Pos} {A : Around} {E : Value → Shared → Prop} {s : Shared} {Q : Value → Shared → Prop} (x : EvSAll prog w g₀ n env ρ es sls) (hA : Lv n A) (hS : SS prog w g₀ g env Zc vm ρ ls s) (hl : sls.length ≤ sizeLine)
    (hQ : ∀ ass vs s₁ t, Kp s s₁ → s₁.heap.IsTuple t vs → vs.size = sls.length → SS prog w g₀ g env (ass.flatten ++ Zc) vm ρ ls s₁ → SlotsV prog w (Zs env ls (ass.flatten ++ Zc)) s₁.heap vs.toList ass sls → (∀ a ∈ ass.flatten, g.get? a = none) → Q (.ref t) s₁) :
    wpAny (model prog w) A (eval (.Tuple es k p) env) Q E s := by
  rw [PySem.arm_eval_Tuple, backTo_plain x.1]
  refine wpAny_bind (wpAny_standAt (wpAny_bind (wpAny_mono (x.2 A E _ vm s hA hS.rs) (fun vs s₁ h₁ => ?_) fun _ _ e => e)))
  obtain ⟨k₁, ass, r, nd, hf, hal⟩ := h₁
  have len := r.len
  have up : ∀ b o, s₁.heap.get? b = some o → (s₁.heap.push { cls := .type "tuple", data := .seq vs.toArray }).get? b = some o := fun b o e => Heap.get?_push_of_some _ e
  have K : Kp s { s₁ with heap := s₁.heap.push { cls := .type "tuple", data := .seq vs.toArray } } := k₁.trans (Kp.push s₁ { cls := .type "tuple", data := .seq vs.toArray } s₁.toks)
  refine wpAny_newObj_type (hQ ass vs.toArray _ _ K isTuple_push (by simpa using len) ⟨hS.toSt.protect K.up hf nd fun a ha => let ⟨o, e⟩ := hal a ha; ⟨o, up a o e⟩, Nat.le_trans hS.tok K.tk⟩ ?_ fun a ha => ?_) ?_
  · simp only [List.toList_toArray]
    exact r.move (fun b o hb e => ⟨up b o e, fun hm => hb (by rcases Zs_more_mem.mp hm with hm | hm <;> simp [hm])⟩) fun a _ o e => up a o e
  · cases e : g.get? a with
    | none => rfl
    | some o => have := hS.keep a o e; rw [hf a ha] at this; cases this
  · show vs.toArray.size ≤ sizeLine
    rw [List.size_toArray, len]; exact hl

/-- x, y = (.., ..) in the plain order -/
theorem Ex.tupS {ts es : List Expr} {k k' : Nat} {tp vp pos : Pos} {xs : List (Str × Slot)} (x : EvSAll prog w g₀ n env ρ es (xs.map (·.2))) (p : Puts xs ρ ρ') (ht : ts.map nameOf = xs.map fun x => some x.1) (hl : xs.length ≤ sizeLine)
    (hw : swappedStores [.Tuple ts k tp] (.Tuple es k' vp) env = pure none := by rfl) : Ex prog w g₀ n env ρ (.Assign [.Tuple ts k tp] (.Tuple es k' vp) pos) .next ρ' := fun A E g Zc vm ls s hA hS => by
  refine PyProof.Rows.Assign_Tuple (x.tuple hA hS (by simpa using hl) fun ass vs s₁ t k₁ l q hS₁ r hg => ?_) rfl hw
  have st : Stores env ((assignEach ts env).map (·.2)) (xs.map (·.1)) := Stores.names (by rw [ht]; simp)
  have al : (assignEach ts env).length = xs.length ∧ (assignEach ts env).findIdx? (·.1) = none := by
    clear st hw x p l q hS₁ r hg hl
    revert ts
    induction xs with
    | nil => intro ts ht; cases ts with | nil => exact ⟨rfl, rfl⟩ | cons => simp at ht
    | cons a xs ih =>
      intro ts ht
      cases ts with
      | nil => simp at ht
      | cons t ts =>
        simp only [List.map_cons, List.cons.injEq] at ht
        have : unstarred t = true := by cases t <;> first | rfl | exact nomatch (show (none : Option Str) = some a.1 from ht.1)
        rw [assignEach_cons this]
        have := ih ht.2
        exact ⟨by simp [this.1], by simp [List.findIdx?_cons, this.2]⟩
  refine wpAny_assign_Tuple hA.hh l (by rw [al.1, q]; simp) al.2 fun h' hx => ?_
  have kk : Kp s₁ { s₁ with heap := h' } := Kp.of (t := s₁.toks) (fun b o e => hx b o (Nat.ne_of_lt (Heap.lt_size e)) e) (Nat.le_refl _)
  exact wpAny_mono (p.run st A E vm ls _ vs.toList ass (hS₁.kp kk) (r.move (fun b o hb e => ⟨kk.up b o e, hb⟩) fun a _ o e => kk.up a o e) hg) (fun _ s₂ h => by
    obtain ⟨ru, vm', ls', hS'⟩ := h
    exact ⟨(k₁.trans kk).ru.trans ru, vm', ls', hS', rfl⟩) fun _ _ e => e

/-- x, y = (.., ..), names stored from behind -/
theorem Ex.tupR {ts es : List Expr} {k k' : Nat} {tp vp pos : Pos} {xs : List (Str × Slot)} (x : EvSAll prog w g₀ n env ρ es (xs.map (·.2))) (p : Puts xs.reverse ρ ρ') (hl : xs.length ≤ sizeLine)
    (hw : swappedStores [.Tuple ts k tp] (.Tuple es k' vp) env = pure (some (xs.map (·.1))) := by rfl) : Ex prog w g₀ n env ρ (.Assign [.Tuple ts k tp] (.Tuple es k' vp) pos) .next ρ' := fun A E g Zc vm ls s hA hS => by
  refine PyProof.Rows.Assign_Tuple_swapped (names := xs.map (·.1)) (x.tuple hA hS (by simpa using hl) fun ass vs s₁ t k₁ l q hS₁ r hg => ?_) rfl hw
  rw [show (xs.map (·.1)).length = vs.size by simp [q]]
  refine wpAny_unpackItems_tuple hA.hh l fun h' hx => ?_
  have kk : Kp s₁ { s₁ with heap := h' } := Kp.of (t := s₁.toks) (fun b o e => hx b o (Nat.ne_of_lt (Heap.lt_size e)) e) (Nat.le_refl _)
  have pm : (ass.flatten ++ Zc).Perm (ass.reverse.flatten ++ Zc) := ((List.reverse_perm ass).symm.flatten).append_right _
  have pz : (Zs env ls (ass.flatten ++ Zc)).Perm (Zs env ls (ass.reverse.flatten ++ Zc)) := by unfold Zs; exact (pm.append_left _).append_left _
  have r' := (r.move (h' := h') (Z' := Zs env ls (ass.reverse.flatten ++ Zc)) (fun b o hb e => ⟨kk.up b o e, fun hm => hb (pz.mem_iff.mpr hm)⟩) fun a _ o e => kk.up a o e).reverse
  have st : Stores env ((xs.map (·.1)).reverse.map fun x => bindName env x) (xs.reverse.map (·.1)) := by rw [← List.map_reverse]; exact Stores.bind
  have hS₂ : SS prog w g₀ g env (ass.reverse.flatten ++ Zc) vm ρ ls { s₁ with heap := h' } := ⟨(hS₁.kp kk).toSt.perm pm, (hS₁.kp kk).tok⟩
  rw [← List.map_reverse] at r'
  exact wpAny_mono (p.run st A E vm ls _ vs.toList.reverse ass.reverse hS₂ r' fun a ha => hg a (((List.reverse_perm ass).flatten).mem_iff.mp ha)) (fun _ s₂ h => by
    obtain ⟨ru, vm', ls', hS'⟩ := h
    exact ⟨(k₁.trans kk).ru.trans ru, vm', ls', hS', rfl⟩) fun _ _ e => e

/-- an empty dict -/
theorem EvO.dict {pos : Pos} (G : Gf g₀ mg mb) : EvO prog w g₀ n env ρ (.Dict [] [] pos) (.idict []) := fun A E Z vm s hA hS => by
  refine wpAny_Dict_empty ⟨Kp.push _ _ _, [s.heap.objs.size], ⟨_, [], rfl, rfl, ?_, Heap.DictOf.new s.heap, rfl, .nil⟩, by simp, ?_, ?_⟩
  · obtain ⟨o, e⟩ := G.sys
    have := Heap.lt_size (hS.base _ _ e)
    exact beq_false_of_ne (Nat.ne_of_gt this)
  · intro a ha; rw [List.mem_singleton.mp ha]; exact fresh_of (.refl s)
  · intro a ha; rw [List.mem_singleton.mp ha]; exact ⟨_, Heap.get?_push_size _ rfl⟩
end
end Mine

namespace Mine
open PySem

section
variable {prog : Program} {w : World} {g₀ g : Heap} {n : Nat} {env : Env} {ρ ρ₁ ρ₂ ρ' : Store} {mg mb : Str → Option Value} {fl : Fl} {Z Z' Zc Zc' : List Addr} {vm : Str → Option Value} {ls : List (List Addr)} {h h' : Heap}

theorem set_add {i : Nat} {is : List Int} {a : Int} : (nums is).set i (.int a) = nums (is.set i a) := by
  simp [nums, List.map_set]

/-- xs[i] += e, xs a list of numbers of the name's own -/
theorem Ex.augL {x : Str} {px tpos pos : Pos} {i e : Expr} {is : List Int} {k a b : Int} (hx : (x, .own (.lst (nums is))) ∈ ρ) (hi : EvB prog w g₀ n env ρ i (.int k)) (he : EvB prog w g₀ n env ρ e (.int b)) (hk : 0 ≤ k ∧ k < 2 ^ 63) (ha : is[k.toNat]? = some a)
    (p : PutS x (.own (.lst (nums (is.set k.toNat (a + b))))) ρ ρ')
    (hg : ∀ ov iv new, augStore i ov iv new = (do holding [new, ov, iv] (setItem ov iv new); release [new, ov, iv] []; pure .next) := by intros; rfl) :
    Ex prog w g₀ n env ρ (.AugAssign (.Subscript (.Name x px) i tpos) .Add e pos) .next ρ' := fun A E g Zc vm ls s hA hS => by
  obtain ⟨l, vs, hv, pl, r⟩ := hS.own hx
  refine wpAny_AugAssign_SubscriptAny (wpAny_Name (hS.rs.load (mem_names hx) hv (wpAny_mono (hi A E _ vm s hA hS.rs) (fun iv s₁ h₁ => ?_) fun _ _ e => e)) (hS.wf.plain x (mem_names hx)).1) hg
  obtain ⟨k₁, h₁⟩ := h₁
  obtain ⟨t, rfl⟩ := h₁.int_inv
  have hS₁ := hS.kp k₁
  have pl₁ : s₁.heap.PlainList l vs := pl.at fun o e => k₁.up _ _ e
  have ea : (nums is)[k.toNat]? = some (.int a) := by simp [nums, ha]
  obtain ⟨v, hv', rv⟩ := (r.keep k₁.up).get ea
  refine wpAny_getItem_list pl₁.isList hk.1 hk.2 (by simpa using hv') ?_
  obtain ⟨t', rfl⟩ := rv.int_inv
  refine wpAny_mono (he A E _ vm s₁ hA hS₁.rs) (fun u s₂ h₂ => ?_) fun _ _ e => e
  obtain ⟨k₂, h₂⟩ := h₂
  obtain ⟨t'', rfl⟩ := h₂.int_inv
  refine PyProof.Rows.iadd_int ?_
  have kk := (k₁.trans k₂).trans (Kp.tok s₂ (s₂.toks + 1))
  have hS₃ := hS.kp kk
  have len := r.length
  simp only [Array.length_toList] at len
  have hlt : k.toNat < vs.size := by
    rw [len]; simpa [nums] using (List.getElem?_eq_some_iff.mp ha).1
  refine setItem_plain (pl.at fun o e => kk.up _ _ e) hk.1 hk.2 (by omega) fun h' l' hs' => ?_
  obtain ⟨r1, ls', r2, _⟩ := hS₃.turnL (h' := h') (tk := s₂.toks + 1) hx hv p hs' l' (by
    have := (r.keep kk.up).set (v := .int (a + b) s₂.toks) (d := .int (a + b)) (.int ..) k.toNat
    rw [set_add] at this
    simpa using this) (Nat.le_refl _)
  exact ⟨kk.ru.trans r1, vm, ls', r2, rfl⟩

/-- a method of a name's own list that gives nothing back -/
theorem Ex.expr {e : Expr} {pos : Pos} {P : List Addr → Shared → Shared → Prop} (h : ∀ (A : Around) (E : Value → Shared → Prop) (g : Heap) (Zc : List Addr) (vm : Str → Option Value) (ls : List (List Addr)) (s : Shared), Lv n A → SS prog w g₀ g env Zc vm ρ ls s →
      wpAny (model prog w) A (eval e env) (fun v s' => v = .none ∧ Ru s s' ∧ ∃ ls', SS prog w g₀ g env Zc vm ρ' ls' s') E s) (hi : interactive env = false := by rfl) (hs : swapsWith e none pos.line env = pure false := by rfl) :
    Ex prog w g₀ n env ρ (.Expr e pos) .next ρ' := fun A E g Zc vm ls s hA hS =>
  wpAny_Expr (wpAny_mono (h A E g Zc vm ls s hA hS) (fun v s' q => by
    obtain ⟨rfl, r, ls', q⟩ := q
    exact ⟨r, vm, ls', q, rfl⟩) fun _ _ e => e) hi hs

/-- x.append(e) -/
theorem Ex.append {x : Str} {e : Expr} {px apos cpos pos : Pos} {ds : List D} {d : D} (f : MethForm (.Name x px) "append" apos cpos [e] env) (hx : (x, .own (.lst ds)) ∈ ρ) (he : Ev prog w g₀ n env ρ e d) (hl : ds.length ≤ sizeLine)
    (p : PutS x (.own (.lst (ds ++ [d]))) ρ ρ') (hu : unstarred e = true := by rfl) (hi : interactive env = false := by rfl) : Ex prog w g₀ n env ρ (.Expr (.Call (.Attribute (.Name x px) "append" apos) [e] [] cpos) pos) .next ρ' :=
  Ex.expr (P := fun _ _ _ => True) (hi := hi) fun A E g Zc vm ls s hA hS => by
    have ha := EvAll.cons he EvAll.nil hu
    obtain ⟨l, vs, hv, pl, r⟩ := hS.own hx
    refine call_method f ha.1 (wpAny_Name (hS.rs.load (mem_names hx) hv ?_) (hS.wf.plain x (mem_names hx)).1)
    refine ⟨"list", _, F.plainAttrs_list, F.slot_list_append, F.type_list_append, pl.isList.typeIs, (fun b e => by cases e; obtain ⟨c, e⟩ := pl; exact ⟨_, e, rfl⟩), ?_⟩
    refine callWith_bi (first := [.ref l]) (.inl ⟨_, rfl⟩) ha.1 (wpAny_mono (ha.2 A E _ vm s hA hS.rs) (fun us s₁ h₁ => ?_) fun _ _ e => e)
    obtain ⟨k₁, h₁⟩ := h₁
    obtain ⟨v, rfl⟩ : ∃ v, us = [v] := by cases h₁ with | cons a b => cases b; exact ⟨_, rfl⟩
    cases h₁ with
    | cons rv _ =>
      have len := r.length
      simp only [Array.length_toList] at len
      refine wpAny_list_append_plain (pl.at fun o e => k₁.up _ _ e) (fun h' l' hs' => ?_) (by omega)
      obtain ⟨r1, ls', r2, _⟩ := (hS.kp k₁).turnL (tk := s₁.toks) hx hv p hs' l' (by simpa using (r.keep k₁.up).append (.one rv)) (Nat.le_refl _)
      exact ⟨rfl, k₁.ru.trans r1, ls', r2⟩

/-- x.extend(e), e a new list -/
theorem Ex.extend {x : Str} {e : Expr} {px apos cpos pos : Pos} {ds ds' : List D} (f : MethForm (.Name x px) "extend" apos cpos [e] env) (hx : (x, .own (.lst ds)) ∈ ρ) (he : EvO prog w g₀ n env ρ e (.lst ds')) (hl : ds.length + ds'.length ≤ sizeLine)
    (p : PutS x (.own (.lst (ds ++ ds'))) ρ ρ') (hu : unstarred e = true := by rfl) (hi : interactive env = false := by rfl) : Ex prog w g₀ n env ρ (.Expr (.Call (.Attribute (.Name x px) "extend" apos) [e] [] cpos) pos) .next ρ' :=
  Ex.expr (P := fun _ _ _ => True) (hi := hi) fun A E g Zc vm ls s hA hS => by
    have ha := EvSAll.cons he.toS EvSAll.nil hu
    obtain ⟨l, vs, hv, pl, r⟩ := hS.own hx
    refine call_method f ha.1 (wpAny_Name (hS.rs.load (mem_names hx) hv ?_) (hS.wf.plain x (mem_names hx)).1)
    refine ⟨"list", _, F.plainAttrs_list, F.slot_list_extend, F.type_list_extend, pl.isList.typeIs, (fun b e => by cases e; obtain ⟨c, e⟩ := pl; exact ⟨_, e, rfl⟩), ?_⟩
    refine callWith_bi (first := [.ref l]) (.inl ⟨_, rfl⟩) ha.1 (wpAny_mono (ha.2 A E _ vm s hA hS.rs) (fun us s₁ h₁ => ?_) fun _ _ e => e)
    obtain ⟨k₁, ass, h₁, nd, hf, hal⟩ := h₁
    cases h₁ with
    | @cons v as _ _ ass _ q y =>
      cases y
      obtain ⟨u, hu, b, ws, rfl, rfl, lb, rb⟩ := q
      cases hu
      have len := r.length
      have len' := rb.length
      simp only [Array.length_toList] at len len'
      have pl₁ : s₁.heap.PlainList l vs := pl.at fun o e => k₁.up _ _ e
      obtain ⟨m, ho⟩ := id pl₁
      obtain ⟨m2, ho2⟩ := id lb
      have sz : vs.size + ws.size ≤ sizeLine := by omega
      refine call_meets F.slot_list_extend ⟨_, ho, rfl⟩ F.entry_list_extend (F.args_list_extend_2 _ _) (AutoSeq1.list_extend_list_list_0 l vs m b ws m2 (PyProof.Rows.extend_door sz) (by omega) (by omega)) ⟨ho, ho2, ?_⟩
      have hfin : (s₁.heap.update l (Obj.mapSeq fun x => x ++ ws)).PlainList l (vs ++ ws) := by
        refine ⟨?_, ?_⟩
        rotate_left
        · rw [Heap.get?_update_self _ ho (by rfl)]
          rfl
      obtain ⟨r1, ls', r2, _⟩ := (hS.kp k₁).turnL (tk := s₁.toks) hx hv p (Heap.SameBut.update ..) hfin (by
        have := (r.keep k₁.up).append (rb.less fun a ha => List.mem_append_right _ ha)
        simpa using this) (Nat.le_refl _)
      exact ⟨rfl, k₁.ru.trans r1, ls', r2⟩

theorem none_up {s s' : Shared} (k : Kp s s') {a : Addr} (h : s'.heap.get? a = none) : s.heap.get? a = none := by
  cases e : s.heap.get? a with
  | none => rfl
  | some o => have := k.up a o e; rw [h] at this; cases this
theorem EvO.ite {t a b : Expr} {p : Pos} {c : Bool} {o : Own} (ht : Tst prog w g₀ n env ρ t c) (y : if c = true then EvO prog w g₀ n env ρ a o else EvO prog w g₀ n env ρ b o) : EvO prog w g₀ n env ρ (.IfExp t a b p) o := fun A E Z vm s hA hS => by
  refine wpAny_IfExp (wpAny_mono (ht A E Z vm s hA hS) (fun v s₁ h => ?_) fun _ _ e => e)
  obtain ⟨k, rfl⟩ := h
  have fin : ∀ v s₂, (Kp s₁ s₂ ∧ ∃ as, OwnAt prog w (as ++ Z) s₂.heap v as o ∧ as.Nodup ∧ (∀ a ∈ as, s₁.heap.get? a = none) ∧ ∀ a ∈ as, ∃ o, s₂.heap.get? a = some o) →
      Kp s s₂ ∧ ∃ as, OwnAt prog w (as ++ Z) s₂.heap v as o ∧ as.Nodup ∧ (∀ a ∈ as, s.heap.get? a = none) ∧ ∀ a ∈ as, ∃ o, s₂.heap.get? a = some o :=
    fun v s₂ ⟨k₂, as, r, nd, hf, hal⟩ => ⟨k.trans k₂, as, r, nd, fun a ha => none_up k (hf a ha), hal⟩
  cases v with
  | true => exact wpAny_mono ((if_pos rfl ▸ y) A E Z vm s₁ hA (hS.keep k)) fin fun _ _ e => e
  | false => exact wpAny_mono ((if_neg Bool.false_ne_true ▸ y) A E Z vm s₁ hA (hS.keep k)) fin fun _ _ e => e

end
end Mine

namespace Mine
open PySem

section
variable {prog : Program} {w : World} {g₀ g : Heap} {n : Nat} {env : Env} {ρ ρ₁ ρ₂ ρ' : Store} {mg mb : Str → Option Value} {fl : Fl} {Z Z' Zc Zc' : List Addr} {vm : Str → Option Value} {ls : List (List Addr)} {h h' : Heap}

/-- a list of new lists -/
theorem EvO.nest {es : List Expr} {dss : List (List D)} {p : Pos} (x : EvSAll prog w g₀ n env ρ es (dss.map fun ds => .own (.lst ds))) (hl : dss.length ≤ sizeLine) : EvO prog w g₀ n env ρ (.List es p) (.nest dss) := fun A E Z vm s hA hS => by
  rw [PySem.arm_eval_List, backTo_plain x.1]
  refine wpAny_bind (wpAny_standAt (wpAny_bind (wpAny_mono (x.2 A E Z vm s hA hS) (fun vs s₁ h₁ => ?_) fun _ _ e => e)))
  obtain ⟨k₁, ass, r, nd, hf, hal⟩ := h₁
  have len := r.len
  have key : ∀ {Z : List Addr} {vs : List Value} {ass : List (List Addr)} {dss : List (List D)}, SlotsV prog w Z s₁.heap vs ass (dss.map fun ds => .own (.lst ds)) →
      vs = ass.flatten.map Value.ref ∧ ass.flatten.length = dss.length ∧ ∀ (i : Nat) b ds, ass.flatten[i]? = some b → dss[i]? = some ds → ∃ vs, s₁.heap.PlainList b vs ∧ RdAll prog w Z s₁.heap vs.toList ds := by
    intro Z vs ass dss r
    generalize hsl : (dss.map fun ds => Slot.own (.lst ds)) = sls at r
    induction r generalizing dss with
    | nil =>
      cases dss with
      | nil => exact ⟨rfl, rfl, fun i b ds e => by simp at e⟩
      | cons => simp at hsl
    | @cons v as sl vs ass sls x y ih =>
      cases dss with
      | nil => simp at hsl
      | cons ds dss =>
        simp only [List.map_cons, List.cons.injEq] at hsl
        obtain ⟨rfl, hsl⟩ := hsl
        obtain ⟨e1, e2, e3⟩ := ih hsl
        obtain ⟨u, hu, a, ws, rfl, rfl, l, rr⟩ := x
        cases hu
        refine ⟨by simp [e1], by simp [e2], fun i b ds' hb hd => ?_⟩
        cases i with
        | zero => simp at hb hd; subst hb hd; exact ⟨ws, l, rr⟩
        | succ i => exact e3 i b ds' (by simpa using hb) (by simpa using hd)
  have r' := r.move (h' := s₁.heap) (Z' := s₁.heap.objs.size :: ass.flatten ++ Z) (fun b o hb e => ⟨e, fun hm => by
    rcases List.mem_cons.mp hm with hm | hm
    · exact absurd (Heap.lt_size e) (by rw [hm]; exact Nat.lt_irrefl _)
    · exact hb hm⟩) fun _ _ _ e => e
  obtain ⟨e1, e2, e3⟩ := key r'
  have lz : vs.toArray.size ≤ sizeLine := by rw [List.size_toArray, len]; simpa using hl
  refine wpAny_newObj_type ⟨k₁.trans (Kp.push s₁ { cls := .type "list", data := .seq vs.toArray } s₁.toks), s₁.heap.objs.size :: ass.flatten, ⟨_, ass.flatten, rfl, rfl, ?_, e2, fun i b ds hb hd => ?_⟩, ?_, ?_, ?_⟩ lz
  · rw [← e1]; exact ⟨0, Heap.get?_push_size _ rfl⟩
  · obtain ⟨ws, l, rr⟩ := e3 i b ds hb hd
    exact ⟨ws, l.at fun o e => Heap.get?_push_of_some _ e, rr.keep fun b o e => Heap.get?_push_of_some _ e⟩
  · refine List.nodup_cons.mpr ⟨fun hm => ?_, nd⟩
    obtain ⟨o, e⟩ := hal _ hm
    exact absurd (Heap.lt_size e) (Nat.lt_irrefl _)
  · intro a ha
    rcases List.mem_cons.mp ha with ha | ha
    · rw [ha]; exact fresh_of k₁
    · exact hf a ha
  · intro a ha
    rcases List.mem_cons.mp ha with ha | ha
    · rw [ha]; exact ⟨_, Heap.get?_push_size _ rfl⟩
    · obtain ⟨o, e⟩ := hal a ha; exact ⟨o, Heap.get?_push_of_some _ e⟩

/-- list * number -/
theorem EvO.mulL {l r : Expr} {p : Pos} {ds : List D} {x : Int} (hl : EvO prog w g₀ n env ρ l (.lst ds)) (hr : EvB prog w g₀ n env ρ r (.int x)) (hx : 0 ≤ x ∧ ds.length * x.toNat ≤ 2 ^ 24 ∧ x < 2 ^ 63) (hne : ds ≠ []) :
    EvO prog w g₀ n env ρ (.BinOp l .Mult r p) (.lst (List.replicate x.toNat ds).flatten) := fun A E Z vm s hA hS => by
  refine wpAny_BinOp (wpAny_mono (hl A E Z vm s hA hS) (fun u s₁ h₁ => ?_) fun _ _ e => e)
  obtain ⟨k₁, as, ⟨l, vs, rfl, rfl, pl, r⟩, nd, hf, hal⟩ := h₁
  refine wpAny_mono (hr A E Z vm s₁ hA (hS.keep k₁)) (fun v s₂ h₂ => ?_) fun _ _ e => e
  obtain ⟨k₂, h₂⟩ := h₂
  obtain ⟨t, rfl⟩ := h₂.int_inv
  have pl₂ : s₂.heap.PlainList l vs := pl.at fun o e => k₂.up _ _ e
  obtain ⟨m, ho⟩ := pl₂
  have len := r.length
  simp only [Array.length_toList] at len
  have hsz : vs.size * x.toNat ≤ 2 ^ 24 := by rw [len]; exact hx.2.1
  refine wpAny_binaryOp_repeat_ref (T := "list") (U := "int") (by decide) ⟨_, ho, rfl⟩ (fun s' => typeIs_int s' x t) noFill_list_mul F.fills_int_mul F.slot_int_rmul repeat_list F.slot_int_index.lookup
    (call_meets F.slot_int_rmul (typeIs_int _ x t) F.entry_int_rmul (F.args_int_rmul_2 _ _) (int___rmul___int_list x t l vs m)
      ⟨ho, rfl, ⟨_, ho, rfl⟩, call_meets F.slot_list_mul ⟨_, ho, rfl⟩ F.entry_list_mul (F.args_list_mul_2 _ _)
        (AutoListH.list___mul___list_int_3 l vs m x t (by simp [Builtin.List.listFitsIndex]; omega) (by omega) (by simp [Builtin.List.listTooLong, sizeLine]; omega))
        ⟨ho, ?_⟩⟩)
  have fold : ∀ (k : Nat) (acc : Array Value), (List.foldl (fun x1 x2 => x1 ++ x2) acc (List.replicate k vs)).toList = acc.toList ++ (List.replicate k vs.toList).flatten := by
    intro k
    induction k with
    | zero => intro acc; simp
    | succ k ih => intro acc; rw [List.replicate_succ, List.foldl_cons, ih, List.replicate_succ, List.flatten_cons]; simp
  have ra : ∀ k, RdAll prog w Z s₂.heap (List.replicate k vs.toList).flatten (List.replicate k ds).flatten := by
    intro k
    induction k with
    | zero => exact .nil
    | succ k ih => rw [List.replicate_succ, List.replicate_succ, List.flatten_cons, List.flatten_cons]; exact ((r.keep k₂.up).less fun a ha => List.mem_append_right _ ha).append ih
  have ne : vs.isEmpty = false := by
    cases hv : vs.isEmpty with
    | false => rfl
    | true =>
      have : vs.size = 0 := by simpa [Array.isEmpty] using hv
      exact absurd (List.length_eq_zero_iff.mp (len.symm.trans this)) hne
  have o := own_new (t := 0) (ra x.toNat) (k₁.trans k₂)
  have e : (List.replicate x.toNat vs.toList).flatten.toArray = List.foldl (fun x1 x2 => x1 ++ x2) #[] (List.replicate x.toNat vs) := by
    have := fold x.toNat #[]
    simp only [List.nil_append] at this
    rw [← this]
  rw [e] at o
  rw [ne]
  exact ⟨(k₁.trans k₂).trans (Kp.push _ _ _), o⟩
end
end Mine

namespace Mine
open PySem

section
variable {prog : Program} {w : World} {g₀ g : Heap} {n : Nat} {env : Env} {ρ ρ₁ ρ₂ ρ' : Store} {mg mb : Str → Option Value} {fl : Fl} {Z Z' Zc Zc' : List Addr} {vm : Str → Option Value} {ls : List (List Addr)} {h h' : Heap}

theorem refs_inj : ∀ {bs cs : List Addr}, bs.map Value.ref = cs.map Value.ref → bs = cs
  | [], [], _ => rfl
  | [], _ :: _, e => by simp at e
  | _ :: _, [], e => by simp at e
  | b :: bs, c :: cs, e => by
    simp only [List.map_cons, List.cons.injEq, Value.ref.injEq] at e
    rw [e.1, refs_inj e.2]

theorem nodup_part {as : List Addr} : ∀ {ls : List (List Addr)}, ls.flatten.Nodup → as ∈ ls → as.Nodup
  | l :: ls, h, hm => by
    rw [List.flatten_cons, List.nodup_append] at h
    rcases List.mem_cons.mp hm with e | hm
    · rw [e]; exact h.1
    · exact nodup_part h.2.1 hm
/-- one list of a name's own list of lists is turned -/
theorem SS.turnN {s : Shared} {x : Str} {dss : List (List D)} {ds ds' : List D} {h' : Heap} {tk : Nat} {a b : Addr} {bs : List Addr} {vs : Array Value} {i : Nat} (hS : SS prog w g₀ g env Zc vm ρ ls s) (hx : (x, .own (.nest dss)) ∈ ρ) (hv : vm x = some (.ref a))
    (pl : s.heap.PlainList a (bs.map Value.ref).toArray) (hb : bs[i]? = some b) (hd : dss[i]? = some ds) (p : PutS x (.own (.nest (dss.set i ds'))) ρ ρ')
    (hs : Heap.SameBut b s.heap h') (l : h'.PlainList b vs) (r : RdAll prog w (Zs env ls Zc) s.heap vs.toList ds') (htk : s.toks ≤ tk) :
    Ru s { s with heap := h', toks := tk } ∧ ∃ ls', SS prog w g₀ g env Zc vm ρ' ls' { s with heap := h', toks := tk } := by
  obtain ⟨as, hm, u, hu, a', bs', e, e', pl', len, it⟩ := hS.slots.at hx
  rw [hv] at hu; cases hu; cases e
  have eb : bs' = bs := by
    obtain ⟨m, e1⟩ := pl; obtain ⟨m', e2⟩ := pl'
    rw [e1] at e2
    have : (bs.map Value.ref).toArray = (bs'.map Value.ref).toArray := by injection e2 with e2; injection e2 with _ _ e2; injection e2
    exact (refs_inj (by simpa using congrArg Array.toList this)).symm
  subst eb e'
  have asZ : ∀ c ∈ a :: bs', c ∈ Zs env ls Zc := fun c hc => List.mem_append_right _ (List.mem_append_left _ (List.mem_flatten.mpr ⟨_, hm, hc⟩))
  have nd : (a :: bs').Nodup := by
    have := hS.nodup
    unfold Zs at this
    have := (List.nodup_append.mp (List.nodup_append.mp this).2.1).1
    exact nodup_part this hm
  have bm : b ∈ bs' := List.mem_of_getElem? hb
  have bZ := asZ b (.tail _ bm)
  have hab : a ≠ b := fun z => (List.nodup_cons.mp nd).1 (z ▸ bm)
  have k : ∀ c o, c ∉ Zs env ls Zc → s.heap.get? c = some o → h'.get? c = some o ∧ c ∉ Zs env ls Zc := fun c o hc e => ⟨hs.extBut c o (fun z => hc (z ▸ bZ)) e, hc⟩
  have q := hS.toSt.turn p (as₀ := a :: bs') (s₀ := .own (.nest dss)) (fun as hh => by
      obtain ⟨u, hu, c, cs, rfl, rfl, l', _⟩ := hh
      rw [hv] at hu; cases hu
      obtain ⟨m, e1⟩ := pl; obtain ⟨m', e2⟩ := l'
      rw [e1] at e2
      have : (bs'.map Value.ref).toArray = (cs.map Value.ref).toArray := by injection e2 with e2; injection e2 with _ _ e2; injection e2
      rw [show cs = bs' from (refs_inj (by simpa using congrArg Array.toList this)).symm]) hx (.tail _ bm) hs (let ⟨c, e⟩ := l; ⟨_, e⟩)
    ⟨_, hv, a, bs', rfl, rfl, pl.at (fun o e => hs.extBut a o hab e), by simpa using len, fun j c es hc he => by
      by_cases hj : i = j
      · subst hj
        rw [hb] at hc; cases hc
        have hlt : i < dss.length := (List.getElem?_eq_some_iff.mp hd).1
        rw [List.getElem?_set_self hlt] at he; cases he
        exact ⟨vs, l, r.move k⟩
      · rw [List.getElem?_set_ne hj] at he
        obtain ⟨ws, l', r'⟩ := it j c es hc he
        refine ⟨ws, l'.at fun o e => hs.extBut c o (fun z => hj ?_) e, r'.move k⟩
        have n2 := (List.nodup_cons.mp nd).2
        have e1 := (List.getElem?_eq_some_iff.mp hb)
        have e2 := (List.getElem?_eq_some_iff.mp hc)
        exact (List.getElem_inj n2).mp (e1.2.trans (z.symm.trans e2.2.symm))⟩
  exact ⟨⟨⟨h', tk, rfl⟩, htk⟩, ls, ⟨q, Nat.le_trans hS.tok htk⟩⟩

/-- xs[i].append(e), xs a list of lists of the name's own -/
theorem Ex.appendN {x : Str} {i e : Expr} {px spos apos cpos pos : Pos} {dss : List (List D)} {ds : List D} {d : D} {k : Int} (f : MethForm (.Subscript (.Name x px) i spos) "append" apos cpos [e] env) (hx : (x, .own (.nest dss)) ∈ ρ)
    (hi : EvB prog w g₀ n env ρ i (.int k)) (hk : 0 ≤ k ∧ k < 2 ^ 63) (hd : dss[k.toNat]? = some ds) (he : Ev prog w g₀ n env ρ e d) (hl : ds.length ≤ sizeLine)
    (p : PutS x (.own (.nest (dss.set k.toNat (ds ++ [d])))) ρ ρ') (hu : unstarred e = true := by rfl) (hi' : interactive env = false := by rfl)
    (hs : ∀ a b, subscripted i false a b = operate [a, b] (getItem a b) := by intro _ _; with_unfolding_all rfl) : Ex prog w g₀ n env ρ (.Expr (.Call (.Attribute (.Subscript (.Name x px) i spos) "append" apos) [e] [] cpos) pos) .next ρ' :=
  Ex.expr (P := fun _ _ _ => True) (hi := hi') fun A E g Zc vm ls s hA hS => by
    have ha := EvAll.cons he EvAll.nil hu
    obtain ⟨v, as, hv, a, bs, rfl, _, pl, len, it⟩ := hS.rs.own hx
    have hlt : k.toNat < dss.length := (List.getElem?_eq_some_iff.mp hd).1
    obtain ⟨b, hb⟩ : ∃ b, bs[k.toNat]? = some b := ⟨_, List.getElem?_eq_getElem (by rw [len]; exact hlt)⟩
    obtain ⟨vs, l, r⟩ := it _ _ _ hb hd
    refine call_method f ha.1 (PyProof.Rows.Subscript_ (wpAny_Name (hS.rs.load (mem_names hx) hv (wpAny_mono (hi A E _ vm s hA hS.rs) (fun iv s₁ h₁ => ?_) fun _ _ e => e)) (hS.wf.plain x (mem_names hx)).1))
    obtain ⟨k₁, h₁⟩ := h₁
    obtain ⟨t, rfl⟩ := h₁.int_inv
    have pl₁ := pl.at fun o e => k₁.up _ _ e
    refine PyProof.Rows.tail_any pl₁.isList.typeIs slot_list_getitem.lookup (wpAny_getItem_list pl₁.isList hk.1 hk.2 (x := .ref b) (by simp [hb]) ?_) (hs _ _)
    have l₁ := l.at fun o e => k₁.up _ _ e
    refine ⟨"list", _, F.plainAttrs_list, F.slot_list_append, F.type_list_append, l₁.isList.typeIs, (fun b e => by cases e; obtain ⟨c, e⟩ := l₁; exact ⟨_, e, rfl⟩), ?_⟩
    refine callWith_bi (first := [.ref b]) (.inl ⟨_, rfl⟩) ha.1 (wpAny_mono (ha.2 A E _ vm s₁ hA (hS.kp k₁).rs) (fun us s₂ h₂ => ?_) fun _ _ e => e)
    obtain ⟨k₂, h₂⟩ := h₂
    obtain ⟨v, rfl⟩ : ∃ v, us = [v] := by cases h₂ with | cons a b => cases b; exact ⟨_, rfl⟩
    cases h₂ with
    | cons rv _ =>
      have len := r.length
      simp only [Array.length_toList] at len
      have kk := k₁.trans k₂
      refine wpAny_list_append_plain (l.at fun o e => kk.up _ _ e) (fun h' l' hs' => ?_) (by omega)
      obtain ⟨r1, ls', r2⟩ := (hS.kp kk).turnN (tk := s₂.toks) hx hv (pl.at fun o e => kk.up _ _ e) hb hd p hs' l' (by simpa using (r.keep kk.up).append (.one rv)) (Nat.le_refl _)
      exact ⟨rfl, kk.ru.trans r1, ls', r2⟩
end
end Mine

namespace Mine
open PySem

/-- a heap with some places taken out of sight -/
def hide (h : Heap) (S : List Addr) : Heap := { h with objs := h.objs.mapIdx fun i o => if i ∈ S then { o with data := .freed } else o }
theorem hide_in {h : Heap} {S : List Addr} {a : Addr} (ha : a ∈ S) : (hide h S).get? a = none := by
  unfold Heap.get? hide
  simp only [Array.getElem?_mapIdx]
  cases e : h.objs[a]? with
  | none => rfl
  | some o => simp [ha]
theorem hide_out {h : Heap} {S : List Addr} {a : Addr} (ha : a ∉ S) : (hide h S).get? a = h.get? a := by
  unfold Heap.get? hide
  simp only [Array.getElem?_mapIdx]
  cases e : h.objs[a]? with
  | none => rfl
  | some o => simp [ha]
theorem hide_le {h : Heap} {S : List Addr} {a : Addr} {o : Obj} (e : (hide h S).get? a = some o) : a ∉ S ∧ h.get? a = some o := by
  by_cases ha : a ∈ S
  · rw [hide_in ha] at e; cases e
  · rw [hide_out ha] at e; exact ⟨ha, e⟩

def ownZ (env : Env) (ls : List (List Addr)) : List Addr := (env.locals :: env.cells.map (·.2)) ++ ls.flatten

/-- names forgotten -/
inductive Fg : Store → Store → Prop
  | nil : Fg [] []
  | keep {q : Str × Slot} {ρ ρ' : Store} (h : Fg ρ ρ') : Fg (q :: ρ) (q :: ρ')
  | drop {x : Str} {d : D} {ρ ρ' : Store} (h : Fg ρ ρ') : Fg ((x, .dat d) :: ρ) ((x, .unset) :: ρ')
theorem Fg.refl : ∀ {ρ : Store}, Fg ρ ρ
  | [] => .nil
  | _ :: _ => .keep Fg.refl
theorem Fg.names {ρ ρ' : Store} (f : Fg ρ ρ') : ρ'.map (·.1) = ρ.map (·.1) := by
  induction f with
  | nil => rfl
  | keep _ ih => simp [ih]
  | drop _ ih => simp [ih]

section
variable {prog : Program} {w : World} {g₀ g : Heap} {n : Nat} {env : Env} {ρ ρ₁ ρ₂ ρ' : Store} {mg mb : Str → Option Value} {fl : Fl} {Z Z' Zc Zc' : List Addr} {vm vm' : Str → Option Value} {ls ls' : List (List Addr)} {h h' : Heap}

theorem Zs_own {a : Addr} : a ∈ Zs env ls Zc ↔ a ∈ ownZ env ls ∨ a ∈ Zc := by
  unfold Zs ownZ
  simp only [List.mem_append, or_assoc]

theorem SlotsAre.forget (f : Fg ρ ρ') : ∀ {ls : List (List Addr)}, SlotsAre prog w Z h vm ρ ls → SlotsAre prog w Z h vm ρ' ls := by
  induction f with
  | nil => intro ls x; exact x
  | keep f ih => intro ls x; cases x with | cons a r => exact .cons a (ih r)
  | drop f ih => intro ls x; cases x with | cons a r => exact .cons a.1 (ih r)
theorem SS.forget {s : Shared} (f : Fg ρ ρ') (x : SS prog w g₀ g env Zc vm ρ ls s) : SS prog w g₀ g env Zc vm ρ' ls s :=
  ⟨⟨f.names ▸ x.wf, f.names ▸ x.nofree, x.base, x.keep, x.frame, x.slots.forget f, x.nodup, x.alive, x.fresh, x.zc⟩, x.tok⟩

theorem SS.pin {s : Shared} (x : SS prog w g₀ g env Zc vm ρ ls s) : SS prog w g₀ (hide s.heap (ownZ env ls)) env Zc vm ρ ls s := by
  refine ⟨⟨x.wf, x.nofree, fun b o e => ?_, fun b o e => (hide_le e).2, x.frame, x.slots, x.nodup, x.alive, fun a ha => hide_in ha, x.zc⟩, x.tok⟩
  have e₁ := x.base b o e
  rw [hide_out fun hm => ?_]
  · exact x.keep b o e₁
  · rw [x.fresh b hm] at e₁; cases e₁
theorem SS.unpin {s s' : Shared} (x : SS prog w g₀ g env Zc vm ρ ls s) (y : SS prog w g₀ (hide s.heap (ownZ env ls)) env Zc vm' ρ' ls' s') :
    SS prog w g₀ g env Zc vm' ρ' ls' s' ∧ Mv (Zs env ls Zc) s.heap (Zs env ls' Zc) s'.heap ∧ ∀ a ∈ Zc, ∀ o, s.heap.get? a = some o → s'.heap.get? a = some o := by
  have kz : ∀ a ∈ Zc, a ∉ ownZ env ls := fun a ha hm => by
    have nd := x.nodup
    have e : Zs env ls Zc = ownZ env ls ++ Zc := by unfold Zs ownZ; rw [List.append_assoc]
    rw [e, List.nodup_append] at nd
    exact nd.2.2 a hm a ha rfl
  have gk : ∀ b o, g.get? b = some o → b ∉ ownZ env ls ∧ s.heap.get? b = some o := fun b o e => ⟨fun hm => (by rw [x.fresh b hm] at e; cases e), x.keep b o e⟩
  refine ⟨⟨⟨y.wf, y.nofree, x.base, fun b o e => ?_, y.frame, y.slots, y.nodup, y.alive, fun a ha => ?_, x.zc⟩, y.tok⟩, fun b o hb e => ?_, fun a ha o e => ?_⟩
  · obtain ⟨h1, h2⟩ := gk b o e
    exact y.keep b o (by rw [hide_out h1]; exact h2)
  · cases e : g.get? a with
    | none => rfl
    | some o =>
      obtain ⟨h1, h2⟩ := gk a o e
      have := y.fresh a ha
      rw [hide_out h1, h2] at this; cases this
  · have h1 : b ∉ ownZ env ls := fun hm => hb (Zs_own.mpr (.inl hm))
    refine ⟨y.keep b o (by rw [hide_out h1]; exact e), fun hm => ?_⟩
    rcases Zs_own.mp hm with hm | hm
    · have := y.fresh b hm
      rw [hide_out h1, e] at this; cases this
    · exact hb (Zs_own.mpr (.inr hm))
  · exact y.keep a o (by rw [hide_out (kz a ha)]; exact e)

/-- protected places are changed by the one who knows of them -/
theorem SS.but {s : Shared} {wr : List Addr} {h' : Heap} {tk : Nat} (x : SS prog w g₀ g env (wr ++ Zc) vm ρ ls s) (k : ∀ b o, b ∉ wr → s.heap.get? b = some o → h'.get? b = some o) (hal : ∀ a ∈ wr, ∃ o, h'.get? a = some o)
    (hg : ∀ a ∈ wr, g.get? a = none) (htk : s.toks ≤ tk) : SS prog w g₀ g env (wr ++ Zc) vm ρ ls { s with heap := h', toks := tk } := by
  have sep : ∀ a ∈ ownZ env ls, a ∉ wr := fun a ha hm => by
    have nd := x.nodup
    have e : Zs env ls (wr ++ Zc) = ownZ env ls ++ (wr ++ Zc) := by unfold Zs ownZ; rw [List.append_assoc]
    rw [e, List.nodup_append] at nd
    exact nd.2.2 a ha a (List.mem_append_left _ hm) rfl
  have wz : ∀ a ∈ wr, a ∈ Zs env ls (wr ++ Zc) := fun a ha => Zs_own.mpr (.inr (List.mem_append_left _ ha))
  refine ⟨⟨x.wf, x.nofree, x.base, fun b o e => k b o (fun hm => by rw [hg b hm] at e; cases e) (x.keep b o e), ⟨?_, ?_⟩, ?_, x.nodup, fun a ha => ?_, x.fresh, x.zc⟩, Nat.le_trans x.tok htk⟩
  · obtain ⟨m, hm, hv⟩ := x.frame.ns
    exact ⟨m, hm.at' fun o e => k _ o (sep _ (List.mem_append_left _ (.head _))) e, hv⟩
  · intro nm c e
    obtain ⟨o, e', d⟩ := x.frame.cell nm c e
    exact ⟨o, k _ o (sep c (List.mem_append_left _ (.tail _ (List.mem_map.mpr ⟨(nm, c), mem_of_lookup e, rfl⟩)))) e', d⟩
  · exact x.slots.move (fun _ _ => rfl) (fun b o hb e => ⟨k b o (fun hm => hb (wz b hm)) e, hb⟩) fun a ha o e => k a o (sep a (List.mem_append_right _ ha)) e
  · by_cases hm : a ∈ wr
    · exact hal a hm
    · obtain ⟨o, e⟩ := x.alive a ha; exact ⟨o, k a o hm e⟩

theorem SS.away {s : Shared} {wr : List Addr} {h' : Heap} {tk : Nat} (x : SS prog w g₀ g env (wr ++ Zc) vm ρ ls s) (k : ∀ b o, b ∉ wr → s.heap.get? b = some o → h'.get? b = some o)
    (hg : ∀ a ∈ wr, g.get? a = none) (htk : s.toks ≤ tk) : SS prog w g₀ g env Zc vm ρ ls { s with heap := h', toks := tk } := by
  have nd := x.nodup
  have e₀ : Zs env ls (wr ++ Zc) = ownZ env ls ++ (wr ++ Zc) := by unfold Zs ownZ; rw [List.append_assoc]
  have sep : ∀ a ∈ ownZ env ls, a ∉ wr := fun a ha hm => by
    rw [e₀, List.nodup_append] at nd
    exact nd.2.2 a ha a (List.mem_append_left _ hm) rfl
  have sepc : ∀ a ∈ Zc, a ∉ wr := fun a ha hm => by
    rw [e₀, List.nodup_append, List.nodup_append] at nd
    exact nd.2.1.2.2 a hm a ha rfl
  have wz : ∀ a ∈ wr, a ∈ Zs env ls (wr ++ Zc) := fun a ha => Zs_own.mpr (.inr (List.mem_append_left _ ha))
  have sub : ∀ a ∈ Zs env ls Zc, a ∈ Zs env ls (wr ++ Zc) := fun a ha => by
    rcases Zs_own.mp ha with h | h
    · exact Zs_own.mpr (.inl h)
    · exact Zs_own.mpr (.inr (List.mem_append_right _ h))
  have nd' := nd
  rw [Zs_more.nodup_iff, List.nodup_append] at nd'
  refine ⟨⟨x.wf, x.nofree, x.base, fun b o e => k b o (fun hm => by rw [hg b hm] at e; cases e) (x.keep b o e), ⟨?_, ?_⟩, ?_, nd'.2.1, fun a ha => ?_, x.fresh, fun a ha => x.zc a (List.mem_append_right _ ha)⟩, Nat.le_trans x.tok htk⟩
  · obtain ⟨m, hm, hv⟩ := x.frame.ns
    exact ⟨m, hm.at' fun o e => k _ o (sep _ (List.mem_append_left _ (.head _))) e, hv⟩
  · intro nm c e
    obtain ⟨o, e', d⟩ := x.frame.cell nm c e
    exact ⟨o, k _ o (sep c (List.mem_append_left _ (.tail _ (List.mem_map.mpr ⟨(nm, c), mem_of_lookup e, rfl⟩)))) e', d⟩
  · exact x.slots.move (fun _ _ => rfl) (fun b o hb e => ⟨k b o (fun hm => hb (wz b hm)) e, fun hm => hb (sub b hm)⟩) fun a ha o e => k a o (sep a (List.mem_append_right _ ha)) e
  · obtain ⟨o, e⟩ := x.alive a (sub a ha)
    refine ⟨o, k a o (fun hm => ?_) e⟩
    rcases Zs_own.mp ha with h | h
    · exact sep a h hm
    · exact sepc a h hm

/-! ### what walks over data -/
def Drawn (prog : Program) (w : World) (A : Around) (tgt : Expr) (it : Addr) (Q : Value → Shared → Prop) (N : Shared → Prop) (E : Value → Shared → Prop) : Option Value → Shared → Prop
  | none, s => N s
  | some v, s => wpAny (model prog w) A (letOwnedTupleGo tgt (.ref it) v) (fun _ s₂ => Q v s₂) E s

theorem toks_of {α : Type} {M : Model} {A : Around} {E : Value → Shared → Prop} {s : Shared} {t : Sem α} {Q : α → Shared → Prop} {k : Nat} (hk : k ≤ s.toks) (h : wpAny M A t (fun v s' => k ≤ s'.toks → Q v s') E s) : wpAny M A t Q E s :=
  wpAny_with_toks hk (wpAny_mono h (fun v s' q hk => q hk) fun _ _ e _ => e)

theorem drawn_up {A : Around} {tgt : Expr} {it : Addr} {Q : Value → Shared → Prop} {N : Shared → Prop} {E : Value → Shared → Prop} {s : Shared}
    (h : wpAny (model prog w) A (pyNext (.ref it)) (Drawn prog w A tgt it (fun v s' => s.toks ≤ s'.toks → Q v s') (fun s' => s.toks ≤ s'.toks → N s') E) E s) :
    wpAny (model prog w) A (pyNext (.ref it)) (Drawn prog w A tgt it Q N E) E s :=
  toks_of (Nat.le_refl _) (wpAny_mono h (fun r s₁ q hk => by
    cases r with
    | none => exact q hk
    | some v => exact toks_of hk q) fun _ _ e => e)

structure Itr (prog : Program) (w : World) (A : Around) (tgt : Expr) (it : Addr) (wr : List Addr) (ds : List D) (J : List Addr → Nat → Heap → Prop) : Prop where
  move : ∀ Z Z' i h h', J Z i h → Mv Z h Z' h' → (∀ a ∈ wr, ∀ o, h.get? a = some o → h'.get? a = some o) → (∀ a ∈ wr, a ∈ Z') → (∀ a ∈ Z', ∃ o, h'.get? a = some o) → J Z' i h'
  item : ∀ Z i d (s : Shared) (Q : Value → Shared → Prop) (N : Shared → Prop) (E : Value → Shared → Prop), ds[i]? = some d → J Z i s.heap →
    (∀ v h' tk, Rd prog w Z h' v d → J Z (i + 1) h' → (∀ b o, b ∉ wr → s.heap.get? b = some o → h'.get? b = some o) → s.toks ≤ tk → Q v { s with heap := h', toks := tk }) →
    wpAny (model prog w) A (pyNext (.ref it)) (Drawn prog w A tgt it Q N E) E s
  done : ∀ Z (s : Shared) (Q : Value → Shared → Prop) (N : Shared → Prop) (E : Value → Shared → Prop), J Z ds.length s.heap →
    (∀ h' tk, (∀ b o, b ∉ wr → s.heap.get? b = some o → h'.get? b = some o) → s.toks ≤ tk → N { s with heap := h', toks := tk }) →
    wpAny (model prog w) A (pyNext (.ref it)) (Drawn prog w A tgt it Q N E) E s
  alive : ∀ Z i h, J Z i h → ∀ a ∈ wr, ∃ o, h.get? a = some o
  self : ∀ Z i (s : Shared) (Q : Value → Shared → Prop) (E : Value → Shared → Prop), J Z i s.heap → Q (.ref it) s → wpAny (model prog w) A (pyIter (.ref it)) Q E s

/-- an expression that can be walked over -/
def EvI (prog : Program) (w : World) (g₀ : Heap) (n : Nat) (env : Env) (ρ : Store) (e tgt : Expr) (ds : List D) : Prop :=
  ∀ (A : Around) (E : Value → Shared → Prop) (Z : List Addr) (vm : Str → Option Value) (s : Shared), Lv n A → RS prog w g₀ env Z vm ρ s →
    wpAny (model prog w) A (eval e env) (fun x s₁ => wpAny (model prog w) A (pyIter x) (fun v s₂ => Kp s s₂ ∧ ∃ it wr J, v = .ref it ∧ (∀ A', A'.handled = none → Itr prog w A' tgt it wr ds J) ∧ J (wr ++ Z) 0 s₂.heap ∧
      wr.Nodup ∧ (∀ a ∈ wr, s.heap.get? a = none) ∧ ∀ a ∈ wr, ∃ o, s₂.heap.get? a = some o) E s₁) E s

theorem forLoop_drawn {A : Around} {R : Result → Shared → Prop} {s : Shared} {target : Expr} {it : Addr} {body orelse : List Stmt} (I : Nat → Shared → Prop)
    (turn : ∀ n s, I n s → wpAny (model prog w) A (pyNext (.ref it)) (Drawn prog w A target it
      (fun v s₁' => wpAny (model prog w) A (PySem.assign target env v) (fun _ s₂ => wpAny (model prog w) A (execs body env) (fun f s₃ => match f with
            | .next | .cont => ∃ m, m < n ∧ I m s₃
            | .brk => R (.ok .next) s₃
            | .ret v => R (.ok (.ret v)) s₃) (notedBy (model prog w) A env fun e s' => R (.error e) s') s₂) (notedBy (model prog w) A env fun e s' => R (.error e) s') s₁')
      (fun s₁ => wpAny (model prog w) A (execs orelse env) (fun f s₃ => R (.ok f) s₃) (notedBy (model prog w) A env fun e s' => R (.error e) s') s₁)
      (notedBy (model prog w) A env fun e s' => R (.error e) s')) (notedBy (model prog w) A env fun e s' => R (.error e) s') s)
    (n : Nat) (h : I n s) : codeAny (model prog w) A (.forLoop target (.ref it) body orelse env) R s :=
  codeAny_forLoop_any I (fun n s hI => wpAny_mono (turn n s hI) (fun r s₁ q => by cases r <;> exact q) fun _ _ e => e) n h

theorem Ex.for {tgt iter : Expr} {body : List Stmt} {pos : Pos} {ds : List D} (I : Nat → Store) (hI : EvI prog w g₀ n env (I 0) iter tgt ds)
    (turn : ∀ i d, ds[i]? = some d → ∃ ρ₁ ρ₂, Asg prog w g₀ n env (I i) tgt d ρ₁ ∧ Exs prog w g₀ n env ρ₁ body .next ρ₂ ∧ Fg ρ₂ (I (i + 1)))
    (hs : ∀ x, foldedSetIterable iter env x = pure x := by intro _; rfl) :
    Ex prog w g₀ n env (I 0) (.For tgt iter body [] pos) .next (I ds.length) := fun A E g Zc vm ls s hA hS => by
  refine wpAny_For (wpAny_mono (hI A E _ vm s hA hS.rs) (fun x s₁ h₁ => wpAny_mono h₁ (fun v s₂ h₂ => ?_) fun _ _ e => e) fun _ _ e => e) hs
  obtain ⟨k, it, wr, J, rfl, W, j, nd, hf, hal⟩ := h₂
  replace W := W A hA.hh
  have hg : ∀ a ∈ wr, g.get? a = none := fun a ha => by
    cases e : g.get? a with
    | none => rfl
    | some o => have := hS.keep a o e; rw [hf a ha] at this; cases this
  have hS₂ : SS prog w g₀ g env (wr ++ Zc) vm (I 0) ls s₂ := ⟨hS.toSt.protect k.up hf nd hal, Nat.le_trans hS.tok k.tk⟩
  have j₂ : J (Zs env ls (wr ++ Zc)) 0 s₂.heap := W.move _ _ _ _ _ j (fun b o hb e => ⟨e, fun hm => hb (by rcases Zs_more_mem.mp hm with h | h <;> simp [h])⟩) (fun _ _ _ e => e) (fun a ha => Zs_own.mpr (.inr (List.mem_append_left _ ha))) hS₂.alive
  refine forLoop_drawn (fun m s' => ∃ i vm ls, m = ds.length - i ∧ i ≤ ds.length ∧ Ru s s' ∧ SS prog w g₀ g env (wr ++ Zc) vm (I i) ls s' ∧ J (Zs env ls (wr ++ Zc)) i s'.heap) (fun m s' hI' => ?_) ds.length ⟨0, vm, ls, rfl, Nat.zero_le _, k.ru, hS₂, j₂⟩
  obtain ⟨i, vm, ls, rfl, hi, ru, hS', j'⟩ := hI'
  have wz : ∀ a ∈ wr, a ∈ Zs env ls (wr ++ Zc) := fun a ha => Zs_own.mpr (.inr (List.mem_append_left _ ha))
  by_cases hlt : i < ds.length
  · have hd : ds[i]? = some ds[i] := List.getElem?_eq_getElem hlt
    obtain ⟨ρ₁, ρ₂, ha, hb, hf⟩ := turn i ds[i] hd
    refine W.item _ i ds[i] s' _ _ _ hd j' fun v h' tk rv j₁ kk htk => ?_
    have hS₁ := hS'.but kk (W.alive _ _ _ j₁) hg htk
    refine wpAny_mono (ha A _ _ _ vm ls _ v hA hS₁.pin rv) (fun _ s₂ q => ?_) fun _ _ e => e
    obtain ⟨r₁, vm', ls', hS₂, _⟩ := q
    refine wpAny_mono (hb A _ _ _ vm' ls' s₂ hA hS₂) (fun f s₃ q => ?_) fun _ _ e => e
    obtain ⟨r₂, vm'', ls'', hS₃, rfl⟩ := q
    obtain ⟨hS₄, mv, kz⟩ := hS₁.unpin hS₃
    refine ⟨ds.length - (i + 1), by omega, i + 1, vm'', ls'', rfl, hlt, ru.trans (Ru.trans ⟨⟨h', tk, rfl⟩, htk⟩ (r₁.trans r₂)), hS₄.forget hf, ?_⟩
    exact W.move _ _ _ _ _ j₁ mv (fun a ha => kz a (List.mem_append_left _ ha)) (fun a ha => Zs_own.mpr (.inr (List.mem_append_left _ ha))) hS₄.alive
  · have : i = ds.length := by omega
    subst this
    refine W.done _ s' _ _ _ j' fun h' tk kk htk => ?_
    exact wpAny_execs_nil ⟨ru.trans ⟨⟨h', tk, rfl⟩, htk⟩, vm, ls, hS'.away kk hg htk, rfl⟩

theorem Ex.while {t : Expr} {body : List Stmt} {pos : Pos} (I : Nat → Store) (m : Nat)
    (turn : ∀ i, i < m → Tst prog w g₀ n env (I i) t true ∧ ∃ ρ₂, Exs prog w g₀ n env (I i) body .next ρ₂ ∧ Fg ρ₂ (I (i + 1))) (stop : Tst prog w g₀ n env (I m) t false) :
    Ex prog w g₀ n env (I 0) (.While t body [] pos) .next (I m) := fun A E g Zc vm ls s hA hS => by
  refine wpAny_While (codeAny_whileLoop (fun k s' => ∃ i vm ls, k = m - i ∧ i ≤ m ∧ Ru s s' ∧ SS prog w g₀ g env Zc vm (I i) ls s') (fun k s' hI' => ?_) m ⟨0, vm, ls, rfl, Nat.zero_le _, .refl _, hS⟩)
  obtain ⟨i, vm, ls, rfl, hi, ru, hS'⟩ := hI'
  by_cases hlt : i < m
  · obtain ⟨ht, ρ₂, hb, hf⟩ := turn i hlt
    refine wpAny_mono (ht A _ _ vm s' hA hS'.rs) (fun b s₁ q => ?_) fun _ _ e => e
    obtain ⟨k, rfl⟩ := q
    rw [if_pos rfl]
    refine wpAny_mono (hb A _ _ _ vm ls s₁ hA (hS'.kp k)) (fun f s₂ q => ?_) fun _ _ e => e
    obtain ⟨r, vm', ls', hS₂, rfl⟩ := q
    exact ⟨m - (i + 1), by omega, i + 1, vm', ls', rfl, hlt, ru.trans (k.ru.trans r), hS₂.forget hf⟩
  · have : i = m := by omega
    subst this
    refine wpAny_mono (stop A _ _ vm s' hA hS'.rs) (fun b s₁ q => ?_) fun _ _ e => e
    obtain ⟨k, rfl⟩ := q
    rw [if_neg Bool.false_ne_true]
    exact wpAny_execs_nil ⟨ru.trans k.ru, vm, ls, hS'.kp k, rfl⟩
end
end Mine

namespace Mine
open PySem

section
variable {prog : Program} {w : World} {g₀ g : Heap} {n : Nat} {env : Env} {ρ ρ₁ ρ₂ ρ' : Store} {mg mb : Str → Option Value} {fl : Fl} {Z Z' Zc Zc' : List Addr} {vm vm' : Str → Option Value} {ls ls' : List (List Addr)} {h h' : Heap}

/-- the ground of a walk over single data -/
def J1 (prog : Program) (w : World) (I : Addr) (fp : List Addr) (P : Nat → Value → Prop) (S : Nat → Heap → Prop) (ds : List D) (Z : List Addr) (i : Nat) (h : Heap) : Prop :=
  I ∈ Z ∧ (∀ b ∈ fp, b ≠ I → b ∉ Z ∧ ∃ o, h.get? b = some o) ∧ S i h ∧ (∃ o, h.get? I = some o) ∧ ∀ i v d, P i v → ds[i]? = some d → Rd prog w Z h v d

theorem Itr.ofWalks {A : Around} {tgt : Expr} {I : Addr} {fp : List Addr} {P : Nat → Value → Prop} {S : Nat → Heap → Prop} {ds : List D} (W : Walks prog w A I fp [I] ds.length P S)
    (live : ∀ i h, S i h → ∃ o, h.get? I = some o)
    (go : ∀ i v d Z (s : Shared) (Q : Unit → Shared → Prop) (E : Value → Shared → Prop), S (i + 1) s.heap → ds[i]? = some d → Rd prog w Z s.heap v d → Q () s → wpAny (model prog w) A (letOwnedTupleGo tgt (.ref I) v) Q E s) :
    Itr prog w A tgt I [I] ds (J1 prog w I fp P S ds) where
  move := fun Z Z' i h h' j mv kw hz al => by
    obtain ⟨a, b, c, d, e⟩ := j
    have kI : ∀ o, h.get? I = some o → h'.get? I = some o := fun o => kw I (.head _) o
    refine ⟨hz I (.head _), fun x hx hne => ?_, W.frame _ _ _ c fun x hx o ho => ?_, let ⟨o, ho⟩ := d; ⟨o, kI o ho⟩, fun i v d hp hd => (e i v d hp hd).move mv⟩
    · obtain ⟨h1, o, ho⟩ := b x hx hne
      obtain ⟨q1, q2⟩ := mv x o h1 ho
      exact ⟨q2, o, q1⟩
    · by_cases hne : x = I
      · subst hne; exact kI o ho
      · obtain ⟨h1, o', ho'⟩ := b x hx hne
        exact (mv x o h1 ho).1
  item := fun Z i d s Q N E hd j hQ => by
    obtain ⟨a, b, c, d', e⟩ := j
    refine drawn_up (W.item i s _ _ (List.getElem?_eq_some_iff.mp hd).1 c fun v h' tk hp st kk => ?_)
    have kk' : ∀ b o, b ∉ Z → s.heap.get? b = some o → h'.get? b = some o ∧ b ∉ Z := fun b o hb ho => ⟨kk b o (fun hm => hb (List.mem_singleton.mp hm ▸ a)) ho, hb⟩
    have rv : Rd prog w Z h' v d := (e i v d hp hd).move kk'
    refine go i v d Z _ _ _ st hd rv fun htk => hQ v h' tk rv ⟨a, fun x hx hne => ?_, st, live _ _ st, fun i v d hp hd => (e i v d hp hd).move kk'⟩ kk htk
    obtain ⟨h1, o, ho⟩ := b x hx hne
    exact ⟨h1, o, kk x o (fun hm => hne (List.mem_singleton.mp hm)) ho⟩
  done := fun Z s Q N E j hQ => by
    obtain ⟨a, b, c, d', e⟩ := j
    exact drawn_up (W.done s _ _ c fun h' tk kk htk => hQ h' tk kk htk)
  alive := fun Z i h j a ha => by rw [List.mem_singleton.mp ha]; exact j.2.2.2.1
  self := fun Z i s Q E j hQ => W.self i s Q E j.2.2.1 hQ

def enumL (ds : List D) : List D := ds.mapIdx fun i d => .tup [.int i, d]

/-- the ground of a numbered walk -/
def J2 (prog : Program) (w : World) (e it : Addr) (fp : List Addr) (P : Nat → Value → Prop) (S : Nat → Heap → Prop) (ds : List D) (Z : List Addr) (i : Nat) (h : Heap) : Prop :=
  e ∈ Z ∧ it ∈ Z ∧ (∀ b ∈ fp, b ≠ it → b ∉ Z ∧ ∃ o, h.get? b = some o) ∧ ((∃ old, IsEnum h e it i old) ∧ S i h) ∧ (∃ o, h.get? it = some o) ∧ (∀ a ∈ Z, ∃ o, h.get? a = some o) ∧ ∀ i v d, P i v → ds[i]? = some d → Rd prog w Z h v d

theorem Itr.ofEnum {A : Around} {elts : List Expr} {k : Nat} {pos : Pos} {e it : Addr} {fp : List Addr} {P : Nat → Value → Prop} {S : Nat → Heap → Prop} {ds : List D} (Dr : Draws prog w A.in1 it fp ds.length P S)
    (hei : e ≠ it) (hef : e ∉ fp) (hif : it ∈ fp) : Itr prog w A (.Tuple elts k pos) e [e, it] (enumL ds) (J2 prog w e it fp P S ds) where
  move := fun Z Z' i h h' j mv kw hz al => by
    obtain ⟨a, a', b, ⟨⟨old, he⟩, c⟩, d, al', r⟩ := j
    have ki : ∀ o, h.get? it = some o → h'.get? it = some o := fun o => kw it (by simp) o
    refine ⟨hz e (by simp), hz it (by simp), fun x hx hne => ?_, ⟨⟨old, kw e (by simp) _ he⟩, Dr.frame _ _ _ c fun x hx o ho => ?_⟩, let ⟨o, ho⟩ := d; ⟨o, ki o ho⟩, al, fun i v d hp hd => (r i v d hp hd).move mv⟩
    · obtain ⟨h1, o, ho⟩ := b x hx hne
      obtain ⟨q1, q2⟩ := mv x o h1 ho
      exact ⟨q2, o, q1⟩
    · by_cases hne : x = it
      · subst hne; exact ki o ho
      · obtain ⟨h1, o', ho'⟩ := b x hx hne
        exact (mv x o h1 ho).1
  item := fun Z i d s Q N E hd j hQ => by
    obtain ⟨a, a', b, c, d', al, r⟩ := j
    have W := WalksT.enumerateD Dr e hei hef hif
    have hlt : i < ds.length := by simpa [enumL] using (List.getElem?_eq_some_iff.mp hd).1
    have hdi : ds[i]? = some ds[i] := List.getElem?_eq_getElem hlt
    obtain rfl : d = .tup [.int i, ds[i]] := by simpa [enumL, hlt] using hd.symm
    refine drawn_up (W.item i s _ _ hlt c fun T vals h₁ tk hp hT tup mid kk => ?_)
    refine W.go elts k pos i T _ _ _ mid fun h' st kk' htk => ?_
    have k2 : ∀ b o, b ∉ [e, it] → s.heap.get? b = some o → h'.get? b = some o := fun b o hb ho => kk' b o hb (kk b o hb ho)
    have zwr : ∀ b, b ∉ Z → b ∉ [e, it] := fun b hb hm => hb (by rcases List.mem_cons.mp hm with hm | hm; exact hm ▸ a; exact List.mem_singleton.mp hm ▸ a')
    have mv : ∀ b o, b ∉ Z → s.heap.get? b = some o → h'.get? b = some o ∧ b ∉ Z := fun b o hb ho => ⟨k2 b o (zwr b hb) ho, hb⟩
    have TZ : T ∉ Z := fun hm => by obtain ⟨o, ho⟩ := al T hm; exact absurd (Heap.lt_size ho) (Nat.not_lt.mpr hT)
    obtain ⟨t, x, px, rfl⟩ := hp
    have rx := (r i x ds[i] px hdi).move mv
    obtain ⟨⟨old, he⟩, st'⟩ := st
    have lit := Dr.live _ _ st'
    refine hQ (.ref T) h' tk (.tup (vs := #[.int i t, x]) TZ ?_ (.cons (.int _ t) (.one rx))) ⟨a, a', fun x hx hne => ?_, ⟨⟨old, he⟩, st'⟩, lit, fun x hx => ?_, fun i v d hp hd => (r i v d hp hd).move mv⟩ k2 htk
    · obtain ⟨o, ho, q⟩ := tup
      exact ⟨o, kk' T o (W.apart _ _ _ mid) ho, q⟩
    · obtain ⟨h1, o, ho⟩ := b x hx hne
      exact ⟨h1, o, k2 x o (zwr x h1) ho⟩
    · by_cases hm : x ∈ [e, it]
      · rcases List.mem_cons.mp hm with hm | hm
        · exact hm ▸ ⟨_, he⟩
        · exact List.mem_singleton.mp hm ▸ lit
      · obtain ⟨o, ho⟩ := al x hx; exact ⟨o, k2 x o hm ho⟩
  done := fun Z s Q N E j hQ => by
    obtain ⟨a, a', b, c, d', al, r⟩ := j
    have W := WalksT.enumerateD Dr e hei hef hif
    have : (enumL ds).length = ds.length := by simp [enumL]
    rw [this] at c
    exact drawn_up (W.done s _ _ c fun h' tk kk htk => hQ h' tk kk htk)
  alive := fun Z i h j x hx => by
    obtain ⟨a, a', b, ⟨⟨old, he⟩, c⟩, d, al', r⟩ := j
    exact al' x (by rcases List.mem_cons.mp hx with hx | hx; exact hx ▸ a; exact List.mem_singleton.mp hx ▸ a')
  self := fun Z i s Q E j hQ => by
    obtain ⟨a, a', b, ⟨⟨old, he⟩, c⟩, d, al', r⟩ := j
    exact wpAny_pyIter_enum he hQ

/-- targets that need nothing let go -/
inductive TgtOk : Expr → List D → Prop
  | name (x : Str) (p : Pos) (ds : List D) : TgtOk (.Name x p) ds
  | pair (elts : List Expr) (k : Nat) (p : Pos) (ds : List D) (h : ∀ d ∈ ds, ∃ es, d = .tup es) : TgtOk (.Tuple elts k p) ds

theorem get_of {vs : Array Value} {ds : List D} (r : RdAll prog w Z h vs.toList ds) {i : Nat} {v : Value} {d : D} (hv : vs[i]? = some v) (hd : ds[i]? = some d) : Rd prog w Z h v d := by
  obtain ⟨u, hu, r'⟩ := r.get hd
  rw [Array.getElem?_toList, hv] at hu; cases hu; exact r'

theorem Ev.lst_free {e : Expr} {ds : List D} (x : Ev prog w g₀ n env ρ e (.lst ds)) {A : Around} {E : Value → Shared → Prop} {Z : List Addr} {vm : Str → Option Value} {s : Shared} {Q : Value → Shared → Prop} (hA : Lv n A) (hS : RS prog w g₀ env Z vm ρ s)
    (k : ∀ l vs s₁, Kp s s₁ → l ∉ Z → s₁.heap.IsList l vs → RdAll prog w Z s₁.heap vs.toList ds → vs.size = ds.length → Q (.ref l) s₁) : wpAny (model prog w) A (eval e env) Q E s :=
  wpAny_mono (x A E Z vm s hA hS) (fun v s₁ q => by
    obtain ⟨k₁, r⟩ := q
    cases r with
    | lst hz l r => exact k _ _ _ k₁ hz l.isList r (by simpa using r.length)) fun _ _ e => e

theorem new_out {s : Shared} (hz : ∀ a ∈ Z, ∃ o, s.heap.get? a = some o) : s.heap.objs.size ∉ Z := fun hm => by
  obtain ⟨o, e⟩ := hz _ hm
  exact absurd (Heap.lt_size e) (Nat.lt_irrefl _)

theorem new_none (s : Shared) : ∀ a ∈ [s.heap.objs.size], s.heap.get? a = none := fun a ha => by rw [List.mem_singleton.mp ha]; exact fresh_of (.refl s)

theorem EvI.list {e tgt : Expr} {ds : List D} (x : Ev prog w g₀ n env ρ e (.lst ds)) (ht : TgtOk tgt ds) : EvI prog w g₀ n env ρ e tgt ds := fun A E Z vm s hA hS => by
  refine x.lst_free hA hS fun l vs s₁ k hz hl r len => wpAny_pyIter_list hl ?_
  have al : ∀ a ∈ Z, ∃ o, s₁.heap.get? a = some o := (hS.keep k).alive
  have hI := new_out al
  have hne : l ≠ s₁.heap.objs.size := by obtain ⟨o, e, _⟩ := hl; exact Nat.ne_of_lt (Heap.lt_size e)
  have up : ∀ b o, s₁.heap.get? b = some o → (s₁.heap.push { cls := .type "list_iterator", data := .fields #[.ref l, .int 0 0] }).get? b = some o := fun b o e => Heap.get?_push_of_some _ e
  refine ⟨k.trans (Kp.push s₁ _ s₁.toks), s₁.heap.objs.size, [s₁.heap.objs.size], _, rfl, fun A' hh => Itr.ofWalks (len ▸ Walks.list hh _ l hne vs) (fun i h st => let ⟨o, ho, _⟩ := st.1; ⟨o, ho⟩) ?_, ⟨.head _, ?_, ⟨⟨_, Heap.get?_push_size _ rfl, rfl, rfl⟩, hl.push _⟩, ⟨_, Heap.get?_push_size _ rfl⟩, ?_⟩, by simp, ?_, ?_⟩
  · intro i v d Z' s' Q E' st hd rv hq
    cases ht with
    | name => exact wpAny_pure hq
    | pair elts kk p _ hp =>
      obtain ⟨es, rfl⟩ := hp d (List.mem_of_getElem? hd)
      cases rv with
      | tup => exact wpAny_letOwnedTupleGo_listiter st.1 hq
  · intro b hb hbI
    rcases List.mem_cons.mp hb with hb | hb
    · exact absurd hb hbI
    · rw [List.mem_singleton.mp hb]
      obtain ⟨o, e, _⟩ := hl
      exact ⟨fun hm => by rcases List.mem_cons.mp hm with hm | hm; exact hne hm; exact hz hm, o, up _ _ e⟩
  · intro i v d hv hd
    exact ((get_of r hv hd).more (new_none s₁)).keep up
  · intro a ha; rw [List.mem_singleton.mp ha]; exact fresh_of k
  · intro a ha; rw [List.mem_singleton.mp ha]; exact ⟨_, Heap.get?_push_size _ rfl⟩

theorem EvI.tup {e : Expr} {x : Str} {p : Pos} {ds : List D} (x₀ : Ev prog w g₀ n env ρ e (.tup ds)) : EvI prog w g₀ n env ρ e (.Name x p) ds := fun A E Z vm s hA hS => by
  refine wpAny_mono (x₀ A E Z vm s hA hS) (fun v s₁ q => ?_) fun _ _ e => e
  obtain ⟨k, r⟩ := q
  cases r with
  | @tup l vs _ hz hl r =>
    have len := r.length
    simp only [Array.length_toList] at len
    refine wpAny_pyIter_tuple hl ?_
    have al : ∀ a ∈ Z, ∃ o, s₁.heap.get? a = some o := (hS.keep k).alive
    have hne : l ≠ s₁.heap.objs.size := by obtain ⟨o, e, _⟩ := hl; exact Nat.ne_of_lt (Heap.lt_size e)
    have up : ∀ b o, s₁.heap.get? b = some o → (s₁.heap.push { cls := .type "tuple_iterator", data := .fields #[.ref l, .int 0 0] }).get? b = some o := fun b o e => Heap.get?_push_of_some _ e
    refine ⟨k.trans (Kp.push s₁ _ s₁.toks), s₁.heap.objs.size, [s₁.heap.objs.size], _, rfl, fun A' hh => Itr.ofWalks (len ▸ Walks.tuple hh _ l hne vs) (fun i h st => let ⟨o, ho, _⟩ := st.1; ⟨o, ho⟩) ?_, ⟨.head _, ?_, ⟨⟨_, Heap.get?_push_size _ rfl, rfl, rfl⟩, hl.push _⟩, ⟨_, Heap.get?_push_size _ rfl⟩, ?_⟩, by simp, ?_, ?_⟩
    · intro i v d Z' s' Q E' st hd rv hq
      exact wpAny_pure hq
    · intro b hb hbI
      rcases List.mem_cons.mp hb with hb | hb
      · exact absurd hb hbI
      · rw [List.mem_singleton.mp hb]
        obtain ⟨o, e, _⟩ := hl
        exact ⟨fun hm => by rcases List.mem_cons.mp hm with hm | hm; exact hne hm; exact hz hm, o, up _ _ e⟩
    · intro i v d hv hd
      exact ((get_of r hv hd).more (new_none s₁)).keep up
    · intro a ha; rw [List.mem_singleton.mp ha]; exact fresh_of k
    · intro a ha; rw [List.mem_singleton.mp ha]; exact ⟨_, Heap.get?_push_size _ rfl⟩

def signs (x : Str) : List D := x.cps.toList.map fun c => .str ⟨#[c]⟩
theorem signs_rd {x : Str} {i : Nat} {v : Value} {d : D} (hv : ∃ c u, x.cps[i]? = some c ∧ v = .str ⟨#[c]⟩ u) (hd : (signs x)[i]? = some d) : Rd prog w Z h v d := by
  obtain ⟨c, u, hc, rfl⟩ := hv
  have : (signs x)[i]? = some (.str ⟨#[c]⟩) := by simp [signs, hc]
  rw [this] at hd; cases hd
  exact .str ..

theorem EvI.str {e : Expr} {x y : Str} {p : Pos} (x₀ : EvB prog w g₀ n env ρ e (.str x)) : EvI prog w g₀ n env ρ e (.Name y p) (signs x) := fun A E Z vm s hA hS => by
  refine wpAny_mono (x₀ A E Z vm s hA hS) (fun v s₁ q => ?_) fun _ _ e => e
  obtain ⟨k, r⟩ := q
  obtain ⟨t, rfl⟩ := r.str_inv
  have len : x.cps.size = (signs x).length := by simp [signs]
  cases ha : x.cps.all (· < 128)
  · refine wpAny_pyIter_wide ha ⟨k.trans (Kp.push s₁ _ s₁.toks), s₁.heap.objs.size, [s₁.heap.objs.size], _, rfl, fun A' hh => Itr.ofWalks (len ▸ Walks.strWide hh _ x t) (fun i h st => let ⟨o, ho, _⟩ := st; ⟨o, ho⟩) ?_, ⟨.head _, ?_, ⟨_, Heap.get?_push_size _ rfl, rfl, rfl⟩, ⟨_, Heap.get?_push_size _ rfl⟩, ?_⟩, by simp, ?_, ?_⟩
    · intro i v d Z' s' Q E' st hd rv hq; exact wpAny_pure hq
    · intro b hb hbI; exact absurd (List.mem_singleton.mp hb) hbI
    · intro i v d hv hd; exact signs_rd hv hd
    · intro a ha; rw [List.mem_singleton.mp ha]; exact fresh_of k
    · intro a ha; rw [List.mem_singleton.mp ha]; exact ⟨_, Heap.get?_push_size _ rfl⟩
  · refine wpAny_pyIter_ascii ha ⟨k.trans (Kp.push s₁ _ s₁.toks), s₁.heap.objs.size, [s₁.heap.objs.size], _, rfl, fun A' hh => Itr.ofWalks (len ▸ Walks.strAscii hh _ x t) (fun i h st => let ⟨o, ho, _⟩ := st; ⟨o, ho⟩) ?_, ⟨.head _, ?_, ⟨_, Heap.get?_push_size _ rfl, rfl, rfl⟩, ⟨_, Heap.get?_push_size _ rfl⟩, ?_⟩, by simp, ?_, ?_⟩
    · intro i v d Z' s' Q E' st hd rv hq; exact wpAny_pure hq
    · intro b hb hbI; exact absurd (List.mem_singleton.mp hb) hbI
    · intro i v d hv hd; exact signs_rd hv hd
    · intro a ha; rw [List.mem_singleton.mp ha]; exact fresh_of k
    · intro a ha; rw [List.mem_singleton.mp ha]; exact ⟨_, Heap.get?_push_size _ rfl⟩

/-! ### ranges -/
theorem small_of {a b c : Int} (ha : -(2 ^ 41) ≤ a ∧ a ≤ 2 ^ 41) (hb : -(2 ^ 41) ≤ b ∧ b ≤ 2 ^ 41) (hc : (-2 ≤ c ∧ c < 0) ∨ (0 < c ∧ c ≤ 2)) : Builtin.Range.small a b c = true := by
  have hs : -(2 ^ 43) ≤ Builtin.Range.rangeSize a b c ∧ Builtin.Range.rangeSize a b c ≤ 2 ^ 43 := by
    have : c = 1 ∨ c = 2 ∨ c = -1 ∨ c = -2 := by omega
    unfold Builtin.Range.rangeSize
    rcases this with rfl | rfl | rfl | rfl <;> (try rw [show -(-1 : Int) = 1 from rfl]) <;> (try rw [show -(-2 : Int) = 2 from rfl]) <;> (split <;> split <;> omega)
  unfold Builtin.Range.small
  generalize Builtin.Range.rangeSize a b c = r at hs
  unfold Builtin.Range.rangeFitsLong
  have e : ∀ x : Int, -(2 ^ 44) ≤ x ∧ x ≤ 2 ^ 44 → (decide (-(2 ^ 63) ≤ x) && decide (x < 2 ^ 63)) = true := fun x hx => by
    rw [Bool.and_eq_true, decide_eq_true_eq, decide_eq_true_eq]; omega
  rw [e a (by omega), e b (by omega), e c (by omega), e r (by omega)]
  split
  · rw [e _ (by omega)]; simp
  · rw [e _ (by omega)]; simp
def rangeL (a c : Int) (m : Nat) : List D := (List.range m).map fun (i : Nat) => .int (a + (i : Int) * c)

theorem iter_range {s₀ s : Shared} {A : Around} {E : Value → Shared → Prop} {x : Str} {p : Pos} {r : Addr} {a b c : Int} {t u v : Tok} {m : Nat} (k : Kp s₀ s) (hZ : ∀ a ∈ Z, ∃ o, s.heap.get? a = some o) (hr : IsRange s.heap r a b c t u v) (hsm : Builtin.Range.small a b c = true) (hm : Builtin.Range.rangeSize a b c = m) :
    wpAny (model prog w) A (pyIter (.ref r)) (fun v s₂ => Kp s₀ s₂ ∧ ∃ it wr J, v = .ref it ∧ (∀ A', A'.handled = none → Itr prog w A' (.Name x p) it wr (rangeL a c m) J) ∧ J (wr ++ Z) 0 s₂.heap ∧
      wr.Nodup ∧ (∀ a ∈ wr, s₀.heap.get? a = none) ∧ ∀ a ∈ wr, ∃ o, s₂.heap.get? a = some o) E s := by
  have len : m = (rangeL a c m).length := by simp [rangeL]
  refine wpAny_pyIter_range hr hsm ⟨k.trans (Kp.push s _ s.toks), s.heap.objs.size, [s.heap.objs.size], _, rfl, fun A' hh => Itr.ofWalks (len ▸ Walks.range hh _ a c m) (fun i h st => ⟨_, st⟩) ?_, ⟨.head _, ?_, ?_, ⟨_, Heap.get?_push_size _ rfl⟩, ?_⟩, by simp, ?_, ?_⟩
  · intro i v d Z' s' Q E' st hd rv hq; exact wpAny_pure hq
  · intro b hb hbI; exact absurd (List.mem_singleton.mp hb) hbI
  · rw [hm]
    have e : IsRangeIter (s.heap.push { cls := .type "range_iterator", data := .fields #[rawInt a, rawInt m, rawInt c] }) s.heap.objs.size a m c := Heap.get?_push_size _ rfl
    show IsRangeIter _ _ (a + ((0 : Nat) : Int) * c) ((((rangeL a c m).length : Nat) : Int) - ((0 : Nat) : Int)) c
    rw [← len]
    simpa using e
  · intro i v d hv hd
    obtain ⟨t, rfl⟩ := hv
    have hlt : i < m := by have := (List.getElem?_eq_some_iff.mp hd).1; rwa [← len] at this
    have : (rangeL a c m)[i]? = some (.int (a + i * c)) := by simp [rangeL, hlt]
    rw [this] at hd; cases hd
    exact .int ..
  · intro a ha; rw [List.mem_singleton.mp ha]; exact fresh_of k
  · intro a ha; rw [List.mem_singleton.mp ha]; exact ⟨_, Heap.get?_push_size _ rfl⟩

theorem evalType {x : Str} {p pos : Pos} {T : String} {es : List Expr} {ds : List D} {A : Around} {E : Value → Shared → Prop} {s : Shared} {Q : Value → Shared → Prop} (hA : Lv n A) (hS : RS prog w g₀ env Z vm ρ s)
    (hf : Ev prog w g₀ n env ρ (.Name x p) (.fn (.type T))) (ha : EvBAll prog w g₀ n env ρ es ds)
    (hQ : ∀ vs s₁, Kp s s₁ → RdBAll prog w Z s₁.heap vs ds → wpAny (model prog w) A (call (.type T) vs []) Q E s₁) : wpAny (model prog w) A (eval (.Call (.Name x p) es [] pos) env) Q E s := by
  refine PyProof.Rows.Call_Name (backTo_plain ha.1) (wpAny_mono (hf A E Z vm s hA hS) (fun v s₁ h₁ => ?_) fun _ _ e => e)
  obtain rfl := h₁.2.fn_inv
  exact callWith_bi (first := []) (.inr ⟨_, rfl⟩) ha.1 (wpAny_mono (ha.2 A E Z vm s₁ hA (hS.keep h₁.1)) (fun vs s₂ h₂ => hQ vs s₂ (h₁.1.trans h₂.1) h₂.2) fun _ _ e => e)

theorem EvI.range1 {f : Str} {fp pos : Pos} {x : Str} {p : Pos} {e : Expr} {b : Int} (hf : Ev prog w g₀ n env ρ (.Name f fp) (.fn (.type "range"))) (he : EvB prog w g₀ n env ρ e (.int b)) (hu : unstarred e = true := by rfl)
    (hb : 0 ≤ b ∧ b < 2 ^ 40) : EvI prog w g₀ n env ρ (.Call (.Name f fp) [e] [] pos) (.Name x p) (rangeL 0 1 b.toNat) := fun A E Z vm s hA hS => by
  refine evalType hA hS hf (EvBAll.cons he EvBAll.nil hu) fun vs s₁ k r => ?_
  obtain ⟨v, rfl, hv⟩ := r.one
  obtain ⟨t, rfl⟩ := hv.int_inv
  refine call_range_1 (iter_range (s := { s₁ with heap := _, toks := s₁.toks + 1 + 1 }) (k.trans (Kp.push s₁ _ _)) (fun a ha => ?_) (Heap.get?_push_size _ rfl) ?_ ?_)
  · obtain ⟨o, e⟩ := (hS.keep k).alive a ha; exact ⟨o, Heap.get?_push_of_some _ e⟩
  · exact small_of (by omega) (by omega) (by omega)
  · rw [rangeSize_one]; split <;> omega

theorem RdBAll.three {h : Heap} {vs : List Value} {d e f : D} (x : RdBAll prog w Z h vs [d, e, f]) : ∃ v u t, vs = [v, u, t] ∧ RdB prog w Z h v d ∧ RdB prog w Z h u e ∧ RdB prog w Z h t f := by
  cases x with
  | cons a b => obtain ⟨v, u, rfl, hv, hu⟩ := b.two; exact ⟨_, v, u, rfl, a, hv, hu⟩

theorem EvI.range3 {f : Str} {fp pos : Pos} {x : Str} {p : Pos} {e₁ e₂ e₃ : Expr} {a b c : Int} {m : Nat} (hf : Ev prog w g₀ n env ρ (.Name f fp) (.fn (.type "range"))) (he₁ : EvB prog w g₀ n env ρ e₁ (.int a)) (he₂ : EvB prog w g₀ n env ρ e₂ (.int b)) (he₃ : EvB prog w g₀ n env ρ e₃ (.int c))
    (hu : unstarred e₁ = true ∧ unstarred e₂ = true ∧ unstarred e₃ = true)
    (ha : 0 ≤ a ∧ a < 2 ^ 28) (hb : 0 ≤ b ∧ b < 2 ^ 28) (hc : c = 2 ∨ c = -1) (hm : Builtin.Range.rangeSize a b c = m) : EvI prog w g₀ n env ρ (.Call (.Name f fp) [e₁, e₂, e₃] [] pos) (.Name x p) (rangeL a c m) := fun A E Z vm s hA hS => by
  refine evalType hA hS hf (EvBAll.cons he₁ (EvBAll.cons he₂ (EvBAll.cons he₃ EvBAll.nil hu.2.2) hu.2.1) hu.1) fun vs s₁ k r => ?_
  obtain ⟨v, u, y, rfl, hv, hu, hy⟩ := r.three
  obtain ⟨t, rfl⟩ := hv.int_inv
  obtain ⟨t', rfl⟩ := hu.int_inv
  obtain ⟨t'', rfl⟩ := hy.int_inv
  refine call_range_3 (by omega) (iter_range (s := { s₁ with heap := _ }) (k.trans (Kp.push s₁ _ _)) (fun a ha => ?_) (Heap.get?_push_size _ rfl) ?_ hm) (.inl (PyProof.noPylong_small ?_))
  · obtain ⟨o, e⟩ := (hS.keep k).alive a ha; exact ⟨o, Heap.get?_push_of_some _ e⟩
  · exact small_of (by omega) (by omega) (by omega)
  · omega

/-! ### numbered walks -/
theorem EvI.enumL {f : Str} {fp pos : Pos} {elts : List Expr} {kk : Nat} {p : Pos} {e : Expr} {ds : List D} (hf : Ev prog w g₀ n env ρ (.Name f fp) (.fn (.type "enumerate"))) (he : Ev prog w g₀ n env ρ e (.lst ds)) (hu : unstarred e = true := by rfl) :
    EvI prog w g₀ n env ρ (.Call (.Name f fp) [e] [] pos) (.Tuple elts kk p) (Mine.enumL ds) := fun A E Z vm s hA hS => by
  refine PyProof.Rows.Call_Name (backTo_plain (EvAll.cons he EvAll.nil hu).1) (wpAny_mono (hf A E Z vm s hA hS) (fun v s₁ h₁ => ?_) fun _ _ e => e)
  obtain ⟨k₁, h₁⟩ := h₁
  obtain rfl := h₁.fn_inv
  refine callWith_bi (first := []) (.inr ⟨_, rfl⟩) (EvAll.cons he EvAll.nil hu).1 (wpAny_mono ((EvAll.cons he EvAll.nil hu).2 A E Z vm s₁ hA (hS.keep k₁)) (fun vs s₂ h₂ => ?_) fun _ _ e => e)
  obtain ⟨k₂, h₂⟩ := h₂
  obtain ⟨v, rfl⟩ : ∃ v, vs = [v] := by cases h₂ with | cons a b => cases b; exact ⟨_, rfl⟩
  cases h₂ with
  | cons rv _ =>
    cases rv with
    | @lst l vs _ hz hl r =>
      replace hl := hl.isList
      have len := r.length
      simp only [Array.length_toList] at len
      have k := k₁.trans k₂
      refine call_enumerate_list hl fun h' he hit hsz up => ?_
      refine wpAny_pyIter_enum he ?_
      have hl0 : l < s₂.heap.objs.size := by obtain ⟨o, e, _⟩ := hl; exact Heap.lt_size e
      have fr : ∀ a ∈ [s₂.heap.objs.size + 1, s₂.heap.objs.size], s₂.heap.get? a = none := fun a ha => by
        cases e : s₂.heap.get? a with
        | none => rfl
        | some o =>
          have := Heap.lt_size e
          rcases List.mem_cons.mp ha with ha | ha
          · exact absurd (ha ▸ this) (Nat.not_lt.mpr (Nat.le_succ _))
          · exact absurd (List.mem_singleton.mp ha ▸ this) (Nat.lt_irrefl _)
      have hle : l ≠ s₂.heap.objs.size + 1 := Nat.ne_of_lt (Nat.lt_succ_of_lt hl0)
      have hli : l ≠ s₂.heap.objs.size := Nat.ne_of_lt hl0
      have kp : Kp s₂ { s₂ with heap := h' } := Kp.of (t := s₂.toks) up (Nat.le_refl _)
      refine ⟨k.trans kp, s₂.heap.objs.size + 1, [s₂.heap.objs.size + 1, s₂.heap.objs.size], _, rfl, fun A' hh => Itr.ofEnum (it := s₂.heap.objs.size) (len ▸ Draws.list (A := A'.in1) hh _ l hli vs) (Nat.succ_ne_self _) ?_ (.head _),
        ⟨.head _, .tail _ (.head _), ?_, ⟨⟨_, he⟩, hit, hl.at fun o e => up _ o e⟩, let ⟨o, e, _⟩ := hit; ⟨o, e⟩, ?_, ?_⟩, ?_, ?_, ?_⟩
      · intro hm
        rcases List.mem_cons.mp hm with hm | hm
        · exact Nat.succ_ne_self _ hm
        · exact hle (List.mem_singleton.mp hm).symm
      · intro b hb hbI
        rcases List.mem_cons.mp hb with hb | hb
        · exact absurd hb hbI
        · rw [List.mem_singleton.mp hb]
          obtain ⟨o, e, _⟩ := hl
          refine ⟨fun hm => ?_, o, up _ _ e⟩
          rcases List.mem_append.mp hm with hm | hm
          · rw [fr l hm] at e; cases e
          · exact hz hm
      · intro a ha
        rcases List.mem_append.mp ha with ha | ha
        · rcases List.mem_cons.mp ha with ha | ha
          · exact ha ▸ ⟨_, he⟩
          · rw [List.mem_singleton.mp ha]; obtain ⟨o, e, _⟩ := hit; exact ⟨o, e⟩
        · obtain ⟨o, e⟩ := (hS.keep k).alive a ha; exact ⟨o, up _ _ e⟩
      · intro i v d hv hd
        exact ((get_of r hv hd).more fr).keep up
      · simp
      · intro a ha; exact none_up k (fr a ha)
      · intro a ha
        rcases List.mem_cons.mp ha with ha | ha
        · exact ha ▸ ⟨_, he⟩
        · rw [List.mem_singleton.mp ha]; obtain ⟨o, e, _⟩ := hit; exact ⟨o, e⟩

theorem EvI.enumS {f : Str} {fp pos : Pos} {elts : List Expr} {kk : Nat} {p : Pos} {e : Expr} {x : Str} (hf : Ev prog w g₀ n env ρ (.Name f fp) (.fn (.type "enumerate"))) (he : Ev prog w g₀ n env ρ e (.str x)) (hu : unstarred e = true := by rfl) :
    EvI prog w g₀ n env ρ (.Call (.Name f fp) [e] [] pos) (.Tuple elts kk p) (Mine.enumL (signs x)) := fun A E Z vm s hA hS => by
  refine evalType hA hS hf (EvBAll.cons he.toB EvBAll.nil hu) fun vs s₂ k r => ?_
  obtain ⟨v, rfl, hv⟩ := r.one
  obtain ⟨t, rfl⟩ := hv.str_inv
  have len : x.cps.size = (signs x).length := by simp [signs]
  refine call_enumerate_str fun h' he hit hsz up => ?_
  refine wpAny_pyIter_enum he ?_
  have fr : ∀ a ∈ [s₂.heap.objs.size + 1, s₂.heap.objs.size], s₂.heap.get? a = none := fun a ha => by
    cases e : s₂.heap.get? a with
    | none => rfl
    | some o =>
      have := Heap.lt_size e
      rcases List.mem_cons.mp ha with ha | ha
      · exact absurd (ha ▸ this) (Nat.not_lt.mpr (Nat.le_succ _))
      · exact absurd (List.mem_singleton.mp ha ▸ this) (Nat.lt_irrefl _)
  have kp : Kp s₂ { s₂ with heap := h' } := Kp.of (t := s₂.toks) up (Nat.le_refl _)
  have lit : ∃ o, h'.get? s₂.heap.objs.size = some o := let ⟨o, e, _⟩ := hit; ⟨o, e⟩
  have al : ∀ a ∈ [s₂.heap.objs.size + 1, s₂.heap.objs.size] ++ Z, ∃ o, h'.get? a = some o := fun a ha => by
    rcases List.mem_append.mp ha with ha | ha
    · rcases List.mem_cons.mp ha with ha | ha
      · exact ha ▸ ⟨_, he⟩
      · exact List.mem_singleton.mp ha ▸ lit
    · obtain ⟨o, e⟩ := (hS.keep k).alive a ha; exact ⟨o, up _ _ e⟩
  have ne : s₂.heap.objs.size + 1 ∉ [s₂.heap.objs.size] := fun hm => Nat.succ_ne_self _ (List.mem_singleton.mp hm)
  have hfr : ∀ a ∈ [s₂.heap.objs.size + 1, s₂.heap.objs.size], s.heap.get? a = none := fun a ha => none_up k (fr a ha)
  cases ha : x.cps.all (· < 128)
  · have hit' : h'.IsStrIter s₂.heap.objs.size "str_iterator" x t 0 := by simpa [strIterType, ha] using hit
    exact ⟨k.trans kp, s₂.heap.objs.size + 1, [s₂.heap.objs.size + 1, s₂.heap.objs.size], _, rfl, fun A' hh => Itr.ofEnum (it := s₂.heap.objs.size) (len ▸ Draws.strWide (A := A'.in1) hh s₂.heap.objs.size x t) (Nat.succ_ne_self _) ne (.head _),
        ⟨.head _, .tail _ (.head _), fun b hb hbI => absurd (List.mem_singleton.mp hb) hbI, ⟨⟨_, he⟩, hit'⟩, lit, al, fun i v d hv hd => signs_rd hv hd⟩, by simp, hfr, fun a ha => al a (List.mem_append_left _ ha)⟩
  · have hit' : h'.IsStrIter s₂.heap.objs.size "str_ascii_iterator" x t 0 := by simpa [strIterType, ha] using hit
    exact ⟨k.trans kp, s₂.heap.objs.size + 1, [s₂.heap.objs.size + 1, s₂.heap.objs.size], _, rfl, fun A' hh => Itr.ofEnum (it := s₂.heap.objs.size) (len ▸ Draws.strAscii (A := A'.in1) hh s₂.heap.objs.size x t) (Nat.succ_ne_self _) ne (.head _),
        ⟨.head _, .tail _ (.head _), fun b hb hbI => absurd (List.mem_singleton.mp hb) hbI, ⟨⟨_, he⟩, hit'⟩, lit, al, fun i v d hv hd => signs_rd hv hd⟩, by simp, hfr, fun a ha => al a (List.mem_append_left _ ha)⟩
end
end Mine

namespace Mine
open PySem

/-- the ground inside a comprehension: prv are its private places -/
structure CS (prog : Program) (w : World) (g₀ : Heap) (env : Env) (prv Z : List Addr) (vm : Str → Option Value) (ρ : Store) (s : Shared) : Prop extends RS prog w g₀ env Z vm ρ s where
  inZ : ∀ a ∈ prv, a ∈ Z
  home : env.locals ∈ prv
  off : ∃ ls, SlotsAre prog w Z s.heap vm ρ ls ∧ ∀ a ∈ prv, a ∉ ls.flatten
  cel : ∀ n c, env.cells.lookup n = some c → c ∉ prv

section
variable {prog : Program} {w : World} {g₀ g : Heap} {n : Nat} {env cenv : Env} {ρ ρ₁ ρ₂ ρ' ρc : Store} {mg mb : Str → Option Value} {fl : Fl} {Z Z' Zc Zc' prv : List Addr} {vm vm' : Str → Option Value} {ls ls' : List (List Addr)} {h h' : Heap}

theorem CS.kp {s s' : Shared} (x : CS prog w g₀ env prv Z vm ρ s) (k : Kp s s') : CS prog w g₀ env prv Z vm ρ s' :=
  ⟨x.toRS.keep k, x.inZ, x.home, let ⟨ls, a, b⟩ := x.off; ⟨ls, a.keep k.up, b⟩, x.cel⟩

/-- private places, the names' place apart, are changed -/
theorem CS.but {s : Shared} {wr : List Addr} {h' : Heap} {tk : Nat} (x : CS prog w g₀ env prv Z vm ρ s) (hw : ∀ a ∈ wr, a ∈ prv ∧ a ≠ env.locals) (k : ∀ b o, b ∉ wr → s.heap.get? b = some o → h'.get? b = some o) (hal : ∀ a ∈ wr, ∃ o, h'.get? a = some o)
    (htk : s.toks ≤ tk) : CS prog w g₀ env prv Z vm ρ { s with heap := h', toks := tk } := by
  obtain ⟨ls, sl, of⟩ := x.off
  have sl' : SlotsAre prog w Z h' vm ρ ls := sl.move (fun _ _ => rfl) (fun b o hb e => ⟨k b o (fun hm => hb (x.inZ b (hw b hm).1)) e, hb⟩) fun a ha o e => k a o (fun hm => of a (hw a hm).1 ha) e
  refine ⟨⟨⟨x.wf, fun b o e => k b o (fun hm => ?_) (x.base b o e), ⟨?_, ?_⟩, ⟨ls, sl'⟩, fun a ha => ?_, x.apart⟩, Nat.le_trans x.tok htk⟩, x.inZ, x.home, ⟨ls, sl', of⟩, x.cel⟩
  · rw [x.apart b (x.inZ b (hw b hm).1)] at e; cases e
  · obtain ⟨m, hm, hv⟩ := x.frame.ns
    exact ⟨m, hm.at' fun o e => k _ o (fun hm => (hw _ hm).2 rfl) e, hv⟩
  · intro nm c e
    obtain ⟨o, e', d⟩ := x.frame.cell nm c e
    exact ⟨o, k _ o (fun hm => x.cel nm c e (hw c hm).1) e', d⟩
  · by_cases hm : a ∈ wr
    · exact hal a hm
    · obtain ⟨o, e⟩ := x.alive a ha; exact ⟨o, k a o hm e⟩

theorem CS.forget {s : Shared} (f : Fg ρ ρ') (x : CS prog w g₀ env prv Z vm ρ s) : CS prog w g₀ env prv Z vm ρ' s := by
  obtain ⟨ls, sl, of⟩ := x.off
  exact ⟨⟨⟨f.names ▸ x.wf, x.base, x.frame, ⟨ls, sl.forget f⟩, x.alive, x.apart⟩, x.tok⟩, x.inZ, x.home, ⟨ls, sl.forget f, of⟩, x.cel⟩

/-- a target inside a comprehension takes a datum -/
def AsgC (prog : Program) (w : World) (g₀ : Heap) (n : Nat) (env : Env) (ρ : Store) (t : Expr) (d : D) (ρ' : Store) : Prop :=
  ∀ (A : Around) (E : Value → Shared → Prop) (prv Z : List Addr) (vm : Str → Option Value) (s : Shared) (v : Value), Lv n A → CS prog w g₀ env prv Z vm ρ s → Rd prog w Z s.heap v d →
    wpAny (model prog w) A (PySem.assign t env v) (fun _ s' => Ru s s' ∧ ∃ vm', CS prog w g₀ env prv Z vm' ρ' s' ∧ ∀ b o, b ≠ env.locals → s.heap.get? b = some o → s'.heap.get? b = some o) E s

theorem CS.put {A : Around} {E : Value → Shared → Prop} {s : Shared} {x : Str} {d : D} {v : Value} {Q : Unit → Shared → Prop} (hS : CS prog w g₀ env prv Z vm ρ s) (p : PutS x (.dat d) ρ ρ') (hx : env.kindOf x = some .local) (hv : Rd prog w Z s.heap v d)
    (hQ : ∀ s' vm', Ru s s' → CS prog w g₀ env prv Z vm' ρ' s' → (∀ b o, b ≠ env.locals → s.heap.get? b = some o → s'.heap.get? b = some o) → Q () s') :
    wpAny (model prog w) A (storeName env x v) Q E s := by
  obtain ⟨ls, sl, of⟩ := hS.off
  obtain ⟨pre, as₀, post, s₀, rfl, hm₀, hs₀, f⟩ := sl.put p hS.wf.nodup
  obtain ⟨m, hm₁, hm₂⟩ := hS.frame.ns
  have hz : (env.scope.kind == .class || (env.scope.kind == .module && env.locals != env.globals)) = false := by rw [hS.wf.kind]; rfl
  refine wpAny_storeName_local hx hm₁ (fun h' hn' hs' => ?_) hz
  have k : ∀ b o, b ≠ env.locals → s.heap.get? b = some o → h'.get? b = some o := fun b o hb e => hs'.extBut b o hb e
  have LZ := hS.inZ _ hS.home
  have hLo : ∃ o, h'.get? env.locals = some o := let ⟨o, _, _, ho, _⟩ := hn'; ⟨o, ho⟩
  have sl' : SlotsAre prog w Z h' (fun y => if y = x then some v else vm y) ρ' (pre ++ [] :: post) := by
    refine f Z h' _ [] (fun y hy => if_neg hy) (fun b o hb e => ⟨k b o (fun z => hb (z ▸ LZ)) e, hb⟩) (fun a ha o e => k a o (fun z => of _ hS.home ?_) e) ?_
    · rw [← z]
      simp only [List.flatten_append, List.flatten_cons, List.mem_append] at ha ⊢
      rcases ha with ha | ha
      · exact .inl ha
      · exact .inr (.inr ha)
    · rw [if_pos rfl]
      exact ⟨rfl, v, rfl, hv.move fun b o hb e => ⟨k b o (fun z => hb (z ▸ LZ)) e, hb⟩⟩
  have of' : ∀ a ∈ prv, a ∉ (pre ++ [] :: post).flatten := fun a ha hb => of a ha (by
    simp only [List.flatten_append, List.flatten_cons, List.mem_append, List.nil_append] at hb ⊢
    rcases hb with hb | hb
    · exact .inl hb
    · exact .inr (.inr hb))
  refine hQ _ (fun y => if y = x then some v else vm y) ⟨⟨h', _, rfl⟩, Nat.le_succ _⟩ ⟨⟨⟨p.names ▸ hS.wf, fun b o e => k b o (fun z => ?_) (hS.base b o e), ⟨⟨_, hn', fun y hy => ?_⟩, fun nm c e => ?_⟩, ⟨_, sl'⟩, fun a ha => ?_, hS.apart⟩, Nat.le_trans hS.tok (Nat.le_succ _)⟩, hS.inZ, hS.home, ⟨_, sl', of'⟩, hS.cel⟩ k
  · have := hS.apart _ LZ
    rw [← z, e] at this; cases this
  · by_cases hyx : y = x
    · simp [hyx]
    · simp [hyx, hm₂ y hy]
  · have hnx : nm ≠ x := fun z => by
      rcases hS.wf.home x p.mem with ⟨_, hc⟩ | ⟨hc, _⟩
      · rw [← z, e] at hc; cases hc
      · rw [hx] at hc; rcases hc with hc | hc <;> cases hc
    show ∃ o, _ ∧ _
    rw [if_neg hnx]
    obtain ⟨o, e', d'⟩ := hS.frame.cell nm c e
    exact ⟨o, k c o (fun z => hS.cel nm c e (z ▸ hS.home)) e', d'⟩
  · by_cases hb : a = env.locals
    · exact hb ▸ hLo
    · obtain ⟨o, e⟩ := hS.alive a ha; exact ⟨o, k a o hb e⟩

theorem AsgC.name {x : Str} {p : Pos} {d : D} (q : PutS x (.dat d) ρ ρ') (hx : env.kindOf x = some .local := by rfl) : AsgC prog w g₀ n env ρ (.Name x p) d ρ' := fun A E prv Z vm s v hA hS hv =>
  wpAny_assign_Name (hS.put q hx hv fun s' vm' r hS' k => ⟨r, vm', hS', k⟩)
theorem AsgC.pair {x y : Str} {p p' q : Pos} {k : Nat} {a b : D} (h₁ : PutS x (.dat a) ρ ρ₁) (h₂ : PutS y (.dat b) ρ₁ ρ') (hx : env.kindOf x = some .local := by rfl) (hy : env.kindOf y = some .local := by rfl) :
    AsgC prog w g₀ n env ρ (.Tuple [.Name x p, .Name y p'] k q) (.tup [a, b]) ρ' := fun A E prv Z vm s v hA hS hv => by
  obtain ⟨t, vs, rfl, l, r⟩ := (RdB.free hv).tup_inv
  obtain ⟨u₁, u₂, e, r₁, r₂⟩ : ∃ u₁ u₂, vs.toList = [u₁, u₂] ∧ Rd prog w Z s.heap u₁ a ∧ Rd prog w Z s.heap u₂ b := by
    generalize vs.toList = vl at r
    cases r with | cons r₁ r => cases r with | cons r₂ r => cases r; exact ⟨_, _, rfl, r₁, r₂⟩
  have len : vs.size = 2 := by have := congrArg List.length e; simpa using this
  refine wpAny_assign_Tuple hA.hh l (by rw [len]; rfl) rfl fun h' hx' => ?_
  have kk : Kp s { s with heap := h' } := Kp.of (t := s.toks) (fun b o e => hx' b o (Nat.ne_of_lt (Heap.lt_size e)) e) (Nat.le_refl _)
  rw [e]
  show wpAny _ _ (do holding [u₂] (PySem.assign (.Name x p) env u₁); assignInOrder _ [u₂]) _ _ _
  refine wpAny_bind (wpAny_holding (wpAny_assign_Name ((hS.kp kk).put h₁ hx (r₁.keep kk.up) fun s₁ vm₁ ru₁ hS₁ k₁ => ?_)))
  show wpAny _ _ (do holding [] (PySem.assign (.Name y p') env u₂); assignInOrder [] []) _ _ _
  have LZ := hS.inZ _ hS.home
  refine wpAny_bind (wpAny_holding (wpAny_assign_Name (hS₁.put h₂ hy ((r₂.keep kk.up).move fun b o hb e => ⟨k₁ b o (fun z => hb (z ▸ LZ)) e, hb⟩) fun s₂ vm₂ ru₂ hS₂ k₂ => ?_)))
  exact wpAny_pure ⟨kk.ru.trans (ru₁.trans ru₂), vm₂, hS₂, fun b o hb e => k₂ b o hb (k₁ b o hb (kk.up b o e))⟩

/-- the ifs of a clause -/
def Ifs (prog : Program) (w : World) (g₀ : Heap) (n : Nat) (env : Env) (ρ : Store) (ifs : List Expr) (b : Bool) : Prop :=
  Run prog w g₀ n env ρ (forIn ifs true fun c r => if r = true then do let ok ← isTrue c env (eval c env); pure (ForInStep.yield ok) else pure (ForInStep.yield r)) fun _ _ v _ => v = b
theorem Ifs.nil : Ifs prog w g₀ n env ρ [] true := fun A E Z vm s hA hS => wpAny_tests_nil ⟨.refl _, rfl⟩
theorem Ifs.one {c : Expr} {b : Bool} (h : Tst prog w g₀ n env ρ c b) : Ifs prog w g₀ n env ρ [c] b := fun A E Z vm s hA hS => wpAny_tests_one (h A E Z vm s hA hS)

theorem compLoop_drawn {A : Around} {R : Result → Shared → Prop} {s : Shared} {elt target iter : Expr} {ifs : List Expr} {scope : Scope} {pos : Pos} {it : Addr} {acc : Value} (I : Nat → Shared → Prop)
    (turn : ∀ n s, I n s → wpAny (model prog w) A (pyNext (.ref it)) (Drawn prog w A target it
      (fun v s₁ => wpAny (model prog w) A (PySem.assign target env v) (fun _ s₂ =>
          wpAny (model prog w) A (forIn ifs true fun c r => if r = true then do let ok ← isTrue c env (eval c env); pure (ForInStep.yield ok) else pure (ForInStep.yield r)) (fun ok s₃ =>
            if ok = true then wpAny (model prog w) A (eval elt env) (fun x s₄ =>
              wpAny (model prog w) A (call (.builtin "list.append") [acc, x]) (fun _ s₅ => ∃ m, m < n ∧ I m s₅) (notedBy (model prog w) A env fun e s' => R (.error e) s') s₄) (notedBy (model prog w) A env fun e s' => R (.error e) s') s₃
            else ∃ m, m < n ∧ I m s₃) (notedBy (model prog w) A env fun e s' => R (.error e) s') s₂) (notedBy (model prog w) A env fun e s' => R (.error e) s') s₁)
      (fun s₁ => R (.ok .next) s₁) (notedBy (model prog w) A env fun e s' => R (.error e) s')) (notedBy (model prog w) A env fun e s' => R (.error e) s') s)
    (n : Nat) (h : I n s) : codeAny (model prog w) A (.compLoop (.ListComp elt [⟨target, iter, ifs, 0⟩] scope pos) 0 (.ref it) acc env) R s := by
  refine codeAny_loop rfl I (fun n s hI => ?_) n h
  show wpAny _ A ((compTurn (.ListComp elt [⟨target, iter, ifs, 0⟩] scope pos) 0 (.ref it) acc env).onRaise (fun x => do noteFrame x env; theTreesLotGoes x)) _ _ s
  refine wpAny_noted ?_
  rw [compTurn_list]
  refine wpAny_bind (wpAny_standAt (wpAny_bind (wpAny_mono (turn n s hI) (fun r s₁ h₁ => ?_) fun _ _ h' => h')))
  cases r with
  | none => exact wpAny_pure h₁
  | some v =>
    refine wpAny_bind (wpAny_mono h₁ (fun _ s₁' h₁' => ?_) fun _ _ h' => h')
    refine wpAny_bind (wpAny_mono h₁' (fun _ s₂ h₂ => wpAny_bind (wpAny_mono h₂ (fun ok s₃ h₃ => ?_) fun _ _ h' => h')) fun _ _ h' => h')
    cases ok with
    | false => exact wpAny_pure ⟨rfl, h₃⟩
    | true =>
      exact wpAny_bind (wpAny_bind (wpAny_mono h₃ (fun x s₄ h₄ => wpAny_bind (wpAny_mono h₄ (fun _ s₅ h₅ => wpAny_pure (wpAny_pure ⟨rfl, h₅⟩)) fun _ _ h' => h')) fun _ _ h' => h'))
end
end Mine

namespace Mine
open PySem

/-- what is caught from around -/
def Cap (kind : Str → Option NameKind) (ρ ρc : Store) : Prop := ∀ x sl, (x, sl) ∈ ρc → sl = .unset ∨ (kind x ≠ some .local ∧ (x, sl) ∈ ρ)

/-- the outer form of a comprehension -/
structure Form (env : Env) (scope : Scope) (cl : List (Str × Addr)) (names : List Str) : Prop where
  clos : closureFor scope env = pure cl
  nocell : ∀ y ∈ scope.names, y.2 ≠ .cell
  kind : scope.kind = .function
  local_ : ∀ y ∈ scope.names, y.2 = .local → scope.names.lookup y.1 = some .local
  cells : ∀ p ∈ cl, env.cells.lookup p.1 = some p.2 ∧ (relabel scope env).names.lookup p.1 ≠ some .local
  wf : ∀ C, Wf (compEnvC scope cl C env) names

section
variable {prog : Program} {w : World} {g₀ g : Heap} {n : Nat} {env cenv : Env} {ρ ρ₁ ρ₂ ρ' ρc : Store} {mg mb : Str → Option Value} {fl : Fl} {Z Z' Zc Zc' prv : List Addr} {vm vm' : Str → Option Value} {ls ls' : List (List Addr)} {h h' : Heap}

theorem SlotAt.alive {v : Option Value} {as : List Addr} {sl : Slot} (x : SlotAt prog w Z h v as sl) : ∀ a ∈ as, ∃ o, h.get? a = some o := by
  intro a ha
  cases sl with
  | unset => rw [show as = [] from x] at ha; cases ha
  | dat d => rw [show as = [] from x.1] at ha; cases ha
  | own o =>
    obtain ⟨u, hu, r⟩ := x
    cases o with
    | lst ds => obtain ⟨b, vs, e, rfl, l, r⟩ := r; rw [List.mem_singleton.mp ha]; obtain ⟨c, e⟩ := l; exact ⟨_, e⟩
    | idict ds => obtain ⟨b, vs, e, rfl, ne, l, q, r⟩ := r; rw [List.mem_singleton.mp ha]; obtain ⟨o, _, _, e, _⟩ := l; exact ⟨_, e⟩
    | nest dss =>
      obtain ⟨b, bs, e, rfl, l, q, r⟩ := r
      rcases List.mem_cons.mp ha with ha | ha
      · rw [ha]; obtain ⟨c, e⟩ := l; exact ⟨_, e⟩
      · obtain ⟨i, hi⟩ := List.mem_iff_getElem?.mp ha
        have : i < dss.length := by rw [← q]; exact (List.getElem?_eq_some_iff.mp hi).1
        obtain ⟨vs, ⟨c, e⟩, _⟩ := r i a _ hi (List.getElem?_eq_getElem this)
        exact ⟨_, e⟩

theorem cap_slots {kind : Str → Option NameKind} (sl : SlotsAre prog w Z h vm ρ ls) (hv : ∀ x, kind x ≠ some .local → vm' x = vm x) : ∀ {ρc : Store}, Cap kind ρ ρc →
    ∃ ls', SlotsAre prog w Z h vm' ρc ls' ∧ ∀ a ∈ ls'.flatten, ∃ o, h.get? a = some o
  | [], _ => ⟨[], .nil, fun _ h => by simp at h⟩
  | (x, s) :: ρc, hc => by
    obtain ⟨ls', a, b⟩ := cap_slots sl hv (ρc := ρc) fun y t hm => hc y t (.tail _ hm)
    rcases hc x s (.head _) with rfl | ⟨hk, hm⟩
    · exact ⟨[] :: ls', .cons rfl a, fun c hm => b c (by simpa using hm)⟩
    · obtain ⟨as, hm', r⟩ := sl.at hm
      rw [← hv x hk] at r
      refine ⟨as :: ls', .cons r a, fun c hm => ?_⟩
      rw [List.flatten_cons] at hm
      rcases List.mem_append.mp hm with hm | hm
      · exact r.alive c hm
      · exact b c hm

theorem comp_core {A : Around} {E : Value → Shared → Prop} {s : Shared} {elt iter tgt : Expr} {ifs : List Expr} {scope : Scope} {pos : Pos} {cl : List (Str × Addr)} {ds : List D} {RR : Value → Addr → Result → Shared → Prop} (f : D → Option D)
    (hA : Lv n A) (hS : RS prog w g₀ env Z vm ρ s) (hI : EvI prog w g₀ n env ρ iter tgt ds) (F : Form env scope cl (ρc.map (·.1))) (hcap : Cap (fun x => (relabel scope env).names.lookup x) ρ ρc) (hg : env.globals = mainGlobals ∧ env.builtins = builtinsNs) (hsz : ds.length ≤ sizeLine)
    (turn : ∀ d ∈ ds, ∀ C, ∃ ρ₁, AsgC prog w g₀ n (compEnvC scope cl C env) ρc tgt d ρ₁ ∧ Ifs prog w g₀ n (compEnvC scope cl C env) ρ₁ ifs (f d).isSome ∧ (∀ y, f d = some y → Ev prog w g₀ n (compEnvC scope cl C env) ρ₁ elt y) ∧ Fg ρ₁ ρc)
    (hRR : ∀ D C s' m ys, Kp s s' → D ≠ C → s.heap.get? D = none → s.heap.get? C = none → s'.heap.Ns C m → s'.heap.PlainList D ys → RdAll prog w ([D, C] ++ Z) s'.heap ys.toList (ds.filterMap f) → RR (.ref D) C (.ok .next) s') :
    wpAny (model prog w) A (eval iter env) (fun x s₁ => wpAny (model prog w) A (pyIter x) (fun it s₂ => wpAny (model prog w) A (newList []) (fun acc s₃ =>
      wpAny (model prog w) A (newFunctionEnv scope env.globals cl [] env.qual none .none (some env)) (fun cenv s₄ =>
        codeAny (model prog w) A (.compStart (.ListComp elt [⟨tgt, iter, ifs, 0⟩] scope pos) 0 it acc { cenv with scope := relabel scope env }) (RR acc cenv.locals) s₄) E s₃) E s₂) E s₁) E s := by
  refine wpAny_mono (hI A E Z vm s hA hS) (fun x s₁ h₁ => wpAny_mono h₁ (fun v s₂ h₂ => ?_) fun _ _ e => e) fun _ _ e => e
  obtain ⟨k₂, it, wr, J, rfl, W, j, nd, hf, hal⟩ := h₂
  replace W := W A hA.hh
  refine wpAny_newObj_type (wpAny_newFunctionEnv F.nocell (by intro y hy; simp at hy) (fun h₁ hns₁ hsb₁ => ?_) F.kind) (by show (0 : Nat) ≤ sizeLine; exact Nat.zero_le _)
  dsimp only at hns₁ hsb₁ ⊢
  generalize hH2 : s₂.heap.push { cls := .type "list", dict := none, data := .seq ([] : List Value).toArray } = H2 at hns₁ hsb₁ ⊢
  generalize hD : s₂.heap.objs.size = D₀ at *
  generalize hC : H2.objs.size = C at *
  have hCD : C = D₀ + 1 := by rw [← hC, ← hH2, Heap.size_push, hD]
  have hDC : D₀ ≠ C := by rw [hCD]; exact Nat.ne_of_lt (Nat.lt_succ_self _)
  have fD : s₂.heap.get? D₀ = none := by rw [← hD]; exact fresh_of (.refl s₂)
  have fC : s₂.heap.get? C = none := by
    cases e : s₂.heap.get? C with
    | none => rfl
    | some o => have := Heap.lt_size e; rw [hD, hCD] at this; exact absurd this (Nat.not_lt.mpr (Nat.le_succ _))
  have old : ∀ b o, s₂.heap.get? b = some o → h₁.get? b = some o := fun b o e => hsb₁.extBut b o (fun z => by rw [z, fC] at e; cases e) (Heap.get?_push_of_some _ (hH2 ▸ Heap.get?_push_of_some _ e))
  have hacc : h₁.PlainList D₀ #[] := ⟨_, hsb₁.extBut _ _ hDC (Heap.get?_push_of_some _ (hH2 ▸ hD ▸ Heap.get?_push_size _ rfl))⟩
  have up : ∀ b o, s.heap.get? b = some o → h₁.get? b = some o := fun b o e => old b o (k₂.up b o e)
  have hfp : ∀ a ∈ D₀ :: C :: wr, s.heap.get? a = none := fun a ha => by
    rcases List.mem_cons.mp ha with ha | ha
    · rw [ha]; exact none_up k₂ fD
    · rcases List.mem_cons.mp ha with ha | ha
      · rw [ha]; exact none_up k₂ fC
      · exact hf a ha
  have nC : C ∉ wr := fun hm => by obtain ⟨o, e⟩ := hal C hm; rw [fC] at e; cases e
  have nD : D₀ ∉ wr := fun hm => by obtain ⟨o, e⟩ := hal D₀ hm; rw [fD] at e; cases e
  let vm₀ : Str → Option Value := fun x => if (relabel scope env).names.lookup x = some .local then none else vm x
  have sub : ∀ a ∈ wr, a ∈ (D₀ :: C :: wr) ++ Z := fun a ha => List.mem_append_left _ (.tail _ (.tail _ ha))
  have kt : s.toks ≤ s₂.toks + ([] : List (Str × Value)).length := k₂.tk
  have hS₁ : CS prog w g₀ (compEnvC scope cl C env) (D₀ :: C :: wr) ((D₀ :: C :: wr) ++ Z) vm₀ ρc { s₂ with heap := h₁, toks := s₂.toks + ([] : List (Str × Value)).length } := by
    obtain ⟨ls, sl⟩ := hS.slots
    obtain ⟨ls', sl', al'⟩ := cap_slots (kind := fun x => (relabel scope env).names.lookup x) (vm' := vm₀) sl (fun x hx => if_neg hx) hcap
    have sl₂ : SlotsAre prog w ((D₀ :: C :: wr) ++ Z) h₁ vm₀ ρc ls' := sl'.move (fun _ _ => rfl) (fun b o hb e => ⟨up b o e, fun hm => by
      rcases List.mem_append.mp hm with hm | hm
      · rw [hfp b hm] at e; cases e
      · exact hb hm⟩) fun a _ o e => up a o e
    refine ⟨⟨⟨F.wf C, fun b o e => up b o (hS.base b o e), ⟨⟨_, hns₁, fun x hx => ?_⟩, fun nm c e => ?_⟩, ⟨ls', sl₂⟩, fun a ha => ?_, fun a ha => ?_⟩, Nat.le_trans hS.tok kt⟩, fun a ha => List.mem_append_left _ ha, .tail _ (.head _), ⟨ls', sl₂, fun a ha hm => ?_⟩, fun nm c e hm => ?_⟩
    · show _ = vm₀ x
      have : (relabel scope env).names.lookup x = some .local := hx
      simp [vm₀, this]
    · obtain ⟨h1, h2⟩ := F.cells (nm, c) (mem_of_lookup e)
      obtain ⟨o, e', d⟩ := hS.frame.cell nm c h1
      refine ⟨o, up c o e', ?_⟩
      have : vm₀ nm = vm nm := if_neg h2
      rw [this]; exact d
    · rcases List.mem_append.mp ha with ha | ha
      · rcases List.mem_cons.mp ha with ha | ha
        · rw [ha]; obtain ⟨c, e⟩ := hacc; exact ⟨_, e⟩
        · rcases List.mem_cons.mp ha with ha | ha
          · rw [ha]; obtain ⟨o, _, _, e, _⟩ := hns₁; exact ⟨_, e⟩
          · obtain ⟨o, e⟩ := hal a ha; exact ⟨o, old a o e⟩
      · obtain ⟨o, e⟩ := hS.alive a ha; exact ⟨o, up a o e⟩
    · rcases List.mem_append.mp ha with ha | ha
      · cases e : g₀.get? a with
        | none => rfl
        | some o => have := hS.base a o e; rw [hfp a ha] at this; cases this
      · exact hS.apart a ha
    · obtain ⟨o, e⟩ := al' a hm; rw [hfp a ha] at e; cases e
    · obtain ⟨h1, h2⟩ := F.cells (nm, c) (mem_of_lookup e)
      obtain ⟨o, e', d⟩ := hS.frame.cell nm c h1
      rw [hfp c hm] at e'; cases e'
  have j₁ : J ((D₀ :: C :: wr) ++ Z) 0 h₁ := W.move _ _ _ _ _ j (fun b o hb e => ⟨old b o e, fun hm => hb (by
      rcases List.mem_append.mp hm with hm | hm
      · rcases List.mem_cons.mp hm with hm | hm
        · rw [hm, fD] at e; cases e
        · rcases List.mem_cons.mp hm with hm | hm
          · rw [hm, fC] at e; cases e
          · exact List.mem_append_left _ hm
      · exact List.mem_append_right _ hm)⟩) (fun a _ o e => old a o e) sub hS₁.alive
  have ru₁ : Ru s { s₂ with heap := h₁, toks := s₂.toks + ([] : List (Str × Value)).length } := k₂.ru.trans ⟨⟨h₁, _, rfl⟩, Nat.le_add_right _ _⟩
  have loop : codeAny (model prog w) A (.compLoop (.ListComp elt [⟨tgt, iter, ifs, 0⟩] scope pos) 0 (.ref it) (.ref D₀) (compEnvC scope cl C env)) (RR (.ref D₀) C) { s₂ with heap := h₁, toks := s₂.toks + ([] : List (Str × Value)).length } := by
    refine compLoop_drawn (fun m s' => ∃ i vm ys, m = ds.length - i ∧ i ≤ ds.length ∧ Ru s s' ∧ (∀ b o, s.heap.get? b = some o → s'.heap.get? b = some o) ∧ CS prog w g₀ (compEnvC scope cl C env) (D₀ :: C :: wr) ((D₀ :: C :: wr) ++ Z) vm ρc s' ∧ J ((D₀ :: C :: wr) ++ Z) i s'.heap ∧
      s'.heap.PlainList D₀ ys ∧ RdAll prog w ((D₀ :: C :: wr) ++ Z) s'.heap ys.toList ((ds.take i).filterMap f)) (fun m s' inv => ?_) ds.length ⟨0, vm₀, #[], rfl, Nat.zero_le _, ru₁, up, hS₁, j₁, hacc, .nil⟩
    obtain ⟨i, vm, ys, rfl, hi, ru, up', hS', j', pl, ra⟩ := inv
    have lzC : C ∈ (D₀ :: C :: wr) ++ Z := .tail _ (.head _)
    have lzD : D₀ ∈ (D₀ :: C :: wr) ++ Z := .head _
    have fs : ∀ a ∈ D₀ :: C :: wr, ∀ o, s.heap.get? a ≠ some o := fun a ha o e => by rw [hfp a ha] at e; cases e
    have len := ra.length
    simp only [Array.length_toList] at len
    have hys : ys.size ≤ sizeLine := by
      have h1 : ((ds.take i).filterMap f).length ≤ (ds.take i).length := List.length_filterMap_le ..
      have h2 : (ds.take i).length ≤ ds.length := by simp; omega
      omega
    by_cases hlt : i < ds.length
    · have hd : ds[i]? = some ds[i] := List.getElem?_eq_getElem hlt
      obtain ⟨ρ₁, ha, hifs, helt, hfg⟩ := turn ds[i] (List.getElem_mem hlt) C
      refine W.item _ i ds[i] s' _ _ _ hd j' fun v h' tk rv j₂ kk htk => ?_
      have hS₂ := hS'.but (wr := wr) (fun a ha => ⟨.tail _ (.tail _ ha), fun z => nC (by rw [← show a = C from z]; exact ha)⟩) kk (W.alive _ _ _ j₂) htk
      have up₂ : ∀ b o, s.heap.get? b = some o → h'.get? b = some o := fun b o e => kk b o (fun hm => fs b (.tail _ (.tail _ hm)) o e) (up' b o e)
      have pl₂ : h'.PlainList D₀ ys := pl.at fun o e => kk D₀ o nD e
      have ra₂ : RdAll prog w ((D₀ :: C :: wr) ++ Z) h' ys.toList ((ds.take i).filterMap f) := ra.move fun b o hb e => ⟨kk b o (fun hm => hb (sub b hm)) e, hb⟩
      refine wpAny_mono (ha A _ _ _ vm _ v hA hS₂ rv) (fun _ s₃ q => ?_) fun _ _ e => e
      obtain ⟨r₃, vm', hS₃, k₃⟩ := q
      have nCb : ∀ b, b ∉ (D₀ :: C :: wr) ++ Z → b ≠ (compEnvC scope cl C env).locals := fun b hb z => hb (by rw [show b = C from z]; exact lzC)
      have mv₃ : Mv ((D₀ :: C :: wr) ++ Z) h' ((D₀ :: C :: wr) ++ Z) s₃.heap := fun b o hb e => ⟨k₃ b o (nCb b hb) e, hb⟩
      have j₃ := W.move _ _ _ _ _ j₂ mv₃ (fun a ha o e => k₃ a o (fun z => nC (by rw [← show a = C from z]; exact ha)) e) sub hS₃.alive
      refine wpAny_mono (hifs A _ _ vm' s₃ hA hS₃.toRS) (fun ok s₄ q => ?_) fun _ _ e => e
      obtain ⟨k₄, rfl⟩ := q
      have hS₄ := hS₃.kp k₄
      have j₄ := W.move _ _ _ _ _ j₃ (Mv.kp k₄) (fun a _ o e => k₄.up a o e) sub hS₄.alive
      have up₄ : ∀ b o, s.heap.get? b = some o → s₄.heap.get? b = some o := fun b o e => k₄.up b o (k₃ b o (fun z => fs C (.tail _ (.head _)) o (by rw [← show b = C from z]; exact e)) (up₂ b o e))
      have pl₄ : s₄.heap.PlainList D₀ ys := pl₂.at fun o e => k₄.up _ o (k₃ D₀ o hDC e)
      have ra₄ := (ra₂.move mv₃).keep k₄.up
      have ru₄ : Ru s s₄ := ru.trans (Ru.trans ⟨⟨h', tk, rfl⟩, htk⟩ (r₃.trans k₄.ru))
      have tk1 : (ds.take (i + 1)).filterMap f = (ds.take i).filterMap f ++ (f ds[i]).toList := by
        rw [List.take_add_one, hd, List.filterMap_append]
        cases hh : f ds[i] <;> simp [hh]
      cases hfd : f ds[i] with
      | none =>
        rw [if_neg (by simp)]
        rw [hfd] at tk1
        exact ⟨ds.length - (i + 1), by omega, i + 1, vm', ys, rfl, hlt, ru₄, up₄, hS₄.forget hfg, j₄, pl₄, by rw [tk1]; simpa using ra₄⟩
      | some y =>
        rw [if_pos (by simp)]
        rw [hfd] at tk1
        refine wpAny_mono (helt y hfd A _ _ vm' s₄ hA hS₄.toRS) (fun x s₅ q => ?_) fun _ _ e => e
        obtain ⟨k₅, rx⟩ := q
        have hS₅ := hS₄.kp k₅
        have j₅ := W.move _ _ _ _ _ j₄ (Mv.kp k₅) (fun a _ o e => k₅.up a o e) sub hS₅.alive
        refine wpAny_list_append_plain (pl₄.at fun o e => k₅.up _ _ e) (fun h₆ l₆ sb => ?_) hys
        have kb : ∀ b o, b ≠ D₀ → s₅.heap.get? b = some o → h₆.get? b = some o := fun b o hb e => sb.extBut b o hb e
        have hS₆ := hS₅.but (wr := [D₀]) (h' := h₆) (tk := s₅.toks) (fun a ha => ⟨by rw [List.mem_singleton.mp ha]; exact .head _, by rw [List.mem_singleton.mp ha]; exact hDC⟩) (fun b o hb e => kb b o (fun z => hb (by rw [z]; exact .head _)) e)
          (fun a ha => by rw [List.mem_singleton.mp ha]; obtain ⟨c, e⟩ := l₆; exact ⟨_, e⟩) (Nat.le_refl _)
        have mv₆ : Mv ((D₀ :: C :: wr) ++ Z) s₅.heap ((D₀ :: C :: wr) ++ Z) h₆ := fun b o hb e => ⟨kb b o (fun z => hb (by rw [z]; exact lzD)) e, hb⟩
        have j₆ := W.move _ _ _ _ _ j₅ mv₆ (fun a ha o e => kb a o (fun z => nD (z ▸ ha)) e) sub hS₆.alive
        refine ⟨ds.length - (i + 1), by omega, i + 1, vm', ys.push x, rfl, hlt, ru₄.trans (k₅.ru.trans ⟨⟨h₆, _, rfl⟩, Nat.le_refl _⟩), fun b o e => kb b o (fun z => fs D₀ (.head _) o (z ▸ e)) (k₅.up b o (up₄ b o e)), hS₆.forget hfg, j₆, l₆, ?_⟩
        rw [tk1]
        simpa using ((ra₄.keep k₅.up).append (.one rx)).move mv₆
    · have : i = ds.length := by omega
      subst this
      refine W.done _ s' _ _ _ j' fun h' tk kk htk => ?_
      obtain ⟨m, hm, _⟩ := hS'.frame.ns
      rw [List.take_length] at ra
      refine hRR D₀ C _ m ys ⟨?_, Nat.le_trans ru.tk htk⟩ hDC (hfp _ (.head _)) (hfp _ (.tail _ (.head _))) (hm.at' fun o e => kk C o nC e) (pl.at fun o e => kk D₀ o nD e) (ra.move fun b o hb e => ⟨kk b o (fun hm => hb (sub b hm)) e, fun hm => hb ?_⟩)
      · obtain ⟨⟨h₀, t₀, e₀⟩, _⟩ := ru
        rw [e₀] at kk up' ⊢
        exact ⟨h', tk, rfl, fun b o e => kk b o (fun hm => fs b (.tail _ (.tail _ hm)) o e) (up' b o e)⟩
      · rcases List.mem_append.mp hm with hm | hm
        · rcases List.mem_cons.mp hm with hm | hm
          · rw [hm]; exact lzD
          · rw [List.mem_singleton.mp hm]; exact lzC
        · exact List.mem_append_right _ hm
  exact codeAny_compStart_list loop (W.self _ 0 _ _ _ j₁ loop)
end
end Mine

namespace Mine
open PySem

section
variable {prog : Program} {w : World} {g₀ g : Heap} {n : Nat} {env cenv : Env} {ρ ρ₁ ρ₂ ρ' ρc : Store} {mg mb : Str → Option Value} {fl : Fl} {Z Z' Zc Zc' prv : List Addr} {vm vm' : Str → Option Value} {ls ls' : List (List Addr)} {h h' : Heap}

theorem EvO.comp {elt iter tgt : Expr} {ifs : List Expr} {scope : Scope} {pos : Pos} {cl : List (Str × Addr)} {ds : List D} (f : D → Option D) (ρc : Store)
    (hI : EvI prog w g₀ n env ρ iter tgt ds) (F : Form env scope cl (ρc.map (·.1))) (hcap : Cap (fun x => (relabel scope env).names.lookup x) ρ ρc) (hg : env.globals = mainGlobals ∧ env.builtins = builtinsNs) (hsz : ds.length ≤ sizeLine)
    (turn : ∀ d ∈ ds, ∀ C, ∃ ρ₁, AsgC prog w g₀ n (compEnvC scope cl C env) ρc tgt d ρ₁ ∧ Ifs prog w g₀ n (compEnvC scope cl C env) ρ₁ ifs (f d).isSome ∧ (∀ y, f d = some y → Ev prog w g₀ n (compEnvC scope cl C env) ρ₁ elt y) ∧ Fg ρ₁ ρc)
    (hs : ∀ x, foldedSetIterable iter env x = pure x := by intro _; rfl) :
    EvO prog w g₀ n env ρ (.ListComp elt [⟨tgt, iter, ifs, 0⟩] scope pos) (.lst (ds.filterMap f)) := fun A E Z vm s hA hS => by
  rw [eval_ListComp]
  refine wpAny_comprehension_free (use := none) rfl hs F.clos F.kind F.local_ (comp_core f hA hS hI F hcap hg hsz turn fun D C s' m ys k hDC hD hC hn pl ra => ?_)
  refine ⟨m, hn, fun h'' hs'' => ?_⟩
  have kb : ∀ b o, b ≠ C → s'.heap.get? b = some o → h''.get? b = some o := fun b o hb e => hs''.extBut b o hb e
  have pl' : h''.PlainList D ys := pl.at fun o e => kb D o hDC e
  have k' : Kp s { s' with heap := h'' } := by
    obtain ⟨⟨h', t, e, kk⟩, tk⟩ := k
    subst e
    exact ⟨⟨h'', t, rfl, fun b o e => kb b o (fun z => by rw [z, hC] at e; cases e) (kk b o e)⟩, tk⟩
  refine ⟨k', [D], ⟨D, ys, rfl, rfl, pl', ra.move fun b o hb e => ⟨kb b o (fun z => hb (by simp [z])) e, fun hm => hb ?_⟩⟩, by simp, fun a ha => by rw [List.mem_singleton.mp ha]; exact hD, fun a ha => by rw [List.mem_singleton.mp ha]; obtain ⟨c, e⟩ := pl'; exact ⟨_, e⟩⟩
  rcases List.mem_append.mp hm with hm | hm
  · exact List.mem_append_left _ (by rw [List.mem_singleton.mp hm]; exact .head _)
  · exact List.mem_append_right _ hm

/-- x = [..], the name stored before the comprehension's own names go -/
theorem Ex.assignComp {x : Str} {px spos : Pos} {elt iter tgt : Expr} {ifs : List Expr} {scope : Scope} {pos : Pos} {cl : List (Str × Addr)} {ds : List D} (f : D → Option D) (ρc : Store)
    (hI : EvI prog w g₀ n env ρ iter tgt ds) (F : Form env scope cl (ρc.map (·.1))) (hcap : Cap (fun x => (relabel scope env).names.lookup x) ρ ρc) (hg : env.globals = mainGlobals ∧ env.builtins = builtinsNs) (hsz : ds.length ≤ sizeLine)
    (turn : ∀ d ∈ ds, ∀ C, ∃ ρ₁, AsgC prog w g₀ n (compEnvC scope cl C env) ρc tgt d ρ₁ ∧ Ifs prog w g₀ n (compEnvC scope cl C env) ρ₁ ifs (f d).isSome ∧ (∀ y, f d = some y → Ev prog w g₀ n (compEnvC scope cl C env) ρ₁ elt y) ∧ Fg ρ₁ ρc)
    (p : PutS x (.own (.lst (ds.filterMap f))) ρ ρ')
    (hsw : swapsWith (.ListComp elt [⟨tgt, iter, ifs, 0⟩] scope pos) (some (.Name x px)) spos.line env = pure true := by rfl)
    (hs : ∀ x, foldedSetIterable iter env x = pure x := by intro _; rfl) :
    Ex prog w g₀ n env ρ (.Assign [.Name x px] (.ListComp elt [⟨tgt, iter, ifs, 0⟩] scope pos) spos) .next ρ' := fun A E g Zc vm ls s hA hS => by
  rw [exec_Assign_Name_used _ _ _ _ hsw]
  refine wpAny_bind (wpAny_standAt (wpAny_bind ?_))
  show wpAny _ A (do let _ ← comprehension (.ListComp elt [⟨tgt, iter, ifs, 0⟩] scope pos) scope env _ (newList []) false (eval iter env) (some (PySem.assign (.Name x px) env))) _ _ s
  refine wpAny_bind (wpAny_mono (wpAny_comprehension_free (use := some (PySem.assign (.Name x px) env)) (Q := fun _ s' => Aft prog w g₀ env g Zc .next ρ' s .next s') rfl hs F.clos F.kind F.local_
    (comp_core f hA hS.rs hI F hcap hg hsz turn fun D C s' m ys k hDC hD hC hn pl ra => ?_)) (fun _ s' hq => wpAny_pure (wpAny_pure hq)) fun _ _ e => e)
  show wpAny _ A (PySem.assign (.Name x px) env (.ref D)) _ _ _
  have CA : ∃ o, s'.heap.get? C = some o := let ⟨o, _, _, e, _⟩ := hn; ⟨o, e⟩
  have DA : ∃ o, s'.heap.get? D = some o := let ⟨c, e⟩ := pl; ⟨_, e⟩
  have hg0 : ∀ a, s.heap.get? a = none → g.get? a = none := fun a ha => by
    cases e : g.get? a with
    | none => rfl
    | some o => have := hS.keep a o e; rw [ha] at this; cases this
  have two : ∀ a ∈ [D, C], a = D ∨ a = C := fun a ha => by simpa using ha
  have hS' : SS prog w g₀ g env ([D, C] ++ Zc) vm ρ ls s' := ⟨hS.toSt.protect k.up (fun a ha => by rcases two a ha with e | e <;> rw [e] <;> assumption) (by simp [hDC]) (fun a ha => by rcases two a ha with e | e <;> rw [e] <;> assumption), Nat.le_trans hS.tok k.tk⟩
  refine wpAny_assign_Name (SS.putP (as := [D]) (Zc := [C] ++ Zc) hS' p ⟨_, rfl, D, ys, rfl, rfl, pl, ra.less fun a ha => ?_⟩ (fun a ha => by rw [List.mem_singleton.mp ha]; exact hg0 D hD) fun vm' ls' s₂ ru hS₂ mv kz => ?_)
  · rcases Zs_more_mem.mp ha with h | h
    · rw [List.mem_singleton.mp h]; exact .head _
    · rcases Zs_more_mem.mp h with h | h
      · rw [List.mem_singleton.mp h]; exact .tail _ (.head _)
      · exact List.mem_append_right _ h
  · refine ⟨m, hn.at' fun o e => kz C (.head _) o e, fun h₃ hs₃ => ?_⟩
    have hS₃ := hS₂.away (wr := [C]) (h' := h₃) (tk := s₂.toks) (fun b o hb e => hs₃.extBut b o (fun z => hb (by simp [z])) e) (fun a ha => by rw [List.mem_singleton.mp ha]; exact hg0 C hC) (Nat.le_refl _)
    exact ⟨k.ru.trans (ru.trans ⟨⟨h₃, _, rfl⟩, Nat.le_refl _⟩), vm', ls', hS₃, rfl⟩
end
end Mine

namespace Mine
open PySem

def nub : List Addr → List Addr
  | [] => []
  | a :: l => if a ∈ nub l then nub l else a :: nub l
theorem mem_nub {a : Addr} : ∀ {l : List Addr}, a ∈ nub l ↔ a ∈ l
  | [] => Iff.rfl
  | b :: l => by
    unfold nub
    split
    · rename_i h
      rw [mem_nub, List.mem_cons]
      exact ⟨.inr, fun q => q.elim (fun e => e ▸ mem_nub.mp h) id⟩
    · rw [List.mem_cons, List.mem_cons, mem_nub]
theorem nodup_nub : ∀ {l : List Addr}, (nub l).Nodup
  | [] => .nil
  | b :: l => by
    unfold nub
    split
    · exact nodup_nub
    · rename_i h
      exact List.nodup_cons.mpr ⟨h, nodup_nub⟩

def upds (f : Str → Option Value) : List (Str × Value) → Str → Option Value
  | [] => f
  | (n, v) :: r => upds (fun y => if y = n then some v else f y) r
theorem upds_out {x : Str} : ∀ {l : List (Str × Value)} {f : Str → Option Value}, x ∉ l.map (·.1) → upds f l x = f x
  | [], _, _ => rfl
  | (n, v) :: r, f, h => by
    rw [List.map_cons, List.mem_cons, not_or] at h
    rw [upds, upds_out h.2, if_neg h.1]
theorem comb_upds {k : Str → Option NameKind} {x : Str} : ∀ (l : List (Str × Value)) (m cm : Str → Option Value),
    (if k x = some .local then bindL k l m x else bindC k l cm x) = upds (fun y => if k y = some .local then m y else cm y) l x
  | [], _, _ => rfl
  | (n, v) :: r, m, cm => by
    rw [bindL, bindC, upds, comb_upds r]
    congr 1
    funext y
    by_cases hn : k n = some .local
    · simp only [hn, if_true]
      by_cases hy : y = n
      · subst hy; simp [hn]
      · simp [hy]
    · simp only [hn, if_false]
      by_cases hy : y = n
      · subst hy; simp [hn]
      · simp [hy]

structure FShape (fd : FuncData) (a : Addr) (ps rest : List Str) : Prop where
  kindp : ∀ N, ∀ x ∈ ps, fd.scope.names.lookup x = some .local ∨ (fd.scope.names.lookup x = some .cell ∧ ((cellsFrom N fd.scope.names []).lookup x).isSome = true)
  wf : ∀ N, Wf (callEnvC fd N a) (ps ++ rest)
  nofree : ∀ x ∈ ps ++ rest, fd.scope.names.lookup x ≠ some .free
  cellk : ∀ N, ∀ p ∈ cellsFrom N fd.scope.names [], fd.scope.names.lookup p.1 ≠ some .local
  celln : ∀ N, ((cellsFrom N fd.scope.names []).map (·.1)).Nodup
  co : fd.scope.isCoroutine = false
  gen : fd.scope.isGenerator = false
  kind : fd.scope.kind = .function

/-- a function of the text gives d for ds -/
structure FnOk (prog : Program) (w : World) (g₀ : Heap) (n : Nat) (f : Value) (ds : List D) (d : D) : Prop where
  isfn : ∃ a o fd, f = .ref a ∧ g₀.get? a = some o ∧ o.data = .func fd
  run : ∀ (A : Around) (E : Value → Shared → Prop) (Z : List Addr) (s : Shared) (vals : List Value), Lv n A → (∀ b o, g₀.get? b = some o → s.heap.get? b = some o) → (∀ a ∈ Z, ∃ o, s.heap.get? a = some o) → (∀ a ∈ Z, g₀.get? a = none) → 1 ≤ s.toks →
    RdAll prog w Z s.heap vals ds → wpAny (model prog w) A (call f vals []) (fun v s' => Kp s s' ∧ Rd prog w Z s'.heap v d) E s

def params (ps : List Str) (ds : List D) (rest : List Str) : Store := ps.zip (ds.map .dat) ++ rest.map fun x => (x, .unset)

section
variable {prog : Program} {w : World} {g₀ g : Heap} {n : Nat} {env cenv : Env} {ρ ρ₁ ρ₂ ρ' ρc : Store} {mg mb : Str → Option Value} {fl : Fl} {Z Z' Zc Zc' prv : List Addr} {vm vm' : Str → Option Value} {ls ls' : List (List Addr)} {h h' : Heap}

theorem params_names : ∀ {ps : List Str} {ds : List D} {rest : List Str}, ps.length = ds.length → (params ps ds rest).map (·.1) = ps ++ rest
  | [], [], rest, _ => by simp [params, Function.comp_def]
  | [], _ :: _, _, e => by simp at e
  | _ :: _, [], _, e => by simp at e
  | p :: ps, d :: ds, rest, e => by
    have := params_names (ps := ps) (ds := ds) (rest := rest) (by simpa using e)
    simp only [params, List.map_cons, List.zip_cons_cons, List.cons_append, List.cons.injEq, true_and] at this ⊢
    exact this

theorem unset_slots : ∀ (rest : List Str), SlotsAre prog w Z h vm (rest.map fun x => (x, Slot.unset)) (rest.map fun _ => [])
  | [] => .nil
  | _ :: rest => .cons rfl (unset_slots rest)

theorem params_slots : ∀ {ps : List Str} {ds : List D} {vals : List Value} {f : Str → Option Value} (rest : List Str), ps.length = ds.length → RdAll prog w Z h vals ds → ps.Nodup →
    SlotsAre prog w Z h (upds f (ps.zip vals)) (params ps ds rest) ((ps ++ rest).map fun _ => [])
  | [], [], vals, f, rest, _, r, _ => by cases r; exact unset_slots rest
  | [], _ :: _, _, _, _, e, _, _ => by simp at e
  | _ :: _, [], _, _, _, e, _, _ => by simp at e
  | p :: ps, d :: ds, vals, f, rest, e, r, nd => by
    cases r with
    | @cons v _ vs _ a b =>
      rw [List.nodup_cons] at nd
      have hp : p ∉ (ps.zip vs).map (·.1) := fun hm => by
        obtain ⟨q, hq, rfl⟩ := List.mem_map.mp hm
        exact nd.1 (List.of_mem_zip hq).1
      refine .cons ⟨rfl, v, ?_, a⟩ (params_slots rest (by simpa using e) b nd.2)
      show upds _ (ps.zip vs) p = some v
      rw [upds_out hp, if_pos rfl]

theorem lookup_of_nodup {c : Addr} {x : Str} : ∀ {l : List (Str × Addr)}, (l.map (·.1)).Nodup → (x, c) ∈ l → l.lookup x = some c
  | (y, b) :: l, nd, hm => by
    rw [List.map_cons, List.nodup_cons] at nd
    rw [List.lookup_cons]
    rcases List.mem_cons.mp hm with e | hm
    · cases e; simp
    · have hne : x ≠ y := fun e => nd.1 (e ▸ List.mem_map.mpr ⟨(x, c), hm, rfl⟩)
      rw [show (x == y) = false from beq_false_of_ne hne]
      exact lookup_of_nodup nd.2 hm

theorem flatten_nils {α : Type} : ∀ (l : List α), (l.map fun _ => ([] : List Addr)).flatten = []
  | [] => rfl
  | _ :: l => by rw [List.map_cons, List.flatten_cons, flatten_nils l]; rfl

/-- the frame of a call -/
theorem enter_frame {fd : FuncData} {a : Addr} {ps rest : List Str} {ds : List D} {vals : List Value} {s s₁ : Shared} (sh : FShape fd a ps rest) (hl : ps.length = ds.length) (base : ∀ b o, g₀.get? b = some o → s.heap.get? b = some o)
    (hz : ∀ a ∈ Z, ∃ o, s.heap.get? a = some o) (hz0 : ∀ a ∈ Z, g₀.get? a = none) (r : RdAll prog w Z s.heap vals ds)
    (x : InCallC s (callEnvC fd s.heap.objs.size a).locals (bindL (callEnvC fd s.heap.objs.size a).kindOf (ps.zip vals) fun _ => none) (callEnvC fd s.heap.objs.size a).cells
        (bindC (callEnvC fd s.heap.objs.size a).kindOf (ps.zip vals) fun _ => none) s₁) (tok : 1 ≤ s₁.toks) :
    SS prog w g₀ s.heap (callEnvC fd s.heap.objs.size a) (nub Z) (upds (fun _ => none) (ps.zip vals)) (params ps ds rest) ((ps ++ rest).map fun _ => []) s₁ := by
  have keep := x.toInCall.keep
  have nm := params_names (rest := rest) hl
  have wf := sh.wf s.heap.objs.size
  have vme : ∀ y, upds (fun _ => none) (ps.zip vals) y = if (callEnvC fd s.heap.objs.size a).kindOf y = some .local then bindL (callEnvC fd s.heap.objs.size a).kindOf (ps.zip vals) (fun _ => none) y else bindC (callEnvC fd s.heap.objs.size a).kindOf (ps.zip vals) (fun _ => none) y := fun y => by
    rw [comb_upds]; congr 1; funext y; split <;> rfl
  have above : ∀ c ∈ (callEnvC fd s.heap.objs.size a).locals :: (callEnvC fd s.heap.objs.size a).cells.map (·.2), s.heap.get? c = none := fun c hc => by
    cases e : s.heap.get? c with
    | none => rfl
    | some o =>
      have := Heap.lt_size e
      rcases List.mem_cons.mp hc with hc | hc
      · rw [hc] at this; exact absurd this (Nat.not_lt.mpr x.toInCall.fresh)
      · obtain ⟨⟨n, c'⟩, hm, rfl⟩ := List.mem_map.mp hc
        exact absurd (Nat.lt_of_lt_of_le this x.toInCall.fresh) (Nat.not_lt.mpr (Nat.le_of_lt (x.above n c' hm)))
  have dis : ∀ c ∈ (callEnvC fd s.heap.objs.size a).locals :: (callEnvC fd s.heap.objs.size a).cells.map (·.2), c ∉ Z := fun c hc hm => by
    obtain ⟨o, e⟩ := hz c hm
    rw [above c hc] at e; cases e
  have ez : Zs (callEnvC fd s.heap.objs.size a) ((ps ++ rest).map fun _ => []) (nub Z) = ((callEnvC fd s.heap.objs.size a).locals :: (callEnvC fd s.heap.objs.size a).cells.map (·.2)) ++ nub Z := by
    unfold Zs; rw [flatten_nils]; rfl
  have alv : ∀ c ∈ (callEnvC fd s.heap.objs.size a).locals :: (callEnvC fd s.heap.objs.size a).cells.map (·.2), ∃ o, s₁.heap.get? c = some o := fun c hc => by
    rcases List.mem_cons.mp hc with hc | hc
    · rw [hc]; obtain ⟨o, _, _, e, _⟩ := x.toInCall.ns; exact ⟨o, e⟩
    · obtain ⟨⟨n, c'⟩, hm, rfl⟩ := List.mem_map.mp hc
      obtain ⟨o, e, _⟩ := x.cell n c' (lookup_of_nodup (sh.celln (s.heap.objs.size + 1)) hm)
      exact ⟨o, e⟩
  refine ⟨⟨nm ▸ wf, fun y hy => ?_, base, keep, ⟨⟨_, x.toInCall.ns, fun y hy => ?_⟩, fun nm c e => ?_⟩, ?_, ?_, fun b hb => ?_, fun b hb => ?_, fun b hb => hz0 b (mem_nub.mp hb)⟩, tok⟩
  · rw [nm] at hy; exact sh.nofree y hy
  · rw [vme, if_pos hy]
  · rw [vme, if_neg (show (callEnvC fd s.heap.objs.size a).kindOf nm ≠ some .local from sh.cellk _ (nm, c) (mem_of_lookup e))]
    exact x.cell nm c e
  · refine params_slots rest hl ?_ (List.nodup_append.mp wf.nodup).1
    rw [ez]
    exact r.move fun b o hb e => ⟨keep b o e, fun hm => by
      rcases List.mem_append.mp hm with hm | hm
      · rw [above b hm] at e; cases e
      · exact hb (mem_nub.mp hm)⟩
  · rw [ez, List.nodup_append]
    refine ⟨List.nodup_cons.mpr ⟨fun hm => ?_, ?_⟩, nodup_nub, fun c hc b hb e => dis c hc (mem_nub.mp (e ▸ hb))⟩
    · obtain ⟨⟨n, c'⟩, hm, e⟩ := List.mem_map.mp hm
      exact absurd (x.above n c' hm) (by rw [← e]; exact Nat.lt_irrefl _)
    · have := x.apart
      exact List.pairwise_map.mpr this
  · rw [ez] at hb
    rcases List.mem_append.mp hb with hb | hb
    · exact alv b hb
    · obtain ⟨o, e⟩ := hz b (mem_nub.mp hb); exact ⟨o, keep b o e⟩
  · rw [flatten_nils, List.append_nil] at hb
    exact above b hb

theorem call_frame {A : Around} {R : Result → Shared → Prop} {s : Shared} {a : Addr} {o : Obj} {fd : FuncData} {body : List Stmt} {vals : List Value} {ps rest : List Str} (sh : FShape fd a ps rest)
    (hroom : A.depth < recursionLimit) (ho : s.heap.get? a = some o) (hdata : o.data = .func fd) (hlim : s.heap.NoLimit) (hcd : s.heap.CodeRec fd.code fd.qualname)
    (hbody : fd.body = .stmts body) (hbind : bindArgs fd ⟨vals, []⟩ = pure (ps.zip vals)) (hclo : fd.closure = [])
    (h : ∀ s₁, InCallC s (callEnvC fd s.heap.objs.size a).locals (bindL (callEnvC fd s.heap.objs.size a).kindOf (ps.zip vals) fun _ => none) (callEnvC fd s.heap.objs.size a).cells
        (bindC (callEnvC fd s.heap.objs.size a).kindOf (ps.zip vals) fun _ => none) s₁ → s.toks ≤ s₁.toks →
      wpAny (model prog w) (A.deeper (callEnvC fd s.heap.objs.size a)) (execs body (callEnvC fd s.heap.objs.size a)) (fun f s' => R (.ok (.ret (match f with | .ret v => v | _ => .none))) s')
        (fun e s' => wpAny (model prog w) (A.deeper (callEnvC fd s.heap.objs.size a)) (leaving (callEnvC fd s.heap.objs.size a) e) (fun _ s'' => R (.error e) s'') (fun e' s'' => R (.error e') s'') s') s₁) :
    codeAny (model prog w) A (.call (.ref a) ⟨vals, []⟩) R s := by
  refine codeAny_call_function hroom ho hdata sh.co sh.gen hbody hcd ?_
  rw [hbind, hclo]
  have hk : ∀ x ∈ ps.zip vals, fd.scope.names.lookup x.1 = some .local ∨ (fd.scope.names.lookup x.1 = some .cell ∧ ((cellsFrom (s.heap.objs.size + 1) fd.scope.names []).lookup x.1).isSome = true) := fun x hx => sh.kindp _ x.1 (List.of_mem_zip hx).1
  refine wpAny_pure (toks_of (Nat.le_refl _) (wpAny_newFunctionEnv_cells sh.kind hk fun env he s' x htk => ?_))
  subst he
  exact ⟨hlim.keeps x.toInCall.keep, codeAny_func (h s' x htk)⟩

theorem FnOk.of {a : Addr} {o : Obj} {fd : FuncData} {body : List Stmt} {ps rest : List Str} {ds : List D} {d : D} (G : Gf g₀ mg mb) (ho : g₀.get? a = some o) (hdata : o.data = .func fd) (hcd : g₀.CodeRec fd.code fd.qualname) (hbody : fd.body = .stmts body) (hclo : fd.closure = [])
    (hl : ps.length = ds.length) (hbind : ∀ vals : List Value, vals.length = ps.length → bindArgs fd ⟨vals, []⟩ = pure (ps.zip vals)) (sh : FShape fd a ps rest)
    (h : ∀ N, ∃ ρ', Exs prog w g₀ n (callEnvC fd N a) (params ps ds rest) body (.ret d) ρ') : FnOk prog w g₀ (n + 1) (.ref a) ds d where
  isfn := ⟨a, o, fd, rfl, ho, hdata⟩
  run := fun A E Z s vals hA base hz hz0 tok r => by
    refine wpAny_call (call_frame sh hA.room (base _ _ ho) hdata (G.limit.keeps base) (hcd.keeps base) hbody (hbind vals (by rw [r.length, hl])) hclo fun s₁ x htk => ?_)
    have hS := enter_frame (rest := rest) sh hl base hz hz0 r x (Nat.le_trans tok htk)
    obtain ⟨ρ', hx⟩ := h s.heap.objs.size
    refine wpAny_mono (hx _ _ _ _ _ _ s₁ (hA.deeper _) hS) (fun f s' q => ?_) fun _ _ e => e
    obtain ⟨ru, vm', ls', hS', v, rfl, rv⟩ := q
    obtain ⟨⟨h', t, e⟩, hk⟩ := ru
    obtain ⟨h₁, t₁, e₁⟩ := x.toInCall.same
    refine ⟨⟨⟨h', t, by rw [e, e₁], fun b o eb => ?_⟩, Nat.le_trans htk hk⟩, rv.less fun b hb => Zs_own.mpr (.inr (mem_nub.mpr hb))⟩
    have := hS'.keep b o eb
    rw [e] at this; exact this

theorem FnOk.lv {f : Value} {ds : List D} {d : D} {m : Nat} (x : FnOk prog w g₀ m f ds d) (hm : m ≤ n) : FnOk prog w g₀ n f ds d := ⟨x.isfn, fun A E Z s vals hA => x.run A E Z s vals (hA.mono hm)⟩

/-- a function of the text is called by its name -/
theorem Ev.callF {x : Str} {p pos : Pos} {es : List Expr} {ds : List D} {d : D} {f : Value} {m : Nat} (hf : Ev prog w g₀ n env ρ (.Name x p) (.fn f)) (hfn : FnOk prog w g₀ m f ds d) (ha : EvAll prog w g₀ n env ρ es ds) (hm : m ≤ n := by omega) :
    Ev prog w g₀ n env ρ (.Call (.Name x p) es [] pos) d := fun A E Z vm s hA hS => by
  refine PyProof.Rows.Call_Name (backTo_plain ha.1) (wpAny_mono (hf A E Z vm s hA hS) (fun v s₁ h₁ => ?_) fun _ _ e => e)
  obtain ⟨k₁, h₁⟩ := h₁
  obtain rfl := h₁.fn_inv
  have hS₁ := hS.keep k₁
  obtain ⟨a, o, fd, rfl, ho, hd⟩ := hfn.isfn
  refine Calls.callWith_function (o := o) (fd := fd) (evalArgs_of ha.1 (wpAny_mono (ha.2 A E Z vm s₁ hA hS₁) (fun vs s₂ h₂ => ?_) fun _ _ e => e))
  have hS₂ := hS₁.keep h₂.1
  refine ⟨⟨hS₂.base _ _ ho, hd⟩, wpAny_mono ((hfn.lv hm).run A E Z s₂ vs hA hS₂.base hS₂.alive hS₂.apart hS₂.tok h₂.2) (fun v s₃ q => ⟨(k₁.trans h₂.1).trans q.1, q.2⟩) fun _ _ e => e⟩
end
end Mine

namespace Mine
open PySem

theorem lookup_mem {β : Type} {x : Str} {k : β} : ∀ {l : List (Str × β)}, l.lookup x = some k → (x, k) ∈ l
  | [], h => by simp at h
  | (y, j) :: l, h => by
    rw [List.lookup_cons] at h
    by_cases e : x == y
    · simp only [e] at h; cases h; rw [eq_of_beq e]; exact .head _
    · simp only [e] at h; exact .tail _ (lookup_mem h)
theorem lookup_nodup {β : Type} {x : Str} {k : β} : ∀ {l : List (Str × β)}, (l.map (·.1)).Nodup → (x, k) ∈ l → l.lookup x = some k
  | (y, b) :: l, nd, hm => by
    rw [List.map_cons, List.nodup_cons] at nd
    rw [List.lookup_cons]
    rcases List.mem_cons.mp hm with e | hm
    · cases e; simp
    · have hne : x ≠ y := fun e => nd.1 (e ▸ List.mem_map.mpr ⟨(x, k), hm, rfl⟩)
      rw [show (x == y) = false from beq_false_of_ne hne]
      exact lookup_nodup nd.2 hm
theorem lookup_none {β : Type} {x : Str} : ∀ {l : List (Str × β)}, x ∉ l.map (·.1) → l.lookup x = none
  | [], _ => rfl
  | (y, b) :: l, h => by
    rw [List.map_cons, List.mem_cons, not_or] at h
    rw [List.lookup_cons, show (x == y) = false from beq_false_of_ne h.1]
    exact lookup_none h.2

theorem cellsFrom_mem {x : Str} {c : Addr} : ∀ {names : List (Str × NameKind)} {n : Nat} {acc : List (Str × Addr)}, (x, c) ∈ cellsFrom n names acc → (x, c) ∈ acc ∨ (x, .cell) ∈ names
  | [], _, _, h => .inl h
  | (y, k) :: r, n, acc, h => by
    unfold cellsFrom at h
    by_cases hk : k == NameKind.cell
    · rw [if_pos hk] at h
      rcases cellsFrom_mem h with h | h
      · rcases List.mem_cons.mp h with e | h
        · cases e; right; rw [eq_of_beq hk]; exact .head _
        · exact .inl h
      · exact .inr (.tail _ h)
    · rw [if_neg hk] at h
      rcases cellsFrom_mem h with h | h
      · exact .inl h
      · exact .inr (.tail _ h)
theorem cellsFrom_acc {p : Str × Addr} : ∀ {names : List (Str × NameKind)} {n : Nat} {acc : List (Str × Addr)}, p ∈ acc → p ∈ cellsFrom n names acc
  | [], _, _, h => h
  | (y, k) :: r, n, acc, h => by
    unfold cellsFrom
    split
    · exact cellsFrom_acc (.tail _ h)
    · exact cellsFrom_acc h
theorem cellsFrom_has {x : Str} : ∀ {names : List (Str × NameKind)} {n : Nat} {acc : List (Str × Addr)}, (x, .cell) ∈ names → ∃ c, (x, c) ∈ cellsFrom n names acc
  | (y, k) :: r, n, acc, h => by
    unfold cellsFrom
    rcases List.mem_cons.mp h with e | h
    · cases e; rw [if_pos (show (NameKind.cell == NameKind.cell) = true from rfl)]; exact ⟨n, cellsFrom_acc (.head _)⟩
    · split <;> exact cellsFrom_has h
theorem cellsFrom_nodup : ∀ {names : List (Str × NameKind)} {n : Nat} {acc : List (Str × Addr)}, (acc.map (·.1)).Nodup → (names.map (·.1)).Nodup → (∀ x ∈ acc.map (·.1), x ∉ names.map (·.1)) → ((cellsFrom n names acc).map (·.1)).Nodup
  | [], _, _, h, _, _ => h
  | (y, k) :: r, n, acc, h, nd, dis => by
    rw [List.map_cons, List.nodup_cons] at nd
    have dis' : ∀ x ∈ acc.map (·.1), x ∉ r.map (·.1) := fun x hx hm => dis x hx (.tail _ hm)
    unfold cellsFrom
    split
    · refine cellsFrom_nodup (List.nodup_cons.mpr ⟨fun hm => dis y hm (.head _), h⟩) nd.2 fun x hx hm => ?_
      rcases List.mem_cons.mp hx with e | hx
      · have e' : x = y := e
        exact nd.1 (e' ▸ hm)
      · exact dis' x hx hm
    · exact cellsFrom_nodup h nd.2 dis'

def plainName (x : Str) : Bool := !(x == ("__debug__" : Str)) && !(x == ("__classdict__" : Str))
/-- what a scope must be for a call's frame -/
def shapeOk (sc : Scope) (ps rest : List Str) : Bool :=
  decide (sc.names.map (·.1)).Nodup && decide (ps ++ rest).Nodup && (ps ++ rest).all (fun x => (sc.names.lookup x == some .local || sc.names.lookup x == some .cell) && plainName x) && sc.kind == .function && !sc.isCoroutine && !sc.isGenerator

theorem plainName_of {x : Str} (h : plainName x = true) : (x == ("__debug__" : Str)) = false ∧ (x == ("__classdict__" : Str)) = false := by
  unfold plainName at h
  simpa using h

theorem shape_of {fd : FuncData} {a : Addr} {ps rest : List Str} (hg : fd.globals = mainGlobals) (hb : fd.builtins = builtinsNs) (h : shapeOk fd.scope ps rest = true) : FShape fd a ps rest := by
  unfold shapeOk at h
  simp only [Bool.and_eq_true, decide_eq_true_eq, List.all_eq_true, Bool.or_eq_true, beq_iff_eq, Bool.not_eq_true'] at h
  obtain ⟨⟨⟨⟨⟨nd, nd2⟩, ok⟩, kd⟩, co⟩, ge⟩ := h
  have cn : ∀ N, ((cellsFrom N fd.scope.names []).map (·.1)).Nodup := fun N => cellsFrom_nodup .nil nd (fun _ h => nomatch h)
  have has : ∀ N x, fd.scope.names.lookup x = some .cell → ∃ c, (cellsFrom N fd.scope.names []).lookup x = some c := fun N x hx => by
    obtain ⟨c, hc⟩ := cellsFrom_has (n := N) (acc := []) (lookup_mem hx)
    exact ⟨c, lookup_nodup (cn N) hc⟩
  have cellk : ∀ N, ∀ p ∈ cellsFrom N fd.scope.names [], fd.scope.names.lookup p.1 = some .cell := fun N p hp => by
    rcases cellsFrom_mem (x := p.1) (c := p.2) hp with h | h
    · cases h
    · exact lookup_nodup nd h
  refine ⟨fun N x hx => ?_, fun N => ⟨kd, hg, hb, nd2, fun x hx => ?_, fun x hx => plainName_of (ok x hx).2⟩, fun x hx => ?_, fun N p hp => ?_, cn, co, ge, kd⟩
  · rcases (ok x (List.mem_append_left _ hx)).1 with h | h
    · exact .inl h
    · exact .inr ⟨h, by obtain ⟨c, e⟩ := has N x h; rw [e]; rfl⟩
  · rcases (ok x hx).1 with h | h
    · refine .inl ⟨h, lookup_none fun hm => ?_⟩
      obtain ⟨p, hp, e⟩ := List.mem_map.mp hm
      have := cellk _ p hp
      rw [e, h] at this; cases this
    · exact .inr ⟨.inl h, has _ x h⟩
  · rcases (ok x hx).1 with h | h <;> rw [h] <;> simp
  · rw [cellk N p hp]; simp

/-! ### comprehensions -/
def relabelS (outer inner : Scope) : Scope :=
  { inner with names := inner.names.map fun (n, k) => if (k == .free && outer.kind == .function && outer.names.lookup n == some .cell) then (n, .cell) else (n, k) }
def freeOf (sc : Scope) : List Str := (sc.names.filter (·.2 == .free)).map (·.1)

def formOk (outer inner : Scope) (names : List Str) : Bool :=
  decide (inner.names.map (·.1)).Nodup && decide names.Nodup && inner.names.all (fun p => p.2 != .cell) && inner.kind == .function && outer.kind == .function &&
    (freeOf inner).all (fun x => outer.names.lookup x == some .cell) && names.all fun x => (inner.names.lookup x == some .local || inner.names.lookup x == some .free) && plainName x

theorem closure_loop {env : Env} (f : Str × NameKind → List (Str × Addr) → Sem (ForInStep (List (Str × Addr))))
    (hf : ∀ x s c, x.2 = .free → env.cells.lookup x.1 = some c → f x s = pure (.yield ((x.1, c) :: s))) (hn : ∀ x s, x.2 ≠ .free → f x s = pure (.yield s)) :
    ∀ (names : List (Str × NameKind)) (acc : List (Str × Addr)), (∀ x, (x, .free) ∈ names → ∃ c, env.cells.lookup x = some c) →
    ∃ cl, forIn names acc f = pure cl ∧ (∀ p ∈ cl, p ∈ acc ∨ (env.cells.lookup p.1 = some p.2 ∧ (p.1, .free) ∈ names)) ∧ (∀ p ∈ acc, p ∈ cl) ∧ ∀ x, (x, .free) ∈ names → ∃ c, (x, c) ∈ cl
  | [], acc, _ => ⟨acc, by rw [List.forIn_nil], fun p hp => .inl hp, fun _ h => h, fun _ h => nomatch h⟩
  | (y, k) :: r, acc, h => by
    by_cases hk : k = .free
    · subst hk
      obtain ⟨c, hc⟩ := h y (.head _)
      obtain ⟨cl, e, a, b, d⟩ := closure_loop f hf hn r ((y, c) :: acc) fun x hx => h x (.tail _ hx)
      refine ⟨cl, ?_, fun p hp => ?_, fun p hp => b p (.tail _ hp), fun x hx => ?_⟩
      · rw [List.forIn_cons, hf (y, .free) acc c rfl hc, pure_bind]; exact e
      · rcases a p hp with h | ⟨h, h'⟩
        · rcases List.mem_cons.mp h with h | h
          · subst h; exact .inr ⟨hc, .head _⟩
          · exact .inl h
        · exact .inr ⟨h, .tail _ h'⟩
      · rcases List.mem_cons.mp hx with e' | hx
        · cases e'; exact ⟨c, b _ (.head _)⟩
        · exact d x hx
    · obtain ⟨cl, e, a, b, d⟩ := closure_loop f hf hn r acc fun x hx => h x (.tail _ hx)
      refine ⟨cl, ?_, fun p hp => ?_, b, fun x hx => ?_⟩
      · rw [List.forIn_cons, hn (y, k) acc hk, pure_bind]; exact e
      · rcases a p hp with h | ⟨h, h'⟩
        · exact .inl h
        · exact .inr ⟨h, .tail _ h'⟩
      · rcases List.mem_cons.mp hx with e' | hx
        · cases e'; exact absurd rfl hk
        · exact d x hx

theorem mem_freeOf {sc : Scope} {x : Str} : x ∈ freeOf sc ↔ (x, NameKind.free) ∈ sc.names := by
  unfold freeOf
  rw [List.mem_map]
  constructor
  · rintro ⟨⟨y, k⟩, hm, rfl⟩
    obtain ⟨h1, h2⟩ := List.mem_filter.mp hm
    have : k = .free := by simpa using h2
    exact this ▸ h1
  · intro h
    exact ⟨(x, .free), List.mem_filter.mpr ⟨h, by simp⟩, rfl⟩

theorem lookup_of_mem {x : Str} {c : Addr} : ∀ {l : List (Str × Addr)}, (x, c) ∈ l → ∃ d, l.lookup x = some d
  | (y, b) :: l, hm => by
    rw [List.lookup_cons]
    by_cases e : x == y
    · simp only [e]; exact ⟨_, rfl⟩
    · simp only [e]
      rcases List.mem_cons.mp hm with h | h
      · cases h; exact absurd (beq_self_eq_true _) e
      · exact lookup_of_mem h

theorem closure_ok {scope : Scope} {env : Env} (h : ∀ x ∈ freeOf scope, ∃ c, env.cells.lookup x = some c) :
    ∃ cl, closureFor scope env = pure cl ∧ (∀ p ∈ cl, env.cells.lookup p.1 = some p.2 ∧ p.1 ∈ freeOf scope) ∧ ∀ x ∈ freeOf scope, ∃ c, cl.lookup x = some c := by
  simp only [closureFor]
  obtain ⟨cl, e, a, b, d⟩ := closure_loop (env := env) (fun x __s => if (x.snd == NameKind.free) = true then do
                  let __do_lift ← cellOf env x.fst
                  pure (ForInStep.yield ((x.fst, __do_lift) :: __s))
                else pure (ForInStep.yield __s)) (fun x s c hx hc => by
      rw [if_pos (by simp [hx])]
      unfold cellOf
      rw [hc]; rfl) (fun x s hx => by rw [if_neg (by simpa using hx)]) scope.names [] fun x hx => h x (mem_freeOf.mpr hx)
  rw [e]
  refine ⟨cl, rfl, fun p hp => ?_, fun x hx => ?_⟩
  · rcases a p hp with h | ⟨h, h'⟩
    · cases h
    · exact ⟨h, mem_freeOf.mpr h'⟩
  · obtain ⟨c, hc⟩ := d x (mem_freeOf.mp hx)
    exact lookup_of_mem hc

theorem relabel_eq {scope : Scope} {env : Env} : relabel scope env = relabelS env.scope scope := rfl

theorem relabel_lookup {outer inner : Scope} {x : Str} {k : NameKind} : ∀ {names : List (Str × NameKind)}, names.lookup x = some k →
    (names.map fun (n, k) => if (k == .free && outer.kind == .function && outer.names.lookup n == some .cell) then (n, NameKind.cell) else (n, k)).lookup x =
      some (if (k == .free && outer.kind == .function && outer.names.lookup x == some .cell) then .cell else k)
  | [], h => by simp at h
  | (y, j) :: l, h => by
    have ih := @relabel_lookup outer inner x k l
    show List.lookup x ((if (j == .free && outer.kind == .function && outer.names.lookup y == some .cell) = true then (y, NameKind.cell) else (y, j)) :: _) = _
    rw [List.lookup_cons] at h
    by_cases e : x == y
    · simp only [e] at h; cases h
      have := eq_of_beq e
      subst this
      by_cases hc : (k == .free && outer.kind == .function && outer.names.lookup x == some .cell) = true
      · rw [if_pos hc, if_pos hc, List.lookup_cons, beq_self_eq_true]
      · rw [if_neg hc, if_neg hc, List.lookup_cons, beq_self_eq_true]
    · simp only [e] at h
      have ef : (x == y) = false := by simpa using e
      by_cases hc : (j == .free && outer.kind == .function && outer.names.lookup y == some .cell) = true
      · rw [if_pos hc, List.lookup_cons, ef]; exact ih h
      · rw [if_neg hc, List.lookup_cons, ef]; exact ih h

theorem form_of {env : Env} {inner : Scope} {names : List Str} (hg : env.globals = mainGlobals) (hb : env.builtins = builtinsNs) (hc : ∀ x ∈ freeOf inner, ∃ c, env.cells.lookup x = some c) (ok : formOk env.scope inner names = true) :
    ∃ cl, Form env inner cl names ∧ ∀ x ∈ freeOf inner, ∃ c, cl.lookup x = some c := by
  obtain ⟨cl, e, a, b⟩ := closure_ok hc
  unfold formOk at ok
  simp only [Bool.and_eq_true, decide_eq_true_eq, List.all_eq_true, Bool.or_eq_true, beq_iff_eq, bne_iff_ne] at ok
  obtain ⟨⟨⟨⟨⟨⟨nd, nd2⟩, nc⟩, kd⟩, okd⟩, fr⟩, ok⟩ := ok
  have lk : ∀ x k, inner.names.lookup x = some k → (relabel inner env).names.lookup x = some (if (k == .free && env.scope.kind == .function && env.scope.names.lookup x == some .cell) then .cell else k) := fun x k h => relabel_lookup (inner := inner) h
  have frk : ∀ x ∈ freeOf inner, (relabel inner env).names.lookup x = some .cell := fun x hx => by
    rw [lk x .free (lookup_nodup nd (mem_freeOf.mp hx))]
    simp [okd, fr x hx]
  refine ⟨cl, ⟨e, nc, kd, fun y hy hl => lookup_nodup nd (by rw [← hl]; exact hy), fun p hp => ⟨(a p hp).1, by rw [frk _ (a p hp).2]; simp⟩, fun C => ⟨kd, hg, hb, nd2, fun x hx => ?_, fun x hx => plainName_of (ok x hx).2⟩⟩, b⟩
  rcases (ok x hx).1 with h | h
  · refine .inl ⟨?_, lookup_none fun hm => ?_⟩
    · show (relabel inner env).names.lookup x = _
      rw [lk x _ h]; rfl
    · obtain ⟨p, hp, rfl⟩ := List.mem_map.mp hm
      have := lookup_nodup nd (mem_freeOf.mp (a p hp).2)
      rw [h] at this; cases this
  · have hf := mem_freeOf.mpr (lookup_mem h)
    exact .inr ⟨.inl (frk x hf), b x hf⟩
end Mine

namespace Mine
open PySem

/-! ### the functions of the text -/
noncomputable def stm (i : Nat) : Stmt := (PySem.Challenge.pw_tc0019_01.main.body[i]?).getD (.Pass ⟨0,0,0,0⟩)
def fnBody : Stmt → List Stmt
  | .FunctionDef _ _ b _ _ _ _ _ _ _ => b
  | _ => []
def fnName : Stmt → Str
  | .FunctionDef n _ b _ _ _ _ _ _ _ => n
  | _ => ""
def fnArgs : Stmt → Arguments
  | .FunctionDef _ a b _ _ _ _ _ _ _ => a
  | _ => ⟨[], [], none, [], [], none, []⟩
def fnScope : Stmt → Scope
  | .FunctionDef _ _ _ _ _ _ sc _ _ _ => sc
  | _ => { kind := .function, names := [], isGenerator := false, isCoroutine := false }
noncomputable def fdat (i : Nat) (pm code doc : Value) : FuncData := Calls.docDef (fnName (stm i)) (fnArgs (stm i)) (fnBody (stm i)) (fnScope (stm i)) pm code doc

/-- a function's address and code -/
structure FAt (g₀ : Heap) (v : Value) (i : Nat) (a : Addr) (pm code doc : Value) : Prop where
  ref : v = .ref a
  obj : ∃ o, g₀.get? a = some o ∧ o.data = .func (fdat i pm code doc)
  code : g₀.CodeRec code (fnName (stm i))

def tys : List (Str × Value) := [("enumerate", .type "enumerate"), ("range", .type "range"), ("list", .type "list"), ("dict", .type "dict"), ("zip", .type "zip"), ("int", .type "int"), ("bool", .type "bool"),
  ("len", .builtin "len"), ("sum", .builtin "sum"), ("isinstance", .builtin "isinstance")]
def nums0 : List (Str × Int) := [("NT_OFFSET", 256), ("ENDMARKER", 0), ("_MOVE_COST", 2), ("_CASE_COST", 1)]
def funs : List (Str × Nat) := [("ISTERMINAL", 52), ("ISNONTERMINAL", 53), ("ISEOF", 54), ("_substitution_cost", 58), ("_escape_cdata", 61), ("_escape_attrib", 62), ("_escape_attrib_html", 63), ("_escape_cdata_c14n", 64), ("_escape_attrib_c14n", 65),
  ("_law_hand", 67), ("_law_made", 68), ("_law_grammar", 69), ("_law_worth", 70), ("_law_along", 71)]

/-- what stands at the top -/
structure TopF (g₀ : Heap) (mg mb : Str → Option Value) : Prop extends Gf g₀ mg mb where
  bi : ∀ p ∈ tys, mg p.1 = none ∧ mb p.1 = some p.2
  num : ∀ p ∈ nums0, ∃ t, mg p.1 = some (.int p.2 t)
  fn : ∀ p ∈ funs, ∃ a pm code doc, mg p.1 = some (.ref a) ∧ FAt g₀ (.ref a) p.2 a pm code doc

/-- the value of a name of the text -/
def fv (mg : Str → Option Value) (x : Str) : Value := (mg x).getD .none

theorem mem_here {α : Type} {a : α} {l : List α} : a ∈ a :: l := List.Mem.head _
theorem mem_there {α : Type} {a b : α} {l : List α} (h : a ∈ l) : a ∈ b :: l := List.Mem.tail _ h

section
variable {prog : Program} {w : World} {g₀ g : Heap} {n : Nat} {env cenv : Env} {ρ ρ₁ ρ₂ ρ' ρc : Store} {mg mb : Str → Option Value}

/-- what a frame has to say of the names around it -/
structure Kd (env : Env) (x : Str) : Prop where
  kind : env.kindOf x = some .globalImplicit
  globals : env.globals = mainGlobals
  builtins : env.builtins = builtinsNs
  fn : env.scope.kind = .function
  deb : (x == ("__debug__" : Str)) = false

theorem Ev.ty {x : Str} {p : Pos} {v : Value} (T : TopF g₀ mg mb) (k : Kd env x) (h : (x, v) ∈ tys) : Ev prog w g₀ n env ρ (.Name x p) (.fn v) :=
  Ev.bi T.toGf k.kind k.globals k.builtins k.fn (T.bi _ h) k.deb
theorem Ev.num0 {x : Str} {p : Pos} {i : Int} (T : TopF g₀ mg mb) (k : Kd env x) (h : (x, i) ∈ nums0) : Ev prog w g₀ n env ρ (.Name x p) (.int i) :=
  Ev.glob T.toGf k.kind k.globals k.fn (let ⟨t, e⟩ := T.num _ h; ⟨_, e, .int _ t⟩) k.deb
theorem Ev.fun0 {x : Str} {p : Pos} {i : Nat} (T : TopF g₀ mg mb) (k : Kd env x) (h : (x, i) ∈ funs) : Ev prog w g₀ n env ρ (.Name x p) (.fn (fv mg x)) :=
  Ev.glob T.toGf k.kind k.globals k.fn (let ⟨a, _, _, _, e, _⟩ := T.fn _ h; ⟨.ref a, e, by unfold fv; rw [e]; exact .fn _⟩) k.deb

/-- all cell names stand -/
def Cel (env : Env) : Prop := ∀ x, env.kindOf x = some .cell → ∃ c, env.cells.lookup x = some c

/-- the ground a frame gives: the text's globals and its cells -/
structure Fr0 (env : Env) : Prop where
  globals : env.globals = mainGlobals
  builtins : env.builtins = builtinsNs
  cel : Cel env

theorem Cel.call {fd : FuncData} {N a : Nat} (nd : decide (fd.scope.names.map (·.1)).Nodup = true) : Cel (callEnvC fd N a) := fun x hx => by
  obtain ⟨c, hc⟩ := cellsFrom_has (n := N + 1) (acc := []) (lookup_mem hx)
  exact ⟨c, lookup_nodup (cellsFrom_nodup .nil (of_decide_eq_true nd) (fun _ h => nomatch h)) hc⟩

/-- a body gives d back -/
def Rt (prog : Program) (w : World) (g₀ : Heap) (n : Nat) (env : Env) (ρ : Store) (ss : List Stmt) (d : D) : Prop := ∃ ρ', Exs prog w g₀ n env ρ ss (.ret d) ρ'
theorem Rt.cons {st : Stmt} {ss : List Stmt} {d : D} (x : Ex prog w g₀ n env ρ st .next ρ₁) (y : Rt prog w g₀ n env ρ₁ ss d) : Rt prog w g₀ n env ρ (st :: ss) d := let ⟨ρ', h⟩ := y; ⟨ρ', Exs.cons x h⟩
theorem Rt.ret {e : Expr} {ss : List Stmt} {d : D} {pos : Pos} (x : Ev prog w g₀ n env ρ e d) : Rt prog w g₀ n env ρ (.Return (some e) pos :: ss) d := ⟨ρ, Exs.stop (Ex.ret x)⟩
theorem Rt.ifRet {t : Expr} {body orelse ss : List Stmt} {d : D} {pos : Pos} (ht : Tst prog w g₀ n env ρ t true) (x : Rt prog w g₀ n env ρ body d) : Rt prog w g₀ n env ρ (.If t body orelse pos :: ss) d :=
  let ⟨ρ', h⟩ := x; ⟨ρ', Exs.stop (Ex.ite ht (by rw [if_pos rfl]; exact h))⟩
theorem Rt.ifSkip {t : Expr} {body ss : List Stmt} {d : D} {pos : Pos} (ht : Tst prog w g₀ n env ρ t false) (x : Rt prog w g₀ n env ρ ss d) : Rt prog w g₀ n env ρ (.If t body [] pos :: ss) d :=
  Rt.cons (Ex.ite ht (by rw [if_neg Bool.false_ne_true]; exact Exs.nil)) x
theorem Rt.freeze {ss : List Stmt} {x : Str} {o : Own} {d d' : D} (hm : (x, .own o) ∈ ρ) (p : PutS x (.dat d') ρ ρ₁) (hod : match o with | .lst ds => d' = .lst ds | .idict kvs => d' = .idict kvs | .nest dss => d' = .lst (dss.map .lst))
    (y : Rt prog w g₀ n env ρ₁ ss d) : Rt prog w g₀ n env ρ ss d := let ⟨ρ', h⟩ := y; ⟨ρ', Exs.freeze hm p hod h⟩
theorem Rt.try {body ss : List Stmt} {h₀ : ExceptHandler} {hs : List ExceptHandler} {pos : Pos} {d : D} (x : Rt prog w g₀ n env ρ body d) : Rt prog w g₀ n env ρ (.Try body (h₀ :: hs) [] [] pos :: ss) d :=
  let ⟨ρ', h⟩ := x; ⟨ρ', Exs.stop fun A E g Zc vm ls s hA hS =>
  wpAny_Try_except (wpAny_mono (h A _ g Zc vm ls s hA hS) (fun f s₁ q => by
    obtain ⟨r, vm', ls', hS', v, rfl, hv⟩ := q
    exact ⟨r, vm', ls', hS', v, rfl, hv⟩) fun _ _ e => e)⟩

theorem FnOk.at {x : Str} {i : Nat} {ps rest : List Str} {ds : List D} {d : D} (T : TopF g₀ mg mb) (hx : (x, i) ∈ funs) (hl : ps.length = ds.length) (hbind : ∀ pm code doc (vals : List Value), vals.length = ps.length → bindArgs (fdat i pm code doc) ⟨vals, []⟩ = pure (ps.zip vals))
    (sh : shapeOk (fnScope (stm i)) ps rest = true) (h : ∀ N a pm code doc, Fr0 (callEnvC (fdat i pm code doc) N a) → Rt prog w g₀ n (callEnvC (fdat i pm code doc) N a) (params ps ds rest) (fnBody (stm i)) d) :
    FnOk prog w g₀ (n + 1) (fv mg x) ds d := by
  obtain ⟨a, pm, code, doc, e, F⟩ := T.fn _ hx
  obtain ⟨o, ho, hd⟩ := F.obj
  have : fv mg x = .ref a := by unfold fv; rw [e]; rfl
  rw [this]
  have nd : decide ((fdat i pm code doc).scope.names.map (·.1)).Nodup = true := by
    unfold shapeOk at sh
    simp only [Bool.and_eq_true] at sh
    exact sh.1.1.1.1.1
  exact FnOk.of (fd := fdat i pm code doc) T.toGf ho hd F.code rfl rfl hl (hbind pm code doc) (shape_of rfl rfl sh) fun N => h N a pm code doc ⟨rfl, rfl, Cel.call nd⟩

theorem Cap.nil {kind : Str → Option NameKind} : Cap kind ρ [] := fun _ _ h => nomatch h
theorem Cap.var {kind : Str → Option NameKind} {x : Str} (h : Cap kind ρ ρc) : Cap kind ρ ((x, .unset) :: ρc) := fun y sl hm => by
  rcases List.mem_cons.mp hm with e | hm
  · cases e; exact .inl rfl
  · exact h y sl hm
theorem Cap.name {kind : Str → Option NameKind} {x : Str} {sl : Slot} (hm : (x, sl) ∈ ρ) (h : Cap kind ρ ρc) (hk : kind x = some .cell := by rfl) : Cap kind ρ ((x, sl) :: ρc) := fun y sl' hm' => by
  rcases List.mem_cons.mp hm' with e | hm'
  · cases e; exact .inr ⟨by rw [hk]; simp, hm⟩
  · exact h y sl' hm'

theorem Cel.comp {inner : Scope} {cl : List (Str × Addr)} {C : Addr} (hn : ∀ y ∈ inner.names, y.2 ≠ .cell) (h : ∀ x ∈ freeOf inner, ∃ c, cl.lookup x = some c) : Cel (compEnvC inner cl C env) := fun x hx => by
  have hx' : (relabel inner env).names.lookup x = some .cell := hx
  have := lookup_mem hx'
  obtain ⟨⟨y, k⟩, hm, e⟩ := List.mem_map.mp this
  simp only at e
  split at e
  · rename_i hc
    simp only [Bool.and_eq_true, beq_iff_eq] at hc
    cases e
    exact h _ (mem_freeOf.mpr (hc.1.1 ▸ hm))
  · cases e; exact absurd rfl (hn _ hm)

theorem EvO.comp1 {elt iter tgt : Expr} {ifs : List Expr} {inner : Scope} {pos : Pos} {ds : List D} (f : D → Option D) (ρc : Store)
    (fr : Fr0 env) (hI : EvI prog w g₀ n env ρ iter tgt ds) (ok : formOk env.scope inner (ρc.map (·.1)) = true) (hcap : Cap (fun x => (relabel inner env).names.lookup x) ρ ρc) (hsz : ds.length ≤ sizeLine)
    (turn : ∀ cl C, Fr0 (compEnvC inner cl C env) → ∀ d ∈ ds, ∃ ρ₁, AsgC prog w g₀ n (compEnvC inner cl C env) ρc tgt d ρ₁ ∧ Ifs prog w g₀ n (compEnvC inner cl C env) ρ₁ ifs (f d).isSome ∧ (∀ y, f d = some y → Ev prog w g₀ n (compEnvC inner cl C env) ρ₁ elt y) ∧ Fg ρ₁ ρc)
    (hs : ∀ x, foldedSetIterable iter env x = pure x := by intro _; rfl) :
    EvO prog w g₀ n env ρ (.ListComp elt [⟨tgt, iter, ifs, 0⟩] inner pos) (.lst (ds.filterMap f)) := by
  have hc : ∀ x ∈ freeOf inner, ∃ c, env.cells.lookup x = some c := fun x hx => fr.cel x (by
    unfold formOk at ok
    simp only [Bool.and_eq_true, List.all_eq_true, beq_iff_eq] at ok
    exact ok.1.2 x hx)
  obtain ⟨cl, F, h⟩ := form_of fr.globals fr.builtins hc ok
  exact EvO.comp f ρc hI F hcap ⟨fr.globals, fr.builtins⟩ hsz (fun d hd C => turn cl C ⟨fr.globals, fr.builtins, Cel.comp F.nocell h⟩ d hd) hs

theorem Ex.assignComp1 {x : Str} {px spos : Pos} {elt iter tgt : Expr} {ifs : List Expr} {inner : Scope} {pos : Pos} {ds : List D} (f : D → Option D) (ρc : Store)
    (fr : Fr0 env) (hI : EvI prog w g₀ n env ρ iter tgt ds) (ok : formOk env.scope inner (ρc.map (·.1)) = true) (hcap : Cap (fun x => (relabel inner env).names.lookup x) ρ ρc) (hsz : ds.length ≤ sizeLine)
    (turn : ∀ cl C, Fr0 (compEnvC inner cl C env) → ∀ d ∈ ds, ∃ ρ₁, AsgC prog w g₀ n (compEnvC inner cl C env) ρc tgt d ρ₁ ∧ Ifs prog w g₀ n (compEnvC inner cl C env) ρ₁ ifs (f d).isSome ∧ (∀ y, f d = some y → Ev prog w g₀ n (compEnvC inner cl C env) ρ₁ elt y) ∧ Fg ρ₁ ρc)
    (p : PutS x (.own (.lst (ds.filterMap f))) ρ ρ')
    (hsw : swapsWith (.ListComp elt [⟨tgt, iter, ifs, 0⟩] inner pos) (some (.Name x px)) spos.line env = pure true := by rfl)
    (hs : ∀ x, foldedSetIterable iter env x = pure x := by intro _; rfl) :
    Ex prog w g₀ n env ρ (.Assign [.Name x px] (.ListComp elt [⟨tgt, iter, ifs, 0⟩] inner pos) spos) .next ρ' := by
  have hc : ∀ x ∈ freeOf inner, ∃ c, env.cells.lookup x = some c := fun x hx => fr.cel x (by
    unfold formOk at ok
    simp only [Bool.and_eq_true, List.all_eq_true, beq_iff_eq] at ok
    exact ok.1.2 x hx)
  obtain ⟨cl, F, h⟩ := form_of fr.globals fr.builtins hc ok
  exact Ex.assignComp f ρc hI F hcap ⟨fr.globals, fr.builtins⟩ hsz (fun d hd C => turn cl C ⟨fr.globals, fr.builtins, Cel.comp F.nocell h⟩ d hd) p hsw hs

theorem swap2 {A B : Prop} (h : A ∧ B) : B ∧ A := h.symm
end

/-! ### small tactics -/
local macro_rules | `(tactic| walk_at "m mem") => `(tactic| first | with_reducible exact mem_here | (with_reducible refine mem_there ?_; walk_at "m mem"))
local macro_rules | `(tactic| walk_at "m tab") => `(tactic| ((first | unfold funs | unfold tys | unfold nums0); walk_at "m mem"))
local macro_rules | `(tactic| walk_at "m put") => `(tactic| first | with_reducible exact PutS.here | (with_reducible refine PutS.there ?_; walk_at "m put"))

section
variable {prog : Program} {w : World} {g₀ g : Heap} {mg mb : Str → Option Value}

theorem bind1 {i : Nat} {x : Str} {pm code doc : Value} (h : ∀ v, bindArgs (fdat i pm code doc) ⟨[v], []⟩ = pure [(x, v)]) (vals : List Value) (hl : vals.length = 1) : bindArgs (fdat i pm code doc) ⟨vals, []⟩ = pure ([x].zip vals) := by
  match vals, hl with
  | [v], _ => exact h v

theorem bind2 {i : Nat} {x y : Str} {pm code doc : Value} (h : ∀ v u, bindArgs (fdat i pm code doc) ⟨[v, u], []⟩ = pure [(x, v), (y, u)]) (vals : List Value) (hl : vals.length = 2) : bindArgs (fdat i pm code doc) ⟨vals, []⟩ = pure ([x, y].zip vals) := by
  match vals, hl with
  | [v, u], _ => exact h v u
theorem bind3 {i : Nat} {x y z : Str} {pm code doc : Value} (h : ∀ v u t, bindArgs (fdat i pm code doc) ⟨[v, u, t], []⟩ = pure [(x, v), (y, u), (z, t)]) (vals : List Value) (hl : vals.length = 3) : bindArgs (fdat i pm code doc) ⟨vals, []⟩ = pure ([x, y, z].zip vals) := by
  match vals, hl with
  | [v, u, t], _ => exact h v u t

theorem isterminal_ok (T : TopF g₀ mg mb) (i : Int) : FnOk prog w g₀ 1 (fv mg "ISTERMINAL") [.int i] (.bool (decide (i < 256))) := by
  refine FnOk.at (i := 52) (ps := ["x"]) (rest := []) T (by walk_at "m tab") rfl (fun pm code doc => bind1 fun v => by rfl) (by decide +kernel) fun N a pm code doc cel => Rt.ret (ρ := [("x", .dat (.int i))]) <|
    Ev.cmp (x := .int i) (y := .int 256) (Ev.name mem_here).toB (Ev.num0 T ⟨rfl, rfl, rfl, rfl, rfl⟩ (by walk_at "m tab")).toB (.ltI _ _)
theorem isnonterminal_ok (T : TopF g₀ mg mb) (i : Int) : FnOk prog w g₀ 1 (fv mg "ISNONTERMINAL") [.int i] (.bool (decide (256 ≤ i))) := by
  refine FnOk.at (i := 53) (ps := ["x"]) (rest := []) T (by walk_at "m tab") rfl (fun pm code doc => bind1 fun v => by rfl) (by decide +kernel) fun N a pm code doc cel => Rt.ret (ρ := [("x", .dat (.int i))]) <|
    Ev.cmp (x := .int i) (y := .int 256) (Ev.name mem_here).toB (Ev.num0 T ⟨rfl, rfl, rfl, rfl, rfl⟩ (by walk_at "m tab")).toB (.geI _ _)
theorem iseof_ok (T : TopF g₀ mg mb) (i : Int) : FnOk prog w g₀ 1 (fv mg "ISEOF") [.int i] (.bool (i == 0)) := by
  refine FnOk.at (i := 54) (ps := ["x"]) (rest := []) T (by walk_at "m tab") rfl (fun pm code doc => bind1 fun v => by rfl) (by decide +kernel) fun N a pm code doc cel => Rt.ret (ρ := [("x", .dat (.int i))]) <|
    Ev.cmp (x := .int i) (y := .int 0) (Ev.name mem_here).toB (Ev.num0 T ⟨rfl, rfl, rfl, rfl, rfl⟩ (by walk_at "m tab")).toB (.eqI _ _)
end
end Mine

local macro_rules | `(tactic| walk_at "m mem") => `(tactic| first | with_reducible exact Mine.mem_here | (with_reducible refine Mine.mem_there ?_; walk_at "m mem"))
local macro_rules | `(tactic| walk_at "m tab") => `(tactic| ((first | unfold Mine.funs | unfold Mine.tys | unfold Mine.nums0); walk_at "m mem"))
local macro_rules | `(tactic| walk_at "m put") => `(tactic| first | with_reducible exact Mine.PutS.here | (with_reducible refine Mine.PutS.there ?_; walk_at "m put"))

namespace Mine
open PySem

section
variable {prog : Program} {w : World} {g₀ g : Heap} {n : Nat} {env cenv : Env} {ρ ρ₁ ρ₂ ρ' ρc : Store} {mg mb : Str → Option Value} {fl : Fl}

def subst (a b : Str) : Int := if a == b then 0 else if Txt.lower a == Txt.lower b then 1 else 2

theorem subst_ok (T : TopF g₀ mg mb) (a b : Str) (ha : a.length ≤ 1000000) (hb : b.length ≤ 1000000) : FnOk prog w g₀ 1 (fv mg "_substitution_cost") [.str a, .str b] (.int (subst a b)) := by
  refine FnOk.at (i := 58) (ps := ["ch_a", "ch_b"]) (rest := []) T (by walk_at "m tab") rfl (fun pm code doc => bind2 fun v u => by rfl) (by decide +kernel) fun N x pm code doc cel => ?_
  have na : ∀ p, Ev prog w g₀ 0 (callEnvC (fdat 58 pm code doc) N x) [("ch_a", .dat (.str a)), ("ch_b", .dat (.str b))] (.Name "ch_a" p) (.str a) := fun p => Ev.name mem_here
  have nb : ∀ p, Ev prog w g₀ 0 (callEnvC (fdat 58 pm code doc) N x) [("ch_a", .dat (.str a)), ("ch_b", .dat (.str b))] (.Name "ch_b" p) (.str b) := fun p => Ev.name (mem_there mem_here)
  show Rt prog w g₀ 0 _ [("ch_a", .dat (.str a)), ("ch_b", .dat (.str b))] _ _
  unfold subst
  cases h : a == b
  · refine Rt.ifSkip (h ▸ Tst.cmp (na _).toB (nb _).toB (.eqS _ _)) ?_
    rw [if_neg Bool.false_ne_true]
    cases h' : Txt.lower a == Txt.lower b
    · refine Rt.ifSkip (h' ▸ Tst.cmp (Ev.methS ⟨rfl, rfl, by decide⟩ (na _).toB EvBAll.nil (.lower _ ha)).toB (Ev.methS ⟨rfl, rfl, by decide⟩ (nb _).toB EvBAll.nil (.lower _ hb)).toB (.eqS _ _)) ?_
      rw [if_neg Bool.false_ne_true]
      exact Rt.ret (Ev.num0 T ⟨rfl, rfl, rfl, rfl, rfl⟩ (by walk_at "m tab"))
    · rw [if_pos rfl]
      refine Rt.ifRet (h' ▸ Tst.cmp (Ev.methS ⟨rfl, rfl, by decide⟩ (na _).toB EvBAll.nil (.lower _ ha)).toB (Ev.methS ⟨rfl, rfl, by decide⟩ (nb _).toB EvBAll.nil (.lower _ hb)).toB (.eqS _ _)) ?_
      exact Rt.ret (Ev.num0 T ⟨rfl, rfl, rfl, rfl, rfl⟩ (by walk_at "m tab"))
  · rw [if_pos rfl]
    exact Rt.ifRet (h ▸ Tst.cmp (na _).toB (nb _).toB (.eqS _ _)) (Rt.ret Ev.int)

/-! ### the writers -/
def rep (x c z : Str) : Str := if occurs x c then Txt.replace x c z else x
def escAll (x : Str) (ps : List (Str × Str)) : Str := ps.foldl (fun t p => rep t p.1 p.2) x
def Fits (x : Str) (ps : List (Str × Str)) : Prop := ∀ k, (escAll x (ps.take k)).length ≤ 1000000

theorem rep_step {x c z : Str} {k k' k'' : Nat} {p₁ p₂ p₃ p₄ p₅ p₆ p₇ p₈ p₉ q q' : Pos} (hx : x.length ≤ 1000000)
    (f : MethForm (.Name "text" p₃) "replace" p₄ p₅ [.Constant (.str c) k' p₆, .Constant (.str z) k'' p₇] env) (hcz : (c == z) = false) (hz : z.length ≤ 10) (hm : behindInMarks .In (.Name "text" p₂) = false := by with_unfolding_all rfl)
    (hs : swapsWith (.Call (.Attribute (.Name "text" p₃) "replace" p₄) [.Constant (.str c) k' p₆, .Constant (.str z) k'' p₇] [] p₅) (some (.Name "text" p₉)) q'.line env = pure false := by rfl) :
    Ex prog w g₀ n env [("text", .dat (.str x))] (.If (.Compare (.Constant (.str c) k p₁) [.In] [.Name "text" p₂] p₈) [.Assign [.Name "text" p₉] (.Call (.Attribute (.Name "text" p₃) "replace" p₄) [.Constant (.str c) k' p₆, .Constant (.str z) k'' p₇] [] p₅) q'] [] q) .next
      [("text", .dat (.str (rep x c z)))] := by
  have hb : x.length + (x.length + 1) * z.length ≤ 16777216 := by
    have : (x.length + 1) * z.length ≤ (x.length + 1) * 10 := Nat.mul_le_mul_left _ hz
    omega
  refine Ex.ite (b := occurs x c) (Tst.cmp Ev.str.toB (Ev.name mem_here).toB (.inS c x) hm) ?_
  unfold rep
  cases occurs x c with
  | false => rw [if_neg Bool.false_ne_true, if_neg Bool.false_ne_true]; exact Exs.nil
  | true =>
    rw [if_pos rfl, if_pos rfl]
    exact Exs.cons (Ex.assign (Ev.toS (Ev.replace f (Ev.name mem_here).toB hcz hb)) .here hs) Exs.nil

def prs0 : List (Str × Str) := [("&", "&amp;"), ("<", "&lt;"), (">", "&gt;")]
def prs1 : List (Str × Str) := [("&", "&amp;"), ("<", "&lt;"), (">", "&gt;"), ("\"", "&quot;"), ("\r", "&#13;"), ("\n", "&#10;"), ("\t", "&#09;")]
def prs2 : List (Str × Str) := [("&", "&amp;"), (">", "&gt;"), ("\"", "&quot;")]
def prs3 : List (Str × Str) := [("&", "&amp;"), ("<", "&lt;"), (">", "&gt;"), ("\r", "&#xD;")]
def prs4 : List (Str × Str) := [("&", "&amp;"), ("<", "&lt;"), ("\"", "&quot;"), ("\t", "&#x9;"), ("\n", "&#xA;"), ("\r", "&#xD;")]
theorem esc0_ok (T : TopF g₀ mg mb) (x : Str) (h : Fits x prs0) : FnOk prog w g₀ 1 (fv mg "_escape_cdata") [.str x] (.str (escAll x prs0)) := by
  refine FnOk.at (i := 61) (ps := ["text"]) (rest := []) T (by walk_at "m tab") rfl (fun pm code doc => bind1 fun v => by rfl) (by decide +kernel) fun N a pm code doc fr => ?_
  show Rt prog w g₀ 0 _ [("text", .dat (.str x))] _ _
  refine Rt.try ?_
  refine Rt.cons (rep_step (h 0) ⟨rfl, rfl, by decide⟩ (by decide +kernel) (by decide +kernel)) ?_
  refine Rt.cons (rep_step (h 1) ⟨rfl, rfl, by decide⟩ (by decide +kernel) (by decide +kernel)) ?_
  refine Rt.cons (rep_step (h 2) ⟨rfl, rfl, by decide⟩ (by decide +kernel) (by decide +kernel)) ?_
  exact Rt.ret (Ev.name mem_here)
theorem esc1_ok (T : TopF g₀ mg mb) (x : Str) (h : Fits x prs1) : FnOk prog w g₀ 1 (fv mg "_escape_attrib") [.str x] (.str (escAll x prs1)) := by
  refine FnOk.at (i := 62) (ps := ["text"]) (rest := []) T (by walk_at "m tab") rfl (fun pm code doc => bind1 fun v => by rfl) (by decide +kernel) fun N a pm code doc fr => ?_
  show Rt prog w g₀ 0 _ [("text", .dat (.str x))] _ _
  refine Rt.try ?_
  refine Rt.cons (rep_step (h 0) ⟨rfl, rfl, by decide⟩ (by decide +kernel) (by decide +kernel)) ?_
  refine Rt.cons (rep_step (h 1) ⟨rfl, rfl, by decide⟩ (by decide +kernel) (by decide +kernel)) ?_
  refine Rt.cons (rep_step (h 2) ⟨rfl, rfl, by decide⟩ (by decide +kernel) (by decide +kernel)) ?_
  refine Rt.cons (rep_step (h 3) ⟨rfl, rfl, by decide⟩ (by decide +kernel) (by decide +kernel)) ?_
  refine Rt.cons (rep_step (h 4) ⟨rfl, rfl, by decide⟩ (by decide +kernel) (by decide +kernel)) ?_
  refine Rt.cons (rep_step (h 5) ⟨rfl, rfl, by decide⟩ (by decide +kernel) (by decide +kernel)) ?_
  refine Rt.cons (rep_step (h 6) ⟨rfl, rfl, by decide⟩ (by decide +kernel) (by decide +kernel)) ?_
  exact Rt.ret (Ev.name mem_here)
theorem esc2_ok (T : TopF g₀ mg mb) (x : Str) (h : Fits x prs2) : FnOk prog w g₀ 1 (fv mg "_escape_attrib_html") [.str x] (.str (escAll x prs2)) := by
  refine FnOk.at (i := 63) (ps := ["text"]) (rest := []) T (by walk_at "m tab") rfl (fun pm code doc => bind1 fun v => by rfl) (by decide +kernel) fun N a pm code doc fr => ?_
  show Rt prog w g₀ 0 _ [("text", .dat (.str x))] _ _
  refine Rt.try ?_
  refine Rt.cons (rep_step (h 0) ⟨rfl, rfl, by decide⟩ (by decide +kernel) (by decide +kernel)) ?_
  refine Rt.cons (rep_step (h 1) ⟨rfl, rfl, by decide⟩ (by decide +kernel) (by decide +kernel)) ?_
  refine Rt.cons (rep_step (h 2) ⟨rfl, rfl, by decide⟩ (by decide +kernel) (by decide +kernel)) ?_
  exact Rt.ret (Ev.name mem_here)
theorem esc3_ok (T : TopF g₀ mg mb) (x : Str) (h : Fits x prs3) : FnOk prog w g₀ 1 (fv mg "_escape_cdata_c14n") [.str x] (.str (escAll x prs3)) := by
  refine FnOk.at (i := 64) (ps := ["text"]) (rest := []) T (by walk_at "m tab") rfl (fun pm code doc => bind1 fun v => by rfl) (by decide +kernel) fun N a pm code doc fr => ?_
  show Rt prog w g₀ 0 _ [("text", .dat (.str x))] _ _
  refine Rt.try ?_
  refine Rt.cons (rep_step (h 0) ⟨rfl, rfl, by decide⟩ (by decide +kernel) (by decide +kernel)) ?_
  refine Rt.cons (rep_step (h 1) ⟨rfl, rfl, by decide⟩ (by decide +kernel) (by decide +kernel)) ?_
  refine Rt.cons (rep_step (h 2) ⟨rfl, rfl, by decide⟩ (by decide +kernel) (by decide +kernel)) ?_
  refine Rt.cons (rep_step (h 3) ⟨rfl, rfl, by decide⟩ (by decide +kernel) (by decide +kernel)) ?_
  exact Rt.ret (Ev.name mem_here)
theorem esc4_ok (T : TopF g₀ mg mb) (x : Str) (h : Fits x prs4) : FnOk prog w g₀ 1 (fv mg "_escape_attrib_c14n") [.str x] (.str (escAll x prs4)) := by
  refine FnOk.at (i := 65) (ps := ["text"]) (rest := []) T (by walk_at "m tab") rfl (fun pm code doc => bind1 fun v => by rfl) (by decide +kernel) fun N a pm code doc fr => ?_
  show Rt prog w g₀ 0 _ [("text", .dat (.str x))] _ _
  refine Rt.try ?_
  refine Rt.cons (rep_step (h 0) ⟨rfl, rfl, by decide⟩ (by decide +kernel) (by decide +kernel)) ?_
  refine Rt.cons (rep_step (h 1) ⟨rfl, rfl, by decide⟩ (by decide +kernel) (by decide +kernel)) ?_
  refine Rt.cons (rep_step (h 2) ⟨rfl, rfl, by decide⟩ (by decide +kernel) (by decide +kernel)) ?_
  refine Rt.cons (rep_step (h 3) ⟨rfl, rfl, by decide⟩ (by decide +kernel) (by decide +kernel)) ?_
  refine Rt.cons (rep_step (h 4) ⟨rfl, rfl, by decide⟩ (by decide +kernel) (by decide +kernel)) ?_
  refine Rt.cons (rep_step (h 5) ⟨rfl, rfl, by decide⟩ (by decide +kernel) (by decide +kernel)) ?_
  exact Rt.ret (Ev.name mem_here)
end
end Mine

namespace Mine
open PySem

section
variable {prog : Program} {w : World} {g₀ g : Heap} {n : Nat} {env cenv : Env} {ρ ρ₁ ρ₂ ρ' ρc : Store} {mg mb : Str → Option Value} {fl : Fl}

theorem nums_get {o : List Int} {g : Nat} (h : g < o.length) : (nums o)[g]? = some (.int (o.getD g 0)) := by
  simp [nums, h]
theorem nums_set {o : List Int} {g : Nat} {a : Int} : (nums o).set g (.int a) = nums (o.set g a) := by simp [nums, List.map_set]
theorem nums_app {a b : List Int} : nums a ++ nums b = nums (a ++ b) := by simp [nums]
theorem nums_len {a : List Int} : (nums a).length = a.length := by simp [nums]

/-! ### _law_made -/
def sw (o : List Int) (g : Nat) : List Int := (o.set g (o.getD (g + 1) 0)).set (g + 1) (o.getD g 0)
def madeStep (o : List Int) (g : Nat) : List Int := if o.getD g 0 < o.getD (g + 1) 0 then sw o g else o
def made (gs : List Nat) : List Int := gs.foldl madeStep [0, 1, 2, 3]
theorem sw_len {o : List Int} {g : Nat} : (sw o g).length = o.length := by simp [sw]
theorem madeStep_len {o : List Int} {g : Nat} : (madeStep o g).length = o.length := by
  unfold madeStep; split
  · exact sw_len
  · rfl
theorem made_len (gs : List Nat) : (made gs).length = 4 := by
  unfold made
  have : ∀ (gs : List Nat) (o : List Int), (gs.foldl madeStep o).length = o.length := by
    intro gs
    induction gs with
    | nil => intro o; rfl
    | cons g gs ih => intro o; rw [List.foldl_cons, ih, madeStep_len]
  rw [this]; rfl
theorem made_take {gs : List Nat} {i g : Nat} (h : gs[i]? = some g) : made (gs.take (i + 1)) = madeStep (made (gs.take i)) g := by
  unfold made
  rw [List.take_add_one, h, List.foldl_append]; rfl

def natsD (ns : List Nat) : List D := nums (ns.map Int.ofNat)

theorem made_ok (T : TopF g₀ mg mb) (gs : List Nat) (hg : ∀ g ∈ gs, g ≤ 2) : FnOk prog w g₀ 2 (fv mg "_law_made") [.lst (natsD gs)] (.lst (nums (made gs))) := by
  refine FnOk.at (i := 68) (ps := ["gaps"]) (rest := ["order", "gap"]) T (by walk_at "m tab") rfl (fun pm code doc => bind1 fun v => by rfl) (by decide +kernel) fun N a pm code doc fr => ?_
  show Rt prog w g₀ 1 _ [("gaps", .dat (.lst (natsD gs))), ("order", .unset), ("gap", .unset)] _ _
  refine Rt.cons (ρ₁ := [("gaps", .dat (.lst (natsD gs))), ("order", .own (.lst [.int 0, .int 1, .int 2, .int 3])), ("gap", .unset)]) (Ex.assign (EvO.toS (EvO.list (EvAll.cons Ev.int (EvAll.cons Ev.int (EvAll.cons Ev.int (EvAll.cons Ev.int EvAll.nil)))))) (by walk_at "m put")) ?_
  let I : Nat → Store := fun i => [("gaps", .dat (.lst (natsD gs))), ("order", .own (.lst (nums (made (gs.take i))))), ("gap", .unset)]
  refine Rt.cons (ρ₁ := I (natsD gs).length) (Ex.for I (EvI.list (Ev.name (by walk_at "m mem")) (.name ..)) fun i d hd => ?_) ?_
  · obtain ⟨g, hgi, rfl⟩ : ∃ g, gs[i]? = some g ∧ d = .int g := by
      simp only [natsD, nums, List.map_map, List.getElem?_map, Option.map_eq_some_iff] at hd
      obtain ⟨g, h, rfl⟩ := hd
      exact ⟨g, h, rfl⟩
    have hg2 := hg g (List.mem_of_getElem? hgi)
    have len := made_len (gs.take i)
    generalize ho : made (gs.take i) = o at len
    have e1 : (nums o)[(g : Int).toNat]? = some (.int (o.getD g 0)) := nums_get (by simp; omega)
    have e2 : (nums o)[((g : Int) + 1).toNat]? = some (.int (o.getD (g + 1) 0)) := by
      rw [show ((g : Int) + 1).toNat = g + 1 by omega]; exact nums_get (by omega)
    let ρ : Store := [("gaps", .dat (.lst (natsD gs))), ("order", .own (.lst (nums o))), ("gap", .dat (.int g))]
    let ρ' : Store := [("gaps", .dat (.lst (natsD gs))), ("order", .own (.lst (nums (madeStep o g)))), ("gap", .dat (.int g))]
    refine ⟨ρ, ρ', Asg.name (by show PutS _ _ (I i) _; simp only [I, ho]; walk_at "m put"), ?_, ?_⟩
    · have gap : ∀ p, EvB prog w g₀ 1 (callEnvC (fdat 68 pm code doc) N a) ρ (.Name "gap" p) (.int g) := fun p => (Ev.name (by walk_at "m mem")).toB
      have gap1 : ∀ p p' p'' k, EvB prog w g₀ 1 (callEnvC (fdat 68 pm code doc) N a) ρ (.BinOp (.Name "gap" p) .Add (.Constant (.int 1) k p') p'') (.int (g + 1)) := fun p p' p'' k => (Ev.bin (gap p) Ev.int.toB (.addI _ _)).toB
      have ord : ∀ p, EvB prog w g₀ 1 (callEnvC (fdat 68 pm code doc) N a) ρ (.Name "order" p) (.lst (nums o)) := fun p => EvB.lst (by walk_at "m mem")
      have s1 : ∀ p p' p'', Ev prog w g₀ 1 (callEnvC (fdat 68 pm code doc) N a) ρ (.Subscript (.Name "order" p) (.Name "gap" p') p'') (.int (o.getD g 0)) := fun p p' p'' => Ev.sub (ord _) (gap _) (.lst _ _ _ (by omega) e1)
      have s2 : ∀ p p' p'' p₄ p₅ k, Ev prog w g₀ 1 (callEnvC (fdat 68 pm code doc) N a) ρ (.Subscript (.Name "order" p) (.BinOp (.Name "gap" p') .Add (.Constant (.int 1) k p'') p₄) p₅) (.int (o.getD (g + 1) 0)) := fun p p' p'' p₄ p₅ k => Ev.sub (ord _) (gap1 _ _ _ _) (.lst _ _ _ (by omega) e2)
      refine Exs.cons (Ex.ite (b := decide (256 + o.getD g 0 - o.getD (g + 1) 0 < 256)) (Tst.val (Ev.callF (Ev.fun0 T ⟨rfl, rfl, rfl, rfl, rfl⟩ (by walk_at "m tab")) (isterminal_ok T _) (EvAll.cons (Ev.bin (Ev.bin Ev.int.toB (s1 _ _ _).toB (.addI _ _)).toB (s2 _ _ _ _ _ _).toB (.subI _ _)) EvAll.nil))) ?_) Exs.nil
      by_cases hlt : o.getD g 0 < o.getD (g + 1) 0
      · rw [if_pos (decide_eq_true (by omega))]
        have em : madeStep o g = sw o g := if_pos hlt
        simp only [ρ', em]
        refine Exs.cons (Ex.assignT (Ev.tuple (EvAll.cons (s2 _ _ _ _ _ _) (EvAll.cons (s1 _ _ _) EvAll.nil)))
          (AsgAll.cons (ρ₁ := [("gaps", .dat (.lst (natsD gs))), ("order", .own (.lst (nums (o.set g (o.getD (g + 1) 0))))), ("gap", .dat (.int g))]) (Asg.subL (by walk_at "m mem") (gap _) (by rw [nums_len]; omega) (by rw [nums_set]; simp only [Int.toNat_natCast]; walk_at "m put"))
          (AsgAll.cons (Asg.subL (k := (g : Int) + 1) (by walk_at "m mem") ?_ (by rw [nums_len]; simp; omega) (by rw [nums_set, show ((g : Int) + 1).toNat = g + 1 by omega]; unfold sw; walk_at "m put")) .nil))) Exs.nil
        exact (Ev.bin (Ev.name (by walk_at "m mem")).toB Ev.int.toB (.addI _ _)).toB
      · rw [if_neg (by rw [decide_eq_true_eq]; omega)]
        have em : madeStep o g = o := if_neg hlt
        simp only [ρ', em]
        exact Exs.nil
    · show Fg ρ' (I (i + 1))
      simp only [ρ', I, made_take hgi, ho]
      exact .keep (.keep (.drop .nil))
  · have e : gs.take (natsD gs).length = gs := List.take_of_length_le (by simp [natsD, nums])
    show Rt prog w g₀ 1 _ [("gaps", .dat (.lst (natsD gs))), ("order", .own (.lst (nums (made (gs.take (natsD gs).length))))), ("gap", .unset)] _ _
    rw [e]
    exact Rt.freeze (ρ₁ := [("gaps", .dat (.lst (natsD gs))), ("order", .dat (.lst (nums (made gs)))), ("gap", .unset)]) (x := "order") (d' := .lst (nums (made gs))) (by walk_at "m mem") (by walk_at "m put") rfl (Rt.ret (Ev.name (by walk_at "m mem")))
end
end Mine

namespace Mine
open PySem

/-! ### _law_grammar -/
def lessOf (o : List Int) (g : Nat) : List Int := o.take g ++ [o.getD (g + 1) 0, o.getD g 0] ++ o.drop (g + 2)
def gapStep (nb : List Int) (o : List Int) (st : List (List Int) × List Int) (g : Nat) : List (List Int) × List Int :=
  if o.getD (g + 1) 0 < o.getD g 0 then
    let os := if st.1.contains (lessOf o g) then st.1 else st.1 ++ [lessOf o g]
    (os, st.2 ++ [256 + ((findI (lessOf o g) os : Nat) : Int), nb.getD g 0])
  else st
def placeStep (nb : List Int) (st : List (List Int) × List Int) (p : Nat) : List (List Int) × List Int :=
  let st' := (List.range 3).foldl (gapStep nb (st.1.getD p [])) (st.1, st.2 ++ [256 + (p : Int)])
  (st'.1, st'.2 ++ [0])
def gramSt (nb goal : List Int) (i : Nat) : List (List Int) × List Int := (List.range i).foldl (placeStep nb) ([goal], [])

theorem gramSt_succ {nb goal : List Int} {i : Nat} : gramSt nb goal (i + 1) = placeStep nb (gramSt nb goal i) i := by
  unfold gramSt; rw [List.range_succ, List.foldl_append]; rfl
theorem lessOf_len {o : List Int} {g : Nat} (h : o.length = 4) (hg : g ≤ 2) : (lessOf o g).length = 4 := by
  simp [lessOf]; omega

/-- sizes along the way -/
def StOk (st : List (List Int) × List Int) (k r : Nat) : Prop := (∀ o ∈ st.1, o.length = 4) ∧ st.1.length ≤ k ∧ st.2.length ≤ r
theorem StOk.gap {nb o : List Int} {st : List (List Int) × List Int} {g k r : Nat} (h : StOk st k r) (ho : o.length = 4) (hg : g ≤ 2) : StOk (gapStep nb o st g) (k + 1) (r + 2) := by
  obtain ⟨a, b, c⟩ := h
  unfold gapStep
  split
  · refine ⟨?_, ?_, by simp; omega⟩
    · dsimp only
      split
      · exact a
      · intro x hx
        rcases List.mem_append.mp hx with hx | hx
        · exact a x hx
        · rw [List.mem_singleton.mp hx]; exact lessOf_len ho hg
    · dsimp only
      split
      · omega
      · simp; omega
  · exact ⟨a, by omega, by omega⟩
theorem StOk.gaps {nb o : List Int} {st : List (List Int) × List Int} {k r : Nat} (h : StOk st k r) (ho : o.length = 4) : ∀ j, j ≤ 3 → StOk ((List.range j).foldl (gapStep nb o) st) (k + j) (r + 2 * j)
  | 0, _ => h
  | j + 1, hj => by
    rw [List.range_succ, List.foldl_append]
    have := (StOk.gaps (nb := nb) h ho j (by omega)).gap (nb := nb) (g := j) ho (by omega)
    exact ⟨this.1, by have := this.2.1; simp only [List.foldl_cons, List.foldl_nil]; omega, by have := this.2.2; simp only [List.foldl_cons, List.foldl_nil]; omega⟩
theorem getD_len {os : List (List Int)} (h : ∀ o ∈ os, o.length = 4) {i : Nat} (hi : i < os.length) : (os.getD i []).length = 4 := by
  have : os.getD i [] = os[i] := by simp [hi]
  rw [this]; exact h _ (List.getElem_mem hi)
theorem gramSt_ok {nb goal : List Int} (hg : goal.length = 4) {m : Nat} (hm : ∀ i, i < m → i < (gramSt nb goal i).1.length) : ∀ i, i ≤ m → StOk (gramSt nb goal i) (3 * i + 1) (8 * i)
  | 0, _ => ⟨fun o ho => by rw [List.mem_singleton.mp ho]; exact hg, by simp [gramSt], by simp [gramSt]⟩
  | i + 1, hi => by
    obtain ⟨a, b, c⟩ := gramSt_ok hg hm i (by omega)
    rw [gramSt_succ]
    have := StOk.gaps (nb := nb) (st := ((gramSt nb goal i).1, (gramSt nb goal i).2 ++ [256 + (i : Int)])) (k := 3 * i + 1) (r := 8 * i + 1) ⟨a, b, by simp; omega⟩ (getD_len a (hm i (by omega))) 3 (by omega)
    exact ⟨this.1, by have := this.2.1; simp only [placeStep]; omega, by have := this.2.2; simp only [placeStep, List.length_append, List.length_cons, List.length_nil]; omega⟩

section
variable {prog : Program} {w : World} {g₀ g : Heap} {n : Nat} {env cenv : Env} {ρ ρ₁ ρ₂ ρ' ρc : Store} {mg mb : Str → Option Value} {fl : Fl}

theorem nums_snoc {r : List Int} {v : Int} : nums r ++ [.int v] = nums (r ++ [v]) := by simp [nums]
theorem nums_snoc2 {r : List Int} {v u : Int} : nums r ++ [.int v, .int u] = nums (r ++ [v, u]) := by simp [nums]

def olist (os : List (List Int)) : List D := os.map fun b => .lst (nums b)
theorem olist_snoc {os : List (List Int)} {o : List Int} : olist os ++ [.lst (nums o)] = olist (os ++ [o]) := by simp [olist]

theorem Exs.forget {ss : List Stmt} (x : Exs prog w g₀ n env ρ ss fl ρ₁) (f : Fg ρ₁ ρ₂) : Exs prog w g₀ n env ρ ss fl ρ₂ := fun A E g Zc vm ls s hA hS =>
  wpAny_mono (x A E g Zc vm ls s hA hS) (fun f' s₁ q => by
    obtain ⟨r, vm', ls', hS', q⟩ := q
    exact ⟨r, vm', ls', hS'.forget f, q⟩) fun _ _ e => e
theorem Ev.cast {e : Expr} {d d' : D} (x : Ev prog w g₀ n env ρ e d) (h : d = d') : Ev prog w g₀ n env ρ e d' := h ▸ x
theorem EvO.cast {e : Expr} {o o' : Own} (x : EvO prog w g₀ n env ρ e o) (h : o = o') : EvO prog w g₀ n env ρ e o' := h ▸ x
theorem cut_to {α : Type} {xs : List α} {j : Nat} (h : j ≤ xs.length) : cutL xs none (some (j : Int)) = xs.take j := by
  unfold cutL
  have : clipAt xs.length (j : Int) = j := by unfold clipAt; omega
  simp [this]
theorem cut_from {α : Type} {xs : List α} {j : Nat} (h : j ≤ xs.length) : cutL xs (some (j : Int)) none = xs.drop j := by
  unfold cutL
  have : clipAt xs.length (j : Int) = j := by unfold clipAt; omega
  simp only [Option.elim_some, Option.elim_none, this]
  exact List.take_of_length_le (by simp)
theorem rangeL_get {a c : Int} {m i : Nat} {d : D} (h : (rangeL a c m)[i]? = some d) : i < m ∧ d = .int (a + i * c) := by
  simp only [rangeL, List.getElem?_map, Option.map_eq_some_iff] at h
  obtain ⟨k, hk, rfl⟩ := h
  have hlt := (List.getElem?_eq_some_iff.mp hk).1
  simp only [List.length_range] at hlt
  rw [List.getElem?_range hlt] at hk; cases hk
  exact ⟨hlt, rfl⟩
theorem range01_get {m i : Nat} {d : D} (h : (rangeL 0 1 m)[i]? = some d) : i < m ∧ d = .int i := by
  obtain ⟨a, b⟩ := rangeL_get h
  exact ⟨a, by rw [b]; simp⟩

/-- the names of the function -/
def SG (goal nb : List Int) (st : List (List Int) × List Int) (p : Nat) (so sg sl : Slot) : Store :=
  [("goal", .dat (.lst (nums goal))), ("numbers", .dat (.lst (nums nb))), ("orders", .own (.lst (olist st.1))), ("rules", .own (.lst (nums st.2))), ("place", .dat (.int p)), ("order", so), ("gap", sg), ("less", sl)]

theorem grammar_ok (T : TopF g₀ mg mb) (goal nb : List Int) (m : Nat) (hg : goal.length = 4) (hnb : nb.length = 3) (hm : ∀ i, i < m → i < (gramSt nb goal i).1.length) (hstop : (gramSt nb goal m).1.length = m) (hm2 : m ≤ 100) :
    FnOk prog w g₀ 2 (fv mg "_law_grammar") [.lst (nums goal), .lst (nums nb)] (.lst (nums (gramSt nb goal m).2)) := by
  refine FnOk.at (i := 69) (ps := ["goal", "numbers"]) (rest := ["orders", "rules", "place", "order", "gap", "less"]) T (by walk_at "m tab") rfl (fun pm code doc => bind2 fun v u => by rfl) (by decide +kernel) fun N a pm code doc fr => ?_
  show Rt prog w g₀ 1 _ [("goal", .dat (.lst (nums goal))), ("numbers", .dat (.lst (nums nb))), ("orders", .unset), ("rules", .unset), ("place", .unset), ("order", .unset), ("gap", .unset), ("less", .unset)] _ _
  have pp : Puts [("place", .dat (.int 0)), ("rules", .own (.lst [])), ("orders", .own (.lst [.lst (nums goal)]))]
      [("goal", .dat (.lst (nums goal))), ("numbers", .dat (.lst (nums nb))), ("orders", .unset), ("rules", .unset), ("place", .unset), ("order", .unset), ("gap", .unset), ("less", .unset)]
      [("goal", .dat (.lst (nums goal))), ("numbers", .dat (.lst (nums nb))), ("orders", .own (.lst [.lst (nums goal)])), ("rules", .own (.lst [])), ("place", .dat (.int 0)), ("order", .unset), ("gap", .unset), ("less", .unset)] :=
    .cons (.there (.there (.there (.there .here)))) (.cons (.there (.there (.there .here))) (.cons (.there (.there .here)) .nil))
  refine Rt.cons (ρ₁ := SG goal nb (gramSt nb goal 0) 0 .unset .unset .unset) (Ex.tupR (xs := [("orders", .own (.lst [.lst (nums goal)])), ("rules", .own (.lst [])), ("place", .dat (.int 0))])
    (EvSAll.cons (EvO.toS (EvO.list (EvAll.cons (Ev.name (by walk_at "m mem")) EvAll.nil))) (EvSAll.cons (EvO.toS (EvO.list EvAll.nil)) (EvSAll.cons (Ev.toS Ev.int) EvSAll.nil))) pp (by simp [sizeLine])) ?_
  refine Rt.cons (ρ₁ := SG goal nb (gramSt nb goal m) m .unset .unset .unset) (Ex.while (fun i => SG goal nb (gramSt nb goal i) i .unset .unset .unset) m (fun i hi => ?_) ?_) ?_
  · obtain ⟨len4, ol, rl⟩ := gramSt_ok hg hm i (by omega)
    have hi1 := hm i hi
    rw [gramSt_succ]
    generalize gramSt nb goal i = st at *
    have ho4 := getD_len len4 hi1
    have hge : (olist st.1)[((i : Nat) : Int).toNat]? = some (.lst (nums (st.1.getD i []))) := by
      simp [olist, hi1]
    unfold placeStep
    generalize st.1.getD i [] = o at *
    generalize hst₀ : (st.1, st.2 ++ [256 + (i : Int)]) = st₀
    have len0 : StOk st₀ (3 * i + 1) (8 * i + 1) := by rw [← hst₀]; exact ⟨len4, ol, by simp; omega⟩
    refine ⟨Tst.cmp (Ev.name (by unfold SG; exact (mem_there (mem_there (mem_there (mem_there mem_here)))))).toB (Ev.call (Ev.ty T ⟨rfl, rfl, rfl, rfl, rfl⟩ (by walk_at "m tab")) (EvBAll.cons (EvB.lst (by unfold SG; exact (mem_there (mem_there mem_here)))) EvBAll.nil) (.lenL _ (by simp [olist]; omega))).toB (by have := CmpR.ltI (i : Int) ((olist st.1).length : Int); rwa [decide_eq_true (by simp [olist]; omega)] at this),
      SG goal nb (((List.range 3).foldl (gapStep nb o) st₀).1, ((List.range 3).foldl (gapStep nb o) st₀).2 ++ [0]) (i + 1 : Nat) (.dat (.lst (nums o))) .unset .unset, ?_, ?_⟩
    · refine Exs.cons (ρ₁ := SG goal nb st i (.dat (.lst (nums o))) .unset .unset) (Ex.assign (Ev.toS (Ev.sub (EvB.lst (mem_there (mem_there mem_here))) (Ev.name (mem_there (mem_there (mem_there (mem_there mem_here))))).toB (.lst _ _ _ ⟨by omega, by omega⟩ hge))) (.there (.there (.there (.there (.there .here)))))) ?_
      refine Exs.cons (ρ₁ := SG goal nb st₀ i (.dat (.lst (nums o))) .unset .unset) (Ex.append ⟨rfl, rfl, by decide⟩ (mem_there (mem_there (mem_there mem_here))) (Ev.bin Ev.int.toB (Ev.name (mem_there (mem_there (mem_there (mem_there mem_here))))).toB (.addI _ _)) (by rw [nums_len]; simp [sizeLine]; omega) (by rw [nums_snoc]; subst hst₀; exact (.there (.there (.there .here))))) ?_
      refine Exs.cons (ρ₁ := SG goal nb ((List.range 3).foldl (gapStep nb o) st₀) i (.dat (.lst (nums o))) .unset .unset) (Ex.for (fun j => SG goal nb ((List.range j).foldl (gapStep nb o) st₀) i (.dat (.lst (nums o))) .unset .unset)
        (EvI.range1 (b := 3) (Ev.ty T ⟨rfl, rfl, rfl, rfl, rfl⟩ (by walk_at "m tab")) Ev.int.toB rfl (by omega)) fun j d hd => ?_) ?_
      · obtain ⟨hj, rfl⟩ := range01_get hd
        have hj2 : j ≤ 2 := by have : (3 : Int).toNat = 3 := rfl; omega
        obtain ⟨lenj, oj, rj⟩ := StOk.gaps (nb := nb) len0 ho4 j (by omega)
        rw [List.range_succ, List.foldl_append, List.foldl_cons, List.foldl_nil]
        generalize (List.range j).foldl (gapStep nb o) st₀ = sj at *
        refine ⟨SG goal nb sj i (.dat (.lst (nums o))) (.dat (.int j)) .unset, SG goal nb (gapStep nb o sj j) i (.dat (.lst (nums o))) (.dat (.int j)) .unset, Asg.name (.there (.there (.there (.there (.there (.there .here)))))), ?_, .keep (.keep (.keep (.keep (.keep (.keep (.drop (.keep .nil)))))))⟩
        have e1 : (nums o)[(j : Int).toNat]? = some (.int (o.getD j 0)) := nums_get (by simp; omega)
        have e2 : (nums o)[((j : Int) + 1).toNat]? = some (.int (o.getD (j + 1) 0)) := by
          rw [show ((j : Int) + 1).toNat = j + 1 by omega]; exact nums_get (by omega)
        have e3 : (nums nb)[(j : Int).toNat]? = some (.int (nb.getD j 0)) := nums_get (by simp; omega)
        have s1 : ∀ (sl : Slot) (os : List (List Int)) p p' p'', Ev prog w g₀ 1 (callEnvC (fdat 69 pm code doc) N a) (SG goal nb (os, sj.2) i (.dat (.lst (nums o))) (.dat (.int j)) sl) (.Subscript (.Name "order" p) (.Name "gap" p') p'') (.int (o.getD j 0)) :=
          fun sl os p p' p'' => Ev.sub (Ev.name (mem_there (mem_there (mem_there (mem_there (mem_there mem_here)))))).toB (Ev.name (mem_there (mem_there (mem_there (mem_there (mem_there (mem_there mem_here))))))).toB (.lst _ _ _ (by omega) e1)
        have s2 : ∀ (sl : Slot) (os : List (List Int)) p p' p'' p₄ p₅ k, Ev prog w g₀ 1 (callEnvC (fdat 69 pm code doc) N a) (SG goal nb (os, sj.2) i (.dat (.lst (nums o))) (.dat (.int j)) sl) (.Subscript (.Name "order" p) (.BinOp (.Name "gap" p') .Add (.Constant (.int 1) k p'') p₄) p₅) (.int (o.getD (j + 1) 0)) :=
          fun sl os p p' p'' p₄ p₅ k => Ev.sub (Ev.name (mem_there (mem_there (mem_there (mem_there (mem_there mem_here)))))).toB (Ev.bin (Ev.name (mem_there (mem_there (mem_there (mem_there (mem_there (mem_there mem_here))))))).toB Ev.int.toB (.addI _ _)).toB (.lst _ _ _ (by omega) e2)
        refine Exs.cons (Ex.ite (b := decide (256 ≤ 255 + o.getD j 0 - o.getD (j + 1) 0)) (Tst.val (Ev.callF (Ev.fun0 T ⟨rfl, rfl, rfl, rfl, rfl⟩ (by walk_at "m tab")) (isnonterminal_ok T _) (EvAll.cons (Ev.bin (Ev.bin Ev.int.toB (s1 _ _ _ _ _).toB (.addI _ _)).toB (s2 _ _ _ _ _ _ _ _).toB (.subI _ _)) EvAll.nil))) ?_) Exs.nil
        by_cases hlt : o.getD (j + 1) 0 < o.getD j 0
        · rw [if_pos (decide_eq_true (by omega))]
          unfold gapStep
          rw [if_pos hlt]
          generalize hle : lessOf o j = le at *
          have hsz : (nums o).length ≤ sizeLine := by rw [nums_len, ho4]; simp [sizeLine]
          have heq : D.lst (cutL (nums o) none (some (j : Int)) ++ [D.int (o.getD (j + 1) 0), D.int (o.getD j 0)] ++ cutL (nums o) (some ((j : Int) + 2)) none) = D.lst (nums le) := by
            rw [← hle, show ((j : Int) + 2) = ((j + 2 : Nat) : Int) by omega, cut_to (by rw [nums_len]; omega), cut_from (by rw [nums_len]; omega)]
            simp [lessOf, nums, List.map_take, List.map_drop]
          have ltk : (cutL (nums o) none (some (j : Int))).length + 2 ≤ sizeLine := by
            rw [cut_to (by rw [nums_len]; omega), List.length_take]; simp only [sizeLine]; omega
          refine Exs.forget (ρ₁ := SG goal nb (if sj.1.contains le then sj.1 else sj.1 ++ [le], sj.2 ++ [256 + ((findI le (if sj.1.contains le then sj.1 else sj.1 ++ [le]) : Nat) : Int), nb.getD j 0]) i (.dat (.lst (nums o))) (.dat (.int j)) (.dat (.lst (nums le)))) ?_ (.keep (.keep (.keep (.keep (.keep (.keep (.keep (.drop .nil))))))))
          refine Exs.cons (ρ₁ := SG goal nb sj i (.dat (.lst (nums o))) (.dat (.int j)) (.dat (.lst (nums le)))) (Ex.assign (Ev.toS (Ev.cast (EvO.lst (EvO.addL (EvO.lst (EvO.addL (EvO.lst (EvO.cut (Ev.name (mem_there (mem_there (mem_there (mem_there (mem_there mem_here)))))).toB .no (.yes (Ev.name (mem_there (mem_there (mem_there (mem_there (mem_there (mem_there mem_here))))))).toB) hsz)).toB (EvO.lst (EvO.list (EvAll.cons (s2 _ _ _ _ _ _ _ _) (EvAll.cons (s1 _ _ _ _ _) EvAll.nil)))).toB ltk)).toB
            (EvO.lst (EvO.cut (Ev.name (mem_there (mem_there (mem_there (mem_there (mem_there mem_here)))))).toB (.yes (Ev.bin (Ev.name (mem_there (mem_there (mem_there (mem_there (mem_there (mem_there mem_here))))))).toB Ev.int.toB (.addI _ _)).toB) .no hsz)).toB ?_)) heq)) (.there (.there (.there (.there (.there (.there (.there .here)))))))) ?_
          · rw [show ((j : Int) + 2) = ((j + 2 : Nat) : Int) by omega, cut_to (by rw [nums_len]; omega), cut_from (by rw [nums_len]; omega)]
            simp only [List.length_append, List.length_take, List.length_drop, nums_len, List.length_cons, List.length_nil, sizeLine]; omega
          refine Exs.cons (ρ₁ := SG goal nb (if sj.1.contains le then sj.1 else sj.1 ++ [le], sj.2) i (.dat (.lst (nums o))) (.dat (.int j)) (.dat (.lst (nums le)))) (Ex.ite (Tst.cmp (Ev.name (mem_there (mem_there (mem_there (mem_there (mem_there (mem_there (mem_there mem_here)))))))).toB (EvB.lst (mem_there (mem_there mem_here))) (.ninL _ _)) ?_) ?_
          · cases hc : sj.1.contains le
            · rw [if_pos (show (!false) = true from rfl), if_neg Bool.false_ne_true]
              exact Exs.cons (Ex.append ⟨rfl, rfl, by decide⟩ (mem_there (mem_there mem_here)) (Ev.name (mem_there (mem_there (mem_there (mem_there (mem_there (mem_there (mem_there mem_here)))))))) (by simp only [olist, List.length_map, sizeLine]; omega) (by rw [olist_snoc]; exact (.there (.there .here)))) Exs.nil
            · rw [if_neg (show ¬ (!true) = true from Bool.false_ne_true), if_pos rfl]
              exact Exs.nil
          have hmem : le ∈ (if sj.1.contains le then sj.1 else sj.1 ++ [le]) := by
            split
            · rename_i hc; simpa using hc
            · simp
          have hlen : (if sj.1.contains le then sj.1 else sj.1 ++ [le]).length ≤ 400 := by
            split
            · omega
            · simp; omega
          generalize (if sj.1.contains le then sj.1 else sj.1 ++ [le]) = os at *
          refine Exs.cons (Ex.extend ⟨rfl, rfl, by decide⟩ (mem_there (mem_there (mem_there mem_here))) (EvO.list (EvAll.cons (Ev.bin Ev.int.toB (Ev.indexL ⟨rfl, rfl, by decide⟩ rfl (EvB.lst (mem_there (mem_there mem_here))) (Ev.name (mem_there (mem_there (mem_there (mem_there (mem_there (mem_there (mem_there mem_here)))))))).toB hmem (by omega)).toB (.addI _ _)) (EvAll.cons (Ev.sub (Ev.name (mem_there mem_here)).toB (Ev.name (mem_there (mem_there (mem_there (mem_there (mem_there (mem_there mem_here))))))).toB (.lst _ _ _ (by omega) e3)) EvAll.nil)))
            (by rw [nums_len]; simp only [List.length_cons, List.length_nil, sizeLine]; omega) (by rw [nums_snoc2]; exact (.there (.there (.there .here))))) Exs.nil
        · rw [if_neg (by rw [decide_eq_true_eq]; omega)]
          unfold gapStep
          rw [if_neg hlt]
          exact Exs.nil
      · refine Exs.cons (ρ₁ := SG goal nb (((List.range 3).foldl (gapStep nb o) st₀).1, ((List.range 3).foldl (gapStep nb o) st₀).2 ++ [0]) i (.dat (.lst (nums o))) .unset .unset) (Ex.append ⟨rfl, rfl, by decide⟩ (mem_there (mem_there (mem_there mem_here))) Ev.int (by have := (StOk.gaps (nb := nb) len0 ho4 3 (by omega)).2.2; rw [nums_len]; simp only [sizeLine]; omega) (by rw [nums_snoc]; exact (.there (.there (.there .here))))) ?_
        exact Exs.cons (Ex.augI (mem_there (mem_there (mem_there (mem_there mem_here)))) Ev.int.toB (.there (.there (.there (.there .here))))) Exs.nil
    · exact .keep (.keep (.keep (.keep (.keep (.drop (.keep (.keep .nil)))))))
  · refine Tst.cmp (Ev.name (by unfold SG; exact (mem_there (mem_there (mem_there (mem_there mem_here)))))).toB (Ev.call (Ev.ty T ⟨rfl, rfl, rfl, rfl, rfl⟩ (by walk_at "m tab")) (EvBAll.cons (EvB.lst (by unfold SG; exact (mem_there (mem_there mem_here)))) EvBAll.nil) (.lenL _ (by simp [olist]; omega))).toB ?_
    have := CmpR.ltI (m : Int) ((olist (gramSt nb goal m).1).length : Int)
    rwa [decide_eq_false (by simp [olist, hstop])] at this
  · exact Rt.freeze (ρ₁ := [("goal", .dat (.lst (nums goal))), ("numbers", .dat (.lst (nums nb))), ("orders", .own (.lst (olist (gramSt nb goal m).1))), ("rules", .dat (.lst (nums (gramSt nb goal m).2))), ("place", .dat (.int m)), ("order", .unset), ("gap", .unset), ("less", .unset)])
      (x := "rules") (d' := .lst (nums (gramSt nb goal m).2)) (by unfold SG; walk_at "m mem") (by unfold SG; walk_at "m put") rfl (Rt.ret (Ev.name (by walk_at "m mem")))
end
end Mine

namespace Mine
open PySem

/-! ### _law_worth -/
abbrev Tab := List (Int × Int)
def lk (l : Tab) (k : Int) : Option Int := (l.find? fun q => q.1 = k).map (·.2)
def dtab (l : Tab) : List (Int × D) := l.map fun q => (q.1, .int q.2)
theorem look_dtab {l : Tab} {k : Int} : look (dtab l) k = (lk l k).map .int := by
  unfold look lk dtab
  induction l with
  | nil => rfl
  | cons q l ih =>
    rw [List.map_cons, List.find?_cons, List.find?_cons]
    by_cases h : q.1 = k
    · simp [h]
    · simp only [h, decide_false]; exact ih
theorem putI_dtab {l : Tab} {k v : Int} (h : lk l k = none) : putI (dtab l) k (.int v) = dtab (l ++ [(k, v)]) := by
  unfold putI
  have : (dtab l).any (fun kv => kv.1 = k) = false := by
    unfold lk at h
    rw [Option.map_eq_none_iff, List.find?_eq_none] at h
    simp only [dtab, List.any_map, List.any_eq_false, Function.comp]
    intro x hx
    exact h x hx
  rw [if_neg (by rw [this]; exact Bool.false_ne_true)]
  simp [dtab]

def wprods (w : Tab) (side : List Int) : List Int := (List.range (side.length / 2)).map fun k => ((lk w (side.getD (2 * k) 0)).getD 0) * side.getD (2 * k + 1) 0
abbrev WSt := Tab × Tab × Tab
def wstep (sd : List (List Int)) (st : WSt) (p : Nat) : WSt :=
  let side := sd.getD p []
  let s : Int := 256 + p
  if side = [] then (st.1 ++ [(s, 1)], st.2.1 ++ [(s, 0)], st.2.2 ++ [(s, 1)])
  else
    let z := (lk st.2.1 (side.getD 0 0)).getD 0 + 1
    (st.1 ++ [(s, (wprods st.1 side).sum)], st.2.1 ++ [(s, z)], st.2.2 ++ [(s, (lk st.2.2 (side.getD 0 0)).getD 0 * z)])
/-- all that the step reads is there, and small -/
def wgood (sd : List (List Int)) (st : WSt) (p : Nat) : Bool :=
  let side := sd.getD p []
  let s : Int := 256 + p
  (lk st.1 s).isNone && (lk st.2.1 s).isNone && (lk st.2.2 s).isNone && side.length % 2 == 0 && decide (side.length ≤ 100) &&
  (List.range (side.length / 2)).all (fun k => match lk st.1 (side.getD (2 * k) 0) with | some v => decide (0 ≤ v ∧ v < 2 ^ 50) && decide (0 ≤ side.getD (2 * k + 1) 0 ∧ side.getD (2 * k + 1) 0 < 1000) | none => false) &&
  decide ((wprods st.1 side).sum < 2 ^ 60) &&
  (decide (side = []) || ((match lk st.2.1 (side.getD 0 0) with | some v => decide (0 ≤ v ∧ v < 1000) | none => false) && (match lk st.2.2 (side.getD 0 0) with | some v => decide (0 ≤ v ∧ v < 100000) | none => false)))
def wst (sd : List (List Int)) (i : Nat) : WSt := (List.range i).foldl (fun st j => wstep sd st (sd.length - 1 - j)) ([], [], [])
def dsides (sd : List (List Int)) : List (Int × D) := sd.mapIdx fun p s => (256 + (p : Int), .lst (nums s))

theorem wst_succ {sd : List (List Int)} {i : Nat} : wst sd (i + 1) = wstep sd (wst sd i) (sd.length - 1 - i) := by
  unfold wst; rw [List.range_succ, List.foldl_append]; rfl

theorem look_dsides {sd : List (List Int)} {p : Nat} (h : p < sd.length) : look (dsides sd) (256 + (p : Int)) = some (.lst (nums (sd.getD p []))) := by
  unfold look dsides
  have : ∀ (sd : List (List Int)) (c : Int) (p : Nat), p < sd.length → ((sd.mapIdx fun q s => (c + (q : Int), D.lst (nums s))).find? fun kv => kv.1 = c + (p : Int)).map (·.2) = some (.lst (nums (sd.getD p []))) := by
    intro sd
    induction sd with
    | nil => intro c p h; simp at h
    | cons s sd ih =>
      intro c p h
      rw [List.mapIdx_cons, List.find?_cons]
      cases p with
      | zero => simp
      | succ p =>
        have h1 : ¬ (c + ((0 : Nat) : Int) = c + ((p + 1 : Nat) : Int)) := by omega
        simp only [h1, decide_false]
        have := ih (c + 1) p (by simpa using h)
        have e : ∀ q : Nat, c + ((q + 1 : Nat) : Int) = c + 1 + (q : Int) := fun q => by omega
        simp only [e]
        exact this
  exact this sd 256 p h
theorem wstep_len {sd : List (List Int)} {st : WSt} {p : Nat} : (wstep sd st p).1.length = st.1.length + 1 ∧ (wstep sd st p).2.1.length = st.2.1.length + 1 ∧ (wstep sd st p).2.2.length = st.2.2.length + 1 := by
  unfold wstep
  dsimp only
  split <;> simp
theorem wst_len {sd : List (List Int)} : ∀ i, (wst sd i).1.length = i ∧ (wst sd i).2.1.length = i ∧ (wst sd i).2.2.length = i
  | 0 => ⟨rfl, rfl, rfl⟩
  | i + 1 => by
    rw [wst_succ]
    obtain ⟨a, b, c⟩ := wst_len (sd := sd) i
    obtain ⟨a', b', c'⟩ := wstep_len (sd := sd) (st := wst sd i) (p := sd.length - 1 - i)
    omega

section
variable {prog : Program} {w : World} {g₀ g : Heap} {n : Nat} {env cenv : Env} {ρ ρ₁ ρ₂ ρ' ρc : Store} {mg mb : Str → Option Value} {fl : Fl}

def SW (sd : List (List Int)) (st : WSt) (ssym sside : Slot) : Store :=
  [("sides", .dat (.idict (dsides sd))), ("worth", .own (.idict (dtab st.1))), ("sizes", .own (.idict (dtab st.2.1))), ("times", .own (.idict (dtab st.2.2))), ("symbol", ssym), ("side", sside)]

theorem lk_new {l : Tab} {k v : Int} (h : lk l k = none) : lk (l ++ [(k, v)]) k = some v := by
  unfold lk at h ⊢
  rw [Option.map_eq_none_iff] at h
  rw [List.find?_append, h]
  simp
theorem bits_small {a : Int} (h : 0 ≤ a ∧ a < 10000) : Builtin.Int.intBits a ≤ 64 := by
  unfold Builtin.Int.intBits
  split
  · omega
  · rename_i h0
    have h0 : a ≠ 0 := by simpa using h0
    have : a.natAbs.log2 < 64 := (Nat.log2_lt (by omega)).mpr (by omega)
    omega

theorem worth_ok (T : TopF g₀ mg mb) (sd : List (List Int)) (hl : sd.length ≤ 100) (hgood : ∀ i, i < sd.length → wgood sd (wst sd i) (sd.length - 1 - i) = true) :
    FnOk prog w g₀ 2 (fv mg "_law_worth") [.idict (dsides sd)] (.tup [.idict (dtab (wst sd sd.length).1), .idict (dtab (wst sd sd.length).2.2)]) := by
  refine FnOk.at (i := 70) (ps := ["sides"]) (rest := ["worth", "sizes", "times", "symbol", "side"]) T (by walk_at "m tab") rfl (fun pm code doc => bind1 fun v => by rfl) (by decide +kernel) fun N a pm code doc fr => ?_
  show Rt prog w g₀ 1 _ [("sides", .dat (.idict (dsides sd))), ("worth", .unset), ("sizes", .unset), ("times", .unset), ("symbol", .unset), ("side", .unset)] _ _
  have pp : Puts [("worth", .own (.idict [])), ("sizes", .own (.idict [])), ("times", .own (.idict []))]
      [("sides", .dat (.idict (dsides sd))), ("worth", .unset), ("sizes", .unset), ("times", .unset), ("symbol", .unset), ("side", .unset)] (SW sd (wst sd 0) .unset .unset) :=
    .cons (.there .here) (.cons (.there (.there .here)) (.cons (.there (.there (.there .here))) .nil))
  refine Rt.cons (Ex.tupS (xs := [("worth", .own (.idict [])), ("sizes", .own (.idict [])), ("times", .own (.idict []))]) (EvSAll.cons (EvO.toS (EvO.dict T.toGf)) (EvSAll.cons (EvO.toS (EvO.dict T.toGf)) (EvSAll.cons (EvO.toS (EvO.dict T.toGf)) EvSAll.nil))) pp rfl (by simp [sizeLine])) ?_
  have hlen : (dsides sd).length = sd.length := by simp [dsides]
  refine Rt.cons (ρ₁ := SW sd (wst sd (rangeL (255 + (sd.length : Int)) (-1) sd.length).length) .unset .unset) (Ex.for (fun i => SW sd (wst sd i) .unset .unset)
    (EvI.range3 (a := 255 + (sd.length : Int)) (b := 255) (c := -1) (m := sd.length) (Ev.ty T ⟨rfl, rfl, rfl, rfl, rfl⟩ (by walk_at "m tab"))
      (Ev.bin Ev.int.toB (Ev.cast (Ev.call (Ev.ty T ⟨rfl, rfl, rfl, rfl, rfl⟩ (by walk_at "m tab")) (EvBAll.cons (Ev.name mem_here).toB EvBAll.nil) (.lenI _ (by rw [hlen]; omega))) (by rw [hlen])).toB (.addI _ _)).toB Ev.int.toB (Ev.neg Ev.int.toB).toB ⟨rfl, rfl, rfl⟩ (by omega) (by omega) (.inr rfl) ?_) fun i d hd => ?_) ?_
  · unfold Builtin.Range.rangeSize
    rw [if_neg (by omega), show -(-1 : Int) = 1 from rfl]
    split <;> omega
  · obtain ⟨hi, rfl⟩ := rangeL_get hd
    rw [wst_succ]
    have gd := hgood i hi
    generalize hp : sd.length - 1 - i = p at *
    have hps : p < sd.length := by omega
    have hl3 := wst_len (sd := sd) i
    generalize wst sd i = st at *
    have hsym : (255 + (sd.length : Int) + (i : Int) * -1) = 256 + (p : Int) := by omega
    rw [hsym]
    have hlk := look_dsides hps
    unfold wgood at gd
    unfold wstep
    generalize sd.getD p [] = side at *
    simp only [Bool.and_eq_true, Option.isNone_iff_eq_none, beq_iff_eq, decide_eq_true_eq, Bool.or_eq_true] at gd
    obtain ⟨⟨⟨⟨⟨⟨⟨g1, g2⟩, g3⟩, g4⟩, g5⟩, g6⟩, g7⟩, g8⟩ := gd
    refine ⟨SW sd st (.dat (.int (256 + (p : Int)))) .unset, SW sd (if side = [] then (st.1 ++ [((256 : Int) + p, 1)], st.2.1 ++ [((256 : Int) + p, 0)], st.2.2 ++ [((256 : Int) + p, 1)])
      else (st.1 ++ [((256 : Int) + p, (wprods st.1 side).sum)], st.2.1 ++ [((256 : Int) + p, (lk st.2.1 (side.getD 0 0)).getD 0 + 1)], st.2.2 ++ [((256 : Int) + p, (lk st.2.2 (side.getD 0 0)).getD 0 * ((lk st.2.1 (side.getD 0 0)).getD 0 + 1))]))
      (.dat (.int (256 + (p : Int)))) (.dat (.lst (nums side))), Asg.name (.there (.there (.there (.there .here)))), ?_, .keep (.keep (.keep (.keep (.drop (.drop .nil)))))⟩
    refine Exs.cons (ρ₁ := SW sd st (.dat (.int (256 + (p : Int)))) (.dat (.lst (nums side)))) (Ex.assign (Ev.toS (Ev.sub (Ev.name mem_here).toB (Ev.name (mem_there (mem_there (mem_there (mem_there mem_here))))).toB (.idict _ _ _ hlk))) (.there (.there (.there (.there (.there .here)))))) ?_
    refine Exs.cons (Ex.ite (b := side == []) (Tst.cmp (Ev.name (mem_there (mem_there (mem_there (mem_there (mem_there mem_here)))))).toB (EvO.lst (EvO.list EvAll.nil)).toB (.eqL side [])) ?_) Exs.nil
    have f1 : (dtab st.1).length ≤ sizeLine := by simp only [dtab, List.length_map, sizeLine]; omega
    have f2 : (dtab st.2.1).length ≤ sizeLine := by simp only [dtab, List.length_map, sizeLine]; omega
    have f3 : (dtab st.2.2).length ≤ sizeLine := by simp only [dtab, List.length_map, sizeLine]; omega
    by_cases hs : side = []
    · rw [if_pos (by simp [hs]), if_pos hs]
      have sym : ∀ (st : WSt) p', EvB prog w g₀ 1 (callEnvC (fdat 70 pm code doc) N a) (SW sd st (.dat (.int (256 + (p : Int)))) (.dat (.lst (nums side)))) (.Name "symbol" p') (.int (256 + (p : Int))) := fun st p' => (Ev.name (mem_there (mem_there (mem_there (mem_there mem_here))))).toB
      exact Exs.cons (Ex.assignT (Ev.tuple (EvAll.cons Ev.int (EvAll.cons Ev.int (EvAll.cons Ev.int EvAll.nil))))
        (AsgAll.cons (ρ₁ := SW sd (st.1 ++ [((256 : Int) + p, 1)], st.2.1, st.2.2) _ _) (Asg.subI (mem_there mem_here) (sym _ _) f1 (by rw [putI_dtab g1]; exact (.there .here)))
        (AsgAll.cons (ρ₁ := SW sd (st.1 ++ [((256 : Int) + p, 1)], st.2.1 ++ [((256 : Int) + p, 0)], st.2.2) _ _) (Asg.subI (mem_there (mem_there mem_here)) (sym _ _) f2 (by rw [putI_dtab g2]; exact (.there (.there .here))))
        (AsgAll.cons (Asg.subI (mem_there (mem_there (mem_there mem_here))) (sym _ _) f3 (by rw [putI_dtab g3]; exact (.there (.there (.there .here))))) .nil)))) Exs.nil
    · rw [if_neg (by simpa using hs), if_neg hs]
      have hne : 0 < side.length := List.length_pos_iff.mpr hs
      have gz := g8.resolve_left hs
      obtain ⟨z, hz, z0, z1⟩ : ∃ z, lk st.2.1 (side.getD 0 0) = some z ∧ 0 ≤ z ∧ z < 1000 := by
        have := gz.1
        split at this
        · rename_i v hv; exact ⟨v, hv, by simpa using this⟩
        · cases this
      obtain ⟨t, ht, t0, t1⟩ : ∃ t, lk st.2.2 (side.getD 0 0) = some t ∧ 0 ≤ t ∧ t < 100000 := by
        have := gz.2
        split at this
        · rename_i v hv; exact ⟨v, hv, by simpa using this⟩
        · cases this
      rw [hz, ht]
      have e0 : (nums side)[(0 : Int).toNat]? = some (.int (side.getD 0 0)) := nums_get (by simpa using hne)
      have sym : ∀ (st : WSt) p', EvB prog w g₀ 1 (callEnvC (fdat 70 pm code doc) N a) (SW sd st (.dat (.int (256 + (p : Int)))) (.dat (.lst (nums side)))) (.Name "symbol" p') (.int (256 + (p : Int))) := fun st p' => (Ev.name (mem_there (mem_there (mem_there (mem_there mem_here))))).toB
      have sid : ∀ (st : WSt) p', Ev prog w g₀ 1 (callEnvC (fdat 70 pm code doc) N a) (SW sd st (.dat (.int (256 + (p : Int)))) (.dat (.lst (nums side)))) (.Name "side" p') (.lst (nums side)) := fun st p' => Ev.name (mem_there (mem_there (mem_there (mem_there (mem_there mem_here)))))
      refine Exs.cons (ρ₁ := SW sd (st.1 ++ [((256 : Int) + p, (wprods st.1 side).sum)], st.2.1, st.2.2) (.dat (.int (256 + (p : Int)))) (.dat (.lst (nums side)))) (Ex.assignS (Ev.call (Ev.ty T ⟨rfl, rfl, rfl, rfl, rfl⟩ (by walk_at "m tab")) (EvBAll.cons (EvO.lst (EvO.cast
        (EvO.comp1 (fun d => match d with | .int k => some (.int ((lk st.1 (side.getD k.toNat 0)).getD 0 * side.getD (k.toNat + 1) 0)) | _ => none) [("worth", .own (.idict (dtab st.1))), ("side", .dat (.lst (nums side))), ("k", .unset)] fr
          (EvI.range3 (a := 0) (b := (side.length : Int)) (c := 2) (m := side.length / 2) (Ev.ty T ⟨rfl, rfl, rfl, rfl, rfl⟩ (by walk_at "m tab")) Ev.int.toB (Ev.cast (Ev.call (Ev.ty T ⟨rfl, rfl, rfl, rfl, rfl⟩ (by walk_at "m tab")) (EvBAll.cons (sid _ _).toB EvBAll.nil) (.lenL _ (by rw [nums_len]; omega))) (by rw [nums_len])).toB Ev.int.toB ⟨rfl, rfl, rfl⟩ (by omega) (by omega) (.inl rfl) ?_)
          (by show formOk (fnScope (stm 70)) _ ["worth", "side", "k"] = true; decide +kernel) (Cap.name (mem_there mem_here) (Cap.name (mem_there (mem_there (mem_there (mem_there (mem_there mem_here))))) (Cap.var Cap.nil))) (by simp [rangeL, sizeLine]; omega) (fun cl C fr' d hd => ?_)) (o' := .lst (nums (wprods st.1 side))) ?_)).toB EvBAll.nil) (.sum _ ⟨?_, by omega⟩)) (Asg.subI (mem_there mem_here) (sym _ _) f1 (by rw [putI_dtab g1]; exact (.there .here)))) ?_
      · unfold Builtin.Range.rangeSize
        rw [if_pos (by omega)]
        split <;> omega
      · obtain ⟨k, hk, rfl⟩ : ∃ k : Nat, k < side.length / 2 ∧ d = .int ((2 * k : Nat) : Int) := by
          obtain ⟨k, hk⟩ := List.mem_iff_getElem?.mp hd
          obtain ⟨a, b⟩ := rangeL_get hk
          exact ⟨k, a, by rw [b]; congr 1; push_cast; omega⟩
        have gk := g6
        rw [List.all_eq_true] at gk
        have gk := gk k (List.mem_range.mpr hk)
        obtain ⟨v, hv, v0, b0⟩ : ∃ v, lk st.1 (side.getD (2 * k) 0) = some v ∧ (0 ≤ v ∧ v < 2 ^ 50) ∧ (0 ≤ side.getD (2 * k + 1) 0 ∧ side.getD (2 * k + 1) 0 < 1000) := by
          split at gk
          · rename_i v hv
            rw [Bool.and_eq_true, decide_eq_true_eq, decide_eq_true_eq] at gk
            exact ⟨v, hv, gk⟩
          · cases gk
        have e1 : (nums side)[(((2 * k : Nat) : Int)).toNat]? = some (.int (side.getD (2 * k) 0)) := nums_get (by omega)
        have e2 : (nums side)[(((2 * k : Nat) : Int) + 1).toNat]? = some (.int (side.getD (2 * k + 1) 0)) := by
          rw [show (((2 * k : Nat) : Int) + 1).toNat = 2 * k + 1 by omega]; exact nums_get (by omega)
        refine ⟨[("worth", .own (.idict (dtab st.1))), ("side", .dat (.lst (nums side))), ("k", .dat (.int ((2 * k : Nat) : Int)))], AsgC.name (.there (.there .here)), Ifs.nil, fun y hy => ?_, .keep (.keep (.drop .nil))⟩
        have hy' : y = .int (v * side.getD (2 * k + 1) 0) := by
          simp only [Int.toNat_natCast, hv, Option.getD_some, Option.some.injEq] at hy
          exact hy.symm
        subst hy'
        exact Ev.bin (Ev.sub (EvB.idict mem_here) (Ev.sub (Ev.name (mem_there mem_here)).toB (Ev.name (mem_there (mem_there mem_here))).toB (.lst _ _ _ (by omega) e1)).toB (.idict _ _ _ (by rw [look_dtab, hv]; rfl))).toB
          (Ev.sub (Ev.name (mem_there mem_here)).toB (Ev.bin (Ev.name (mem_there (mem_there mem_here))).toB Ev.int.toB (.addI _ _)).toB (.lst _ _ _ (by omega) e2)).toB (.mulI _ _ (IntMulOk.of_right (bits_small (by omega))))
      · congr 1
        simp only [rangeL, wprods, nums, List.filterMap_map, List.map_map]
        rw [← List.filterMap_eq_map]
        congr 1
        funext k
        simp only [Function.comp, Int.zero_add]
        have : ((k : Int) * 2).toNat = 2 * k := by omega
        rw [this]
      · intro x hx
        unfold wprods at hx
        obtain ⟨k, hk, rfl⟩ := List.mem_map.mp hx
        have gk := g6
        rw [List.all_eq_true] at gk
        have gk := gk k hk
        split at gk
        · rename_i v hv
          rw [Bool.and_eq_true, decide_eq_true_eq, decide_eq_true_eq] at gk
          rw [hv]
          exact Int.mul_nonneg gk.1.1 gk.2.1
        · cases gk
      refine Exs.cons (ρ₁ := SW sd (st.1 ++ [((256 : Int) + p, (wprods st.1 side).sum)], st.2.1 ++ [((256 : Int) + p, z + 1)], st.2.2) (.dat (.int (256 + (p : Int)))) (.dat (.lst (nums side))))
        (Ex.assignS (Ev.bin (Ev.sub (EvB.idict (mem_there (mem_there mem_here))) (Ev.sub (sid _ _).toB Ev.int.toB (.lst _ _ _ (by omega) e0)).toB (.idict _ _ _ (by rw [look_dtab, hz]; rfl))).toB Ev.int.toB (.addI _ _)) (Asg.subI (mem_there (mem_there mem_here)) (sym _ _) f2 (by rw [putI_dtab g2]; exact (.there (.there .here))))) ?_
      have hz' : lk (st.2.1 ++ [((256 : Int) + p, z + 1)]) (256 + p) = some (z + 1) := lk_new g2
      exact Exs.cons (Ex.assignS (Ev.bin (Ev.sub (EvB.idict (mem_there (mem_there (mem_there mem_here)))) (Ev.sub (sid _ _).toB Ev.int.toB (.lst _ _ _ (by omega) e0)).toB (.idict _ _ _ (by rw [look_dtab, ht]; rfl))).toB (Ev.sub (EvB.idict (mem_there (mem_there mem_here))) (sym _ _) (.idict _ _ _ (by rw [look_dtab, hz']; rfl))).toB (.mulI _ _ (IntMulOk.of_right (bits_small (by omega))))) (Asg.subI (mem_there (mem_there (mem_there mem_here))) (sym _ _) f3 (by rw [putI_dtab g3]; exact (.there (.there (.there .here)))))) Exs.nil
  · have e : (rangeL (255 + (sd.length : Int)) (-1) sd.length).length = sd.length := by simp [rangeL]
    rw [e]
    refine Rt.freeze (ρ₁ := [("sides", .dat (.idict (dsides sd))), ("worth", .dat (.idict (dtab (wst sd sd.length).1))), ("sizes", .own (.idict (dtab (wst sd sd.length).2.1))), ("times", .own (.idict (dtab (wst sd sd.length).2.2))), ("symbol", .unset), ("side", .unset)]) (x := "worth") (d' := .idict (dtab (wst sd sd.length).1)) (mem_there mem_here) (.there .here) rfl ?_
    refine Rt.freeze (ρ₁ := [("sides", .dat (.idict (dsides sd))), ("worth", .dat (.idict (dtab (wst sd sd.length).1))), ("sizes", .own (.idict (dtab (wst sd sd.length).2.1))), ("times", .dat (.idict (dtab (wst sd sd.length).2.2))), ("symbol", .unset), ("side", .unset)]) (x := "times") (d' := .idict (dtab (wst sd sd.length).2.2)) (mem_there (mem_there (mem_there mem_here))) (.there (.there (.there .here))) rfl ?_
    exact Rt.ret (Ev.tuple (EvAll.cons (Ev.name (mem_there mem_here)) (EvAll.cons (Ev.name (mem_there (mem_there (mem_there mem_here)))) EvAll.nil)))
end
end Mine

namespace Mine
open PySem

section
open PyProof.Rows
variable {prog : Program} {w : World} {A : Around} {E : Value → Shared → Prop} {s : Shared}
theorem adjust_to (j n : Nat) : Builtin.Slice.sliceAdjust none (some (j : Int)) 1 (n : Int) = (0, ((min j n : Nat) : Int)) := by
  unfold Builtin.Slice.sliceAdjust
  have h1 : ¬ ((1 : Int) < 0) := by omega
  have h2 : ¬ ((j : Int) < 0) := by omega
  simp only [h1, h2, if_false]
  congr 1
  omega
theorem places_to (k : Nat) : Builtin.Slice.slicePlaces 0 (k : Int) 1 = k := by
  unfold Builtin.Slice.slicePlaces
  have h1 : (1 : Int) > 0 := by omega
  simp only [h1, if_true, Int.ediv_one]
  split <;> omega
theorem sliceApplied_to {sl : Addr} {j n : Nat} {u : Tok} {Q : Int × Int × Nat → Shared → Prop} (hs : s.heap.IsSliceOf sl .none (.int j u) .none) (h : Q (0, 1, min j n) s) :
    wpAny (model prog w) A (Builtin.Slice.sliceApplied (.ref sl) (pure (n : Int))) Q E s := by
  obtain ⟨os, hos, hcs, hds⟩ := id hs
  unfold Builtin.Slice.sliceApplied Builtin.Slice.sliceFields
  refine wpAny_bind (wpAny_bind (wpAny_field hos hds (x := .none) rfl (wpAny_bind (wpAny_field hos hds (x := .int j u) rfl (wpAny_bind (wpAny_field hos hds (x := .none) rfl (wpAny_pure ?_)))))))
  refine wpAny_bind (slicePart_none ?_)
  show wpAny _ _ (if ((1 : Int) == 0) = true then _ else _) _ _ s
  rw [if_neg (by decide)]
  refine wpAny_bind (slicePart_none (wpAny_bind (slicePart_int (wpAny_bind (wpAny_pure ?_)))))
  show wpAny _ _ (match Builtin.Slice.sliceAdjust none (some (j : Int)) 1 (n : Int) with | (lo, hi) => pure (lo, (1 : Int), Builtin.Slice.slicePlaces lo hi 1)) _ _ s
  rw [adjust_to j n]
  show wpAny _ _ (pure ((0 : Int), (1 : Int), Builtin.Slice.slicePlaces 0 ((min j n : Nat) : Int) 1)) _ _ s
  rw [places_to]
  exact wpAny_pure h
theorem pick_to (xs : Array Value) (k : Nat) : ((List.range k).filterMap fun (i : Nat) => xs[((0 : Int) + (i : Int) * 1).toNat]?).toArray = (xs.toList.take k).toArray := by
  have e : (fun (i : Nat) => xs[((0 : Int) + (i : Int) * 1).toNat]?) = fun i => xs[0 + i]? := by
    funext i
    have : ((0 : Int) + (i : Int) * 1).toNat = 0 + i := by omega
    rw [this]
  rw [e]
  have := pick_run xs 0 k
  rw [List.filterMap_map] at this
  have e2 : ((fun x => xs[x]?) ∘ fun x => 0 + x) = fun k => xs[0 + k]? := rfl
  rw [e2] at this
  rw [this, List.drop_zero]

theorem getItem_tuple_to {t sl : Addr} {items : Array Value} {j : Nat} {u : Tok} {Q : Value → Shared → Prop} (ht : s.heap.IsTuple t items) (hs : s.heap.IsSliceOf sl .none (.int j u) .none)
    (h : Q (.ref s.heap.objs.size) { s with heap := s.heap.push { cls := .type "tuple", data := .seq (items.toList.take (min j items.size)).toArray } }) (h' : items.size ≤ j → Q (.ref t) s)
    (hsz : items.size ≤ sizeLine) : wpAny (model prog w) A (getItem (.ref t) (.ref sl)) Q E s := by
  have hdrop : sizeOk (.seq (items.toList.take (min j items.size)).toArray) := by
    show (items.toList.take (min j items.size)).toArray.size ≤ sizeLine
    rw [List.size_toArray, List.length_take, Array.length_toList]
    omega
  obtain ⟨os, hos, hcs, hds⟩ := id hs
  have hTs : s.TypeIs (.ref sl) "slice" := ⟨os, hos, hcs⟩
  unfold getItem
  try with_reducible refine wpAny_holding ?_
  first | refine wpAny_bind (wpAny_pure ?_) | skip
  refine wpAny_bind (wpAny_sequenceKey ht.typeIs (by decide) ?_)
  refine wpAny_bind (wpAny_callSpecial?_slot (name := Str.ofString "__getitem__") ht.typeIs slot_tuple_getitem
    (wpAny_call_entry slot_tuple_getitem ht.typeIs entry_tuple_getitem ?_ (args_tuple_getitem _ _)))
  show wpAny _ _ (Builtin.Tuple.tupleItemsOf (.ref t) >>= _) _ _ s
  refine wpAny_bind (tupleItemsOf_ ht ?_)
  refine wpAny_bind (wpAny_typeOf hTs ?_)
  rw [if_pos (by decide)]
  refine wpAny_bind (sliceApplied_to hs ?_)
  by_cases hj : items.size ≤ j
  · show wpAny _ _ (if ((0 : Int) == 0 && (1 : Int) == 1 && (min j items.size) == items.size) = true then _ else _) _ _ s
    rw [if_pos (by simp; omega)]
    have hTt : s.TypeIs (.ref t) "tuple" := ht.typeIs
    refine wpAny_bind ?_
    unfold Builtin.Tuple.tupleIsExact
    refine wpAny_bind (wpAny_typeOf hTt (wpAny_pure ?_))
    rw [if_pos (by decide)]
    exact wpAny_bind (wpAny_rule (wpAny_pure ⟨_, rfl, wpAny_pure (h' hj)⟩))
  · have hno : ¬ (((0 : Int) == 0 && (1 : Int) == 1 && (min j items.size) == items.size) = true) := by simp; omega
    show wpAny _ _ (if ((0 : Int) == 0 && (1 : Int) == 1 && (min j items.size) == items.size) = true then _ else _) _ _ s
    rw [if_neg hno, pick_to items]
    first
      | exact wpAny_bind (m := Builtin.Tuple.tupleExact _) (wpAny_newObj_type (wpAny_pure ⟨_, rfl, wpAny_pure h⟩) hdrop)
      | exact wpAny_bind (m := Builtin.Tuple.tupleExact _) (wpAny_newObj_type (wpAny_bind (wpAny_pure (wpAny_pure ⟨_, rfl, wpAny_pure h⟩))) hdrop)
      | exact wpAny_bind (wpAny_bind (m := Builtin.Tuple.tupleExact _) (wpAny_newObj_type (wpAny_pure (wpAny_pure ⟨_, rfl, wpAny_pure h⟩)) hdrop))
      | exact wpAny_bind (wpAny_bind (m := Builtin.Tuple.tupleExact _) (wpAny_newObj_type (wpAny_pure ⟨_, rfl, wpAny_pure h⟩) hdrop))
end

section
variable {prog : Program} {w : World} {g₀ g : Heap} {n : Nat} {env cenv : Env} {ρ ρ₁ ρ₂ ρ' ρc : Store} {mg mb : Str → Option Value} {fl : Fl}

theorem Ev.cutT {o e : Expr} {p q : Pos} {ds : List D} {j : Nat} (ho : Ev prog w g₀ n env ρ o (.tup ds)) (he : EvB prog w g₀ n env ρ e (.int j)) (hs : ds.length ≤ sizeLine) :
    Ev prog w g₀ n env ρ (.Subscript o (.Slice none (some e) none p) q) (.tup (ds.take j)) := fun A E Z vm s hA hS => by
  refine PyProof.Rows.Subscript_ (wpAny_mono (ho A E Z vm s hA hS) (fun u s₁ h₁ => wpAny_Slice (wpAny_pure (wpAny_mono (he A E Z vm s₁ hA (hS.keep h₁.1)) (fun v' s₃ h₃ => ?_) fun _ _ e => e))) fun _ _ e => e)
  obtain ⟨t, rfl⟩ := h₃.2.int_inv
  have hS₃ := hS.keep (h₁.1.trans h₃.1)
  have k := (h₁.1.trans h₃.1).trans (Kp.push s₃ { cls := .type "slice", data := .fields #[.none, .int j t, .none] } s₃.toks)
  have hS₄ := hS.keep k
  obtain ⟨a, vs, rfl, l, r⟩ := (RdB.free (h₁.2.keep h₃.1.up)).tup_inv
  have rt := h₁.2.keep h₃.1.up
  rw [evalPart_none]
  refine wpAny_pure ?_
  have len := r.length
  simp only [Array.length_toList] at len
  have up : ∀ b o, s₃.heap.get? b = some o → (s₃.heap.push { cls := .type "slice", data := .fields #[.none, .int j t, .none] }).get? b = some o := fun b o e => Heap.get?_push_of_some _ e
  refine PyProof.Rows.tail_any (l.push _).typeIs PyProof.Rows.slot_tuple_getitem.lookup (getItem_tuple_to (l.push _) (Heap.IsSliceOf.new ..) ⟨k.trans (Kp.push _ _ _), ?_⟩ (fun hj => ⟨k, ?_⟩) (by omega)) subscripted_slice
  · have r' : RdAll prog w Z (s₃.heap.push { cls := .type "slice", data := .fields #[.none, .int j t, .none] }) (vs.toList.take (min j vs.size)) (ds.take j) := by
      have e : ds.take j = ds.take (min j vs.size) := by
        rw [len]
        by_cases h : j ≤ ds.length
        · rw [Nat.min_eq_left h]
        · rw [Nat.min_eq_right (by omega), List.take_of_length_le (by omega), List.take_of_length_le (Nat.le_refl _)]
      rw [e]
      exact (r.take _).keep up
    exact isTuple_new (s := { s₃ with heap := s₃.heap.push { cls := .type "slice", data := .fields #[.none, .int j t, .none] } }) r' hS₄.alive
  · rw [List.take_of_length_le (by omega)]
    exact rt.keep up

/-! ### _law_along -/
abbrev Steps := List (List (Nat × Nat))
def aug (ws : List Int) (q : Nat × Nat) : List Int := ws.set q.1 (ws.getD q.1 0 + ws.getD q.2 0)
def gapRun (steps : Steps) (ws : List Int) (g : Nat) : List Int := (steps.getD g []).foldl aug ws
def turnRun (steps : Steps) (k : Nat) (ws : List Int) : List Int := (([2, 1, 0] : List Nat).take k).foldl (gapRun steps) ws
def along (steps : Steps) (size rounds : Nat) (t : Nat) : List Int := (List.range t).foldl (fun ws t => turnRun steps (rounds + 2 - t) ws) (List.replicate (size - 1) 0 ++ [1])
def dpairs (l : List (Nat × Nat)) : List D := l.map fun q => .tup [.int q.1, .int q.2]
def dsteps (s : Steps) : List D := s.map fun l => .lst (dpairs l)

theorem foldl_take {α β : Type} {f : β → α → β} {b : β} {l : List α} {i : Nat} {a : α} (h : l[i]? = some a) : (l.take (i + 1)).foldl f b = f ((l.take i).foldl f b) a := by
  rw [List.take_add_one, h, List.foldl_append]; rfl
theorem foldl_inv {α β : Type} {f : β → α → β} {P : β → Prop} : ∀ {l : List α} {b : β}, P b → (∀ b a, P b → P (f b a)) → P (l.foldl f b)
  | [], _, h, _ => h
  | a :: l, b, h, k => foldl_inv (l := l) (k b a h) k
theorem aug_len {ws : List Int} {q : Nat × Nat} : (aug ws q).length = ws.length := by simp [aug]
theorem gapRun_len {steps : Steps} {ws : List Int} {g m : Nat} (h : ws.length = m) : (gapRun steps ws g).length = m :=
  foldl_inv (P := fun ws : List Int => ws.length = m) h fun b a hb => aug_len.trans hb
theorem turnRun_len {steps : Steps} {ws : List Int} {k m : Nat} (h : ws.length = m) : (turnRun steps k ws).length = m :=
  foldl_inv (P := fun ws : List Int => ws.length = m) h fun b a hb => gapRun_len hb
theorem along_len {steps : Steps} {size rounds t : Nat} (h : 1 ≤ size) : (along steps size rounds t).length = size :=
  foldl_inv (P := fun ws : List Int => ws.length = size) (by simp; omega) fun b a hb => turnRun_len hb

theorem filterMap_const {α β : Type} {b : β} : ∀ {l : List α}, (l.filterMap fun _ => some b) = List.replicate l.length b
  | [] => rfl
  | _ :: l => by show b :: (l.filterMap fun _ => some b) = _; rw [filterMap_const, List.length_cons, List.replicate_succ]

def SA (steps : Steps) (size rounds : Nat) (ws : List Int) (s1 s2 s3 s4 : Slot) : Store :=
  [("steps", .dat (.lst (dsteps steps))), ("size", .dat (.int size)), ("rounds", .dat (.int rounds)), ("ways", .own (.lst (nums ws))), ("turn", s1), ("gap", s2), ("place", s3), ("less", s4)]

theorem along_ok (T : TopF g₀ mg mb) (steps : Steps) (size rounds : Nat) (h3 : steps.length = 3) (hsz : 1 ≤ size ∧ size ≤ 1000) (hin : ∀ l ∈ steps, ∀ q ∈ l, q.1 < size ∧ q.2 < size) (hr : rounds ≤ 1000) :
    FnOk prog w g₀ 1 (fv mg "_law_along") [.lst (dsteps steps), .int size, .int rounds] (.lst (nums (along steps size rounds (rounds + 2)))) := by
  refine FnOk.at (i := 71) (ps := ["steps", "size", "rounds"]) (rest := ["ways", "turn", "gap", "place", "less"]) T (by walk_at "m tab") rfl (fun pm code doc => bind3 fun v u t => by rfl) (by decide +kernel) fun N a pm code doc fr => ?_
  show Rt prog w g₀ 0 _ [("steps", .dat (.lst (dsteps steps))), ("size", .dat (.int size)), ("rounds", .dat (.int rounds)), ("ways", .unset), ("turn", .unset), ("gap", .unset), ("place", .unset), ("less", .unset)] _ _
  refine Rt.cons (ρ₁ := SA steps size rounds (along steps size rounds 0) .unset .unset .unset .unset) (Ex.assign (EvO.toS (EvO.cast (EvO.addL (EvO.lst (EvO.comp1 (fun _ => some (.int 0)) [("k", .unset)] fr
    (EvI.range1 (b := (size : Int) - 1) (Ev.ty T ⟨rfl, rfl, rfl, rfl, rfl⟩ (by walk_at "m tab")) (Ev.bin (Ev.name (mem_there mem_here)).toB Ev.int.toB (.subI _ _)).toB rfl (by omega))
    (by show formOk (fnScope (stm 71)) _ ["k"] = true; decide +kernel) (Cap.var Cap.nil) (by simp [rangeL, sizeLine]; omega) (fun cl C fr' d hd => ⟨[("k", .dat d)], AsgC.name .here, Ifs.nil, fun y hy => ?_, .drop .nil⟩))).toB (EvO.lst (EvO.list (EvAll.cons Ev.int EvAll.nil))).toB ?_) (o' := .lst (nums (along steps size rounds 0))) ?_)) (.there (.there (.there .here)))) ?_
  · cases hy; exact Ev.int
  · rw [filterMap_const, List.length_replicate]
    simp only [List.length_map, rangeL, List.length_range, List.length_cons, List.length_nil, sizeLine]
    omega
  · rw [filterMap_const]
    simp only [rangeL, List.length_map, List.length_range, along, List.range_zero, List.foldl_nil, nums, List.map_append, List.map_replicate, List.map_cons, List.map_nil]
    rw [show ((size : Int) - 1).toNat = size - 1 by omega]
  refine Rt.cons (ρ₁ := SA steps size rounds (along steps size rounds (rangeL 0 1 ((rounds : Int) + 2).toNat).length) .unset .unset .unset .unset) (Ex.for (fun t => SA steps size rounds (along steps size rounds t) .unset .unset .unset .unset)
    (EvI.range1 (b := (rounds : Int) + 2) (Ev.ty T ⟨rfl, rfl, rfl, rfl, rfl⟩ (by walk_at "m tab")) (Ev.bin (Ev.name (mem_there (mem_there mem_here))).toB Ev.int.toB (.addI _ _)).toB rfl (by omega)) fun t d hd => ?_) ?_
  · obtain ⟨ht, rfl⟩ := range01_get hd
    have ht : t < rounds + 2 := by omega
    have hw : (along steps size rounds t).length = size := along_len hsz.1
    have es : along steps size rounds (t + 1) = turnRun steps (rounds + 2 - t) (along steps size rounds t) := by unfold along; rw [List.range_succ, List.foldl_append]; rfl
    rw [es]
    generalize along steps size rounds t = ws at *
    refine ⟨SA steps size rounds ws (.dat (.int t)) .unset .unset .unset, SA steps size rounds (turnRun steps (rounds + 2 - t) ws) (.dat (.int t)) .unset .unset .unset, Asg.name (.there (.there (.there (.there .here)))), ?_, .keep (.keep (.keep (.keep (.drop (.keep (.keep (.keep .nil)))))))⟩
    have hcast : D.tup (List.take (rounds + 2 - t) [D.int 2, D.int 1, D.int 0]) = .tup ((([2, 1, 0] : List Nat).take (rounds + 2 - t)).map fun k : Nat => D.int k) := by
      rw [List.map_take]; rfl
    have hsub : ((rounds : Int) + 2 - (t : Int)) = ((rounds + 2 - t : Nat) : Int) := by omega
    have hlen : ((([2, 1, 0] : List Nat).take (rounds + 2 - t)).map fun k : Nat => D.int k).length = (([2, 1, 0] : List Nat).take (rounds + 2 - t)).length := by rw [List.length_map]
    unfold turnRun
    have hin2 : ∀ k ∈ ([2, 1, 0] : List Nat).take (rounds + 2 - t), k < 3 := fun k hk => by
      have := List.mem_of_mem_take hk
      simp at this; omega
    generalize hks : ([2, 1, 0] : List Nat).take (rounds + 2 - t) = ks at *
    have hfin : ks.foldl (gapRun steps) ws = (ks.take (ks.map fun k : Nat => D.int k).length).foldl (gapRun steps) ws := by rw [hlen, List.take_of_length_le (Nat.le_refl _)]
    rw [hfin]
    refine Exs.cons (Ex.for (fun i => SA steps size rounds ((ks.take i).foldl (gapRun steps) ws) (.dat (.int t)) .unset .unset .unset)
      (EvI.tup (Ev.cast (Ev.cutT (Ev.tuple (EvAll.cons Ev.int (EvAll.cons Ev.int (EvAll.cons Ev.int EvAll.nil)))) (hsub ▸ (Ev.bin (Ev.bin (Ev.name (mem_there (mem_there mem_here))).toB Ev.int.toB (.addI _ _)).toB (Ev.name (mem_there (mem_there (mem_there (mem_there mem_here))))).toB (.subI _ _)).toB) (by simp [sizeLine])) hcast)) fun i d hd => ?_) Exs.nil
    obtain ⟨k, hk, rfl⟩ : ∃ k, ks[i]? = some k ∧ d = .int (k : Nat) := by
      simp only [List.getElem?_map, Option.map_eq_some_iff] at hd
      obtain ⟨k, h1, rfl⟩ := hd
      exact ⟨k, h1, rfl⟩
    have hk3 := hin2 k (List.mem_of_getElem? hk)
    rw [foldl_take hk]
    have hw2 : ((ks.take i).foldl (gapRun steps) ws).length = size := foldl_inv (P := fun ws : List Int => ws.length = size) hw fun b a hb => gapRun_len hb
    generalize (ks.take i).foldl (gapRun steps) ws = ws at *
    refine ⟨SA steps size rounds ws (.dat (.int t)) (.dat (.int k)) .unset .unset, SA steps size rounds (gapRun steps ws k) (.dat (.int t)) (.dat (.int k)) .unset .unset, Asg.name (.there (.there (.there (.there (.there .here))))), ?_, .keep (.keep (.keep (.keep (.keep (.drop (.keep (.keep .nil)))))))⟩
    have hkl : (dsteps steps)[((k : Nat) : Int).toNat]? = some (.lst (dpairs (steps.getD k []))) := by
      have : k < steps.length := by omega
      simp [dsteps, this]
    have hin3 : ∀ q ∈ steps.getD k [], q.1 < size ∧ q.2 < size := by
      have : steps.getD k [] = steps[k] := by simp [show k < steps.length by omega]
      rw [this]; exact hin _ (List.getElem_mem _)
    unfold gapRun
    generalize steps.getD k [] = l at *
    have hfin2 : l.foldl aug ws = (l.take (dpairs l).length).foldl aug ws := by rw [show (dpairs l).length = l.length by simp [dpairs], List.take_of_length_le (Nat.le_refl _)]
    rw [hfin2]
    refine Exs.cons (Ex.for (fun i => SA steps size rounds ((l.take i).foldl aug ws) (.dat (.int t)) (.dat (.int k)) .unset .unset)
      (EvI.list (Ev.sub (Ev.name mem_here).toB (Ev.name (mem_there (mem_there (mem_there (mem_there (mem_there mem_here)))))).toB (.lst _ _ _ (by omega) hkl)) (.pair _ _ _ _ fun d hd => by
        obtain ⟨q, _, rfl⟩ := List.mem_map.mp hd; exact ⟨_, rfl⟩)) fun i d hd => ?_) Exs.nil
    obtain ⟨q, hq, rfl⟩ : ∃ q, l[i]? = some q ∧ d = .tup [.int q.1, .int q.2] := by
      simp only [dpairs, List.getElem?_map, Option.map_eq_some_iff] at hd
      obtain ⟨k, h1, rfl⟩ := hd
      exact ⟨k, h1, rfl⟩
    obtain ⟨q1, q2⟩ := hin3 q (List.mem_of_getElem? hq)
    rw [foldl_take hq]
    have hw3 : ((l.take i).foldl aug ws).length = size := foldl_inv (P := fun ws : List Int => ws.length = size) hw2 fun b a hb => aug_len.trans hb
    generalize (l.take i).foldl aug ws = ws at *
    refine ⟨SA steps size rounds ws (.dat (.int t)) (.dat (.int k)) (.dat (.int q.1)) (.dat (.int q.2)), SA steps size rounds (aug ws q) (.dat (.int t)) (.dat (.int k)) (.dat (.int q.1)) (.dat (.int q.2)), Asg.tup (AsgAll.cons (ρ₁ := SA steps size rounds ws (.dat (.int t)) (.dat (.int k)) (.dat (.int q.1)) .unset) (Asg.name (.there (.there (.there (.there (.there (.there .here))))))) (AsgAll.cons (Asg.name (.there (.there (.there (.there (.there (.there (.there .here)))))))) .nil)), ?_,
      .keep (.keep (.keep (.keep (.keep (.keep (.drop (.drop .nil)))))))⟩
    have e1 : ws[((q.1 : Nat) : Int).toNat]? = some (ws.getD q.1 0) := by simp [show q.1 < ws.length by omega]
    have e2 : (nums ws)[((q.2 : Nat) : Int).toNat]? = some (.int (ws.getD q.2 0)) := nums_get (by simp; omega)
    exact Exs.cons (Ex.augL (mem_there (mem_there (mem_there mem_here))) (Ev.name (mem_there (mem_there (mem_there (mem_there (mem_there (mem_there mem_here))))))).toB (Ev.sub (EvB.lst (mem_there (mem_there (mem_there mem_here)))) (Ev.name (mem_there (mem_there (mem_there (mem_there (mem_there (mem_there (mem_there mem_here)))))))).toB (.lst _ _ _ (by omega) e2)).toB (by omega) e1 (.there (.there (.there .here)))) Exs.nil
  · have e : (rangeL 0 1 ((rounds : Int) + 2).toNat).length = rounds + 2 := by simp [rangeL]; omega
    rw [e]
    exact Rt.freeze (ρ₁ := [("steps", .dat (.lst (dsteps steps))), ("size", .dat (.int size)), ("rounds", .dat (.int rounds)), ("ways", .dat (.lst (nums (along steps size rounds (rounds + 2))))), ("turn", .unset), ("gap", .unset), ("place", .unset), ("less", .unset)])
      (x := "ways") (d' := .lst (nums (along steps size rounds (rounds + 2)))) (mem_there (mem_there (mem_there mem_here))) (.there (.there (.there .here))) rfl (Rt.ret (Ev.name (mem_there (mem_there (mem_there mem_here)))))
end
end Mine

namespace Mine
open PySem

/-! ### law: its names -/
set_option genInjectivity false in
set_option genSizeOf false in
structure LS where
  script : Slot := .unset
  cells : Slot := .unset
  place : Slot := .unset
  x : Slot := .unset
  first : Slot := .unset
  all_names : Slot := .unset
  names : Slot := .unset
  numbers : Slot := .unset
  goal : Slot := .unset
  sides : Slot := .unset
  part : Slot := .unset
  symbol : Slot := .unset
  gaps : Slot := .unset
  write : Slot := .unset
  table : Slot := .unset
  marks : Slot := .unset
  outer : Slot := .unset
  inner : Slot := .unset
  text : Slot := .unset
  page : Slot := .unset
  letters : Slot := .unset
  steps : Slot := .unset
  told : Slot := .unset
  due : Slot := .unset
  line : Slot := .unset
  k : Slot := .unset
  piece : Slot := .unset
  gap : Slot := .unset
  worth : Slot := .unset
  times : Slot := .unset
  ways : Slot := .unset
  letter : Slot := .unset
  spelled : Slot := .unset
  lone : Slot := .unset
  one : Slot := .unset
  other : Slot := .unset

def LS.st (s : LS) : Store := [(("script" : Str), s.script), (("cells" : Str), s.cells), (("place" : Str), s.place), (("x" : Str), s.x), (("first" : Str), s.first), (("all_names" : Str), s.all_names), (("names" : Str), s.names), (("numbers" : Str), s.numbers), (("goal" : Str), s.goal), (("sides" : Str), s.sides), (("part" : Str), s.part), (("symbol" : Str), s.symbol), (("gaps" : Str), s.gaps), (("write" : Str), s.write), (("table" : Str), s.table), (("marks" : Str), s.marks), (("outer" : Str), s.outer), (("inner" : Str), s.inner), (("text" : Str), s.text), (("page" : Str), s.page), (("letters" : Str), s.letters), (("steps" : Str), s.steps), (("told" : Str), s.told), (("due" : Str), s.due), (("line" : Str), s.line), (("k" : Str), s.k), (("piece" : Str), s.piece), (("gap" : Str), s.gap), (("worth" : Str), s.worth), (("times" : Str), s.times), (("ways" : Str), s.ways), (("letter" : Str), s.letter), (("spelled" : Str), s.spelled), (("lone" : Str), s.lone), (("one" : Str), s.one), (("other" : Str), s.other)]

noncomputable def lawSt (k : Nat) : Stmt := ((fnBody (stm 72))[k]?).getD (.Pass ⟨0, 0, 0, 0⟩)

/-- a frame of law -/
structure LawEnv (env : Env) : Prop extends Fr0 env where
  scope : env.scope = fnScope (stm 72)

section
variable {prog : Program} {w : World} {g₀ g : Heap} {n : Nat} {env cenv : Env} {ρ ρ₁ ρ₂ ρ' ρc : Store} {mg mb : Str → Option Value} {fl : Fl}

/-! the cells -/
def cellStep (c : List Int) (q : Nat × Int) : List Int := c.set (q.1 % 3) (c.getD (q.1 % 3) 0 + q.2.fmod 1000000)
def cellsOf (xs : List Int) (i : Nat) : List Int := ((xs.take i).zipIdx.map fun q => (q.2, q.1)).foldl cellStep [13, 993, 11]
theorem cellsOf_succ {xs : List Int} {i : Nat} {x : Int} (h : xs[i]? = some x) : cellsOf xs (i + 1) = cellStep (cellsOf xs i) (i, x) := by
  unfold cellsOf
  have hlt := (List.getElem?_eq_some_iff.mp h).1
  rw [List.take_add_one, h]
  simp only [Option.toList_some, List.zipIdx_append, List.map_append, List.foldl_append, List.length_take, List.zipIdx_cons, List.zipIdx_nil, List.map_cons, List.map_nil, List.foldl_cons, List.foldl_nil]
  rw [show 0 + min i xs.length = i by omega]
theorem cellsOf_len {xs : List Int} {i : Nat} : (cellsOf xs i).length = 3 := by
  unfold cellsOf
  exact foldl_inv (P := fun c : List Int => c.length = 3) rfl fun b a hb => by simp [cellStep, hb]

theorem kd_law {x : Str} (h : env.scope = fnScope (stm 72)) (fr : Fr0 env) (hk : (fnScope (stm 72)).names.lookup x = some .globalImplicit) (hd : (x == ("__debug__" : Str)) = false) : Kd env x :=
  ⟨by unfold Env.kindOf; rw [h]; exact hk, fr.globals, fr.builtins, by rw [h]; rfl, hd⟩

theorem law0 (T : TopF g₀ mg mb) (e : LawEnv env) (S : LS) : Ex prog w g₀ n env S.st (lawSt 0) .next ({ S with cells := .own (.lst (nums (cellsOf [] 0))) } : LS).st := by
  show Ex prog w g₀ n env S.st (.Assign [.Name "cells" _] (.List _ _) _) .next _
  exact Ex.assign (EvO.toS (EvO.list (EvAll.cons Ev.int (EvAll.cons Ev.int (EvAll.cons Ev.int EvAll.nil))))) (.there .here)

theorem cut_to' {α : Type} {xs : List α} {j : Nat} : cutL xs none (some (j : Int)) = xs.take j := by
  unfold cutL
  have h : clipAt xs.length (j : Int) = min j xs.length := by unfold clipAt; omega
  simp only [Option.elim_some, Option.elim_none, List.drop_zero, Nat.sub_zero, h]
  by_cases hj : j ≤ xs.length
  · rw [Nat.min_eq_left hj]
  · rw [Nat.min_eq_right (by omega), List.take_of_length_le (by omega), List.take_of_length_le (by omega)]
theorem fmod_nat (i k : Nat) : ((i : Int)).fmod (k : Int) = ((i % k : Nat) : Int) := by
  rw [Int.fmod_eq_emod_of_nonneg _ (by omega)]; rfl
theorem fdiv_nat (i k : Nat) : ((i : Int)).fdiv (k : Int) = ((i / k : Nat) : Int) := by
  rw [Int.fdiv_eq_ediv_of_nonneg _ (by omega)]; rfl

theorem law1 (T : TopF g₀ mg mb) (e : LawEnv env) (S : LS) (xs : List Int) (hl : xs.length ≤ 1000) :
    Ex prog w g₀ n env ({ S with script := .dat (.lst (nums xs)), cells := .own (.lst (nums (cellsOf [] 0))), place := .unset, x := .unset } : LS).st (lawSt 1) .next
      ({ S with script := .dat (.lst (nums xs)), cells := .own (.lst (nums (cellsOf (xs.take 60) (xs.take 60).length))), place := .unset, x := .unset } : LS).st := by
  generalize hX : xs.take 60 = X
  have hXl : X.length ≤ 60 := by rw [← hX]; simp; omega
  have e60 : cutL (nums xs) none (some ((60 : Nat) : Int)) = nums X := by rw [cut_to', ← hX]; simp [nums, List.map_take]
  have hfin : cellsOf X X.length = cellsOf X (Mine.enumL (nums X)).length := by simp [enumL, nums]
  rw [hfin]
  have h0 : cellsOf [] 0 = cellsOf X 0 := rfl
  rw [h0]
  show Ex prog w g₀ n env _ (.For _ _ _ _ _) .next _
  refine Ex.for (fun i => LS.st { S with script := .dat (.lst (nums xs)), cells := .own (.lst (nums (cellsOf X i))), place := .unset, x := .unset }) (ds := Mine.enumL (nums X)) ?hI fun i d hd => ?_
  case hI => exact EvI.enumL (Ev.ty T (kd_law e.scope e.toFr0 rfl rfl) (by walk_at "m tab")) (Ev.cast (EvO.lst (EvO.cut (j := some ((60 : Nat) : Int)) (Ev.name mem_here).toB .no (.yes Ev.int.toB) (by rw [nums_len]; simp [sizeLine]; omega))) (by rw [e60]))
  obtain ⟨x, hx, rfl⟩ : ∃ x, X[i]? = some x ∧ d = .tup [.int i, .int x] := by
    simp only [Mine.enumL, nums, List.getElem?_mapIdx, List.getElem?_map, Option.map_map, Option.map_eq_some_iff] at hd
    obtain ⟨x, hx, rfl⟩ := hd
    exact ⟨x, hx, rfl⟩
  rw [cellsOf_succ hx]
  have len := cellsOf_len (xs := X) (i := i)
  generalize cellsOf X i = c at *
  refine ⟨LS.st { S with script := .dat (.lst (nums xs)), cells := .own (.lst (nums c)), place := .dat (.int i), x := .dat (.int x) }, LS.st { S with script := .dat (.lst (nums xs)), cells := .own (.lst (nums (cellStep c (i, x)))), place := .dat (.int i), x := .dat (.int x) },
    Asg.tup (AsgAll.cons (Asg.name (.there (.there .here))) (AsgAll.cons (Asg.name (.there (.there (.there .here)))) .nil)), ?_, ?_⟩
  · have e1 : c[(((i % 3 : Nat) : Int)).toNat]? = some (c.getD (i % 3) 0) := by
      have : i % 3 < c.length := by omega
      rw [Int.toNat_natCast]
      simp [this]
    have hpow : IntMulOk 1 1 := IntMulOk.of_left (by decide)
    refine Exs.cons (Ex.augL (mem_there mem_here) (k := ((i % 3 : Nat) : Int)) (Ev.cast (Ev.bin (Ev.name (mem_there (mem_there mem_here))).toB Ev.int.toB (.modI _ _ (by decide))) (by rw [show (3 : Int) = ((3 : Nat) : Int) from rfl, fmod_nat])).toB
      (Ev.bin (Ev.name (mem_there (mem_there (mem_there mem_here)))).toB (Ev.bin Ev.int.toB Ev.int.toB (.powI _ _ (by decide +kernel))).toB (.modI _ _ (by decide +kernel))).toB (by omega) e1 ?_) Exs.nil
    have : (10 : Int) ^ (6 : Int).toNat = 1000000 := by decide +kernel
    rw [this]
    exact (.there .here)
  · exact .keep (.keep (.drop (.drop (.keep Fg.refl))))
end
end Mine

namespace Mine
open PySem

/-! what the text itself holds -/
def constStr : Stmt → Str
  | .Assign _ (.Constant (.str s) _ _) _ => s
  | _ => ""
noncomputable def allNames : Str := constStr (lawSt 3)
def intAs (nm : Str) : Stmt → Option Int
  | .Assign [.Name x _] (.Constant (.int v) _ _) _ => if x == nm then some v else none
  | _ => none
noncomputable def intOf (nm : Str) : Int := (PySem.Challenge.pw_tc0019_01.main.body.findSome? (intAs nm)).getD 0
def dictAs : Stmt → List (Option Expr × Expr)
  | .Assign _ (.Dict ks vs _) _ => ks.zip vs
  | _ => []
def keyAs : Option Expr → Str
  | some (.Constant (.str s) _ _) => s
  | _ => ""
def nameAs : Expr → Str
  | .Name x _ => x
  | _ => ""
noncomputable def exactTab : List (Str × Int) := (dictAs (stm 51)).map fun q => (keyAs q.1, intOf (nameAs q.2))
noncomputable def exactD : List (Str × D) := exactTab.map fun q => (q.1, .int q.2)

def ExOk (prog : Program) (w : World) (g₀ : Heap) (mg : Str → Option Value) : Prop := ∃ v, mg "EXACT_TOKEN_TYPES" = some v ∧ Rd prog w [] g₀ v (.sdict exactD)

noncomputable def nm (f : Nat) : List Str := ((Txt.words allNames).drop f).take 3
def nbs (f : Nat) : List Int := [(f : Int) + 7, (f : Int) + 8, (f : Int) + 9]
def digits (b : Nat) : List Nat := (List.range 5).map fun k => b / 4 ^ k % 4
def gaps0 (b : Nat) : List Nat := (digits b).filter fun g => decide (g < 3)

theorem words_len : (Txt.words allNames).length = 48 := by decide +kernel
theorem look_exact {l : List (Str × Int)} {k : Str} : look (l.map fun q => (q.1, D.int q.2)) k = ((l.find? fun q => q.1 = k).map (·.2)).map .int := by
  unfold look
  induction l with
  | nil => rfl
  | cons q l ih =>
    rw [List.map_cons, List.find?_cons, List.find?_cons]
    by_cases h : q.1 = k
    · simp [h]
    · simp only [h, decide_false]; exact ih
theorem numbers_tab : ∀ f, f < 46 → (nm f).map (fun s => (exactTab.find? fun q => q.1 = s).map (·.2)) = (nbs f).map some := by
  decide +kernel
theorem numbers_eq {f : Nat} (hf : f < 46) : (nm f).map (fun s => look exactD s) = (nbs f).map fun v => some (D.int v) := by
  have h := congrArg (List.map (fun o : Option Int => o.map D.int)) (numbers_tab f hf)
  simp only [List.map_map] at h
  have e : (fun s => look exactD s) = (fun o : Option Int => o.map D.int) ∘ fun s => (exactTab.find? fun q => q.1 = s).map (·.2) := by
    funext s; exact look_exact
  rw [e, h]; rfl

section
variable {prog : Program} {w : World} {g₀ g : Heap} {n : Nat} {env cenv : Env} {ρ ρ₁ ρ₂ ρ' ρc : Store} {mg mb : Str → Option Value} {fl : Fl}

theorem law2 (T : TopF g₀ mg mb) (e : LawEnv env) (S : LS) (a b d : Nat) : Ex prog w g₀ n env ({ S with cells := .dat (.lst (nums [(a : Int), (b : Int), (d : Int)])) } : LS).st (lawSt 2) .next
    ({ S with cells := .dat (.lst (nums [(a : Int), (b : Int), (d : Int)])), first := .dat (.int ((a % 46 : Nat) : Int)) } : LS).st := by
  show Ex prog w g₀ n env _ (.Assign _ _ _) .next _
  exact Ex.assign (Ev.toS (Ev.cast (Ev.bin (Ev.sub (Ev.name (mem_there mem_here)).toB Ev.int.toB (SubR.lst (nums [(a : Int), (b : Int), (d : Int)]) 0 (.int a) (by omega) rfl)).toB Ev.int.toB (.modI _ _ (by decide))) (by rw [show (46 : Int) = ((46 : Nat) : Int) from rfl, fmod_nat]))) (.there (.there (.there (.there .here))))
theorem law3 (S : LS) : Ex prog w g₀ n env S.st (lawSt 3) .next ({ S with all_names := .dat (.str allNames) } : LS).st := by
  show Ex prog w g₀ n env _ (.Assign _ _ _) .next _
  exact Ex.assign (Ev.toS Ev.str) (.there (.there (.there (.there (.there .here)))))
theorem law4 (S : LS) (f : Nat) (hf : f < 46) : Ex prog w g₀ n env ({ S with first := .dat (.int f), all_names := .dat (.str allNames) } : LS).st (lawSt 4) .next
    ({ S with first := .dat (.int f), all_names := .dat (.str allNames), names := .dat (.lst (texts (nm f))) } : LS).st := by
  show Ex prog w g₀ n env _ (.Assign _ _ _) .next _
  have hcut : cutL (texts (Txt.words allNames)) (some (f : Int)) (some ((f : Int) + 3)) = texts (nm f) := by
    have hl : (texts (Txt.words allNames)).length = 48 := by rw [texts, List.length_map, words_len]
    unfold cutL
    have h1 : clipAt 48 (f : Int) = f := by unfold clipAt; omega
    have h2 : clipAt 48 ((f : Int) + 3) = f + 3 := by unfold clipAt; omega
    simp only [Option.elim_some, hl, h1, h2]
    rw [show f + 3 - f = 3 by omega]
    simp [nm, texts, List.map_take, List.map_drop]
  exact Ex.assign (Ev.toS (Ev.cast (EvO.lst (EvO.cut (EvO.lst (EvO.words ⟨rfl, rfl, by decide⟩ (Ev.name (mem_there (mem_there (mem_there (mem_there (mem_there mem_here)))))).toB (by decide +kernel))).toB (.yes (Ev.name (mem_there (mem_there (mem_there (mem_there mem_here))))).toB) (.yes (Ev.bin (Ev.name (mem_there (mem_there (mem_there (mem_there mem_here))))).toB Ev.int.toB (.addI _ _)).toB) (by rw [texts, List.length_map, words_len]; simp [sizeLine]))) (by rw [hcut]))) (.there (.there (.there (.there (.there (.there .here))))))

/-- law's frame -/
noncomputable abbrev lenv (pm code doc : Value) (N a : Addr) : Env := callEnvC (fdat 72 pm code doc) N a

variable {pm code doc : Value} {N a : Addr}

theorem law5 (T : TopF g₀ mg mb) (X : ExOk prog w g₀ mg) (fr : Fr0 (lenv pm code doc N a)) (S : LS) (f : Nat) (hf : f < 46) : Ex prog w g₀ n (lenv pm code doc N a) ({ S with names := .dat (.lst (texts (nm f))) } : LS).st (lawSt 5) .next
    ({ S with names := .dat (.lst (texts (nm f))), numbers := .dat (.lst (nums (nbs f))) } : LS).st := by
  show Ex prog w g₀ n _ _ (.Assign _ _ _) .next _
  have he := numbers_eq hf
  have hfm : (texts (nm f)).filterMap (fun d => match d with | .str s => look exactD s | _ => none) = nums (nbs f) := by
    have h1 : (texts (nm f)).filterMap (fun d => match d with | .str s => look exactD s | _ => none) = ((nm f).map (fun s => look exactD s)).filterMap id := by
      simp only [texts, List.filterMap_map]; rfl
    rw [h1, he, List.filterMap_map]
    simp [nums, Function.comp_def]
  have hsome : ∀ s ∈ nm f, ∃ v, look exactD s = some (D.int v) := fun s hs => by
    have := List.mem_map_of_mem (f := fun s => look exactD s) hs
    rw [he] at this
    obtain ⟨v, _, e⟩ := List.mem_map.mp this
    exact ⟨v, e.symm⟩
  refine Ex.assign (Ev.toS (EvO.lst (EvO.cast (o' := .lst (nums (nbs f))) (EvO.comp1 (ds := texts (nm f)) (fun d => match d with | .str s => look exactD s | _ => none) [("name", .unset)] fr ?hI ?ok (Cap.var Cap.nil) ?sz ?turn) ?e))) (.there (.there (.there (.there (.there (.there (.there .here)))))))
  case hI => exact EvI.list (Ev.name (mem_there (mem_there (mem_there (mem_there (mem_there (mem_there mem_here))))))) (.name _ _ _)
  case ok => show formOk (fnScope (stm 72)) _ ["name"] = true; decide +kernel
  case sz => simp only [texts, List.length_map, nm, List.length_take, sizeLine]; omega
  case e => rw [hfm]
  case turn =>
    intro cl C fr' d hd
    obtain ⟨s, hs, rfl⟩ := List.mem_map.mp hd
    obtain ⟨v, hv⟩ := hsome s hs
    refine ⟨[("name", .dat (.str s))], AsgC.name .here, ?_, fun y hy => ?_, .drop .nil⟩
    · show Ifs _ _ _ _ _ _ _ (look exactD s).isSome
      rw [hv]; exact Ifs.nil
    · have hy : look exactD s = some y := hy
      exact Ev.sub (Ev.glob T.toGf rfl fr'.globals rfl X rfl).toB (Ev.name mem_here).toB (.sdict _ _ _ hy)

theorem law6 (T : TopF g₀ mg mb) (fr : Fr0 (lenv pm code doc N a)) (S : LS) (x b d : Nat) : Ex prog w g₀ 2 (lenv pm code doc N a) ({ S with cells := .dat (.lst (nums [(x : Int), (b : Int), (d : Int)])) } : LS).st (lawSt 6) .next
    ({ S with cells := .dat (.lst (nums [(x : Int), (b : Int), (d : Int)])), goal := .dat (.lst (nums (made (gaps0 b)))) } : LS).st := by
  show Ex prog w g₀ 2 _ _ (.Assign _ _ _) .next _
  have h3 : ∀ g ∈ gaps0 b, g ≤ 2 := fun g hg => by
    have := (List.mem_filter.mp hg).2
    simp at this; omega
  refine Ex.assign (Ev.toS (Ev.callF (Ev.fun0 T ⟨rfl, rfl, rfl, rfl, rfl⟩ (by walk_at "m tab")) (made_ok T (gaps0 b) h3) (EvAll.cons ?arg EvAll.nil))) (.there (.there (.there (.there (.there (.there (.there (.there .here))))))))
  case arg =>
    refine EvO.lst (EvO.cast (o' := .lst (natsD (gaps0 b))) (EvO.comp1 (ds := natsD (digits b)) (fun d => match d with | .int v => if v < 3 then some (.int v) else none | _ => none) [("gap", .unset)] fr ?hI ?ok (Cap.var Cap.nil) ?sz ?turn) ?e)
    case ok => show formOk (fnScope (stm 72)) _ ["gap"] = true; decide +kernel
    case sz => simp [natsD, nums, digits, sizeLine]
    case e =>
      have : ∀ l : List Nat, (natsD l).filterMap (fun d => match d with | .int v => if v < 3 then some (D.int v) else none | _ => none) = natsD (l.filter fun g => decide (g < 3)) := by
        intro l
        induction l with
        | nil => rfl
        | cons g l ih =>
          by_cases h : g < 3
          · have e1 : (natsD (g :: l)).filterMap (fun d => match d with | .int v => if v < 3 then some (D.int v) else none | _ => none) = .int (Int.ofNat g) :: (natsD l).filterMap (fun d => match d with | .int v => if v < 3 then some (D.int v) else none | _ => none) := by
              refine List.filterMap_cons_some ?_
              show (if Int.ofNat g < 3 then some (D.int (Int.ofNat g)) else none) = _
              rw [if_pos (show (Int.ofNat g) < 3 by simp; omega)]
            rw [e1, ih, List.filter_cons_of_pos (by simpa using h)]; rfl
          · have e1 : (natsD (g :: l)).filterMap (fun d => match d with | .int v => if v < 3 then some (D.int v) else none | _ => none) = (natsD l).filterMap (fun d => match d with | .int v => if v < 3 then some (D.int v) else none | _ => none) := by
              refine List.filterMap_cons_none ?_
              show (if Int.ofNat g < 3 then some (D.int (Int.ofNat g)) else none) = _
              rw [if_neg (show ¬ (Int.ofNat g) < 3 by simp; omega)]
            rw [e1, ih, List.filter_cons_of_neg (by simpa using h)]
      exact congrArg Own.lst (this (digits b))
    case turn =>
      intro cl C fr' d hd
      obtain ⟨v, hv, rfl⟩ := List.mem_map.mp hd
      refine ⟨[("gap", .dat (.int v))], AsgC.name .here, ?_, fun y hy => ?_, .drop .nil⟩
      · have : (if v < 3 then some (D.int v) else none).isSome = decide (v < 3) := by by_cases h : v < 3 <;> simp [h]
        show Ifs _ _ _ _ _ _ _ (if v < 3 then some (D.int v) else none).isSome
        rw [this]
        exact Ifs.one (Tst.cmp (Ev.name mem_here).toB Ev.int.toB (.ltI _ _))
      · have hy : (if v < 3 then some (D.int v) else none) = some y := hy
        split at hy
        · cases hy; exact Ev.name mem_here
        · cases hy
    case hI =>
      refine EvI.list (EvO.lst (EvO.cast (o' := .lst (natsD (digits b))) (EvO.comp1 (ds := rangeL 0 1 5) (fun d => match d with | .int v => some (.int ((b / 4 ^ v.toNat % 4 : Nat) : Int)) | _ => none) [("cells", .dat (.lst (nums [(x : Int), (b : Int), (d : Int)]))), ("k", .unset)] fr ?hI ?ok (Cap.name (mem_there mem_here) (Cap.var Cap.nil)) ?sz ?turn) ?e)) (.name _ _ _)
      case hI => exact EvI.range1 (b := 5) (Ev.ty T ⟨rfl, rfl, rfl, rfl, rfl⟩ (by walk_at "m tab")) Ev.int.toB rfl (by omega)
      case ok => show formOk (fnScope (stm 72)) _ ["cells", "k"] = true; decide +kernel
      case sz => simp [rangeL, sizeLine]
      case e => rfl
      case turn =>
        intro cl C fr' y hy
        obtain ⟨k, hk⟩ := List.mem_iff_getElem?.mp hy
        obtain ⟨k5, rfl⟩ := range01_get hk
        refine ⟨[("cells", .dat (.lst (nums [(x : Int), (b : Int), (d : Int)]))), ("k", .dat (.int k))], AsgC.name (.there .here), Ifs.nil, fun y hy => ?_, .keep (.drop .nil)⟩
        have hy : some (D.int ((b / 4 ^ ((k : Int)).toNat % 4 : Nat) : Int)) = some y := hy
        rw [Int.toNat_natCast] at hy
        cases hy
        have hp : ((4 : Int)) ^ ((k : Int)).toNat = ((4 ^ k : Nat) : Int) := by rw [Int.toNat_natCast]; push_cast; rfl
        have hpow : BinR .Pow (.int 4) (.int k) (.int ((4 ^ k : Nat) : Int)) := by
          have := BinR.powI 4 (k : Int) ⟨by omega, by omega, by decide, by have : (Builtin.Int.intBits 4 : Int) = 3 := by decide +kernel
                                                                           rw [this]; omega⟩
          rwa [hp] at this
        have h4 : 0 < 4 ^ k ∧ 4 ^ k ≤ 256 := by
          have : k = 0 ∨ k = 1 ∨ k = 2 ∨ k = 3 ∨ k = 4 := by omega
          rcases this with rfl | rfl | rfl | rfl | rfl <;> decide
        have hdiv : BinR .FloorDiv (.int (b : Int)) (.int ((4 ^ k : Nat) : Int)) (.int ((b / 4 ^ k : Nat) : Int)) := by
          have := BinR.divI (b : Int) ((4 ^ k : Nat) : Int) ⟨by omega, by omega⟩
          rwa [fdiv_nat] at this
        have hmod : BinR .Mod (.int ((b / 4 ^ k : Nat) : Int)) (.int 4) (.int ((b / 4 ^ k % 4 : Nat) : Int)) := by
          have := BinR.modI ((b / 4 ^ k : Nat) : Int) 4 (by decide)
          rwa [show (4 : Int) = ((4 : Nat) : Int) from rfl, fmod_nat] at this
        exact Ev.bin (Ev.bin (Ev.sub (Ev.name mem_here).toB Ev.int.toB (SubR.lst (nums [(x : Int), (b : Int), (d : Int)]) 1 (.int b) (by omega) rfl)).toB (Ev.bin Ev.int.toB (Ev.name (mem_there mem_here)).toB hpow).toB hdiv).toB Ev.int.toB hmod
end
end Mine

namespace Mine
open PySem PySem.W PyProof.Rows

/-- the law's row, and the text as the head sees it -/
abbrev lawRow : RowW := OpenRow.toRowW (OpenLaw.row PySem.Challenge.rw_tc0019_01)
noncomputable def viewQ : Program := { lawRow.prog with main := { lawRow.prog.main with body := lawRow.prog.main.body.zipIdx.filterMap fun x => if [0, 51, 55, 59].contains x.2 then none else some x.1 } }

/-- a dict of written texts and ints, seen entry by entry -/
def entB (e : DictEntry) : Bool := match e.key, e.val with
  | .str _ _, .int _ _ => true
  | _, _ => false
def entS (e : DictEntry) : Str × Int × Int := match e.key, e.val with
  | .str x _, .int v _ => (x, v, e.hash)
  | _, _ => ("", 0, 0)
def dShape (o : Obj) : Option (List (Bool × Str × Int × Int)) := match o with
  | ⟨.type t, none, .dict es _, sl⟩ => if (t == "dict" && sl.isEmpty) = true then some (es.toList.map fun e => (entB e, entS e)) else none
  | _ => none
def obsX (s : Shared) : Option (Option (Option Value)) × Option (Option (List (Bool × Str × Int × Int))) :=
  ((s.heap.get? mainGlobals).map fun o => nsIn [(mainGlobals, o)] mainGlobals "EXACT_TOKEN_TYPES", (s.heap.get? 15).map dShape)
noncomputable def valX (w : World) : Option (Option (Option Value)) × Option (Option (List (Bool × Str × Int × Int))) :=
  (some (some (some (.ref 15))), some (some (exactTab.map fun q => (true, q.1, q.2, hashStr w q.1))))
def saysX (w : World) (h : Heap) : Prop := ∃ o o', h.get? mainGlobals = some o ∧ nsIn [(mainGlobals, o)] mainGlobals "EXACT_TOKEN_TYPES" = some (some (.ref 15)) ∧ h.get? 15 = some o' ∧ dShape o' = some (exactTab.map fun q => (true, q.1, q.2, hashStr w q.1))
theorem saysX_of (w : World) (s : Shared) (e : obsX s = valX w) : saysX w s.heap := by
  unfold obsX valX at e
  obtain ⟨e1, e2⟩ := Prod.mk.inj e
  obtain ⟨o, h1, h2⟩ := Option.map_eq_some_iff.mp e1
  obtain ⟨o', h3, h4⟩ := Option.map_eq_some_iff.mp e2
  exact ⟨o, o', h1, h2, h3, h4⟩
theorem saysX_keeps (w : World) (h h' : Heap) (x : saysX w h) (k : ∀ b o, h.get? b = some o → h'.get? b = some o) : saysX w h' := by
  obtain ⟨o, o', h1, h2, h3, h4⟩ := x
  exact ⟨o, o', k _ _ h1, h2, k _ _ h3, h4⟩

def leftP (w : World) : Prop := (openEnds treeTable lawRow.prog w 4014).map (fun s => (openSeen viewQ [("EXACT_TOKEN_TYPES" : Str)] (importedModules lawRow.prog.main.body) (fun s => xlAt viewQ [] s && recOk (RowW.records lawRow) s) true s, obsX s)) = some (openGood viewQ [("EXACT_TOKEN_TYPES" : Str)], valX w)
theorem leftF (w : World) : leftP (w.withFollow "special-get-raises" false) := by
  unfold leftP openEnds fencedOpening topFrom openGood expectedOf plainGoodE plainGoodD wideGood clsGoodW bltViewBooted
  rw [PySem.W.Fast.te10274390034422433532, PySem.W.Fast.te14082659384304107361, PySem.W.Fast.te4187177175401517315, PySem.W.Fast.te14364793385576792824, PySem.W.Fast.te1435165496053646825, PySem.W.Fast.te14289696077712309145, PySem.W.Fast.te5923862056798008813, PySem.W.Fast.te8920871248978507458]
  rw [PySem.W.Fast.te3399658132070893891, PySem.W.Fast.te210736558901404530, PySem.W.Fast.te4354255287344443571, PySem.W.Fast.te694669760492028198, PySem.W.Fast.te1571739515156823405, PySem.W.Fast.te15521713216982973386, PySem.W.Fast.te3247288618530077131, PySem.W.Fast.te821141287760084731]
  kernel_rfl
theorem leftT (w : World) : leftP (w.withFollow "special-get-raises" true) := by
  unfold leftP openEnds fencedOpening topFrom openGood expectedOf plainGoodE plainGoodD wideGood clsGoodW bltViewBooted
  rw [PySem.W.Fast.te10274390034422433532, PySem.W.Fast.te14082659384304107361, PySem.W.Fast.te4187177175401517315, PySem.W.Fast.te14364793385576792824, PySem.W.Fast.te1435165496053646825, PySem.W.Fast.te14289696077712309145, PySem.W.Fast.te5923862056798008813, PySem.W.Fast.te8920871248978507458]
  rw [PySem.W.Fast.te3399658132070893891, PySem.W.Fast.te210736558901404530, PySem.W.Fast.te4354255287344443571, PySem.W.Fast.te694669760492028198, PySem.W.Fast.te1571739515156823405, PySem.W.Fast.te15521713216982973386, PySem.W.Fast.te3247288618530077131, PySem.W.Fast.te821141287760084731]
  kernel_rfl
theorem leftQ : LeftO lawRow.prog viewQ [("EXACT_TOKEN_TYPES" : Str)] (fun s => xlAt viewQ [] s && recOk (RowW.records lawRow) s) obsX valX 4014 := byRow2 (P := leftP) "special-get-raises" leftF leftT
end Mine

namespace Mine
open PySem

section
variable {prog : Program} {w : World} {g₀ g : Heap} {n : Nat} {env cenv : Env} {ρ ρ₁ ρ₂ ρ' ρc : Store} {mg mb : Str → Option Value} {fl : Fl}

/-- list(range(a, b)) -/
theorem EvO.listRange {lx rx : Str} {lp rp p p' : Pos} {e₁ e₂ : Expr} {a b : Int} (hl : Ev prog w g₀ n env ρ (.Name lx lp) (.fn (.type "list"))) (hr : Ev prog w g₀ n env ρ (.Name rx rp) (.fn (.type "range"))) (he₁ : EvB prog w g₀ n env ρ e₁ (.int a)) (he₂ : EvB prog w g₀ n env ρ e₂ (.int b))
    (hu : unstarred e₁ = true ∧ unstarred e₂ = true) (ha : 0 ≤ a ∧ a < 1000000) (hb : a ≤ b ∧ b < 1000000) : EvO prog w g₀ n env ρ (.Call (.Name lx lp) [.Call (.Name rx rp) [e₁, e₂] [] p'] [] p) (.lst (rangeL a 1 (b - a).toNat)) := fun A E Z vm s hA hS => by
  have hs : [Expr.Call (.Name rx rp) [e₁, e₂] [] p'].all unstarred = true := rfl
  refine PyProof.Rows.Call_Name (backTo_plain hs) (wpAny_mono (hl A E Z vm s hA hS) (fun v s₁ h₁ => ?_) fun _ _ e => e)
  obtain ⟨k₁, h₁⟩ := h₁
  obtain rfl := h₁.fn_inv
  refine callWith_bi (first := []) (.inr ⟨_, rfl⟩) hs (Calls.spliced_cons (evalType hA (hS.keep k₁) hr (EvBAll.cons he₁ (EvBAll.cons he₂ EvBAll.nil hu.2) hu.1) fun vs s₂ k₂ r => ?_))
  obtain ⟨v, u, rfl, hv, hu⟩ := r.two
  obtain ⟨t, rfl⟩ := hv.int_inv
  obtain ⟨t', rfl⟩ := hu.int_inv
  refine call_range_2 (Calls.spliced_nil ?_)
  have k₃ : Kp s { s₂ with heap := s₂.heap.push { cls := .type "range", data := .fields #[.int a t, .int b t', .int 1 s₂.toks] }, toks := s₂.toks + 1 } := (k₁.trans k₂).trans (Kp.push s₂ _ _)
  refine wpAny_kp k₃ (call_list_range (n := (b - a).toNat) hA.hh (Heap.get?_push_size _ rfl) (small_of (by omega) (by omega) (by omega)) (by rw [rangeSize_one]; split <;> omega) (by omega) fun h' tk acc c up hl' it => ?_)
  refine ⟨⟨h', tk, rfl, up⟩, [(s₂.heap.push { cls := .type "range", data := .fields #[.int a t, .int b t', .int 1 s₂.toks] }).objs.size], ⟨_, acc, rfl, rfl, ⟨c, hl'⟩, RdAll.of ?_ fun i v d hv hd => ?_⟩, by simp, fun x hx => ?_, fun x hx => ?_⟩
  · rw [Array.length_toList, it.1]; simp [rangeL]
  · obtain ⟨t, rfl⟩ := it.2 i v (by simpa using hv)
    obtain ⟨_, rfl⟩ := rangeL_get hd
    exact .int ..
  · rw [List.mem_singleton.mp hx]; exact fresh_of k₃
  · rw [List.mem_singleton.mp hx]; exact ⟨_, hl'⟩

theorem Tst.cast {e : Expr} {b b' : Bool} (x : Tst prog w g₀ n env ρ e b) (h : b = b') : Tst prog w g₀ n env ρ e b' := h ▸ x

/-! the symbols cut into sides -/
def splitStep (st : List (Int × List Int) × List Int) (y : Int) : List (Int × List Int) × List Int :=
  if y = 0 then (st.1 ++ [((st.2 ++ [y]).getD 0 0, ((st.2 ++ [y]).drop 1).take (st.2.length - 1))], []) else (st.1, st.2 ++ [y])
def splitSt (L : List Int) (i : Nat) : List (Int × List Int) × List Int := (L.take i).foldl splitStep ([], [])
def dsd (l : List (Int × List Int)) : List (Int × D) := l.map fun q => (q.1, .lst (nums q.2))

theorem splitSt_succ {L : List Int} {i : Nat} {y : Int} (h : L[i]? = some y) : splitSt L (i + 1) = splitStep (splitSt L i) y := foldl_take h
theorem splitSt_len {L : List Int} : ∀ i, (splitSt L i).1.length ≤ i ∧ (splitSt L i).2.length ≤ i
  | 0 => ⟨Nat.le_refl _, Nat.le_refl _⟩
  | i + 1 => by
    obtain ⟨a, b⟩ := splitSt_len (L := L) i
    cases h : L[i]? with
    | none =>
      have e : splitSt L (i + 1) = splitSt L i := by
        unfold splitSt
        have := List.getElem?_eq_none_iff.mp h
        rw [List.take_of_length_le (by omega), List.take_of_length_le (by omega)]
      rw [e]; omega
    | some y =>
      rw [splitSt_succ h]
      unfold splitStep
      split
      · simp; omega
      · simp; omega

theorem putI_new {l : List (Int × List Int)} {k : Int} {v : List Int} (h : ∀ q ∈ l, q.1 ≠ k) : putI (dsd l) k (.lst (nums v)) = dsd (l ++ [(k, v)]) := by
  unfold putI
  have : (dsd l).any (fun kv => kv.1 = k) = false := by
    simp only [dsd, List.any_map, List.any_eq_false, Function.comp]
    intro x hx
    simpa using h x hx
  rw [if_neg (by rw [this]; exact Bool.false_ne_true)]
  simp [dsd]

variable {pm code doc : Value} {N a : Addr}

theorem law7 (T : TopF g₀ mg mb) (S : LS) : Ex prog w g₀ n (lenv pm code doc N a) S.st (lawSt 7) .next ({ S with sides := .own (.idict []), part := .own (.lst []) } : LS).st := by
  have pp : Puts [("sides", .own (.idict [])), ("part", .own (.lst []))] S.st ({ S with sides := .own (.idict []), part := .own (.lst []) } : LS).st := .cons (.there (.there (.there (.there (.there (.there (.there (.there (.there .here))))))))) (.cons (.there (.there (.there (.there (.there (.there (.there (.there (.there (.there .here)))))))))) .nil)
  show Ex prog w g₀ n _ _ (.Assign _ _ _) .next _
  exact Ex.tupS (xs := [("sides", .own (.idict [])), ("part", .own (.lst []))]) (EvSAll.cons (EvO.toS (EvO.dict T.toGf)) (EvSAll.cons (EvO.toS (EvO.list EvAll.nil)) EvSAll.nil)) pp rfl (by simp [sizeLine])

theorem law8 (T : TopF g₀ mg mb) (fr : Fr0 (lenv pm code doc N a)) (S : LS) (goal nb rules L : List Int) (x b d : Nat) (hgram : FnOk prog w g₀ 2 (fv mg "_law_grammar") [.lst (nums goal), .lst (nums nb)] (.lst (nums rules)))
    (hs : x + b + d < 2 ^ 40) (hr : rules.length ≤ 10000) (hL : L = rules ++ (List.range 8).map (fun i : Nat => 252 + (i : Int)) ++ [-1, ((x + b + d : Nat) : Int), -((x + b + d : Nat) : Int)])
    (hfresh : ∀ i, L[i]? = some 0 → 1 ≤ (splitSt L i).2.length ∧ ∀ q ∈ (splitSt L i).1, q.1 ≠ ((splitSt L i).2 ++ [0]).getD 0 0) :
    Ex prog w g₀ 2 (lenv pm code doc N a) ({ S with cells := .dat (.lst (nums [(x : Int), (b : Int), (d : Int)])), numbers := .dat (.lst (nums nb)), goal := .dat (.lst (nums goal)), sides := .own (.idict []), part := .own (.lst []), symbol := .unset } : LS).st (lawSt 8) .next
      ({ S with cells := .dat (.lst (nums [(x : Int), (b : Int), (d : Int)])), numbers := .dat (.lst (nums nb)), goal := .dat (.lst (nums goal)), sides := .own (.idict (dsd (splitSt L L.length).1)), part := .own (.lst (nums (splitSt L L.length).2)), symbol := .unset } : LS).st := by
  have hLl : L.length ≤ 10011 := by rw [hL]; simp; omega
  have hfin : L.length = (nums L).length := nums_len.symm
  rw [hfin]
  show Ex prog w g₀ 2 _ _ (.For _ _ _ _ _) .next _
  refine Ex.for (fun i => LS.st { S with cells := .dat (.lst (nums [(x : Int), (b : Int), (d : Int)])), numbers := .dat (.lst (nums nb)), goal := .dat (.lst (nums goal)), sides := .own (.idict (dsd (splitSt L i).1)), part := .own (.lst (nums (splitSt L i).2)), symbol := .unset }) (ds := nums L) ?hI fun i y hd => ?_
  case hI =>
    have sm : ∀ p p' p'', Ev prog w g₀ 2 (lenv pm code doc N a) (LS.st { S with cells := .dat (.lst (nums [(x : Int), (b : Int), (d : Int)])), numbers := .dat (.lst (nums nb)), goal := .dat (.lst (nums goal)), sides := .own (.idict (dsd (splitSt L 0).1)), part := .own (.lst (nums (splitSt L 0).2)), symbol := .unset })
        (.Call (.Name "sum" p) [.Name "cells" p'] [] p'') (.int ((x + b + d : Nat) : Int)) := fun p p' p'' =>
      Ev.cast (Ev.call (Ev.ty T ⟨rfl, rfl, rfl, rfl, rfl⟩ (by walk_at "m tab")) (EvBAll.cons (Ev.name (mem_there mem_here)).toB EvBAll.nil) (.sum [(x : Int), (b : Int), (d : Int)] ⟨fun y hy => by simp at hy; omega, by simp; omega⟩)) (by simp [Int.add_assoc])
    refine EvI.list (EvO.lst (EvO.cast (EvO.addL (EvO.lst (EvO.addL (Ev.callF (Ev.fun0 T ⟨rfl, rfl, rfl, rfl, rfl⟩ (by walk_at "m tab")) hgram (EvAll.cons (Ev.name (mem_there (mem_there (mem_there (mem_there (mem_there (mem_there (mem_there (mem_there mem_here))))))))) (EvAll.cons (Ev.name (mem_there (mem_there (mem_there (mem_there (mem_there (mem_there (mem_there mem_here)))))))) EvAll.nil))).toB
      (EvO.lst (EvO.listRange (Ev.ty T ⟨rfl, rfl, rfl, rfl, rfl⟩ (by walk_at "m tab")) (Ev.ty T ⟨rfl, rfl, rfl, rfl, rfl⟩ (by walk_at "m tab")) Ev.int.toB Ev.int.toB ⟨rfl, rfl⟩ (by omega) (by omega))).toB ?_)).toB
      (EvO.lst (EvO.list (EvAll.cons (Ev.neg Ev.int.toB) (EvAll.cons (sm _ _ _) (EvAll.cons (Ev.neg (sm _ _ _).toB) EvAll.nil))))).toB ?_) ?_)) (.name _ _ _)
    · rw [nums_len]; simp only [rangeL, List.length_map, List.length_range, sizeLine]; omega
    · rw [List.length_append, nums_len]; simp only [rangeL, List.length_map, List.length_range, sizeLine, List.length_cons, List.length_nil]; omega
    · rw [hL]
      simp only [nums, List.map_append, List.map_map, List.map_cons, List.map_nil, rangeL]
      congr 3
  · obtain ⟨v, hv, rfl⟩ : ∃ v, L[i]? = some v ∧ y = .int v := by
      simp only [nums, List.getElem?_map, Option.map_eq_some_iff] at hd
      obtain ⟨v, h1, rfl⟩ := hd
      exact ⟨v, h1, rfl⟩
    have fresh := fun h : v = 0 => hfresh i (h ▸ hv)
    have hli := splitSt_len (L := L) i
    have hiL := (List.getElem?_eq_some_iff.mp hv).1
    rw [splitSt_succ hv]
    generalize splitSt L i = st at *
    refine ⟨LS.st { S with cells := .dat (.lst (nums [(x : Int), (b : Int), (d : Int)])), numbers := .dat (.lst (nums nb)), goal := .dat (.lst (nums goal)), sides := .own (.idict (dsd st.1)), part := .own (.lst (nums st.2)), symbol := .dat (.int v) },
      LS.st { S with cells := .dat (.lst (nums [(x : Int), (b : Int), (d : Int)])), numbers := .dat (.lst (nums nb)), goal := .dat (.lst (nums goal)), sides := .own (.idict (dsd (splitStep st v).1)), part := .own (.lst (nums (splitStep st v).2)), symbol := .dat (.int v) }, Asg.name (.there (.there (.there (.there (.there (.there (.there (.there (.there (.there (.there .here))))))))))), ?_, ?_⟩
    · have fsym : ∀ (i : Nat) (nm : Str) (res : Bool) (ρ : Store) p p' p'' (hm : (("symbol" : Str), Slot.dat (D.int v)) ∈ ρ) (hk : Kd (lenv pm code doc N a) nm) (ht : (nm, i) ∈ funs) (hf : FnOk prog w g₀ 1 (fv mg nm) [.int v] (.bool res)), Ev prog w g₀ 2 (lenv pm code doc N a) ρ (.Call (.Name nm p) [.Name "symbol" p'] [] p'') (.bool res) :=
        fun i nm res ρ p p' p'' hm hk ht hf => Ev.callF (Ev.fun0 T hk ht) hf (EvAll.cons (Ev.name hm) EvAll.nil)
      refine Exs.cons (ρ₁ := LS.st { S with cells := .dat (.lst (nums [(x : Int), (b : Int), (d : Int)])), numbers := .dat (.lst (nums nb)), goal := .dat (.lst (nums goal)), sides := .own (.idict (dsd st.1)), part := .own (.lst (nums st.2)), symbol := .dat (.int v) })
        (Ex.ite (b := false) (Tst.cast (Tst.or3 (b := false) (b' := false) (b'' := false) (Tst.cast (Tst.cmp (fsym _ _ _ _ _ _ _ (mem_there (mem_there (mem_there (mem_there (mem_there (mem_there (mem_there (mem_there (mem_there (mem_there (mem_there mem_here))))))))))) ⟨rfl, rfl, rfl, rfl, rfl⟩ (by walk_at "m tab") (isterminal_ok T v)).toB (Ev.cmp (Ev.name (mem_there (mem_there (mem_there (mem_there (mem_there (mem_there (mem_there (mem_there (mem_there (mem_there (mem_there mem_here)))))))))))).toB Ev.int.toB (.ltI _ _)).toB (.isn _ _)) (by simp))
          (fun _ => Tst.cast (Tst.cmp (fsym _ _ _ _ _ _ _ (mem_there (mem_there (mem_there (mem_there (mem_there (mem_there (mem_there (mem_there (mem_there (mem_there (mem_there mem_here))))))))))) ⟨rfl, rfl, rfl, rfl, rfl⟩ (by walk_at "m tab") (isnonterminal_ok T v)).toB (Ev.cmp (Ev.name (mem_there (mem_there (mem_there (mem_there (mem_there (mem_there (mem_there (mem_there (mem_there (mem_there (mem_there mem_here)))))))))))).toB Ev.int.toB (.gtI _ _)).toB (.isn _ _)) (by simp; omega))
          (fun _ _ => Tst.cast (Tst.cmp (fsym _ _ _ _ _ _ _ (mem_there (mem_there (mem_there (mem_there (mem_there (mem_there (mem_there (mem_there (mem_there (mem_there (mem_there mem_here))))))))))) ⟨rfl, rfl, rfl, rfl, rfl⟩ (by walk_at "m tab") (iseof_ok T v)).toB (Ev.cmp (Ev.name (mem_there (mem_there (mem_there (mem_there (mem_there (mem_there (mem_there (mem_there (mem_there (mem_there (mem_there mem_here)))))))))))).toB Ev.int.toB (.eqI _ _)).toB (.isn _ _)) (by simp))) rfl) (by rw [if_neg Bool.false_ne_true]; exact Exs.nil)) ?_
      refine Exs.cons (ρ₁ := LS.st { S with cells := .dat (.lst (nums [(x : Int), (b : Int), (d : Int)])), numbers := .dat (.lst (nums nb)), goal := .dat (.lst (nums goal)), sides := .own (.idict (dsd st.1)), part := .own (.lst (nums (st.2 ++ [v]))), symbol := .dat (.int v) })
        (Ex.append ⟨rfl, rfl, by decide⟩ (mem_there (mem_there (mem_there (mem_there (mem_there (mem_there (mem_there (mem_there (mem_there (mem_there mem_here)))))))))) (Ev.name (mem_there (mem_there (mem_there (mem_there (mem_there (mem_there (mem_there (mem_there (mem_there (mem_there (mem_there mem_here)))))))))))) (by rw [nums_len]; simp only [sizeLine]; omega) (by rw [nums_snoc]; exact (.there (.there (.there (.there (.there (.there (.there (.there (.there (.there .here)))))))))))) ?_
      refine Exs.cons (Ex.ite (b := v == 0) (Tst.val (fsym _ _ _ _ _ _ _ (mem_there (mem_there (mem_there (mem_there (mem_there (mem_there (mem_there (mem_there (mem_there (mem_there (mem_there mem_here))))))))))) ⟨rfl, rfl, rfl, rfl, rfl⟩ (by walk_at "m tab") (iseof_ok T v))) ?_) Exs.nil
      by_cases h0 : v = 0
      · obtain ⟨f1, f2⟩ := fresh h0
        subst h0
        rw [if_pos (by decide)]
        unfold splitStep
        rw [if_pos rfl]
        have e0 : (nums (st.2 ++ [0]))[(0 : Int).toNat]? = some (.int ((st.2 ++ [0]).getD 0 0)) := nums_get (by simp)
        have ecut : cutL (nums (st.2 ++ [0])) (some 1) (some (-1)) = nums (((st.2 ++ [0]).drop 1).take (st.2.length - 1)) := by
          unfold cutL
          have hl : (nums (st.2 ++ [0])).length = st.2.length + 1 := by rw [nums_len]; simp
          have h1 : clipAt (st.2.length + 1) 1 = 1 := by unfold clipAt; omega
          have h2 : clipAt (st.2.length + 1) (-1) = st.2.length := by unfold clipAt; omega
          simp only [Option.elim_some, hl, h1, h2]
          simp [nums, List.map_take, List.map_drop]
        refine Exs.cons (ρ₁ := LS.st { S with cells := .dat (.lst (nums [(x : Int), (b : Int), (d : Int)])), numbers := .dat (.lst (nums nb)), goal := .dat (.lst (nums goal)), sides := .own (.idict (dsd (st.1 ++ [((st.2 ++ [0]).getD 0 0, ((st.2 ++ [0]).drop 1).take (st.2.length - 1))]))), part := .own (.lst (nums (st.2 ++ [0]))), symbol := .dat (.int 0) })
          (Ex.assignS (Ev.cast (EvO.lst (EvO.cut (EvB.lst (mem_there (mem_there (mem_there (mem_there (mem_there (mem_there (mem_there (mem_there (mem_there (mem_there mem_here))))))))))) (.yes Ev.int.toB) (.yes (Ev.neg Ev.int.toB).toB) (by rw [nums_len]; simp [sizeLine]; omega))) (congrArg D.lst ecut))
            (Asg.subI (mem_there (mem_there (mem_there (mem_there (mem_there (mem_there (mem_there (mem_there (mem_there mem_here))))))))) (Ev.sub (EvB.lst (mem_there (mem_there (mem_there (mem_there (mem_there (mem_there (mem_there (mem_there (mem_there (mem_there mem_here))))))))))) Ev.int.toB (.lst _ _ _ (by omega) e0)).toB (by simp only [dsd, List.length_map, sizeLine]; omega) (by rw [putI_new f2]; exact (.there (.there (.there (.there (.there (.there (.there (.there (.there .here)))))))))))) ?_
        exact Exs.cons (Ex.assign (EvO.toS (EvO.list EvAll.nil)) (.there (.there (.there (.there (.there (.there (.there (.there (.there (.there .here))))))))))) Exs.nil
      · rw [if_neg (by simpa using h0)]
        unfold splitStep
        rw [if_neg h0]
        exact Exs.nil
    · exact .keep (.keep (.keep (.keep (.keep (.keep (.keep (.keep (.keep (.keep (.keep (.drop Fg.refl)))))))))))
end
end Mine

namespace Mine
open PySem

def gapsOf (nb s : List Int) : List Nat := s.filterMap fun v => if v < 256 then some (findI v nb) else none
def dgaps (gs : List (List Nat)) : List D := gs.map fun g => .lst (natsD g)

theorem filterMap_map_some {α β : Type} {h : α → β} : ∀ {l : List α}, l.filterMap (fun i => some (h i)) = l.map h
  | [] => rfl
  | a :: l => by show h a :: (l.filterMap fun i => some (h i)) = _; rw [filterMap_map_some, List.map_cons]
theorem map_range_getD {α β : Type} (h : α → β) (l : List α) (a : α) : (List.range l.length).map (fun i => h (l.getD i a)) = l.map h := by
  apply List.ext_getElem?
  intro i
  rw [List.getElem?_map, List.getElem?_map]
  by_cases hi : i < l.length
  · rw [List.getElem?_range hi]
    simp [hi]
  · rw [List.getElem?_eq_none (by simpa using hi), List.getElem?_eq_none (by simpa using hi)]; rfl

section
variable {prog : Program} {w : World} {g₀ g : Heap} {n : Nat} {env cenv : Env} {ρ ρ₁ ρ₂ ρ' ρc : Store} {mg mb : Str → Option Value} {fl : Fl}
variable {pm code doc : Value} {N a : Addr}

theorem law9 (T : TopF g₀ mg mb) (fr : Fr0 (lenv pm code doc N a)) (S : LS) (nb : List Int) (sd : List (List Int)) (hm : sd.length ≤ 100) (hin : ∀ s ∈ sd, s.length ≤ 1000 ∧ ∀ v ∈ s, v < 256 → v ∈ nb) (hnb : nb.length ≤ 100) :
    Ex prog w g₀ 2 (lenv pm code doc N a) ({ S with numbers := .dat (.lst (nums nb)), sides := .dat (.idict (dsides sd)) } : LS).st (lawSt 9) .next
      ({ S with numbers := .dat (.lst (nums nb)), sides := .dat (.idict (dsides sd)), gaps := .own (.lst (dgaps (sd.map (gapsOf nb)))) } : LS).st := by
  have hres : (rangeL 0 1 sd.length).filterMap (fun d => match d with | .int p => some (D.lst (natsD (gapsOf nb (sd.getD p.toNat [])))) | _ => none) = dgaps (sd.map (gapsOf nb)) := by
    simp only [rangeL, List.filterMap_map, dgaps, List.map_map]
    have e : ((fun d : D => match d with | .int p => some (D.lst (natsD (gapsOf nb (sd.getD p.toNat [])))) | _ => none) ∘ fun i : Nat => D.int (0 + (i : Int) * 1)) = fun i : Nat => some (D.lst (natsD (gapsOf nb (sd.getD i [])))) := by
      funext i; simp
    rw [e, filterMap_map_some]
    exact map_range_getD (fun s => D.lst (natsD (gapsOf nb s))) sd []
  show Ex prog w g₀ 2 _ _ (.Assign _ _ _) .next _
  refine Ex.assignComp1 (ds := rangeL 0 1 sd.length) (fun d => match d with | .int p => some (D.lst (natsD (gapsOf nb (sd.getD p.toNat [])))) | _ => none) [("numbers", .dat (.lst (nums nb))), ("sides", .dat (.idict (dsides sd))), ("place", .unset)] fr ?hI ?ok (Cap.name (mem_there (mem_there (mem_there (mem_there (mem_there (mem_there (mem_there mem_here))))))) (Cap.name (mem_there (mem_there (mem_there (mem_there (mem_there (mem_there (mem_there (mem_there (mem_there mem_here))))))))) (Cap.var Cap.nil))) ?sz ?turn ?p
  case hI =>
    have hl : (dsides sd).length = sd.length := by simp [dsides]
    exact EvI.range1 (b := (sd.length : Int)) (Ev.ty T ⟨rfl, rfl, rfl, rfl, rfl⟩ (by walk_at "m tab")) (Ev.cast (Ev.call (Ev.ty T ⟨rfl, rfl, rfl, rfl, rfl⟩ (by walk_at "m tab")) (EvBAll.cons (Ev.name (mem_there (mem_there (mem_there (mem_there (mem_there (mem_there (mem_there (mem_there (mem_there mem_here)))))))))).toB EvBAll.nil) (.lenI _ (by rw [hl]; omega))) (by rw [hl])).toB rfl (by omega)
  case ok => show formOk (fnScope (stm 72)) _ ["numbers", "sides", "place"] = true; decide +kernel
  case sz => simp [rangeL, sizeLine]; omega
  case p => rw [hres]; exact (.there (.there (.there (.there (.there (.there (.there (.there (.there (.there (.there (.there .here))))))))))))
  case turn =>
    intro cl C fr' d hd
    obtain ⟨p, hp⟩ := List.mem_iff_getElem?.mp hd
    obtain ⟨hlt, rfl⟩ := range01_get hp
    have hlk := look_dsides hlt
    have hmem : sd.getD p [] ∈ sd := by rw [show sd.getD p [] = sd[p] by simp [hlt]]; exact List.getElem_mem _
    obtain ⟨hl1, hnbm⟩ := hin _ hmem
    refine ⟨[("numbers", .dat (.lst (nums nb))), ("sides", .dat (.idict (dsides sd))), ("place", .dat (.int p))], AsgC.name (.there (.there .here)), Ifs.nil, fun y hy => ?_, .keep (.keep (.drop .nil))⟩
    have hy : some (D.lst (natsD (gapsOf nb (sd.getD ((p : Int)).toNat [])))) = some y := hy
    rw [Int.toNat_natCast] at hy
    cases hy
    generalize sd.getD p [] = s at *
    refine EvO.lst (EvO.cast (o' := .lst (natsD (gapsOf nb s))) (EvO.comp1 (ds := nums s) (fun d => match d with | .int v => if v < 256 then some (.int ((findI v nb : Nat) : Int)) else none | _ => none) [("numbers", .dat (.lst (nums nb))), ("symbol", .unset)] fr' ?hI ?ok (Cap.name mem_here (Cap.var Cap.nil)) ?sz ?turn) ?e)
    case hI => exact EvI.list (Ev.sub (Ev.name (mem_there mem_here)).toB (Ev.bin Ev.int.toB (Ev.name (mem_there (mem_there mem_here))).toB (.addI _ _)).toB (.idict _ _ _ hlk)) (.name _ _ _)
    case ok => show formOk (relabelS (fnScope (stm 72)) _) _ ["numbers", "symbol"] = true; decide +kernel
    case sz => rw [nums_len]; simp [sizeLine]; omega
    case e =>
      congr 1
      simp only [nums, natsD, gapsOf, List.filterMap_map, List.map_filterMap, List.map_map]
      congr 1
      funext v
      simp only [Function.comp]
      split <;> simp
    case turn =>
      intro cl2 C2 fr2 d hd
      obtain ⟨v, hv, rfl⟩ := List.mem_map.mp hd
      refine ⟨[("numbers", .dat (.lst (nums nb))), ("symbol", .dat (.int v))], AsgC.name (.there .here), ?_, fun y hy => ?_, .keep (.drop .nil)⟩
      · have : (if v < 256 then some (D.int ((findI v nb : Nat) : Int)) else none).isSome = decide (v < 256) := by by_cases h : v < 256 <;> simp [h]
        show Ifs _ _ _ _ _ _ _ (if v < 256 then some (D.int ((findI v nb : Nat) : Int)) else none).isSome
        rw [this]
        exact Ifs.one (Tst.val (Ev.callF (Ev.fun0 T ⟨rfl, rfl, rfl, rfl, rfl⟩ (by walk_at "m tab")) (isterminal_ok T v) (EvAll.cons (Ev.name (mem_there mem_here)) EvAll.nil)))
      · have hy : (if v < 256 then some (D.int ((findI v nb : Nat) : Int)) else none) = some y := hy
        split at hy
        · rename_i hlt
          cases hy
          exact Ev.indexI ⟨rfl, rfl, by decide⟩ rfl (Ev.name mem_here).toB (Ev.name (mem_there mem_here)).toB (hnbm v hv hlt) (by omega)
        · cases hy
end
end Mine

namespace Mine
open PySem

def handName : Nat → Str
  | 0 => "_escape_cdata"
  | 1 => "_escape_attrib"
  | 2 => "_escape_attrib_html"
  | 3 => "_escape_cdata_c14n"
  | _ => "_escape_attrib_c14n"
abbrev STab := List (Str × Str)
def dtb (t : STab) : List (Str × D) := t.map fun q => (q.1, .str q.2)
def tg (t : STab) (s : Str) : Str := ((t.find? fun q => q.1 = s).map (·.2)).getD s
theorem look_dtb {t : STab} {s : Str} : (look (dtb t) s).getD (.str s) = .str (tg t s) := by
  unfold look dtb tg
  induction t with
  | nil => rfl
  | cons q l ih =>
    rw [List.map_cons, List.find?_cons, List.find?_cons]
    by_cases h : q.1 = s
    · simp [h]
    · simp only [h, decide_false]; exact ih
noncomputable def marksS : Str := constStr (lawSt 11)
noncomputable def mk (k : Nat) : Str := ⟨#[marksS.cps.getD k 0]⟩

section
variable {prog : Program} {w : World} {g₀ g : Heap} {n : Nat} {env cenv : Env} {ρ ρ₁ ρ₂ ρ' ρc : Store} {mg mb : Str → Option Value} {fl : Fl}
variable {pm code doc : Value} {N a : Addr}

theorem law10 (T : TopF g₀ mg mb) (S : LS) (x b d : Nat) (hv : Value) (tb : STab) (hh : FnOk prog w g₀ 2 (fv mg "_law_hand") [.int ((d % 5 : Nat) : Int)] (.tup [.fn hv, .sdict (dtb tb)])) :
    Ex prog w g₀ 2 (lenv pm code doc N a) ({ S with cells := .dat (.lst (nums [(x : Int), (b : Int), (d : Int)])) } : LS).st (lawSt 10) .next
      ({ S with cells := .dat (.lst (nums [(x : Int), (b : Int), (d : Int)])), write := .dat (.fn hv), table := .dat (.sdict (dtb tb)) } : LS).st := by
  show Ex prog w g₀ 2 _ _ (.Assign _ _ _) .next _
  have hmod : BinR .Mod (.int (d : Int)) (.int 5) (.int ((d % 5 : Nat) : Int)) := by
    have := BinR.modI (d : Int) 5 (by decide)
    rwa [show (5 : Int) = ((5 : Nat) : Int) from rfl, fmod_nat] at this
  exact Ex.assignT (ds := [.fn hv, .sdict (dtb tb)]) (Ev.callF (Ev.fun0 T ⟨rfl, rfl, rfl, rfl, rfl⟩ (by walk_at "m tab")) hh (EvAll.cons (Ev.bin (Ev.sub (Ev.name (mem_there mem_here)).toB Ev.int.toB (SubR.lst (nums [(x : Int), (b : Int), (d : Int)]) 2 (.int d) (by omega) rfl)).toB Ev.int.toB hmod) EvAll.nil))
    (AsgAll.cons (Asg.name (.there (.there (.there (.there (.there (.there (.there (.there (.there (.there (.there (.there (.there .here)))))))))))))) (AsgAll.cons (Asg.name (.there (.there (.there (.there (.there (.there (.there (.there (.there (.there (.there (.there (.there (.there .here))))))))))))))) .nil))

theorem law11 (S : LS) : Ex prog w g₀ n env S.st (lawSt 11) .next ({ S with marks := .dat (.str marksS) } : LS).st := by
  show Ex prog w g₀ n env _ (.Assign _ _ _) .next _
  exact Ex.assign (Ev.toS Ev.str) (.there (.there (.there (.there (.there (.there (.there (.there (.there (.there (.there (.there (.there (.there (.there .here)))))))))))))))

theorem marks_len : marksS.cps.size = 4 := by decide +kernel
theorem marks_get {k : Nat} (hk : k < 4) : marksS.cps[((k : Nat) : Int).toNat]? = some (marksS.cps.getD k 0) := by
  have : k < marksS.cps.size := by rw [marks_len]; exact hk
  rw [Int.toNat_natCast]
  simp [this]

theorem bin_div {a k : Nat} (h : 0 < k ∧ k < 1000) : BinR .FloorDiv (.int (a : Int)) (.int (k : Int)) (.int ((a / k : Nat) : Int)) := by
  have := BinR.divI (a : Int) (k : Int) ⟨by omega, by omega⟩
  rwa [fdiv_nat] at this
theorem bin_mod {a k : Nat} (h : 0 < k) : BinR .Mod (.int (a : Int)) (.int (k : Int)) (.int ((a % k : Nat) : Int)) := by
  have := BinR.modI (a : Int) (k : Int) (by omega)
  rwa [fmod_nat] at this
theorem bin_add {a k : Nat} : BinR .Add (.int (a : Int)) (.int (k : Int)) (.int ((a + k : Nat) : Int)) := by
  have := BinR.addI (a : Int) (k : Int)
  rwa [← Int.natCast_add] at this

theorem law12 (S : LS) (x b d : Nat) : Ex prog w g₀ 2 (lenv pm code doc N a) ({ S with cells := .dat (.lst (nums [(x : Int), (b : Int), (d : Int)])), marks := .dat (.str marksS) } : LS).st (lawSt 12) .next
    ({ S with cells := .dat (.lst (nums [(x : Int), (b : Int), (d : Int)])), marks := .dat (.str marksS), outer := .dat (.str (mk (d / 5 % 4))) } : LS).st := by
  show Ex prog w g₀ 2 _ _ (.Assign _ _ _) .next _
  exact Ex.assign (Ev.toS (Ev.sub (Ev.name (mem_there (mem_there (mem_there (mem_there (mem_there (mem_there (mem_there (mem_there (mem_there (mem_there (mem_there (mem_there (mem_there (mem_there (mem_there mem_here)))))))))))))))).toB (Ev.bin (Ev.bin (Ev.sub (Ev.name (mem_there mem_here)).toB Ev.int.toB (SubR.lst (nums [(x : Int), (b : Int), (d : Int)]) 2 (.int d) (by omega) rfl)).toB Ev.int.toB (bin_div (k := 5) (by omega))).toB Ev.int.toB (bin_mod (k := 4) (by omega))).toB
    (.str _ _ _ (by omega) (marks_get (by omega))))) (.there (.there (.there (.there (.there (.there (.there (.there (.there (.there (.there (.there (.there (.there (.there (.there .here))))))))))))))))
theorem law13 (S : LS) (x b d : Nat) : Ex prog w g₀ 2 (lenv pm code doc N a) ({ S with cells := .dat (.lst (nums [(x : Int), (b : Int), (d : Int)])), marks := .dat (.str marksS) } : LS).st (lawSt 13) .next
    ({ S with cells := .dat (.lst (nums [(x : Int), (b : Int), (d : Int)])), marks := .dat (.str marksS), inner := .dat (.str (mk ((d / 5 + 1 + d / 20 % 3) % 4))) } : LS).st := by
  show Ex prog w g₀ 2 _ _ (.Assign _ _ _) .next _
  have sub : ∀ p p' p'' k, Ev prog w g₀ 2 (lenv pm code doc N a) ({ S with cells := .dat (.lst (nums [(x : Int), (b : Int), (d : Int)])), marks := .dat (.str marksS) } : LS).st (.Subscript (.Name "cells" p) (.Constant (.int 2) k p') p'') (.int d) :=
    fun p p' p'' k => Ev.sub (Ev.name (mem_there mem_here)).toB Ev.int.toB (SubR.lst (nums [(x : Int), (b : Int), (d : Int)]) 2 (.int d) (by omega) rfl)
  exact Ex.assign (Ev.toS (Ev.sub (Ev.name (mem_there (mem_there (mem_there (mem_there (mem_there (mem_there (mem_there (mem_there (mem_there (mem_there (mem_there (mem_there (mem_there (mem_there (mem_there mem_here)))))))))))))))).toB (Ev.bin (Ev.bin (Ev.bin (Ev.bin (sub _ _ _ _).toB Ev.int.toB (bin_div (k := 5) (by omega))).toB Ev.int.toB (bin_add (k := 1))).toB (Ev.bin (Ev.bin (sub _ _ _ _).toB Ev.int.toB (bin_div (k := 20) (by omega))).toB Ev.int.toB (bin_mod (k := 3) (by omega))).toB bin_add).toB Ev.int.toB (bin_mod (k := 4) (by omega))).toB
    (.str _ _ _ (by omega) (marks_get (by omega))))) (.there (.there (.there (.there (.there (.there (.there (.there (.there (.there (.there (.there (.there (.there (.there (.there (.there .here)))))))))))))))))
end
end Mine

namespace Mine
open PySem

def lineS (inn : Str) (nms : List Str) (line : List Nat) : Str := Txt.join inn (line.map fun g => nms.getD g "")
def textOf (out inn : Str) (nms : List Str) (gs : List (List Nat)) : Str := Txt.join out (gs.map (lineS inn nms))
def signStrs (x : Str) : List Str := x.cps.toList.map fun c => ⟨#[c]⟩
def JoinOk (sep : Str) (ss : List Str) : Prop := (ss.map (·.length)).sum + ss.length * sep.length ≤ 16777216

section
variable {prog : Program} {w : World} {g₀ g : Heap} {n : Nat} {env cenv : Env} {ρ ρ₁ ρ₂ ρ' ρc : Store} {mg mb : Str → Option Value} {fl : Fl}
variable {pm code doc : Value} {N a : Addr}

theorem texts_get {nms : List Str} {g : Nat} (h : g < nms.length) : (texts nms)[((g : Nat) : Int).toNat]? = some (.str (nms.getD g "")) := by
  rw [Int.toNat_natCast]; simp [texts, h]

theorem law14 (fr : Fr0 (lenv pm code doc N a)) (S : LS) (nms : List Str) (gs : List (List Nat)) (out inn : Str) (hin : ∀ line ∈ gs, line.length ≤ 1000 ∧ ∀ g ∈ line, g < nms.length) (hn : nms.length ≤ 1000)
    (hgl : gs.length ≤ 1000) (hj : ∀ line ∈ gs, JoinOk inn (line.map fun g => nms.getD g "")) (hj2 : JoinOk out (gs.map (lineS inn nms))) :
    Ex prog w g₀ n (lenv pm code doc N a) ({ S with names := .dat (.lst (texts nms)), gaps := .dat (.lst (dgaps gs)), outer := .dat (.str out), inner := .dat (.str inn) } : LS).st (lawSt 14) .next
      ({ S with names := .dat (.lst (texts nms)), gaps := .dat (.lst (dgaps gs)), outer := .dat (.str out), inner := .dat (.str inn), text := .dat (.str (textOf out inn nms gs)) } : LS).st := by
  show Ex prog w g₀ n _ _ (.Assign _ _ _) .next _
  refine Ex.assign (Ev.toS (Ev.methS ⟨rfl, rfl, by decide⟩ (Ev.name (mem_there (mem_there (mem_there (mem_there (mem_there (mem_there (mem_there (mem_there (mem_there (mem_there (mem_there (mem_there (mem_there (mem_there (mem_there (mem_there mem_here))))))))))))))))).toB (EvBAll.cons (EvO.lst (EvO.cast (o' := .lst (texts (gs.map (lineS inn nms)))) (EvO.comp1 (ds := dgaps gs) (fun d => match d with | .lst l => some (.str (Txt.join inn (l.map fun v => match v with | .int i => nms.getD i.toNat "" | _ => ""))) | _ => none)
    [("names", .dat (.lst (texts nms))), ("inner", .dat (.str inn)), ("line", .unset)] fr ?hI ?ok (Cap.name (mem_there (mem_there (mem_there (mem_there (mem_there (mem_there mem_here)))))) (Cap.name (mem_there (mem_there (mem_there (mem_there (mem_there (mem_there (mem_there (mem_there (mem_there (mem_there (mem_there (mem_there (mem_there (mem_there (mem_there (mem_there (mem_there mem_here))))))))))))))))) (Cap.var Cap.nil))) ?sz ?turn) ?e)).toB EvBAll.nil) (.join _ _ hj2))) (.there (.there (.there (.there (.there (.there (.there (.there (.there (.there (.there (.there (.there (.there (.there (.there (.there (.there .here))))))))))))))))))
  case hI => exact EvI.list (Ev.name (mem_there (mem_there (mem_there (mem_there (mem_there (mem_there (mem_there (mem_there (mem_there (mem_there (mem_there (mem_there mem_here))))))))))))) (.name _ _ _)
  case ok => show formOk (fnScope (stm 72)) _ ["names", "inner", "line"] = true; decide +kernel
  case sz => simp [dgaps, sizeLine]; omega
  case e =>
    congr 1
    simp only [dgaps, texts, List.filterMap_map, List.map_map]
    rw [show ((fun d : D => match d with | .lst l => some (D.str (Txt.join inn (l.map fun v => match v with | .int i => nms.getD i.toNat "" | _ => ""))) | _ => none) ∘ fun g : List Nat => D.lst (natsD g)) = fun g => some (D.str (lineS inn nms g)) from ?_]
    · exact filterMap_map_some
    · funext g
      simp only [Function.comp, natsD, nums, List.map_map, lineS]
      rfl
  case turn =>
    intro cl C fr' d hd
    obtain ⟨line, hl, rfl⟩ := List.mem_map.mp hd
    obtain ⟨hl1, hl2⟩ := hin line hl
    refine ⟨[("names", .dat (.lst (texts nms))), ("inner", .dat (.str inn)), ("line", .dat (.lst (natsD line)))], AsgC.name (.there (.there .here)), Ifs.nil, fun y hy => ?_, .keep (.keep (.drop .nil))⟩
    have e : (natsD line).map (fun v => match v with | .int i => nms.getD i.toNat "" | _ => "") = line.map fun g => nms.getD g "" := by
      simp only [natsD, nums, List.map_map]; rfl
    have hy : some (D.str (Txt.join inn ((natsD line).map fun v => match v with | .int i => nms.getD i.toNat "" | _ => ""))) = some y := hy
    rw [e] at hy
    cases hy
    refine Ev.methS ⟨rfl, rfl, by decide⟩ (Ev.name (mem_there mem_here)).toB (EvBAll.cons (EvO.lst (EvO.cast (o' := .lst (texts (line.map fun g => nms.getD g ""))) (EvO.comp1 (ds := natsD line) (fun d => match d with | .int i => some (.str (nms.getD i.toNat "")) | _ => none)
      [("names", .dat (.lst (texts nms))), ("gap", .unset)] fr' ?hI ?ok (Cap.name mem_here (Cap.var Cap.nil)) ?sz ?turn) ?e)).toB EvBAll.nil) (.join _ _ (hj line hl))
    case hI => exact EvI.list (Ev.name (mem_there (mem_there mem_here))) (.name _ _ _)
    case ok => show formOk (relabelS (fnScope (stm 72)) _) _ ["names", "gap"] = true; decide +kernel
    case sz => simp [natsD, nums, sizeLine]; omega
    case e =>
      congr 1
      simp only [natsD, nums, texts, List.filterMap_map, List.map_map]
      exact filterMap_map_some
    case turn =>
      intro cl2 C2 fr2 d hd
      obtain ⟨g, hg, rfl⟩ : ∃ g, g ∈ line ∧ d = .int ((g : Nat) : Int) := by
        simp only [natsD, nums, List.map_map] at hd
        obtain ⟨g, hg, rfl⟩ := List.mem_map.mp hd
        exact ⟨g, hg, rfl⟩
      refine ⟨[("names", .dat (.lst (texts nms))), ("gap", .dat (.int g))], AsgC.name (.there .here), Ifs.nil, fun y hy => ?_, .keep (.drop .nil)⟩
      have hy : some (D.str (nms.getD ((g : Int)).toNat "")) = some y := hy
      rw [Int.toNat_natCast] at hy
      cases hy
      have := hl2 g hg
      exact Ev.sub (Ev.name mem_here).toB (Ev.name (mem_there mem_here)).toB (.lst _ _ _ (by omega) (texts_get this))

theorem law15 (S : LS) (hv : Value) (x y : Str) (hf : FnOk prog w g₀ 1 hv [.str x] (.str y)) : Ex prog w g₀ 2 (lenv pm code doc N a) ({ S with write := .dat (.fn hv), text := .dat (.str x) } : LS).st (lawSt 15) .next
    ({ S with write := .dat (.fn hv), text := .dat (.str x), page := .dat (.str y) } : LS).st := by
  show Ex prog w g₀ 2 _ _ (.Assign _ _ _) .next _
  exact Ex.assign (Ev.toS (Ev.callF (Ev.name (mem_there (mem_there (mem_there (mem_there (mem_there (mem_there (mem_there (mem_there (mem_there (mem_there (mem_there (mem_there (mem_there mem_here)))))))))))))) hf (EvAll.cons (Ev.name (mem_there (mem_there (mem_there (mem_there (mem_there (mem_there (mem_there (mem_there (mem_there (mem_there (mem_there (mem_there (mem_there (mem_there (mem_there (mem_there (mem_there (mem_there mem_here))))))))))))))))))) EvAll.nil))) (.there (.there (.there (.there (.there (.there (.there (.there (.there (.there (.there (.there (.there (.there (.there (.there (.there (.there (.there .here)))))))))))))))))))

theorem law16 (fr : Fr0 (lenv pm code doc N a)) (S : LS) (x y : Str) (tb : STab) (hx : x.length ≤ 100000) (hy : y = Txt.join "" ((signStrs x).map (tg tb))) (hj : JoinOk "" ((signStrs x).map (tg tb))) {ss : List Stmt} {dd : D}
    (h : Rt prog w g₀ 2 (lenv pm code doc N a) ({ S with table := .dat (.sdict (dtb tb)), text := .dat (.str x), page := .dat (.str y) } : LS).st ss dd) :
    Rt prog w g₀ 2 (lenv pm code doc N a) ({ S with table := .dat (.sdict (dtb tb)), text := .dat (.str x), page := .dat (.str y) } : LS).st (lawSt 16 :: ss) dd := by
  show Rt prog w g₀ 2 _ _ (.If _ _ [] _ :: ss) _
  refine Rt.ifSkip (Tst.cast (Tst.cmp (Ev.name (mem_there (mem_there (mem_there (mem_there (mem_there (mem_there (mem_there (mem_there (mem_there (mem_there (mem_there (mem_there (mem_there (mem_there (mem_there (mem_there (mem_there (mem_there (mem_there mem_here)))))))))))))))))))).toB (Ev.methS ⟨rfl, rfl, by decide⟩ Ev.str.toB (EvBAll.cons (EvO.lst (EvO.cast (o' := .lst (texts ((signStrs x).map (tg tb)))) (EvO.comp1 (ds := signs x) (fun d => match d with | .str s => some (.str (tg tb s)) | _ => none)
    [("table", .dat (.sdict (dtb tb))), ("sign", .unset)] fr ?hI ?ok (Cap.name (mem_there (mem_there (mem_there (mem_there (mem_there (mem_there (mem_there (mem_there (mem_there (mem_there (mem_there (mem_there (mem_there (mem_there mem_here)))))))))))))) (Cap.var Cap.nil)) ?sz ?turn) ?e)).toB EvBAll.nil) (.join _ _ hj)).toB (.neS _ _)) (by rw [← hy]; simp)) h
  case hI => exact EvI.str (Ev.name (mem_there (mem_there (mem_there (mem_there (mem_there (mem_there (mem_there (mem_there (mem_there (mem_there (mem_there (mem_there (mem_there (mem_there (mem_there (mem_there (mem_there (mem_there mem_here))))))))))))))))))).toB
  case ok => show formOk (fnScope (stm 72)) _ ["table", "sign"] = true; decide +kernel
  case sz => simp only [signs, List.length_map, sizeLine]; simp only [Str.length] at hx; simp; omega
  case e =>
    congr 1
    simp only [signs, texts, signStrs, List.filterMap_map, List.map_map]
    exact filterMap_map_some
  case turn =>
    intro cl C fr' d hd
    obtain ⟨c, hc, rfl⟩ := List.mem_map.mp hd
    refine ⟨[("table", .dat (.sdict (dtb tb))), ("sign", .dat (.str ⟨#[c]⟩))], AsgC.name (.there .here), Ifs.nil, fun y hy => ?_, .keep (.drop .nil)⟩
    have hy : some (D.str (tg tb ⟨#[c]⟩)) = some y := hy
    cases hy
    exact Ev.cast (Ev.getS ⟨rfl, rfl, by decide⟩ ⟨rfl, rfl⟩ (Ev.name mem_here).toB (Ev.name (mem_there mem_here)) (Ev.name (mem_there mem_here))) look_dtb

theorem law17 (T : TopF g₀ mg mb) (fr : Fr0 (lenv pm code doc N a)) (S : LS) (hv : Value) (wr : Str → Str) (nms : List Str) (hn : nms.length ≤ 1000) (hf : ∀ x ∈ nms, FnOk prog w g₀ 1 hv [.str x] (.str (wr x))) :
    Ex prog w g₀ 2 (lenv pm code doc N a) ({ S with names := .dat (.lst (texts nms)), write := .dat (.fn hv) } : LS).st (lawSt 17) .next
      ({ S with names := .dat (.lst (texts nms)), write := .dat (.fn hv), letters := .own (.lst (texts (nms.map wr))) } : LS).st := by
  have hres : (texts nms).filterMap (fun d => match d with | .str s => some (D.str (wr s)) | _ => none) = texts (nms.map wr) := by
    simp only [texts, List.filterMap_map, List.map_map]
    exact filterMap_map_some
  show Ex prog w g₀ 2 _ _ (.Assign _ _ _) .next _
  refine Ex.assignComp1 (ds := texts nms) (fun d => match d with | .str s => some (D.str (wr s)) | _ => none) [("write", .dat (.fn hv)), ("name", .unset)] fr ?hI ?ok (Cap.name (mem_there (mem_there (mem_there (mem_there (mem_there (mem_there (mem_there (mem_there (mem_there (mem_there (mem_there (mem_there (mem_there mem_here))))))))))))) (Cap.var Cap.nil)) ?sz ?turn ?p
  case hI => exact EvI.list (Ev.name (mem_there (mem_there (mem_there (mem_there (mem_there (mem_there mem_here))))))) (.name _ _ _)
  case ok => show formOk (fnScope (stm 72)) _ ["write", "name"] = true; decide +kernel
  case sz => simp [texts, sizeLine]; omega
  case p => rw [hres]; exact (.there (.there (.there (.there (.there (.there (.there (.there (.there (.there (.there (.there (.there (.there (.there (.there (.there (.there (.there (.there .here))))))))))))))))))))
  case turn =>
    intro cl C fr' d hd
    obtain ⟨s, hs, rfl⟩ := List.mem_map.mp hd
    refine ⟨[("write", .dat (.fn hv)), ("name", .dat (.str s))], AsgC.name (.there .here), Ifs.nil, fun y hy => ?_, .keep (.drop .nil)⟩
    have hy : some (D.str (wr s)) = some y := hy
    cases hy
    exact Ev.callF (Ev.name mem_here) (hf s hs) (EvAll.cons (Ev.name (mem_there mem_here)) EvAll.nil)
end
end Mine

namespace Mine
open PySem

abbrev TS := List Int × Steps
def gapSt (p g less : Nat) (st : TS) (gap : Nat) : TS := (st.1 ++ [if gap = g then 0 else 2], if gap = g then st.2.set gap (st.2.getD gap [] ++ [(p, less)]) else st.2)
def lessAt (sd : List (List Int)) (p k : Nat) : Nat := ((sd.getD p []).getD (2 * k) 0 - 256).toNat
def pieceSt (sd : List (List Int)) (gsp : List Nat) (p : Nat) (st : TS) (k : Nat) : TS := (List.range 3).foldl (gapSt p (gsp.getD k 0) (lessAt sd p k)) st
def placeSt (sd : List (List Int)) (gs : List (List Nat)) (st : TS) (p : Nat) : TS := (List.range (gs.getD p []).length).foldl (pieceSt sd (gs.getD p []) p) st
def allSt (sd : List (List Int)) (gs : List (List Nat)) (m : Nat) : TS := (List.range m).foldl (placeSt sd gs) ([], [[], [], []])
def dnest (s : Steps) : List (List D) := s.map dpairs

open Builtin Builtin.Str in
def SplitOk (x y : Str) : Prop := (y.length == 0) = false ∧ x.length ≤ sizeLine ∧ (partsBetween x (Builtin.Str.occurrences x y 0 x.length (x.length + 1)) y.length).length ≤ sizeLine

structure F19 (gs : List (List Nat)) (sd : List (List Int)) (lets lns : List Str) (page a b : Str) : Prop where
  split1 : Txt.split page a = lns
  ok1 : SplitOk page a
  len : lns.length = gs.length
  gl : gs.length ≤ 100
  split2 : ∀ p, p < gs.length → (Txt.split (lns.getD p "") b).filter (fun s => s != ("" : Str)) = (gs.getD p []).map fun g => lets.getD g ""
  ok2 : ∀ p, p < gs.length → SplitOk (lns.getD p "") b ∧ (Txt.split (lns.getD p "") b).length ≤ 1000
  line : ∀ p, p < gs.length → (gs.getD p []).length ≤ 100 ∧ ∀ k, k < (gs.getD p []).length → (gs.getD p []).getD k 0 < 3 ∧ 2 * k < (sd.getD p []).length ∧ 256 ≤ (sd.getD p []).getD (2 * k) 0
  lets3 : lets.length = 3 ∧ ∀ s ∈ lets, s.length ≤ 1000000
  costs : ∀ g g', g < 3 → g' < 3 → subst (lets.getD g "") (lets.getD g' "") = if g = g' then 0 else 2
  sdl : sd.length = gs.length

/-- three lists, none longer than the first one -/
def Good3 (st : TS) : Prop := st.2.length = 3 ∧ ∀ l ∈ st.2, l.length ≤ st.1.length
theorem gapSt_inv {p g less gap b : Nat} {st : TS} (h : st.1.length ≤ b ∧ Good3 st) : (gapSt p g less st gap).1.length ≤ b + 1 ∧ Good3 (gapSt p g less st gap) := by
  obtain ⟨h1, h2, h3⟩ := h
  unfold gapSt
  refine ⟨by simp; omega, ?_, fun l hl => ?_⟩
  · dsimp only; split <;> simp [h2]
  · dsimp only at hl ⊢
    rw [List.length_append]
    split at hl
    · rcases List.mem_or_eq_of_mem_set hl with hl | rfl
      · have := h3 l hl; simp; omega
      · by_cases hg : gap < st.2.length
        · have := h3 (st.2.getD gap []) (by rw [show st.2.getD gap [] = st.2[gap] by simp [hg]]; exact List.getElem_mem _)
          rw [List.length_append]; simp only [List.length_cons, List.length_nil]; omega
        · rw [show st.2.getD gap [] = [] by simp [List.getElem?_eq_none (by omega : st.2.length ≤ gap)]]; simp
    · have := h3 l hl; simp; omega
theorem foldl_bound {α : Type} {f : TS → α → TS} {c : Nat} (hf : ∀ st a b, (st.1.length ≤ b ∧ Good3 st) → ((f st a).1.length ≤ b + c ∧ Good3 (f st a))) :
    ∀ (l : List α) (st : TS) (b : Nat), (st.1.length ≤ b ∧ Good3 st) → ((l.foldl f st).1.length ≤ b + c * l.length ∧ Good3 (l.foldl f st))
  | [], st, b, h => ⟨by simp; exact h.1, h.2⟩
  | a :: l, st, b, h => by
    have := foldl_bound hf l (f st a) (b + c) (hf st a b h)
    refine ⟨?_, this.2⟩
    have h1 := this.1
    rw [List.foldl_cons, List.length_cons, Nat.mul_add]
    omega
theorem pieceSt_inv {sd : List (List Int)} {gsp : List Nat} {p k b : Nat} {st : TS} (h : st.1.length ≤ b ∧ Good3 st) : (pieceSt sd gsp p st k).1.length ≤ b + 3 ∧ Good3 (pieceSt sd gsp p st k) := by
  have := foldl_bound (fun st a b h => gapSt_inv (p := p) (g := gsp.getD k 0) (less := lessAt sd p k) (gap := a) h) (List.range 3) st b h
  simpa [pieceSt] using this
theorem placeSt_inv {sd : List (List Int)} {gs : List (List Nat)} {p b : Nat} {st : TS} (hl : (gs.getD p []).length ≤ 100) (h : st.1.length ≤ b ∧ Good3 st) : (placeSt sd gs st p).1.length ≤ b + 300 ∧ Good3 (placeSt sd gs st p) := by
  have := foldl_bound (fun st a b h => pieceSt_inv (sd := sd) (gsp := gs.getD p []) (p := p) (k := a) h) (List.range (gs.getD p []).length) st b h
  rw [List.length_range] at this
  exact ⟨Nat.le_trans this.1 (by omega), this.2⟩
theorem allSt_inv {sd : List (List Int)} {gs : List (List Nat)} (hl : ∀ p, p < gs.length → (gs.getD p []).length ≤ 100) : ∀ m, m ≤ gs.length → (allSt sd gs m).1.length ≤ 300 * m ∧ Good3 (allSt sd gs m)
  | 0, _ => ⟨Nat.zero_le _, rfl, fun l hl => by
      have hl : l ∈ ([[], [], []] : Steps) := hl
      have hl : l = [] := by simpa using hl
      rw [hl]; exact Nat.zero_le _⟩
  | m + 1, h => by
    unfold allSt
    rw [List.range_succ, List.foldl_append]
    have := placeSt_inv (sd := sd) (hl m (by omega)) (allSt_inv (sd := sd) hl m (by omega))
    exact ⟨by have := this.1; show (placeSt sd gs (allSt sd gs m) m).1.length ≤ _; omega, this.2⟩

section
variable {prog : Program} {w : World} {g₀ g : Heap} {n : Nat} {env cenv : Env} {ρ ρ₁ ρ₂ ρ' ρc : Store} {mg mb : Str → Option Value} {fl : Fl}
variable {pm code doc : Value} {N a : Addr}

theorem law18 (S : LS) : Ex prog w g₀ n (lenv pm code doc N a) S.st (lawSt 18) .next ({ S with steps := .own (.nest [[], [], []]), told := .own (.lst []), due := .own (.lst []) } : LS).st := by
  have pp : Puts [("due", .own (.lst [])), ("told", .own (.lst [])), ("steps", .own (.nest [[], [], []]))] S.st ({ S with steps := .own (.nest [[], [], []]), told := .own (.lst []), due := .own (.lst []) } : LS).st :=
    .cons (.there (.there (.there (.there (.there (.there (.there (.there (.there (.there (.there (.there (.there (.there (.there (.there (.there (.there (.there (.there (.there (.there (.there .here))))))))))))))))))))))) (.cons (.there (.there (.there (.there (.there (.there (.there (.there (.there (.there (.there (.there (.there (.there (.there (.there (.there (.there (.there (.there (.there (.there .here)))))))))))))))))))))) (.cons (.there (.there (.there (.there (.there (.there (.there (.there (.there (.there (.there (.there (.there (.there (.there (.there (.there (.there (.there (.there (.there .here))))))))))))))))))))) .nil))
  show Ex prog w g₀ n _ _ (.Assign _ _ _) .next _
  exact Ex.tupR (xs := [("steps", .own (.nest [[], [], []])), ("told", .own (.lst [])), ("due", .own (.lst []))]) (EvSAll.cons (EvO.toS (EvO.nest (dss := [[], [], []]) (EvSAll.cons (EvO.toS (EvO.list EvAll.nil)) (EvSAll.cons (EvO.toS (EvO.list EvAll.nil)) (EvSAll.cons (EvO.toS (EvO.list EvAll.nil)) EvSAll.nil))) (by simp [sizeLine])))
    (EvSAll.cons (EvO.toS (EvO.list EvAll.nil)) (EvSAll.cons (EvO.toS (EvO.list EvAll.nil)) EvSAll.nil))) pp (by simp [sizeLine])

/-- the store of the reading loops -/
def R19x (S : LS) (gs : List (List Nat)) (sd : List (List Int)) (lets : List Str) (page out inn : Str) (tb : STab) (sts : Steps) (tl dl : List Int) (s1 s2 s3 s4 s5 : Slot) : Store :=
  ({ S with sides := .dat (.idict (dsides sd)), gaps := .dat (.lst (dgaps gs)), table := .dat (.sdict (dtb tb)), outer := .dat (.str out), inner := .dat (.str inn), page := .dat (.str page), letters := .dat (.lst (texts lets)), steps := .own (.nest (dnest sts)), told := .own (.lst (nums tl)), due := .own (.lst (nums dl)), place := s1, line := s2, k := s3, piece := s4, gap := s5 } : LS).st
abbrev R19 (S : LS) (gs : List (List Nat)) (sd : List (List Int)) (lets : List Str) (page out inn : Str) (tb : STab) (st : TS) (s1 s2 s3 s4 s5 : Slot) : Store := R19x S gs sd lets page out inn tb st.2 st.1 st.1 s1 s2 s3 s4 s5

theorem law19 (T : TopF g₀ mg mb) (fr : Fr0 (lenv pm code doc N a)) (S : LS) (gs : List (List Nat)) (sd : List (List Int)) (lets lns : List Str) (page out inn : Str) (tb : STab) (F : F19 gs sd lets lns page (tg tb out) (tg tb inn)) :
    Ex prog w g₀ 2 (lenv pm code doc N a) (R19 S gs sd lets page out inn tb (allSt sd gs 0) .unset .unset .unset .unset .unset) (lawSt 19) .next
      (R19 S gs sd lets page out inn tb (allSt sd gs gs.length) .unset .unset .unset .unset .unset) := by
  have hfin : gs.length = (Mine.enumL (texts lns)).length := by simp [enumL, texts, F.len]
  have hgl := F.gl
  show Ex prog w g₀ 2 _ _ (.For _ _ _ _ _) .next _
  have main : Ex prog w g₀ 2 (lenv pm code doc N a) ((fun i => R19 S gs sd lets page out inn tb (allSt sd gs i) .unset .unset .unset .unset .unset) 0) (lawSt 19) .next ((fun i => R19 S gs sd lets page out inn tb (allSt sd gs i) .unset .unset .unset .unset .unset) (Mine.enumL (texts lns)).length) := by
    show Ex prog w g₀ 2 _ _ (.For _ _ _ _ _) .next _
    refine Ex.for (fun i => R19 S gs sd lets page out inn tb (allSt sd gs i) .unset .unset .unset .unset .unset) (ds := Mine.enumL (texts lns)) ?hI fun p d hd => ?_
    case hI => exact EvI.enumL (Ev.ty T ⟨rfl, rfl, rfl, rfl, rfl⟩ (by walk_at "m tab")) (EvO.lst (EvO.cast (EvO.split ⟨rfl, rfl, by decide⟩ rfl (Ev.name (mem_there (mem_there (mem_there (mem_there (mem_there (mem_there (mem_there (mem_there (mem_there (mem_there (mem_there (mem_there (mem_there (mem_there (mem_there (mem_there (mem_there (mem_there (mem_there mem_here)))))))))))))))))))).toB (Ev.cast (Ev.getS ⟨rfl, rfl, by decide⟩ ⟨rfl, rfl⟩ (Ev.name (mem_there (mem_there (mem_there (mem_there (mem_there (mem_there (mem_there (mem_there (mem_there (mem_there (mem_there (mem_there (mem_there (mem_there mem_here))))))))))))))).toB (Ev.name (mem_there (mem_there (mem_there (mem_there (mem_there (mem_there (mem_there (mem_there (mem_there (mem_there (mem_there (mem_there (mem_there (mem_there (mem_there (mem_there mem_here))))))))))))))))) (Ev.name (mem_there (mem_there (mem_there (mem_there (mem_there (mem_there (mem_there (mem_there (mem_there (mem_there (mem_there (mem_there (mem_there (mem_there (mem_there (mem_there mem_here)))))))))))))))))) look_dtb).toB F.ok1.1 F.ok1.2) (by rw [F.split1])))
    obtain ⟨ln, hln, rfl⟩ : ∃ ln, lns[p]? = some ln ∧ d = .tup [.int p, .str ln] := by
      simp only [Mine.enumL, texts, List.getElem?_mapIdx, List.getElem?_map, Option.map_map, Option.map_eq_some_iff] at hd
      obtain ⟨x, hx, rfl⟩ := hd
      exact ⟨x, hx, rfl⟩
    have hp : p < gs.length := by rw [← F.len]; exact (List.getElem?_eq_some_iff.mp hln).1
    have eln : lns.getD p "" = ln := by simp [hln]
    obtain ⟨hln2, hlk⟩ := F.line p hp
    have inv := allSt_inv (sd := sd) (fun p hp => (F.line p hp).1) p (by omega)
    have ok2 := F.ok2 p hp
    have sp2 := F.split2 p hp
    rw [eln] at ok2 sp2
    rw [show allSt sd gs (p + 1) = placeSt sd gs (allSt sd gs p) p by unfold allSt; rw [List.range_succ, List.foldl_append]; rfl]
    generalize allSt sd gs p = st at *
    refine ⟨R19 S gs sd lets page out inn tb st (.dat (.int p)) (.dat (.str ln)) .unset .unset .unset, R19 S gs sd lets page out inn tb (placeSt sd gs st p) (.dat (.int p)) (.dat (.str ln)) .unset .unset .unset, Asg.tup (AsgAll.cons (ρ₁ := R19 S gs sd lets page out inn tb st (.dat (.int p)) .unset .unset .unset .unset) (Asg.name (.there (.there .here))) (AsgAll.cons (Asg.name (.there (.there (.there (.there (.there (.there (.there (.there (.there (.there (.there (.there (.there (.there (.there (.there (.there (.there (.there (.there (.there (.there (.there (.there .here))))))))))))))))))))))))) .nil)), ?_,
      .keep (.keep (.drop (.keep (.keep (.keep (.keep (.keep (.keep (.keep (.keep (.keep (.keep (.keep (.keep (.keep (.keep (.keep (.keep (.keep (.keep (.keep (.keep (.keep (.drop Fg.refl))))))))))))))))))))))))⟩
    have hgsp : (dgaps gs)[((p : Nat) : Int).toNat]? = some (.lst (natsD (gs.getD p []))) := by rw [Int.toNat_natCast]; simp [dgaps, hp]
    have hsdp := look_dsides (sd := sd) (p := p) (by rw [F.sdl]; exact hp)
    unfold placeSt
    generalize hgsv : gs.getD p [] = gsp at *
    have hfin2 : gsp.length = (Mine.enumL (texts (gsp.map fun g => lets.getD g ""))).length := by simp [enumL, texts]
    rw [hfin2]
    refine Exs.cons (Ex.for (fun i => R19 S gs sd lets page out inn tb ((List.range i).foldl (pieceSt sd gsp p) st) (.dat (.int p)) (.dat (.str ln)) .unset .unset .unset) (ds := Mine.enumL (texts (gsp.map fun g => lets.getD g ""))) ?hI2 fun k d hd => ?_) Exs.nil
    case hI2 =>
      refine EvI.enumL (Ev.ty T ⟨rfl, rfl, rfl, rfl, rfl⟩ (by walk_at "m tab")) (EvO.lst (EvO.cast (o' := .lst (texts (gsp.map fun g => lets.getD g ""))) (EvO.comp1 (ds := texts (Txt.split ln (tg tb inn))) (fun d => match d with | .str s => if (s != ("" : Str)) = true then some (.str s) else none | _ => none) [("one", .unset)] fr
        (EvI.list (EvO.lst (EvO.split ⟨rfl, rfl, by decide⟩ rfl (Ev.name (mem_there (mem_there (mem_there (mem_there (mem_there (mem_there (mem_there (mem_there (mem_there (mem_there (mem_there (mem_there (mem_there (mem_there (mem_there (mem_there (mem_there (mem_there (mem_there (mem_there (mem_there (mem_there (mem_there (mem_there mem_here))))))))))))))))))))))))).toB (Ev.cast (Ev.getS ⟨rfl, rfl, by decide⟩ ⟨rfl, rfl⟩ (Ev.name (mem_there (mem_there (mem_there (mem_there (mem_there (mem_there (mem_there (mem_there (mem_there (mem_there (mem_there (mem_there (mem_there (mem_there mem_here))))))))))))))).toB (Ev.name (mem_there (mem_there (mem_there (mem_there (mem_there (mem_there (mem_there (mem_there (mem_there (mem_there (mem_there (mem_there (mem_there (mem_there (mem_there (mem_there (mem_there mem_here)))))))))))))))))) (Ev.name (mem_there (mem_there (mem_there (mem_there (mem_there (mem_there (mem_there (mem_there (mem_there (mem_there (mem_there (mem_there (mem_there (mem_there (mem_there (mem_there (mem_there mem_here))))))))))))))))))) look_dtb).toB ok2.1.1 ok2.1.2)) (.name _ _ _)) ?ok (Cap.var Cap.nil) ?sz ?turn) ?e))
      case ok => show formOk (fnScope (stm 72)) _ ["one"] = true; decide +kernel
      case sz => simp only [texts, List.length_map, sizeLine]; omega
      case e =>
        rw [← sp2]
        congr 1
        have : ∀ l : List Str, (texts l).filterMap (fun d => match d with | .str s => if (s != ("" : Str)) = true then some (D.str s) else none | _ => none) = texts (l.filter fun s => s != ("" : Str)) := by
          intro l
          induction l with
          | nil => rfl
          | cons s l ih =>
            by_cases h : (s != ("" : Str)) = true
            · have e1 : (texts (s :: l)).filterMap (fun d => match d with | .str s => if (s != ("" : Str)) = true then some (D.str s) else none | _ => none) = .str s :: (texts l).filterMap (fun d => match d with | .str s => if (s != ("" : Str)) = true then some (D.str s) else none | _ => none) := by
                refine List.filterMap_cons_some ?_
                show (if (s != ("" : Str)) = true then some (D.str s) else none) = _
                rw [if_pos h]
              rw [e1, ih, List.filter_cons_of_pos (p := fun s => s != ("" : Str)) h]; rfl
            · have e1 : (texts (s :: l)).filterMap (fun d => match d with | .str s => if (s != ("" : Str)) = true then some (D.str s) else none | _ => none) = (texts l).filterMap (fun d => match d with | .str s => if (s != ("" : Str)) = true then some (D.str s) else none | _ => none) := by
                refine List.filterMap_cons_none ?_
                show (if (s != ("" : Str)) = true then some (D.str s) else none) = _
                rw [if_neg h]
              rw [e1, ih, List.filter_cons_of_neg (p := fun s => s != ("" : Str)) h]
        exact this _
      case turn =>
        intro cl C fr' d hd
        obtain ⟨s, hs, rfl⟩ := List.mem_map.mp hd
        refine ⟨[("one", .dat (.str s))], AsgC.name .here, ?_, fun y hy => ?_, .drop .nil⟩
        · have : (if (s != ("" : Str)) = true then some (D.str s) else none).isSome = (s != ("" : Str)) := by cases h : s != ("" : Str) <;> simp
          show Ifs _ _ _ _ _ _ _ (if (s != ("" : Str)) = true then some (D.str s) else none).isSome
          rw [this]
          exact Ifs.one (Tst.cmp (Ev.name mem_here).toB Ev.str.toB (.neS _ _))
        · have hy : (if (s != ("" : Str)) = true then some (D.str s) else none) = some y := hy
          split at hy
          · cases hy; exact Ev.name mem_here
          · cases hy
    obtain ⟨g, hgk, rfl⟩ : ∃ g, gsp[k]? = some g ∧ d = .tup [.int k, .str (lets.getD g "")] := by
      simp only [Mine.enumL, texts, List.map_map, List.getElem?_mapIdx, List.getElem?_map, Option.map_map, Option.map_eq_some_iff] at hd
      obtain ⟨x, hx, rfl⟩ := hd
      exact ⟨x, hx, rfl⟩
    have hk : k < gsp.length := (List.getElem?_eq_some_iff.mp hgk).1
    obtain ⟨g3, hk2, hk3⟩ := hlk k hk
    have egk : gsp.getD k 0 = g := by simp [hgk]
    rw [egk] at g3
    have inv2 : ((List.range k).foldl (pieceSt sd gsp p) st).1.length ≤ 300 * p + 3 * k ∧ Good3 ((List.range k).foldl (pieceSt sd gsp p) st) := by
      have := foldl_bound (fun st a b h => pieceSt_inv (sd := sd) (gsp := gsp) (p := p) (k := a) h) (List.range k) st _ inv
      rwa [List.length_range] at this
    rw [show (List.range (k + 1)).foldl (pieceSt sd gsp p) st = pieceSt sd gsp p ((List.range k).foldl (pieceSt sd gsp p) st) k by rw [List.range_succ, List.foldl_append]; rfl]
    generalize (List.range k).foldl (pieceSt sd gsp p) st = st at *
    unfold pieceSt
    rw [egk]
    have hls : (((lessAt sd p k : Nat)) : Int) = (sd.getD p []).getD (2 * k) 0 - 256 := by unfold lessAt; omega
    generalize lessAt sd p k = less at *
    refine ⟨R19 S gs sd lets page out inn tb st (.dat (.int p)) (.dat (.str ln)) (.dat (.int k)) (.dat (.str (lets.getD g ""))) .unset, R19 S gs sd lets page out inn tb ((List.range 3).foldl (gapSt p g less) st) (.dat (.int p)) (.dat (.str ln)) (.dat (.int k)) (.dat (.str (lets.getD g ""))) .unset,
      Asg.tup (AsgAll.cons (ρ₁ := R19 S gs sd lets page out inn tb st (.dat (.int p)) (.dat (.str ln)) (.dat (.int k)) .unset .unset) (Asg.name (.there (.there (.there (.there (.there (.there (.there (.there (.there (.there (.there (.there (.there (.there (.there (.there (.there (.there (.there (.there (.there (.there (.there (.there (.there .here)))))))))))))))))))))))))) (AsgAll.cons (Asg.name (.there (.there (.there (.there (.there (.there (.there (.there (.there (.there (.there (.there (.there (.there (.there (.there (.there (.there (.there (.there (.there (.there (.there (.there (.there (.there .here))))))))))))))))))))))))))) .nil)), ?_,
      .keep (.keep (.keep (.keep (.keep (.keep (.keep (.keep (.keep (.keep (.keep (.keep (.keep (.keep (.keep (.keep (.keep (.keep (.keep (.keep (.keep (.keep (.keep (.keep (.keep (.drop (.drop Fg.refl))))))))))))))))))))))))))⟩
    refine Exs.cons (ρ₁ := R19 S gs sd lets page out inn tb ((List.range 3).foldl (gapSt p g less) st) (.dat (.int p)) (.dat (.str ln)) (.dat (.int k)) (.dat (.str (lets.getD g ""))) .unset) (Ex.for (fun j => R19 S gs sd lets page out inn tb ((List.range j).foldl (gapSt p g less) st) (.dat (.int p)) (.dat (.str ln)) (.dat (.int k)) (.dat (.str (lets.getD g ""))) .unset) (ds := rangeL 0 1 3) ?hI3 fun j d hd => ?_) Exs.nil
    case hI3 => exact EvI.range1 (b := 3) (Ev.ty T ⟨rfl, rfl, rfl, rfl, rfl⟩ (by walk_at "m tab")) Ev.int.toB rfl (by omega)
    obtain ⟨hj, rfl⟩ := range01_get hd
    have inv3 : ((List.range j).foldl (gapSt p g less) st).1.length ≤ 300 * p + 3 * k + j ∧ Good3 ((List.range j).foldl (gapSt p g less) st) := by
      have := foldl_bound (fun st a b h => gapSt_inv (p := p) (g := g) (less := less) (gap := a) h) (List.range j) st _ inv2
      rw [List.length_range] at this
      exact ⟨Nat.le_trans this.1 (by omega), this.2⟩
    rw [show (List.range (j + 1)).foldl (gapSt p g less) st = gapSt p g less ((List.range j).foldl (gapSt p g less) st) j by rw [List.range_succ, List.foldl_append]; rfl]
    generalize (List.range j).foldl (gapSt p g less) st = st at *
    obtain ⟨inv3, st3, stl⟩ := inv3
    have hcost := F.costs j g hj g3
    generalize hv : (if j = g then (0 : Int) else 2) = v at *
    have hg1 : gapSt p g less st j = (st.1 ++ [v], if j = g then st.2.set j (st.2.getD j [] ++ [(p, less)]) else st.2) := by unfold gapSt; rw [hv]
    rw [hg1]
    obtain ⟨hl3, hll⟩ := F.lets3
    have lj : ∀ i, i < 3 → (lets.getD i "").length ≤ 1000000 := fun i hi => by
      have : lets.getD i "" = lets[i] := by simp [show i < lets.length by omega]
      rw [this]; exact hll _ (List.getElem_mem _)
    have hgk2 : (natsD gsp)[((k : Nat) : Int).toNat]? = some (.int ((g : Nat) : Int)) := by rw [Int.toNat_natCast]; simp [natsD, nums, hgk]
    refine ⟨R19x S gs sd lets page out inn tb st.2 st.1 st.1 (.dat (.int p)) (.dat (.str ln)) (.dat (.int k)) (.dat (.str (lets.getD g ""))) (.dat (.int j)), R19x S gs sd lets page out inn tb (if j = g then st.2.set j (st.2.getD j [] ++ [(p, less)]) else st.2) (st.1 ++ [v]) (st.1 ++ [v]) (.dat (.int p)) (.dat (.str ln)) (.dat (.int k)) (.dat (.str (lets.getD g ""))) (.dat (.int j)), Asg.name (.there (.there (.there (.there (.there (.there (.there (.there (.there (.there (.there (.there (.there (.there (.there (.there (.there (.there (.there (.there (.there (.there (.there (.there (.there (.there (.there .here))))))))))))))))))))))))))), ?_,
      .keep (.keep (.keep (.keep (.keep (.keep (.keep (.keep (.keep (.keep (.keep (.keep (.keep (.keep (.keep (.keep (.keep (.keep (.keep (.keep (.keep (.keep (.keep (.keep (.keep (.keep (.keep (.drop Fg.refl)))))))))))))))))))))))))))⟩
    refine Exs.cons (ρ₁ := R19x S gs sd lets page out inn tb st.2 (st.1 ++ [v]) st.1 (.dat (.int p)) (.dat (.str ln)) (.dat (.int k)) (.dat (.str (lets.getD g ""))) (.dat (.int j)))
      (Ex.append ⟨rfl, rfl, by decide⟩ (mem_there (mem_there (mem_there (mem_there (mem_there (mem_there (mem_there (mem_there (mem_there (mem_there (mem_there (mem_there (mem_there (mem_there (mem_there (mem_there (mem_there (mem_there (mem_there (mem_there (mem_there (mem_there mem_here)))))))))))))))))))))) (Ev.cast (Ev.callF (Ev.fun0 T ⟨rfl, rfl, rfl, rfl, rfl⟩ (by walk_at "m tab")) (subst_ok T _ _ (lj j hj) (lj g g3)) (EvAll.cons (Ev.sub (Ev.name (mem_there (mem_there (mem_there (mem_there (mem_there (mem_there (mem_there (mem_there (mem_there (mem_there (mem_there (mem_there (mem_there (mem_there (mem_there (mem_there (mem_there (mem_there (mem_there (mem_there mem_here))))))))))))))))))))).toB (Ev.name (mem_there (mem_there (mem_there (mem_there (mem_there (mem_there (mem_there (mem_there (mem_there (mem_there (mem_there (mem_there (mem_there (mem_there (mem_there (mem_there (mem_there (mem_there (mem_there (mem_there (mem_there (mem_there (mem_there (mem_there (mem_there (mem_there (mem_there mem_here)))))))))))))))))))))))))))).toB (.lst _ _ _ (by omega) (texts_get (by omega)))) (EvAll.cons (Ev.name (mem_there (mem_there (mem_there (mem_there (mem_there (mem_there (mem_there (mem_there (mem_there (mem_there (mem_there (mem_there (mem_there (mem_there (mem_there (mem_there (mem_there (mem_there (mem_there (mem_there (mem_there (mem_there (mem_there (mem_there (mem_there (mem_there mem_here))))))))))))))))))))))))))) EvAll.nil))) (by rw [hcost]))
        (by rw [nums_len]; simp only [sizeLine]; omega) (by rw [nums_snoc]; exact (.there (.there (.there (.there (.there (.there (.there (.there (.there (.there (.there (.there (.there (.there (.there (.there (.there (.there (.there (.there (.there (.there .here)))))))))))))))))))))))) ?_
    refine Exs.cons (ρ₁ := R19x S gs sd lets page out inn tb st.2 (st.1 ++ [v]) (st.1 ++ [v]) (.dat (.int p)) (.dat (.str ln)) (.dat (.int k)) (.dat (.str (lets.getD g ""))) (.dat (.int j)))
      (Ex.append ⟨rfl, rfl, by decide⟩ (mem_there (mem_there (mem_there (mem_there (mem_there (mem_there (mem_there (mem_there (mem_there (mem_there (mem_there (mem_there (mem_there (mem_there (mem_there (mem_there (mem_there (mem_there (mem_there (mem_there (mem_there (mem_there (mem_there mem_here))))))))))))))))))))))) (Ev.ite (b := (j : Int) == (g : Int)) (d := .int v) (Tst.cmp (Ev.name (mem_there (mem_there (mem_there (mem_there (mem_there (mem_there (mem_there (mem_there (mem_there (mem_there (mem_there (mem_there (mem_there (mem_there (mem_there (mem_there (mem_there (mem_there (mem_there (mem_there (mem_there (mem_there (mem_there (mem_there (mem_there (mem_there (mem_there mem_here)))))))))))))))))))))))))))).toB (Ev.sub (Ev.sub (Ev.name (mem_there (mem_there (mem_there (mem_there (mem_there (mem_there (mem_there (mem_there (mem_there (mem_there (mem_there (mem_there mem_here))))))))))))).toB (Ev.name (mem_there (mem_there mem_here))).toB (.lst _ _ _ (by omega) hgsp)).toB (Ev.name (mem_there (mem_there (mem_there (mem_there (mem_there (mem_there (mem_there (mem_there (mem_there (mem_there (mem_there (mem_there (mem_there (mem_there (mem_there (mem_there (mem_there (mem_there (mem_there (mem_there (mem_there (mem_there (mem_there (mem_there (mem_there mem_here)))))))))))))))))))))))))).toB (.lst _ _ _ (by omega) hgk2)).toB (.eqI _ _)) ?_)
        (by rw [nums_len]; simp only [sizeLine]; omega) (by rw [nums_snoc]; exact (.there (.there (.there (.there (.there (.there (.there (.there (.there (.there (.there (.there (.there (.there (.there (.there (.there (.there (.there (.there (.there (.there (.there .here))))))))))))))))))))))))) ?_
    · by_cases hjg : j = g
      · rw [if_pos hjg] at hv; subst hv hjg; rw [if_pos (by simp)]; exact Ev.int
      · rw [if_neg hjg] at hv; subst hv; rw [if_neg (by simp; omega)]; exact Ev.int
    have elast : (nums (st.1 ++ [v]))[((-1 : Int) + (nums (st.1 ++ [v])).length).toNat]? = some (.int v) := by
      have hl : (nums (st.1 ++ [v])).length = st.1.length + 1 := by rw [nums_len]; simp
      rw [hl, show ((-1 : Int) + ((st.1.length + 1 : Nat) : Int)).toNat = st.1.length by omega]
      simp [nums]
    have hl' : (nums (st.1 ++ [v])).length = st.1.length + 1 := by rw [nums_len]; simp
    refine Exs.cons (Ex.ite (b := v == 0) (Tst.cmp (Ev.sub (EvB.lst (mem_there (mem_there (mem_there (mem_there (mem_there (mem_there (mem_there (mem_there (mem_there (mem_there (mem_there (mem_there (mem_there (mem_there (mem_there (mem_there (mem_there (mem_there (mem_there (mem_there (mem_there (mem_there mem_here))))))))))))))))))))))) (Ev.neg Ev.int.toB).toB (.lstNeg _ _ _ ⟨by omega, by rw [hl']; omega, by omega⟩ elast)).toB Ev.int.toB (.eqI _ _)) ?_) Exs.nil
    by_cases hjg : j = g
    · rw [if_pos hjg] at hv ⊢
      subst hv
      rw [if_pos (by decide)]
      have hds : (dnest st.2)[((j : Nat) : Int).toNat]? = some (dpairs (st.2.getD j [])) := by
        rw [Int.toNat_natCast]; simp [dnest, show j < st.2.length by omega]
      have hset : (dnest st.2).set ((j : Nat) : Int).toNat (dpairs (st.2.getD j []) ++ [.tup [.int p, .int ((less : Nat) : Int)]]) = dnest (st.2.set j (st.2.getD j [] ++ [(p, less)])) := by
        rw [Int.toNat_natCast]; simp [dnest, dpairs, List.map_set]
      have e2k : (nums (sd.getD p []))[((2 * k : Nat) : Int).toNat]? = some (.int ((sd.getD p []).getD (2 * k) 0)) := nums_get (by omega)
      exact Exs.cons (Ex.appendN ⟨rfl, rfl, by decide⟩ (mem_there (mem_there (mem_there (mem_there (mem_there (mem_there (mem_there (mem_there (mem_there (mem_there (mem_there (mem_there (mem_there (mem_there (mem_there (mem_there (mem_there (mem_there (mem_there (mem_there (mem_there mem_here))))))))))))))))))))) (Ev.name (mem_there (mem_there (mem_there (mem_there (mem_there (mem_there (mem_there (mem_there (mem_there (mem_there (mem_there (mem_there (mem_there (mem_there (mem_there (mem_there (mem_there (mem_there (mem_there (mem_there (mem_there (mem_there (mem_there (mem_there (mem_there (mem_there (mem_there mem_here)))))))))))))))))))))))))))).toB (by omega) hds (Ev.tuple (EvAll.cons (Ev.name (mem_there (mem_there mem_here))) (EvAll.cons (Ev.cast (Ev.bin (Ev.sub (Ev.sub (Ev.name (mem_there (mem_there (mem_there (mem_there (mem_there (mem_there (mem_there (mem_there (mem_there mem_here)))))))))).toB (Ev.bin Ev.int.toB (Ev.name (mem_there (mem_there mem_here))).toB (.addI _ _)).toB (.idict _ _ _ hsdp)).toB
        (Ev.cast (Ev.bin Ev.int.toB (Ev.name (mem_there (mem_there (mem_there (mem_there (mem_there (mem_there (mem_there (mem_there (mem_there (mem_there (mem_there (mem_there (mem_there (mem_there (mem_there (mem_there (mem_there (mem_there (mem_there (mem_there (mem_there (mem_there (mem_there (mem_there (mem_there mem_here)))))))))))))))))))))))))).toB (.mulI 2 _ (IntMulOk.of_left (by decide)))) (by rw [show (2 : Int) * (k : Int) = ((2 * k : Nat) : Int) by omega])).toB (.lst _ _ _ (by omega) e2k)).toB Ev.int.toB (.subI _ _)) (by rw [← hls])) EvAll.nil)))
        (by have := stl (st.2.getD j []) (by rw [show st.2.getD j [] = st.2[j]'(by omega) by simp [show j < st.2.length by omega]]; exact List.getElem_mem _)
            rw [show (dpairs (st.2.getD j [])).length = (st.2.getD j []).length by simp [dpairs]]
            simp only [sizeLine]; omega) (by rw [hset]; exact (.there (.there (.there (.there (.there (.there (.there (.there (.there (.there (.there (.there (.there (.there (.there (.there (.there (.there (.there (.there (.there .here))))))))))))))))))))))) Exs.nil
    · rw [if_neg hjg] at hv ⊢
      subst hv
      rw [if_neg (by decide)]
      exact Exs.nil
  rw [← hfin] at main
  exact main
end
end Mine

namespace Mine
open PySem

section
variable {prog : Program} {w : World} {g₀ g : Heap} {n : Nat} {env cenv : Env} {ρ ρ₁ ρ₂ ρ' ρc : Store} {mg mb : Str → Option Value} {fl : Fl}
variable {pm code doc : Value} {N a : Addr}

theorem law20 (T : TopF g₀ mg mb) (S : LS) (sd : List (List Int)) (wt tm : Tab) (hf : FnOk prog w g₀ 2 (fv mg "_law_worth") [.idict (dsides sd)] (.tup [.idict (dtab wt), .idict (dtab tm)])) :
    Ex prog w g₀ 2 (lenv pm code doc N a) ({ S with sides := .dat (.idict (dsides sd)) } : LS).st (lawSt 20) .next ({ S with sides := .dat (.idict (dsides sd)), worth := .dat (.idict (dtab wt)), times := .dat (.idict (dtab tm)) } : LS).st := by
  show Ex prog w g₀ 2 _ _ (.Assign _ _ _) .next _
  exact Ex.assignT (ds := [.idict (dtab wt), .idict (dtab tm)]) (Ev.callF (Ev.fun0 T ⟨rfl, rfl, rfl, rfl, rfl⟩ (by walk_at "m tab")) hf (EvAll.cons (Ev.name (mem_there (mem_there (mem_there (mem_there (mem_there (mem_there (mem_there (mem_there (mem_there mem_here)))))))))) EvAll.nil)) (AsgAll.cons (Asg.name (.there (.there (.there (.there (.there (.there (.there (.there (.there (.there (.there (.there (.there (.there (.there (.there (.there (.there (.there (.there (.there (.there (.there (.there (.there (.there (.there (.there .here))))))))))))))))))))))))))))) (AsgAll.cons (Asg.name (.there (.there (.there (.there (.there (.there (.there (.there (.there (.there (.there (.there (.there (.there (.there (.there (.there (.there (.there (.there (.there (.there (.there (.there (.there (.there (.there (.there (.there .here)))))))))))))))))))))))))))))) .nil))

theorem law21 (T : TopF g₀ mg mb) (S : LS) (sd : List (List Int)) (sts : Steps) (f : Nat) (wy : List Int) (hsd : sd.length ≤ 1000) (hf : FnOk prog w g₀ 1 (fv mg "_law_along") [.lst (dsteps sts), .int (sd.length : Nat), .int (f + 7 : Nat)] (.lst (nums wy))) :
    Ex prog w g₀ 2 (lenv pm code doc N a) ({ S with sides := .dat (.idict (dsides sd)), steps := .dat (.lst (dsteps sts)), first := .dat (.int f) } : LS).st (lawSt 21) .next
      ({ S with sides := .dat (.idict (dsides sd)), steps := .dat (.lst (dsteps sts)), first := .dat (.int f), ways := .dat (.lst (nums wy)) } : LS).st := by
  show Ex prog w g₀ 2 _ _ (.Assign _ _ _) .next _
  have hl : (dsides sd).length = sd.length := by simp [dsides]
  exact Ex.assign (Ev.toS (Ev.callF (Ev.fun0 T ⟨rfl, rfl, rfl, rfl, rfl⟩ (by walk_at "m tab")) hf (EvAll.cons (Ev.name (mem_there (mem_there (mem_there (mem_there (mem_there (mem_there (mem_there (mem_there (mem_there (mem_there (mem_there (mem_there (mem_there (mem_there (mem_there (mem_there (mem_there (mem_there (mem_there (mem_there (mem_there mem_here)))))))))))))))))))))) (EvAll.cons (Ev.cast (Ev.call (Ev.ty T ⟨rfl, rfl, rfl, rfl, rfl⟩ (by walk_at "m tab")) (EvBAll.cons (Ev.name (mem_there (mem_there (mem_there (mem_there (mem_there (mem_there (mem_there (mem_there (mem_there mem_here)))))))))).toB EvBAll.nil) (.lenI _ (by rw [hl]; omega))) (by rw [hl]))
    (EvAll.cons (Ev.bin (Ev.name (mem_there (mem_there (mem_there (mem_there mem_here))))).toB Ev.int.toB (bin_add (k := 7))) EvAll.nil))))) (.there (.there (.there (.there (.there (.there (.there (.there (.there (.there (.there (.there (.there (.there (.there (.there (.there (.there (.there (.there (.there (.there (.there (.there (.there (.there (.there (.there (.there (.there .here))))))))))))))))))))))))))))))

theorem law22 (T : TopF g₀ mg mb) (S : LS) (sd : List (List Int)) (wt tm : Tab) (wy : List Int) (hsd : sd.length ≤ 1000)
    (hok : ∀ p, p < sd.length → ∃ a b c, lk wt (256 + (p : Int)) = some a ∧ lk tm (256 + (p : Int)) = some b ∧ wy[p]? = some c ∧ (0 ≤ b ∧ b < 10000) ∧ a = b * c) :
    Ex prog w g₀ 2 (lenv pm code doc N a) ({ S with sides := .dat (.idict (dsides sd)), worth := .dat (.idict (dtab wt)), times := .dat (.idict (dtab tm)), ways := .dat (.lst (nums wy)), place := .unset } : LS).st (lawSt 22) .next
      ({ S with sides := .dat (.idict (dsides sd)), worth := .dat (.idict (dtab wt)), times := .dat (.idict (dtab tm)), ways := .dat (.lst (nums wy)), place := .unset } : LS).st := by
  have hl : (dsides sd).length = sd.length := by simp [dsides]
  show Ex prog w g₀ 2 _ _ (.For _ _ _ _ _) .next _
  refine Ex.for (fun i => ({ S with sides := .dat (.idict (dsides sd)), worth := .dat (.idict (dtab wt)), times := .dat (.idict (dtab tm)), ways := .dat (.lst (nums wy)), place := .unset } : LS).st) (ds := rangeL 0 1 sd.length) ?hI fun p d hd => ?_
  case hI => exact EvI.range1 (b := (sd.length : Int)) (Ev.ty T ⟨rfl, rfl, rfl, rfl, rfl⟩ (by walk_at "m tab")) (Ev.cast (Ev.call (Ev.ty T ⟨rfl, rfl, rfl, rfl, rfl⟩ (by walk_at "m tab")) (EvBAll.cons (Ev.name (mem_there (mem_there (mem_there (mem_there (mem_there (mem_there (mem_there (mem_there (mem_there mem_here)))))))))).toB EvBAll.nil) (.lenI _ (by rw [hl]; omega))) (by rw [hl])).toB rfl (by omega)
  obtain ⟨hp, rfl⟩ := range01_get hd
  obtain ⟨x, b, c, h1, h2, h3, hb, rfl⟩ := hok p hp
  have hc : (nums wy)[((p : Nat) : Int).toNat]? = some (.int c) := by rw [Int.toNat_natCast]; simp [nums, h3]
  refine ⟨({ S with sides := .dat (.idict (dsides sd)), worth := .dat (.idict (dtab wt)), times := .dat (.idict (dtab tm)), ways := .dat (.lst (nums wy)), place := .dat (.int p) } : LS).st, ({ S with sides := .dat (.idict (dsides sd)), worth := .dat (.idict (dtab wt)), times := .dat (.idict (dtab tm)), ways := .dat (.lst (nums wy)), place := .dat (.int p) } : LS).st, Asg.name (.there (.there .here)), ?_, .keep (.keep (.drop Fg.refl))⟩
  refine Exs.cons (Ex.ite (b := false) (Tst.cast (Tst.cmp (Ev.sub (Ev.name (mem_there (mem_there (mem_there (mem_there (mem_there (mem_there (mem_there (mem_there (mem_there (mem_there (mem_there (mem_there (mem_there (mem_there (mem_there (mem_there (mem_there (mem_there (mem_there (mem_there (mem_there (mem_there (mem_there (mem_there (mem_there (mem_there (mem_there (mem_there mem_here))))))))))))))))))))))))))))).toB (Ev.bin Ev.int.toB (Ev.name (mem_there (mem_there mem_here))).toB (.addI _ _)).toB (.idict _ _ _ (by rw [look_dtab, h1]; rfl))).toB
    (Ev.bin (Ev.sub (Ev.name (mem_there (mem_there (mem_there (mem_there (mem_there (mem_there (mem_there (mem_there (mem_there (mem_there (mem_there (mem_there (mem_there (mem_there (mem_there (mem_there (mem_there (mem_there (mem_there (mem_there (mem_there (mem_there (mem_there (mem_there (mem_there (mem_there (mem_there (mem_there (mem_there mem_here)))))))))))))))))))))))))))))).toB (Ev.bin Ev.int.toB (Ev.name (mem_there (mem_there mem_here))).toB (.addI _ _)).toB (.idict _ _ _ (by rw [look_dtab, h2]; rfl))).toB (Ev.sub (Ev.name (mem_there (mem_there (mem_there (mem_there (mem_there (mem_there (mem_there (mem_there (mem_there (mem_there (mem_there (mem_there (mem_there (mem_there (mem_there (mem_there (mem_there (mem_there (mem_there (mem_there (mem_there (mem_there (mem_there (mem_there (mem_there (mem_there (mem_there (mem_there (mem_there (mem_there mem_here))))))))))))))))))))))))))))))).toB (Ev.name (mem_there (mem_there mem_here))).toB (.lst _ _ _ (by omega) hc)).toB (.mulI _ _ (IntMulOk.of_left (bits_small hb)))).toB (.neI _ _)) (by simp)) (by rw [if_neg Bool.false_ne_true]; exact Exs.nil)) Exs.nil

def amp (s : Str) : Int := if occurs s "&" then 1 else 0
def tl23 (tl : List Int) (ls : List Str) : List Int := ls.foldl (fun t s => t ++ [amp s, amp s]) tl
theorem tl23_len {ls : List Str} : ∀ {tl : List Int}, (tl23 tl ls).length = tl.length + 2 * ls.length := by
  induction ls with
  | nil => intro tl; rfl
  | cons s ls ih => intro tl; show (tl23 (tl ++ [amp s, amp s]) ls).length = _; rw [ih]; simp; omega

theorem law23 (T : TopF g₀ mg mb) (S : LS) (lets : List Str) (tl : List Int) (hl : tl.length ≤ 100000 ∧ lets.length ≤ 1000) (hs : ∀ s ∈ lets, s.length ≤ 1000000 ∧ (Txt.upper s).length ≤ 1000000 ∧ subst s (Txt.upper s) = amp s ∧ subst (Txt.upper s) s = amp s) :
    Ex prog w g₀ 2 (lenv pm code doc N a) ({ S with letters := .dat (.lst (texts lets)), told := .own (.lst (nums tl)), due := .own (.lst (nums tl)), letter := .unset } : LS).st (lawSt 23) .next
      ({ S with letters := .dat (.lst (texts lets)), told := .own (.lst (nums (tl23 tl lets))), due := .own (.lst (nums (tl23 tl lets))), letter := .unset } : LS).st := by
  have hfin : tl23 tl lets = tl23 tl (lets.take (texts lets).length) := by rw [List.take_of_length_le (by simp [texts])]
  rw [hfin]
  show Ex prog w g₀ 2 _ _ (.For _ _ _ _ _) .next _
  refine Ex.for (fun i => ({ S with letters := .dat (.lst (texts lets)), told := .own (.lst (nums (tl23 tl (lets.take i)))), due := .own (.lst (nums (tl23 tl (lets.take i)))), letter := .unset } : LS).st) (ds := texts lets) ?hI fun i d hd => ?_
  case hI => exact EvI.list (Ev.name (mem_there (mem_there (mem_there (mem_there (mem_there (mem_there (mem_there (mem_there (mem_there (mem_there (mem_there (mem_there (mem_there (mem_there (mem_there (mem_there (mem_there (mem_there (mem_there (mem_there mem_here))))))))))))))))))))) (.name _ _ _)
  obtain ⟨s, hi, rfl⟩ : ∃ s, lets[i]? = some s ∧ d = .str s := by
    simp only [texts, List.getElem?_map, Option.map_eq_some_iff] at hd
    obtain ⟨s, h1, rfl⟩ := hd
    exact ⟨s, h1, rfl⟩
  obtain ⟨l1, l2, c1, c2⟩ := hs s (List.mem_of_getElem? hi)
  have e : tl23 tl (lets.take (i + 1)) = tl23 tl (lets.take i) ++ [amp s, amp s] := foldl_take hi
  have hlen : (tl23 tl (lets.take i)).length ≤ 102000 := by rw [tl23_len]; simp; omega
  rw [e]
  generalize tl23 tl (lets.take i) = t at *
  refine ⟨({ S with letters := .dat (.lst (texts lets)), told := .own (.lst (nums t)), due := .own (.lst (nums t)), letter := .dat (.str s) } : LS).st, ({ S with letters := .dat (.lst (texts lets)), told := .own (.lst (nums (t ++ [amp s, amp s]))), due := .own (.lst (nums (t ++ [amp s, amp s]))), letter := .dat (.str s) } : LS).st, Asg.name (.there (.there (.there (.there (.there (.there (.there (.there (.there (.there (.there (.there (.there (.there (.there (.there (.there (.there (.there (.there (.there (.there (.there (.there (.there (.there (.there (.there (.there (.there (.there .here))))))))))))))))))))))))))))))), ?_,
    .keep (.keep (.keep (.keep (.keep (.keep (.keep (.keep (.keep (.keep (.keep (.keep (.keep (.keep (.keep (.keep (.keep (.keep (.keep (.keep (.keep (.keep (.keep (.keep (.keep (.keep (.keep (.keep (.keep (.keep (.keep (.drop Fg.refl)))))))))))))))))))))))))))))))⟩
  have up : ∀ (ρ : Store) p p' p'' (hm : (("letter" : Str), Slot.dat (D.str s)) ∈ ρ) (hw : (("letter" : Str) == ("__debug__" : Str)) = false), Ev prog w g₀ 2 (lenv pm code doc N a) ρ (.Call (.Attribute (.Name "letter" p) "upper" p') [] [] p'') (.str (Txt.upper s)) → True := fun _ _ _ _ _ _ _ => trivial
  refine Exs.cons (ρ₁ := ({ S with letters := .dat (.lst (texts lets)), told := .own (.lst (nums (t ++ [amp s, amp s]))), due := .own (.lst (nums t)), letter := .dat (.str s) } : LS).st)
    (Ex.extend ⟨rfl, rfl, by decide⟩ (mem_there (mem_there (mem_there (mem_there (mem_there (mem_there (mem_there (mem_there (mem_there (mem_there (mem_there (mem_there (mem_there (mem_there (mem_there (mem_there (mem_there (mem_there (mem_there (mem_there (mem_there (mem_there mem_here)))))))))))))))))))))) (EvO.cast (o' := .lst [.int (amp s), .int (amp s)]) (EvO.list (EvAll.cons (Ev.callF (Ev.fun0 T ⟨rfl, rfl, rfl, rfl, rfl⟩ (by walk_at "m tab")) (subst_ok T _ _ l1 l2) (EvAll.cons (Ev.name (mem_there (mem_there (mem_there (mem_there (mem_there (mem_there (mem_there (mem_there (mem_there (mem_there (mem_there (mem_there (mem_there (mem_there (mem_there (mem_there (mem_there (mem_there (mem_there (mem_there (mem_there (mem_there (mem_there (mem_there (mem_there (mem_there (mem_there (mem_there (mem_there (mem_there (mem_there mem_here)))))))))))))))))))))))))))))))) (EvAll.cons (Ev.methS ⟨rfl, rfl, by decide⟩ (Ev.name (mem_there (mem_there (mem_there (mem_there (mem_there (mem_there (mem_there (mem_there (mem_there (mem_there (mem_there (mem_there (mem_there (mem_there (mem_there (mem_there (mem_there (mem_there (mem_there (mem_there (mem_there (mem_there (mem_there (mem_there (mem_there (mem_there (mem_there (mem_there (mem_there (mem_there (mem_there mem_here)))))))))))))))))))))))))))))))).toB EvBAll.nil (.upper _ l1)) EvAll.nil)))
      (EvAll.cons (Ev.callF (Ev.fun0 T ⟨rfl, rfl, rfl, rfl, rfl⟩ (by walk_at "m tab")) (subst_ok T _ _ l2 l1) (EvAll.cons (Ev.methS ⟨rfl, rfl, by decide⟩ (Ev.name (mem_there (mem_there (mem_there (mem_there (mem_there (mem_there (mem_there (mem_there (mem_there (mem_there (mem_there (mem_there (mem_there (mem_there (mem_there (mem_there (mem_there (mem_there (mem_there (mem_there (mem_there (mem_there (mem_there (mem_there (mem_there (mem_there (mem_there (mem_there (mem_there (mem_there (mem_there mem_here)))))))))))))))))))))))))))))))).toB EvBAll.nil (.upper _ l1)) (EvAll.cons (Ev.name (mem_there (mem_there (mem_there (mem_there (mem_there (mem_there (mem_there (mem_there (mem_there (mem_there (mem_there (mem_there (mem_there (mem_there (mem_there (mem_there (mem_there (mem_there (mem_there (mem_there (mem_there (mem_there (mem_there (mem_there (mem_there (mem_there (mem_there (mem_there (mem_there (mem_there (mem_there mem_here)))))))))))))))))))))))))))))))) EvAll.nil))) EvAll.nil))) (by rw [c1, c2]))
      (by rw [nums_len]; simp only [List.length_cons, List.length_nil, sizeLine]; omega) (by rw [nums_snoc2]; exact (.there (.there (.there (.there (.there (.there (.there (.there (.there (.there (.there (.there (.there (.there (.there (.there (.there (.there (.there (.there (.there (.there .here)))))))))))))))))))))))) ?_
  exact Exs.cons (Ex.extend ⟨rfl, rfl, by decide⟩ (mem_there (mem_there (mem_there (mem_there (mem_there (mem_there (mem_there (mem_there (mem_there (mem_there (mem_there (mem_there (mem_there (mem_there (mem_there (mem_there (mem_there (mem_there (mem_there (mem_there (mem_there (mem_there (mem_there mem_here))))))))))))))))))))))) (EvO.cast (o' := .lst [.int (amp s), .int (amp s)]) (EvO.mulL (x := 2) (EvO.list (EvAll.cons (Ev.ite (b := occurs s "&") (d := .int (amp s)) (Tst.cmp Ev.str.toB (Ev.name (mem_there (mem_there (mem_there (mem_there (mem_there (mem_there (mem_there (mem_there (mem_there (mem_there (mem_there (mem_there (mem_there (mem_there (mem_there (mem_there (mem_there (mem_there (mem_there (mem_there (mem_there (mem_there (mem_there (mem_there (mem_there (mem_there (mem_there (mem_there (mem_there (mem_there (mem_there mem_here)))))))))))))))))))))))))))))))).toB (.inS _ _)) (by unfold amp; cases occurs s "&" <;> simp <;> exact Ev.int)) EvAll.nil)) Ev.int.toB (by simp) (by simp)) (by rfl))
    (by rw [nums_len]; simp only [List.length_cons, List.length_nil, sizeLine]; omega) (by rw [nums_snoc2]; exact (.there (.there (.there (.there (.there (.there (.there (.there (.there (.there (.there (.there (.there (.there (.there (.there (.there (.there (.there (.there (.there (.there (.there .here))))))))))))))))))))))))) Exs.nil
end
end Mine

namespace Mine
open PySem

def chr (x : Str) (k : Nat) : Str := ⟨#[x.cps.toList.getD k 0]⟩
/-- the signs, each once -/
def loneOf (x : Str) : List Str := ((List.range x.cps.size).filter fun k => !occurs (takeS x k) (chr x k)).map (chr x)
def due26 (a b : Str) : List Int := if (a != b) = true then [2, 2, 2] else if occurs "ampltg" a then [0, 1, 1] else [0, 0, 0]
def tl26 (tl : List Int) (a : Str) (bs : List Str) : List Int := bs.foldl (fun t b => t ++ due26 a b) tl
def tl26s (tl : List Int) (ls as : List Str) : List Int := as.foldl (fun t a => tl26 t a ls) tl

theorem due26_len {a b : Str} : (due26 a b).length = 3 := by
  unfold due26
  split
  · rfl
  · split <;> rfl
theorem tl26_len {a : Str} {bs : List Str} : ∀ {tl : List Int}, (tl26 tl a bs).length = tl.length + 3 * bs.length := by
  induction bs with
  | nil => intro tl; rfl
  | cons s ls ih => intro tl; show (tl26 (tl ++ due26 a s) a ls).length = _; rw [ih, List.length_append, due26_len]; simp; omega
theorem tl26s_len {ls as : List Str} : ∀ {tl : List Int}, (tl26s tl ls as).length = tl.length + 3 * ls.length * as.length := by
  induction as with
  | nil => intro tl; rfl
  | cons s as ih => intro tl; show (tl26s (tl26 tl s ls) ls as).length = _; rw [ih, tl26_len, List.length_cons, Nat.mul_add]; omega

section
variable {prog : Program} {w : World} {g₀ g : Heap} {n : Nat} {env cenv : Env} {ρ ρ₁ ρ₂ ρ' ρc : Store} {mg mb : Str → Option Value} {fl : Fl}
variable {pm code doc : Value} {N a : Addr}

theorem law24 (S : LS) (lets : List Str) (hj : JoinOk "" lets) : Ex prog w g₀ n (lenv pm code doc N a) ({ S with letters := .dat (.lst (texts lets)) } : LS).st (lawSt 24) .next
    ({ S with letters := .dat (.lst (texts lets)), spelled := .dat (.str (Txt.join "" lets)) } : LS).st := by
  show Ex prog w g₀ n _ _ (.Assign _ _ _) .next _
  exact Ex.assign (Ev.toS (Ev.methS ⟨rfl, rfl, by decide⟩ Ev.str.toB (EvBAll.cons (Ev.name (mem_there (mem_there (mem_there (mem_there (mem_there (mem_there (mem_there (mem_there (mem_there (mem_there (mem_there (mem_there (mem_there (mem_there (mem_there (mem_there (mem_there (mem_there (mem_there (mem_there mem_here))))))))))))))))))))).toB EvBAll.nil) (.join _ _ hj))) (.there (.there (.there (.there (.there (.there (.there (.there (.there (.there (.there (.there (.there (.there (.there (.there (.there (.there (.there (.there (.there (.there (.there (.there (.there (.there (.there (.there (.there (.there (.there (.there .here))))))))))))))))))))))))))))))))

theorem law25 (T : TopF g₀ mg mb) (fr : Fr0 (lenv pm code doc N a)) (S : LS) (sp : Str) (hl : sp.length ≤ 1000) : Ex prog w g₀ 2 (lenv pm code doc N a) ({ S with spelled := .dat (.str sp) } : LS).st (lawSt 25) .next
    ({ S with spelled := .dat (.str sp), lone := .own (.lst (texts (loneOf sp))) } : LS).st := by
  have hres : (Mine.enumL (signs sp)).filterMap (fun d => match d with | .tup [.int k, .str s] => if (!occurs (takeS sp k.toNat) s) = true then some (D.str s) else none | _ => none) = texts (loneOf sp) := by
    have e1 : Mine.enumL (signs sp) = (List.range sp.cps.size).map fun k : Nat => D.tup [.int k, .str (chr sp k)] := by
      apply List.ext_getElem?
      intro i
      simp only [Mine.enumL, signs, List.getElem?_mapIdx, List.getElem?_map]
      by_cases hi : i < sp.cps.size
      · rw [List.getElem?_range hi]
        have hi' : i < sp.cps.toList.length := by simpa using hi
        simp [hi, chr]
      · rw [List.getElem?_eq_none (by simpa using hi), List.getElem?_eq_none (by simpa using hi)]; rfl
    rw [e1, List.filterMap_map]
    unfold loneOf texts
    rw [List.map_map]
    generalize List.range sp.cps.size = l
    induction l with
    | nil => rfl
    | cons k l ih =>
      by_cases h : (!occurs (takeS sp k) (chr sp k)) = true
      · rw [List.filter_cons_of_pos (p := fun k => !occurs (takeS sp k) (chr sp k)) h, List.map_cons, ← ih]
        refine List.filterMap_cons_some ?_
        show (if (!occurs (takeS sp ((k : Int)).toNat) (chr sp k)) = true then some (D.str (chr sp k)) else none) = _
        rw [Int.toNat_natCast, if_pos h]; rfl
      · rw [List.filter_cons_of_neg (p := fun k => !occurs (takeS sp k) (chr sp k)) h, ← ih]
        refine List.filterMap_cons_none ?_
        show (if (!occurs (takeS sp ((k : Int)).toNat) (chr sp k)) = true then some (D.str (chr sp k)) else none) = _
        rw [Int.toNat_natCast, if_neg h]
  show Ex prog w g₀ 2 _ _ (.Assign _ _ _) .next _
  refine Ex.assignComp1 (ds := Mine.enumL (signs sp)) (fun d => match d with | .tup [.int k, .str s] => if (!occurs (takeS sp k.toNat) s) = true then some (D.str s) else none | _ => none) [("spelled", .dat (.str sp)), ("k", .unset), ("sign", .unset)] fr ?hI ?ok (Cap.name (mem_there (mem_there (mem_there (mem_there (mem_there (mem_there (mem_there (mem_there (mem_there (mem_there (mem_there (mem_there (mem_there (mem_there (mem_there (mem_there (mem_there (mem_there (mem_there (mem_there (mem_there (mem_there (mem_there (mem_there (mem_there (mem_there (mem_there (mem_there (mem_there (mem_there (mem_there (mem_there mem_here)))))))))))))))))))))))))))))))) (Cap.var (Cap.var Cap.nil))) ?sz ?turn ?p
  case hI => exact EvI.enumS (Ev.ty T ⟨rfl, rfl, rfl, rfl, rfl⟩ (by walk_at "m tab")) (Ev.name (mem_there (mem_there (mem_there (mem_there (mem_there (mem_there (mem_there (mem_there (mem_there (mem_there (mem_there (mem_there (mem_there (mem_there (mem_there (mem_there (mem_there (mem_there (mem_there (mem_there (mem_there (mem_there (mem_there (mem_there (mem_there (mem_there (mem_there (mem_there (mem_there (mem_there (mem_there (mem_there mem_here)))))))))))))))))))))))))))))))))
  case ok => show formOk (fnScope (stm 72)) _ ["spelled", "k", "sign"] = true; decide +kernel
  case sz => simp only [Mine.enumL, signs, List.length_mapIdx, List.length_map, sizeLine]; simp only [Str.length] at hl; simp; omega
  case p => rw [hres]; exact (.there (.there (.there (.there (.there (.there (.there (.there (.there (.there (.there (.there (.there (.there (.there (.there (.there (.there (.there (.there (.there (.there (.there (.there (.there (.there (.there (.there (.there (.there (.there (.there (.there .here)))))))))))))))))))))))))))))))))
  case turn =>
    intro cl C fr' d hd
    obtain ⟨k, hk, c, rfl⟩ : ∃ k : Nat, k ≤ sp.length ∧ ∃ c, d = .tup [.int k, .str c] := by
      obtain ⟨k, hk⟩ := List.mem_iff_getElem?.mp hd
      simp only [Mine.enumL, signs, List.getElem?_mapIdx, List.getElem?_map, Option.map_map, Option.map_eq_some_iff] at hk
      obtain ⟨c, hc, rfl⟩ := hk
      have := (List.getElem?_eq_some_iff.mp hc).1
      exact ⟨k, by simp only [Str.length]; simp at this; omega, _, rfl⟩
    refine ⟨[("spelled", .dat (.str sp)), ("k", .dat (.int k)), ("sign", .dat (.str c))], AsgC.pair (.there .here) (.there (.there .here)), ?_, fun y hy => ?_, .keep (.drop (.drop .nil))⟩
    · have : (if (!occurs (takeS sp ((k : Int)).toNat) c) = true then some (D.str c) else none).isSome = (!occurs (takeS sp ((k : Int)).toNat) c) := by cases h : !occurs (takeS sp ((k : Int)).toNat) c <;> simp
      show Ifs _ _ _ _ _ _ _ (if (!occurs (takeS sp ((k : Int)).toNat) c) = true then some (D.str c) else none).isSome
      rw [this]
      exact Ifs.one (Tst.cmp (Ev.name (mem_there (mem_there mem_here))).toB (Ev.cutS (Ev.name mem_here).toB (Ev.name (mem_there mem_here)).toB (by omega) (by simp only [sizeLine]; omega)).toB (.ninS _ _))
    · have hy : (if (!occurs (takeS sp ((k : Int)).toNat) c) = true then some (D.str c) else none) = some y := hy
      split at hy
      · cases hy; exact Ev.name (mem_there (mem_there mem_here))
      · cases hy

/-- the last loops' store -/
def R26 (S : LS) (ls : List Str) (tl : List Int) (s1 s2 : Slot) : Store := ({ S with lone := .dat (.lst (texts ls)), told := .own (.lst (nums tl)), due := .own (.lst (nums tl)), one := s1, other := s2 } : LS).st

theorem law26 (T : TopF g₀ mg mb) (S : LS) (ls : List Str) (tl : List Int) (hl : tl.length ≤ 200000 ∧ ls.length ≤ 100) (hlen : ∀ a ∈ ls, a.length ≤ 1000000 ∧ (Txt.upper a).length ≤ 1000000)
    (hs : ∀ a ∈ ls, ∀ b ∈ ls, [subst a b, subst a (Txt.upper b), subst (Txt.upper a) b] = due26 a b) :
    Ex prog w g₀ 2 (lenv pm code doc N a) (R26 S ls tl .unset .unset) (lawSt 26) .next (R26 S ls (tl26s tl ls ls) .unset .unset) := by
  have hfin : tl26s tl ls ls = tl26s tl ls (ls.take (texts ls).length) := by rw [List.take_of_length_le (by simp [texts])]
  rw [hfin]
  show Ex prog w g₀ 2 _ _ (.For _ _ _ _ _) .next _
  refine Ex.for (fun i => R26 S ls (tl26s tl ls (ls.take i)) .unset .unset) (ds := texts ls) ?hI fun i d hd => ?_
  case hI => exact EvI.list (Ev.name (mem_there (mem_there (mem_there (mem_there (mem_there (mem_there (mem_there (mem_there (mem_there (mem_there (mem_there (mem_there (mem_there (mem_there (mem_there (mem_there (mem_there (mem_there (mem_there (mem_there (mem_there (mem_there (mem_there (mem_there (mem_there (mem_there (mem_there (mem_there (mem_there (mem_there (mem_there (mem_there (mem_there mem_here)))))))))))))))))))))))))))))))))) (.name _ _ _)
  obtain ⟨x, hi, rfl⟩ : ∃ s, ls[i]? = some s ∧ d = .str s := by
    simp only [texts, List.getElem?_map, Option.map_eq_some_iff] at hd
    obtain ⟨s, h1, rfl⟩ := hd
    exact ⟨s, h1, rfl⟩
  have hx := List.mem_of_getElem? hi
  obtain ⟨x1, x2⟩ := hlen x hx
  have hsx := hs x hx
  rw [show tl26s tl ls (ls.take (i + 1)) = tl26 (tl26s tl ls (ls.take i)) x ls from foldl_take hi]
  have hlen1 : (tl26s tl ls (ls.take i)).length ≤ 240000 := by
    rw [tl26s_len]
    have h1 : 3 * ls.length * (ls.take i).length ≤ 3 * ls.length * ls.length := Nat.mul_le_mul_left _ (by simp; omega)
    have h2 : 3 * ls.length * ls.length ≤ 300 * 100 := Nat.mul_le_mul (by omega) hl.2
    omega
  generalize tl26s tl ls (ls.take i) = t at *
  have hfin2 : tl26 t x ls = tl26 t x (ls.take (texts ls).length) := by rw [List.take_of_length_le (by simp [texts])]
  refine ⟨R26 S ls t (.dat (.str x)) .unset, R26 S ls (tl26 t x ls) (.dat (.str x)) .unset, Asg.name (.there (.there (.there (.there (.there (.there (.there (.there (.there (.there (.there (.there (.there (.there (.there (.there (.there (.there (.there (.there (.there (.there (.there (.there (.there (.there (.there (.there (.there (.there (.there (.there (.there (.there .here)))))))))))))))))))))))))))))))))), ?_,
    .keep (.keep (.keep (.keep (.keep (.keep (.keep (.keep (.keep (.keep (.keep (.keep (.keep (.keep (.keep (.keep (.keep (.keep (.keep (.keep (.keep (.keep (.keep (.keep (.keep (.keep (.keep (.keep (.keep (.keep (.keep (.keep (.keep (.keep (.drop Fg.refl))))))))))))))))))))))))))))))))))⟩
  rw [hfin2]
  refine Exs.cons (Ex.for (fun i => R26 S ls (tl26 t x (ls.take i)) (.dat (.str x)) .unset) (ds := texts ls) ?hI2 fun j d hd => ?_) Exs.nil
  case hI2 => exact EvI.list (Ev.name (mem_there (mem_there (mem_there (mem_there (mem_there (mem_there (mem_there (mem_there (mem_there (mem_there (mem_there (mem_there (mem_there (mem_there (mem_there (mem_there (mem_there (mem_there (mem_there (mem_there (mem_there (mem_there (mem_there (mem_there (mem_there (mem_there (mem_there (mem_there (mem_there (mem_there (mem_there (mem_there (mem_there mem_here)))))))))))))))))))))))))))))))))) (.name _ _ _)
  obtain ⟨y, hj, rfl⟩ : ∃ s, ls[j]? = some s ∧ d = .str s := by
    simp only [texts, List.getElem?_map, Option.map_eq_some_iff] at hd
    obtain ⟨s, h1, rfl⟩ := hd
    exact ⟨s, h1, rfl⟩
  have hy := List.mem_of_getElem? hj
  obtain ⟨y1, y2⟩ := hlen y hy
  have hsy := hsx y hy
  rw [show tl26 t x (ls.take (j + 1)) = tl26 t x (ls.take j) ++ due26 x y from foldl_take hj]
  have hlen2 : (tl26 t x (ls.take j)).length ≤ 250000 := by rw [tl26_len]; simp; omega
  generalize tl26 t x (ls.take j) = t at *
  refine ⟨R26 S ls t (.dat (.str x)) (.dat (.str y)), R26 S ls (t ++ due26 x y) (.dat (.str x)) (.dat (.str y)), Asg.name (.there (.there (.there (.there (.there (.there (.there (.there (.there (.there (.there (.there (.there (.there (.there (.there (.there (.there (.there (.there (.there (.there (.there (.there (.there (.there (.there (.there (.there (.there (.there (.there (.there (.there (.there .here))))))))))))))))))))))))))))))))))), ?_,
    .keep (.keep (.keep (.keep (.keep (.keep (.keep (.keep (.keep (.keep (.keep (.keep (.keep (.keep (.keep (.keep (.keep (.keep (.keep (.keep (.keep (.keep (.keep (.keep (.keep (.keep (.keep (.keep (.keep (.keep (.keep (.keep (.keep (.keep (.keep (.drop .nil)))))))))))))))))))))))))))))))))))⟩
  have n3 : nums t ++ [D.int (subst x y), .int (subst x (Txt.upper y)), .int (subst (Txt.upper x) y)] = nums (t ++ due26 x y) := by rw [← hsy]; simp [nums]
  have n4 : nums t ++ nums (due26 x y) = nums (t ++ due26 x y) := nums_app
  refine Exs.cons (ρ₁ := ({ S with lone := .dat (.lst (texts ls)), told := .own (.lst (nums (t ++ due26 x y))), due := .own (.lst (nums t)), one := .dat (.str x), other := .dat (.str y) } : LS).st)
    (Ex.extend ⟨rfl, rfl, by decide⟩ (mem_there (mem_there (mem_there (mem_there (mem_there (mem_there (mem_there (mem_there (mem_there (mem_there (mem_there (mem_there (mem_there (mem_there (mem_there (mem_there (mem_there (mem_there (mem_there (mem_there (mem_there (mem_there mem_here)))))))))))))))))))))) (EvO.list (EvAll.cons (Ev.callF (Ev.fun0 T ⟨rfl, rfl, rfl, rfl, rfl⟩ (by walk_at "m tab")) (subst_ok T _ _ x1 y1) (EvAll.cons (Ev.name (mem_there (mem_there (mem_there (mem_there (mem_there (mem_there (mem_there (mem_there (mem_there (mem_there (mem_there (mem_there (mem_there (mem_there (mem_there (mem_there (mem_there (mem_there (mem_there (mem_there (mem_there (mem_there (mem_there (mem_there (mem_there (mem_there (mem_there (mem_there (mem_there (mem_there (mem_there (mem_there (mem_there (mem_there mem_here))))))))))))))))))))))))))))))))))) (EvAll.cons (Ev.name (mem_there (mem_there (mem_there (mem_there (mem_there (mem_there (mem_there (mem_there (mem_there (mem_there (mem_there (mem_there (mem_there (mem_there (mem_there (mem_there (mem_there (mem_there (mem_there (mem_there (mem_there (mem_there (mem_there (mem_there (mem_there (mem_there (mem_there (mem_there (mem_there (mem_there (mem_there (mem_there (mem_there (mem_there (mem_there mem_here)))))))))))))))))))))))))))))))))))) EvAll.nil)))
      (EvAll.cons (Ev.callF (Ev.fun0 T ⟨rfl, rfl, rfl, rfl, rfl⟩ (by walk_at "m tab")) (subst_ok T _ _ x1 y2) (EvAll.cons (Ev.name (mem_there (mem_there (mem_there (mem_there (mem_there (mem_there (mem_there (mem_there (mem_there (mem_there (mem_there (mem_there (mem_there (mem_there (mem_there (mem_there (mem_there (mem_there (mem_there (mem_there (mem_there (mem_there (mem_there (mem_there (mem_there (mem_there (mem_there (mem_there (mem_there (mem_there (mem_there (mem_there (mem_there (mem_there mem_here))))))))))))))))))))))))))))))))))) (EvAll.cons (Ev.methS ⟨rfl, rfl, by decide⟩ (Ev.name (mem_there (mem_there (mem_there (mem_there (mem_there (mem_there (mem_there (mem_there (mem_there (mem_there (mem_there (mem_there (mem_there (mem_there (mem_there (mem_there (mem_there (mem_there (mem_there (mem_there (mem_there (mem_there (mem_there (mem_there (mem_there (mem_there (mem_there (mem_there (mem_there (mem_there (mem_there (mem_there (mem_there (mem_there (mem_there mem_here)))))))))))))))))))))))))))))))))))).toB EvBAll.nil (.upper _ y1)) EvAll.nil)))
      (EvAll.cons (Ev.callF (Ev.fun0 T ⟨rfl, rfl, rfl, rfl, rfl⟩ (by walk_at "m tab")) (subst_ok T _ _ x2 y1) (EvAll.cons (Ev.methS ⟨rfl, rfl, by decide⟩ (Ev.name (mem_there (mem_there (mem_there (mem_there (mem_there (mem_there (mem_there (mem_there (mem_there (mem_there (mem_there (mem_there (mem_there (mem_there (mem_there (mem_there (mem_there (mem_there (mem_there (mem_there (mem_there (mem_there (mem_there (mem_there (mem_there (mem_there (mem_there (mem_there (mem_there (mem_there (mem_there (mem_there (mem_there (mem_there mem_here))))))))))))))))))))))))))))))))))).toB EvBAll.nil (.upper _ x1)) (EvAll.cons (Ev.name (mem_there (mem_there (mem_there (mem_there (mem_there (mem_there (mem_there (mem_there (mem_there (mem_there (mem_there (mem_there (mem_there (mem_there (mem_there (mem_there (mem_there (mem_there (mem_there (mem_there (mem_there (mem_there (mem_there (mem_there (mem_there (mem_there (mem_there (mem_there (mem_there (mem_there (mem_there (mem_there (mem_there (mem_there (mem_there mem_here)))))))))))))))))))))))))))))))))))) EvAll.nil))) EvAll.nil))))
      (by rw [nums_len]; simp only [List.length_cons, List.length_nil, sizeLine]; omega) (by rw [n3]; exact (.there (.there (.there (.there (.there (.there (.there (.there (.there (.there (.there (.there (.there (.there (.there (.there (.there (.there (.there (.there (.there (.there .here)))))))))))))))))))))))) ?_
  refine Exs.cons (Ex.extend (ds' := nums (due26 x y)) ⟨rfl, rfl, by decide⟩ (mem_there (mem_there (mem_there (mem_there (mem_there (mem_there (mem_there (mem_there (mem_there (mem_there (mem_there (mem_there (mem_there (mem_there (mem_there (mem_there (mem_there (mem_there (mem_there (mem_there (mem_there (mem_there (mem_there mem_here))))))))))))))))))))))) (EvO.ite (b := _) (c := x != y) (Tst.cmp (Ev.name (mem_there (mem_there (mem_there (mem_there (mem_there (mem_there (mem_there (mem_there (mem_there (mem_there (mem_there (mem_there (mem_there (mem_there (mem_there (mem_there (mem_there (mem_there (mem_there (mem_there (mem_there (mem_there (mem_there (mem_there (mem_there (mem_there (mem_there (mem_there (mem_there (mem_there (mem_there (mem_there (mem_there (mem_there mem_here))))))))))))))))))))))))))))))))))).toB (Ev.name (mem_there (mem_there (mem_there (mem_there (mem_there (mem_there (mem_there (mem_there (mem_there (mem_there (mem_there (mem_there (mem_there (mem_there (mem_there (mem_there (mem_there (mem_there (mem_there (mem_there (mem_there (mem_there (mem_there (mem_there (mem_there (mem_there (mem_there (mem_there (mem_there (mem_there (mem_there (mem_there (mem_there (mem_there (mem_there mem_here)))))))))))))))))))))))))))))))))))).toB (.neS _ _)) ?_) (by rw [nums_len, nums_len, due26_len]; simp only [sizeLine]; omega) (by rw [n4]; exact (.there (.there (.there (.there (.there (.there (.there (.there (.there (.there (.there (.there (.there (.there (.there (.there (.there (.there (.there (.there (.there (.there (.there .here))))))))))))))))))))))))) Exs.nil
  unfold due26
  cases hne : x != y
  · rw [if_neg Bool.false_ne_true, if_neg Bool.false_ne_true]
    refine EvO.ite (c := occurs "ampltg" x) (Tst.cmp (Ev.name (mem_there (mem_there (mem_there (mem_there (mem_there (mem_there (mem_there (mem_there (mem_there (mem_there (mem_there (mem_there (mem_there (mem_there (mem_there (mem_there (mem_there (mem_there (mem_there (mem_there (mem_there (mem_there (mem_there (mem_there (mem_there (mem_there (mem_there (mem_there (mem_there (mem_there (mem_there (mem_there (mem_there (mem_there mem_here))))))))))))))))))))))))))))))))))).toB Ev.str.toB (.inS _ _)) ?_
    cases occurs "ampltg" x
    · rw [if_neg Bool.false_ne_true, if_neg Bool.false_ne_true]
      exact EvO.list (EvAll.cons Ev.int (EvAll.cons Ev.int (EvAll.cons Ev.int EvAll.nil))) (by simp [nums, sizeLine])
    · rw [if_pos rfl, if_pos rfl]
      exact EvO.list (EvAll.cons Ev.int (EvAll.cons Ev.int (EvAll.cons Ev.int EvAll.nil))) (by simp [nums, sizeLine])
  · rw [if_pos rfl, if_pos rfl]
    exact EvO.list (EvAll.cons Ev.int (EvAll.cons Ev.int (EvAll.cons Ev.int EvAll.nil))) (by simp [nums, sizeLine])

theorem law27 (T : TopF g₀ mg mb) (fr : Fr0 (lenv pm code doc N a)) (S : LS) (tl nb : List Int) (hl : tl.length ≤ 300000 ∧ nb.length ≤ 1000) :
    Rt prog w g₀ 2 (lenv pm code doc N a) ({ S with numbers := .dat (.lst (nums nb)), told := .own (.lst (nums tl)), due := .own (.lst (nums tl)) } : LS).st [lawSt 27] (.bool true) := by
  show Rt prog w g₀ 2 _ _ [.Return (some _) _] _
  refine Rt.ret (Ev.cast (Ev.and2 (Ev.cmp (EvB.lst (mem_there (mem_there (mem_there (mem_there (mem_there (mem_there (mem_there (mem_there (mem_there (mem_there (mem_there (mem_there (mem_there (mem_there (mem_there (mem_there (mem_there (mem_there (mem_there (mem_there (mem_there (mem_there mem_here))))))))))))))))))))))) (EvB.lst (mem_there (mem_there (mem_there (mem_there (mem_there (mem_there (mem_there (mem_there (mem_there (mem_there (mem_there (mem_there (mem_there (mem_there (mem_there (mem_there (mem_there (mem_there (mem_there (mem_there (mem_there (mem_there (mem_there mem_here)))))))))))))))))))))))) (.eqL tl tl)) fun _ => Ev.cmp (x := .lst (nums [])) (EvO.lst (EvO.cast (o' := .lst (nums [])) (EvO.comp1 (ds := nums (tl ++ nb)) (fun _ => none) [("x", .unset)] fr ?hI ?ok (Cap.var Cap.nil) ?sz ?turn) ?e)).toB (EvO.lst (EvO.list EvAll.nil)).toB (.eqL [] [])) (by simp))
  case hI => exact EvI.list (EvO.lst (EvO.cast (EvO.addL (EvB.lst (mem_there (mem_there (mem_there (mem_there (mem_there (mem_there (mem_there (mem_there (mem_there (mem_there (mem_there (mem_there (mem_there (mem_there (mem_there (mem_there (mem_there (mem_there (mem_there (mem_there (mem_there (mem_there mem_here))))))))))))))))))))))) (Ev.name (mem_there (mem_there (mem_there (mem_there (mem_there (mem_there (mem_there mem_here)))))))).toB (by rw [nums_len, nums_len]; simp only [sizeLine]; omega)) (by rw [nums_app]))) (.name _ _ _)
  case ok => show formOk (fnScope (stm 72)) _ ["x"] = true; decide +kernel
  case sz => rw [nums_len]; simp only [List.length_append, sizeLine]; omega
  case e => congr 1; simp [nums]
  case turn =>
    intro cl C fr' d hd
    obtain ⟨v, hv, rfl⟩ := List.mem_map.mp hd
    refine ⟨[("x", .dat (.int v))], AsgC.name .here, ?_, (fun y hy => by cases hy), .drop .nil⟩
    exact Ifs.one (Tst.cast (Tst.or2 (Tst.val (Ev.call (Ev.ty T ⟨rfl, rfl, rfl, rfl, rfl⟩ (by walk_at "m tab")) (EvBAll.cons (Ev.name mem_here).toB (EvBAll.cons (Ev.ty T ⟨rfl, rfl, rfl, rfl, rfl⟩ (by walk_at "m tab")).toB EvBAll.nil)) (.isBool v)))
      (fun _ => Tst.not (Tst.val (Ev.call (Ev.ty T ⟨rfl, rfl, rfl, rfl, rfl⟩ (by walk_at "m tab")) (EvBAll.cons (Ev.name mem_here).toB (EvBAll.cons (Ev.ty T ⟨rfl, rfl, rfl, rfl, rfl⟩ (by walk_at "m tab")).toB EvBAll.nil)) (.isInt v))))) rfl)
end
end Mine

namespace Mine
open PySem

section
variable {prog : Program} {w : World} {g₀ g : Heap} {mg mb : Str → Option Value}
variable {pm code doc : Value} {N a : Addr}

/-- all of law, given what its data are -/
theorem law_rt (T : TopF g₀ mg mb) (X : ExOk prog w g₀ mg) (fr : Fr0 (lenv pm code doc N a)) (xs goal rules L : List Int) (x b d f : Nat) (sd : List (List Int)) (gs : List (List Nat)) (hv : Value) (tb : STab) (wr : Str → Str)
    (out inn tx pg sp : Str) (lets lns : List Str) (st : TS) (wt tm : Tab) (wy : List Int)
    (hxs : xs.length ≤ 1000) (hc : cellsOf (xs.take 60) (xs.take 60).length = [(x : Int), (b : Int), (d : Int)]) (hf : x % 46 = f) (hf46 : f < 46) (hgoal : made (gaps0 b) = goal)
    (hgram : FnOk prog w g₀ 2 (fv mg "_law_grammar") [.lst (nums goal), .lst (nums (nbs f))] (.lst (nums rules))) (hsum : x + b + d < 2 ^ 40) (hr : rules.length ≤ 10000)
    (hL : L = rules ++ (List.range 8).map (fun i : Nat => 252 + (i : Int)) ++ [-1, ((x + b + d : Nat) : Int), -((x + b + d : Nat) : Int)])
    (hfresh : ∀ i, L[i]? = some 0 → 1 ≤ (splitSt L i).2.length ∧ ∀ q ∈ (splitSt L i).1, q.1 ≠ ((splitSt L i).2 ++ [0]).getD 0 0) (hsd : dsd (splitSt L L.length).1 = dsides sd)
    (hsd1 : sd.length ≤ 100) (hsd2 : ∀ s ∈ sd, s.length ≤ 1000 ∧ ∀ v ∈ s, v < 256 → v ∈ nbs f) (hgs : sd.map (gapsOf (nbs f)) = gs)
    (hhand : FnOk prog w g₀ 2 (fv mg "_law_hand") [.int ((d % 5 : Nat) : Int)] (.tup [.fn hv, .sdict (dtb tb)])) (hout : mk (d / 5 % 4) = out) (hinn : mk ((d / 5 + 1 + d / 20 % 3) % 4) = inn)
    (hin : ∀ line ∈ gs, line.length ≤ 1000 ∧ ∀ g ∈ line, g < (nm f).length) (hnm : (nm f).length ≤ 1000) (hgl : gs.length ≤ 1000) (hj1 : ∀ line ∈ gs, JoinOk inn (line.map fun g => (nm f).getD g "")) (hj2 : JoinOk out (gs.map (lineS inn (nm f))))
    (htx : textOf out inn (nm f) gs = tx) (hpg : FnOk prog w g₀ 1 hv [.str tx] (.str pg)) (htxl : tx.length ≤ 100000) (hpg2 : pg = Txt.join "" ((signStrs tx).map (tg tb))) (hpgj : JoinOk "" ((signStrs tx).map (tg tb)))
    (hwr : ∀ s ∈ nm f, FnOk prog w g₀ 1 hv [.str s] (.str (wr s))) (hlets : (nm f).map wr = lets) (F : F19 gs sd lets lns pg (tg tb out) (tg tb inn)) (hst : allSt sd gs gs.length = st)
    (hworth : FnOk prog w g₀ 2 (fv mg "_law_worth") [.idict (dsides sd)] (.tup [.idict (dtab wt), .idict (dtab tm)]))
    (halong : FnOk prog w g₀ 1 (fv mg "_law_along") [.lst (dsteps st.2), .int (sd.length : Nat), .int (f + 7 : Nat)] (.lst (nums wy)))
    (hmac : ∀ p, p < sd.length → ∃ a b c, lk wt (256 + (p : Int)) = some a ∧ lk tm (256 + (p : Int)) = some b ∧ wy[p]? = some c ∧ (0 ≤ b ∧ b < 10000) ∧ a = b * c)
    (hl23 : st.1.length ≤ 100000 ∧ lets.length ≤ 1000) (hs23 : ∀ s ∈ lets, s.length ≤ 1000000 ∧ (Txt.upper s).length ≤ 1000000 ∧ subst s (Txt.upper s) = amp s ∧ subst (Txt.upper s) s = amp s)
    (hj24 : JoinOk "" lets) (hsp : Txt.join "" lets = sp) (hspl : sp.length ≤ 1000) (hl26 : (tl23 st.1 lets).length ≤ 200000 ∧ (loneOf sp).length ≤ 100)
    (hlen26 : ∀ a ∈ loneOf sp, a.length ≤ 1000000 ∧ (Txt.upper a).length ≤ 1000000) (hs26 : ∀ a ∈ loneOf sp, ∀ b ∈ loneOf sp, [subst a b, subst a (Txt.upper b), subst (Txt.upper a) b] = due26 a b)
    (hl27 : (tl26s (tl23 st.1 lets) (loneOf sp) (loneOf sp)).length ≤ 300000) :
    Rt prog w g₀ 2 (lenv pm code doc N a) ({ script := .dat (.lst (nums xs)) } : LS).st (fnBody (stm 72)) (.bool true) := by
  show Rt prog w g₀ 2 _ _ [lawSt 0, lawSt 1, lawSt 2, lawSt 3, lawSt 4, lawSt 5, lawSt 6, lawSt 7, lawSt 8, lawSt 9, lawSt 10, lawSt 11, lawSt 12, lawSt 13, lawSt 14, lawSt 15, lawSt 16, lawSt 17, lawSt 18, lawSt 19, lawSt 20, lawSt 21, lawSt 22, lawSt 23, lawSt 24, lawSt 25, lawSt 26, lawSt 27] _
  refine Rt.cons (law0 T ⟨fr, rfl⟩ ({ script := .dat (.lst (nums xs)) } : LS)) ?_
  refine Rt.cons (law1 T ⟨fr, rfl⟩ ({ script := .dat (.lst (nums xs)), cells := .own (.lst (nums (cellsOf [] 0))) } : LS) xs hxs) ?_
  rw [hc]
  refine Rt.freeze (x := "cells") (ρ₁ := ({ script := .dat (.lst (nums xs)), cells := .dat (.lst (nums [(x : Int), (b : Int), (d : Int)])) } : LS).st) (d' := .lst (nums [(x : Int), (b : Int), (d : Int)])) (mem_there mem_here) (.there .here) (rfl) ?_
  refine Rt.cons (law2 T ⟨fr, rfl⟩ ({ script := .dat (.lst (nums xs)), cells := .dat (.lst (nums [(x : Int), (b : Int), (d : Int)])) } : LS) x b d) ?_
  rw [hf]
  refine Rt.cons (law3 ({ script := .dat (.lst (nums xs)), cells := .dat (.lst (nums [(x : Int), (b : Int), (d : Int)])), first := .dat (.int f) } : LS)) ?_
  refine Rt.cons (law4 ({ script := .dat (.lst (nums xs)), cells := .dat (.lst (nums [(x : Int), (b : Int), (d : Int)])), first := .dat (.int f), all_names := .dat (.str allNames) } : LS) f hf46) ?_
  refine Rt.cons (law5 T X fr ({ script := .dat (.lst (nums xs)), cells := .dat (.lst (nums [(x : Int), (b : Int), (d : Int)])), first := .dat (.int f), all_names := .dat (.str allNames), names := .dat (.lst (texts (nm f))) } : LS) f hf46) ?_
  refine Rt.cons (law6 T fr ({ script := .dat (.lst (nums xs)), cells := .dat (.lst (nums [(x : Int), (b : Int), (d : Int)])), first := .dat (.int f), all_names := .dat (.str allNames), names := .dat (.lst (texts (nm f))), numbers := .dat (.lst (nums (nbs f))) } : LS) x b d) ?_
  rw [hgoal]
  refine Rt.cons (law7 T ({ script := .dat (.lst (nums xs)), cells := .dat (.lst (nums [(x : Int), (b : Int), (d : Int)])), first := .dat (.int f), all_names := .dat (.str allNames), names := .dat (.lst (texts (nm f))), numbers := .dat (.lst (nums (nbs f))), goal := .dat (.lst (nums goal)) } : LS)) ?_
  refine Rt.cons (law8 T fr ({ script := .dat (.lst (nums xs)), cells := .dat (.lst (nums [(x : Int), (b : Int), (d : Int)])), first := .dat (.int f), all_names := .dat (.str allNames), names := .dat (.lst (texts (nm f))), numbers := .dat (.lst (nums (nbs f))), goal := .dat (.lst (nums goal)), sides := .own (.idict []), part := .own (.lst []) } : LS) goal (nbs f) rules L x b d hgram hsum hr hL hfresh) ?_
  rw [hsd]
  refine Rt.freeze (x := "sides") (ρ₁ := ({ script := .dat (.lst (nums xs)), cells := .dat (.lst (nums [(x : Int), (b : Int), (d : Int)])), first := .dat (.int f), all_names := .dat (.str allNames), names := .dat (.lst (texts (nm f))), numbers := .dat (.lst (nums (nbs f))), goal := .dat (.lst (nums goal)), sides := .dat (.idict (dsides sd)), part := .own (.lst (nums (splitSt L L.length).2)) } : LS).st) (d' := .idict (dsides sd)) (mem_there (mem_there (mem_there (mem_there (mem_there (mem_there (mem_there (mem_there (mem_there mem_here))))))))) (.there (.there (.there (.there (.there (.there (.there (.there (.there .here))))))))) (rfl) ?_
  refine Rt.cons (law9 T fr ({ script := .dat (.lst (nums xs)), cells := .dat (.lst (nums [(x : Int), (b : Int), (d : Int)])), first := .dat (.int f), all_names := .dat (.str allNames), names := .dat (.lst (texts (nm f))), numbers := .dat (.lst (nums (nbs f))), goal := .dat (.lst (nums goal)), sides := .dat (.idict (dsides sd)), part := .own (.lst (nums (splitSt L L.length).2)) } : LS) (nbs f) sd hsd1 hsd2 (by simp [nbs])) ?_
  rw [hgs]
  refine Rt.freeze (x := "gaps") (ρ₁ := ({ script := .dat (.lst (nums xs)), cells := .dat (.lst (nums [(x : Int), (b : Int), (d : Int)])), first := .dat (.int f), all_names := .dat (.str allNames), names := .dat (.lst (texts (nm f))), numbers := .dat (.lst (nums (nbs f))), goal := .dat (.lst (nums goal)), sides := .dat (.idict (dsides sd)), part := .own (.lst (nums (splitSt L L.length).2)), gaps := .dat (.lst (dgaps gs)) } : LS).st) (d' := .lst (dgaps gs)) (mem_there (mem_there (mem_there (mem_there (mem_there (mem_there (mem_there (mem_there (mem_there (mem_there (mem_there (mem_there mem_here)))))))))))) (.there (.there (.there (.there (.there (.there (.there (.there (.there (.there (.there (.there .here)))))))))))) (rfl) ?_
  refine Rt.cons (law10 T ({ script := .dat (.lst (nums xs)), cells := .dat (.lst (nums [(x : Int), (b : Int), (d : Int)])), first := .dat (.int f), all_names := .dat (.str allNames), names := .dat (.lst (texts (nm f))), numbers := .dat (.lst (nums (nbs f))), goal := .dat (.lst (nums goal)), sides := .dat (.idict (dsides sd)), part := .own (.lst (nums (splitSt L L.length).2)), gaps := .dat (.lst (dgaps gs)) } : LS) x b d hv tb hhand) ?_
  refine Rt.cons (law11 ({ script := .dat (.lst (nums xs)), cells := .dat (.lst (nums [(x : Int), (b : Int), (d : Int)])), first := .dat (.int f), all_names := .dat (.str allNames), names := .dat (.lst (texts (nm f))), numbers := .dat (.lst (nums (nbs f))), goal := .dat (.lst (nums goal)), sides := .dat (.idict (dsides sd)), part := .own (.lst (nums (splitSt L L.length).2)), gaps := .dat (.lst (dgaps gs)), write := .dat (.fn hv), table := .dat (.sdict (dtb tb)) } : LS)) ?_
  refine Rt.cons (law12 ({ script := .dat (.lst (nums xs)), cells := .dat (.lst (nums [(x : Int), (b : Int), (d : Int)])), first := .dat (.int f), all_names := .dat (.str allNames), names := .dat (.lst (texts (nm f))), numbers := .dat (.lst (nums (nbs f))), goal := .dat (.lst (nums goal)), sides := .dat (.idict (dsides sd)), part := .own (.lst (nums (splitSt L L.length).2)), gaps := .dat (.lst (dgaps gs)), write := .dat (.fn hv), table := .dat (.sdict (dtb tb)), marks := .dat (.str marksS) } : LS) x b d) ?_
  rw [hout]
  refine Rt.cons (law13 ({ script := .dat (.lst (nums xs)), cells := .dat (.lst (nums [(x : Int), (b : Int), (d : Int)])), first := .dat (.int f), all_names := .dat (.str allNames), names := .dat (.lst (texts (nm f))), numbers := .dat (.lst (nums (nbs f))), goal := .dat (.lst (nums goal)), sides := .dat (.idict (dsides sd)), part := .own (.lst (nums (splitSt L L.length).2)), gaps := .dat (.lst (dgaps gs)), write := .dat (.fn hv), table := .dat (.sdict (dtb tb)), marks := .dat (.str marksS), outer := .dat (.str out) } : LS) x b d) ?_
  rw [hinn]
  refine Rt.cons (law14 fr ({ script := .dat (.lst (nums xs)), cells := .dat (.lst (nums [(x : Int), (b : Int), (d : Int)])), first := .dat (.int f), all_names := .dat (.str allNames), names := .dat (.lst (texts (nm f))), numbers := .dat (.lst (nums (nbs f))), goal := .dat (.lst (nums goal)), sides := .dat (.idict (dsides sd)), part := .own (.lst (nums (splitSt L L.length).2)), gaps := .dat (.lst (dgaps gs)), write := .dat (.fn hv), table := .dat (.sdict (dtb tb)), marks := .dat (.str marksS), outer := .dat (.str out), inner := .dat (.str inn) } : LS) (nm f) gs out inn hin hnm hgl hj1 hj2) ?_
  rw [htx]
  refine Rt.cons (law15 ({ script := .dat (.lst (nums xs)), cells := .dat (.lst (nums [(x : Int), (b : Int), (d : Int)])), first := .dat (.int f), all_names := .dat (.str allNames), names := .dat (.lst (texts (nm f))), numbers := .dat (.lst (nums (nbs f))), goal := .dat (.lst (nums goal)), sides := .dat (.idict (dsides sd)), part := .own (.lst (nums (splitSt L L.length).2)), gaps := .dat (.lst (dgaps gs)), write := .dat (.fn hv), table := .dat (.sdict (dtb tb)), marks := .dat (.str marksS), outer := .dat (.str out), inner := .dat (.str inn), text := .dat (.str tx) } : LS) hv tx pg hpg) ?_
  refine law16 fr ({ script := .dat (.lst (nums xs)), cells := .dat (.lst (nums [(x : Int), (b : Int), (d : Int)])), first := .dat (.int f), all_names := .dat (.str allNames), names := .dat (.lst (texts (nm f))), numbers := .dat (.lst (nums (nbs f))), goal := .dat (.lst (nums goal)), sides := .dat (.idict (dsides sd)), part := .own (.lst (nums (splitSt L L.length).2)), gaps := .dat (.lst (dgaps gs)), write := .dat (.fn hv), table := .dat (.sdict (dtb tb)), marks := .dat (.str marksS), outer := .dat (.str out), inner := .dat (.str inn), text := .dat (.str tx), page := .dat (.str pg) } : LS) tx pg tb htxl hpg2 hpgj ?_
  refine Rt.cons (law17 T fr ({ script := .dat (.lst (nums xs)), cells := .dat (.lst (nums [(x : Int), (b : Int), (d : Int)])), first := .dat (.int f), all_names := .dat (.str allNames), names := .dat (.lst (texts (nm f))), numbers := .dat (.lst (nums (nbs f))), goal := .dat (.lst (nums goal)), sides := .dat (.idict (dsides sd)), part := .own (.lst (nums (splitSt L L.length).2)), gaps := .dat (.lst (dgaps gs)), write := .dat (.fn hv), table := .dat (.sdict (dtb tb)), marks := .dat (.str marksS), outer := .dat (.str out), inner := .dat (.str inn), text := .dat (.str tx), page := .dat (.str pg) } : LS) hv wr (nm f) hnm hwr) ?_
  rw [hlets]
  refine Rt.freeze (x := "letters") (ρ₁ := ({ script := .dat (.lst (nums xs)), cells := .dat (.lst (nums [(x : Int), (b : Int), (d : Int)])), first := .dat (.int f), all_names := .dat (.str allNames), names := .dat (.lst (texts (nm f))), numbers := .dat (.lst (nums (nbs f))), goal := .dat (.lst (nums goal)), sides := .dat (.idict (dsides sd)), part := .own (.lst (nums (splitSt L L.length).2)), gaps := .dat (.lst (dgaps gs)), write := .dat (.fn hv), table := .dat (.sdict (dtb tb)), marks := .dat (.str marksS), outer := .dat (.str out), inner := .dat (.str inn), text := .dat (.str tx), page := .dat (.str pg), letters := .dat (.lst (texts lets)) } : LS).st) (d' := .lst (texts lets)) (mem_there (mem_there (mem_there (mem_there (mem_there (mem_there (mem_there (mem_there (mem_there (mem_there (mem_there (mem_there (mem_there (mem_there (mem_there (mem_there (mem_there (mem_there (mem_there (mem_there mem_here)))))))))))))))))))) (.there (.there (.there (.there (.there (.there (.there (.there (.there (.there (.there (.there (.there (.there (.there (.there (.there (.there (.there (.there .here)))))))))))))))))))) (rfl) ?_
  refine Rt.cons (law18 ({ script := .dat (.lst (nums xs)), cells := .dat (.lst (nums [(x : Int), (b : Int), (d : Int)])), first := .dat (.int f), all_names := .dat (.str allNames), names := .dat (.lst (texts (nm f))), numbers := .dat (.lst (nums (nbs f))), goal := .dat (.lst (nums goal)), sides := .dat (.idict (dsides sd)), part := .own (.lst (nums (splitSt L L.length).2)), gaps := .dat (.lst (dgaps gs)), write := .dat (.fn hv), table := .dat (.sdict (dtb tb)), marks := .dat (.str marksS), outer := .dat (.str out), inner := .dat (.str inn), text := .dat (.str tx), page := .dat (.str pg), letters := .dat (.lst (texts lets)) } : LS)) ?_
  refine Rt.cons (law19 T fr ({ script := .dat (.lst (nums xs)), cells := .dat (.lst (nums [(x : Int), (b : Int), (d : Int)])), first := .dat (.int f), all_names := .dat (.str allNames), names := .dat (.lst (texts (nm f))), numbers := .dat (.lst (nums (nbs f))), goal := .dat (.lst (nums goal)), sides := .dat (.idict (dsides sd)), part := .own (.lst (nums (splitSt L L.length).2)), gaps := .dat (.lst (dgaps gs)), write := .dat (.fn hv), table := .dat (.sdict (dtb tb)), marks := .dat (.str marksS), outer := .dat (.str out), inner := .dat (.str inn), text := .dat (.str tx), page := .dat (.str pg), letters := .dat (.lst (texts lets)), steps := .own (.nest [[], [], []]), told := .own (.lst []), due := .own (.lst []) } : LS) gs sd lets lns pg out inn tb F) ?_
  rw [hst]
  refine Rt.freeze (x := "steps") (ρ₁ := ({ script := .dat (.lst (nums xs)), cells := .dat (.lst (nums [(x : Int), (b : Int), (d : Int)])), first := .dat (.int f), all_names := .dat (.str allNames), names := .dat (.lst (texts (nm f))), numbers := .dat (.lst (nums (nbs f))), goal := .dat (.lst (nums goal)), sides := .dat (.idict (dsides sd)), part := .own (.lst (nums (splitSt L L.length).2)), gaps := .dat (.lst (dgaps gs)), write := .dat (.fn hv), table := .dat (.sdict (dtb tb)), marks := .dat (.str marksS), outer := .dat (.str out), inner := .dat (.str inn), text := .dat (.str tx), page := .dat (.str pg), letters := .dat (.lst (texts lets)), steps := .dat (.lst (dsteps st.2)), told := .own (.lst (nums st.1)), due := .own (.lst (nums st.1)) } : LS).st) (d' := .lst (dsteps st.2)) (mem_there (mem_there (mem_there (mem_there (mem_there (mem_there (mem_there (mem_there (mem_there (mem_there (mem_there (mem_there (mem_there (mem_there (mem_there (mem_there (mem_there (mem_there (mem_there (mem_there (mem_there mem_here))))))))))))))))))))) (.there (.there (.there (.there (.there (.there (.there (.there (.there (.there (.there (.there (.there (.there (.there (.there (.there (.there (.there (.there (.there .here))))))))))))))))))))) (by simp [dnest, dsteps]) ?_
  refine Rt.cons (law20 T ({ script := .dat (.lst (nums xs)), cells := .dat (.lst (nums [(x : Int), (b : Int), (d : Int)])), first := .dat (.int f), all_names := .dat (.str allNames), names := .dat (.lst (texts (nm f))), numbers := .dat (.lst (nums (nbs f))), goal := .dat (.lst (nums goal)), sides := .dat (.idict (dsides sd)), part := .own (.lst (nums (splitSt L L.length).2)), gaps := .dat (.lst (dgaps gs)), write := .dat (.fn hv), table := .dat (.sdict (dtb tb)), marks := .dat (.str marksS), outer := .dat (.str out), inner := .dat (.str inn), text := .dat (.str tx), page := .dat (.str pg), letters := .dat (.lst (texts lets)), steps := .dat (.lst (dsteps st.2)), told := .own (.lst (nums st.1)), due := .own (.lst (nums st.1)) } : LS) sd wt tm hworth) ?_
  refine Rt.cons (law21 T ({ script := .dat (.lst (nums xs)), cells := .dat (.lst (nums [(x : Int), (b : Int), (d : Int)])), first := .dat (.int f), all_names := .dat (.str allNames), names := .dat (.lst (texts (nm f))), numbers := .dat (.lst (nums (nbs f))), goal := .dat (.lst (nums goal)), sides := .dat (.idict (dsides sd)), part := .own (.lst (nums (splitSt L L.length).2)), gaps := .dat (.lst (dgaps gs)), write := .dat (.fn hv), table := .dat (.sdict (dtb tb)), marks := .dat (.str marksS), outer := .dat (.str out), inner := .dat (.str inn), text := .dat (.str tx), page := .dat (.str pg), letters := .dat (.lst (texts lets)), steps := .dat (.lst (dsteps st.2)), told := .own (.lst (nums st.1)), due := .own (.lst (nums st.1)), worth := .dat (.idict (dtab wt)), times := .dat (.idict (dtab tm)) } : LS) sd st.2 f wy (by omega) halong) ?_
  refine Rt.cons (law22 T ({ script := .dat (.lst (nums xs)), cells := .dat (.lst (nums [(x : Int), (b : Int), (d : Int)])), first := .dat (.int f), all_names := .dat (.str allNames), names := .dat (.lst (texts (nm f))), numbers := .dat (.lst (nums (nbs f))), goal := .dat (.lst (nums goal)), sides := .dat (.idict (dsides sd)), part := .own (.lst (nums (splitSt L L.length).2)), gaps := .dat (.lst (dgaps gs)), write := .dat (.fn hv), table := .dat (.sdict (dtb tb)), marks := .dat (.str marksS), outer := .dat (.str out), inner := .dat (.str inn), text := .dat (.str tx), page := .dat (.str pg), letters := .dat (.lst (texts lets)), steps := .dat (.lst (dsteps st.2)), told := .own (.lst (nums st.1)), due := .own (.lst (nums st.1)), worth := .dat (.idict (dtab wt)), times := .dat (.idict (dtab tm)), ways := .dat (.lst (nums wy)) } : LS) sd wt tm wy (by omega) hmac) ?_
  refine Rt.cons (law23 T ({ script := .dat (.lst (nums xs)), cells := .dat (.lst (nums [(x : Int), (b : Int), (d : Int)])), first := .dat (.int f), all_names := .dat (.str allNames), names := .dat (.lst (texts (nm f))), numbers := .dat (.lst (nums (nbs f))), goal := .dat (.lst (nums goal)), sides := .dat (.idict (dsides sd)), part := .own (.lst (nums (splitSt L L.length).2)), gaps := .dat (.lst (dgaps gs)), write := .dat (.fn hv), table := .dat (.sdict (dtb tb)), marks := .dat (.str marksS), outer := .dat (.str out), inner := .dat (.str inn), text := .dat (.str tx), page := .dat (.str pg), letters := .dat (.lst (texts lets)), steps := .dat (.lst (dsteps st.2)), told := .own (.lst (nums st.1)), due := .own (.lst (nums st.1)), worth := .dat (.idict (dtab wt)), times := .dat (.idict (dtab tm)), ways := .dat (.lst (nums wy)) } : LS) lets st.1 hl23 hs23) ?_
  refine Rt.cons (law24 ({ script := .dat (.lst (nums xs)), cells := .dat (.lst (nums [(x : Int), (b : Int), (d : Int)])), first := .dat (.int f), all_names := .dat (.str allNames), names := .dat (.lst (texts (nm f))), numbers := .dat (.lst (nums (nbs f))), goal := .dat (.lst (nums goal)), sides := .dat (.idict (dsides sd)), part := .own (.lst (nums (splitSt L L.length).2)), gaps := .dat (.lst (dgaps gs)), write := .dat (.fn hv), table := .dat (.sdict (dtb tb)), marks := .dat (.str marksS), outer := .dat (.str out), inner := .dat (.str inn), text := .dat (.str tx), page := .dat (.str pg), letters := .dat (.lst (texts lets)), steps := .dat (.lst (dsteps st.2)), told := .own (.lst (nums (tl23 st.1 lets))), due := .own (.lst (nums (tl23 st.1 lets))), worth := .dat (.idict (dtab wt)), times := .dat (.idict (dtab tm)), ways := .dat (.lst (nums wy)) } : LS) lets hj24) ?_
  rw [hsp]
  refine Rt.cons (law25 T fr ({ script := .dat (.lst (nums xs)), cells := .dat (.lst (nums [(x : Int), (b : Int), (d : Int)])), first := .dat (.int f), all_names := .dat (.str allNames), names := .dat (.lst (texts (nm f))), numbers := .dat (.lst (nums (nbs f))), goal := .dat (.lst (nums goal)), sides := .dat (.idict (dsides sd)), part := .own (.lst (nums (splitSt L L.length).2)), gaps := .dat (.lst (dgaps gs)), write := .dat (.fn hv), table := .dat (.sdict (dtb tb)), marks := .dat (.str marksS), outer := .dat (.str out), inner := .dat (.str inn), text := .dat (.str tx), page := .dat (.str pg), letters := .dat (.lst (texts lets)), steps := .dat (.lst (dsteps st.2)), told := .own (.lst (nums (tl23 st.1 lets))), due := .own (.lst (nums (tl23 st.1 lets))), worth := .dat (.idict (dtab wt)), times := .dat (.idict (dtab tm)), ways := .dat (.lst (nums wy)), spelled := .dat (.str sp) } : LS) sp hspl) ?_
  refine Rt.freeze (x := "lone") (ρ₁ := ({ script := .dat (.lst (nums xs)), cells := .dat (.lst (nums [(x : Int), (b : Int), (d : Int)])), first := .dat (.int f), all_names := .dat (.str allNames), names := .dat (.lst (texts (nm f))), numbers := .dat (.lst (nums (nbs f))), goal := .dat (.lst (nums goal)), sides := .dat (.idict (dsides sd)), part := .own (.lst (nums (splitSt L L.length).2)), gaps := .dat (.lst (dgaps gs)), write := .dat (.fn hv), table := .dat (.sdict (dtb tb)), marks := .dat (.str marksS), outer := .dat (.str out), inner := .dat (.str inn), text := .dat (.str tx), page := .dat (.str pg), letters := .dat (.lst (texts lets)), steps := .dat (.lst (dsteps st.2)), told := .own (.lst (nums (tl23 st.1 lets))), due := .own (.lst (nums (tl23 st.1 lets))), worth := .dat (.idict (dtab wt)), times := .dat (.idict (dtab tm)), ways := .dat (.lst (nums wy)), spelled := .dat (.str sp), lone := .dat (.lst (texts (loneOf sp))) } : LS).st) (d' := .lst (texts (loneOf sp))) (mem_there (mem_there (mem_there (mem_there (mem_there (mem_there (mem_there (mem_there (mem_there (mem_there (mem_there (mem_there (mem_there (mem_there (mem_there (mem_there (mem_there (mem_there (mem_there (mem_there (mem_there (mem_there (mem_there (mem_there (mem_there (mem_there (mem_there (mem_there (mem_there (mem_there (mem_there (mem_there (mem_there mem_here))))))))))))))))))))))))))))))))) (.there (.there (.there (.there (.there (.there (.there (.there (.there (.there (.there (.there (.there (.there (.there (.there (.there (.there (.there (.there (.there (.there (.there (.there (.there (.there (.there (.there (.there (.there (.there (.there (.there .here))))))))))))))))))))))))))))))))) (rfl) ?_
  refine Rt.cons (law26 T ({ script := .dat (.lst (nums xs)), cells := .dat (.lst (nums [(x : Int), (b : Int), (d : Int)])), first := .dat (.int f), all_names := .dat (.str allNames), names := .dat (.lst (texts (nm f))), numbers := .dat (.lst (nums (nbs f))), goal := .dat (.lst (nums goal)), sides := .dat (.idict (dsides sd)), part := .own (.lst (nums (splitSt L L.length).2)), gaps := .dat (.lst (dgaps gs)), write := .dat (.fn hv), table := .dat (.sdict (dtb tb)), marks := .dat (.str marksS), outer := .dat (.str out), inner := .dat (.str inn), text := .dat (.str tx), page := .dat (.str pg), letters := .dat (.lst (texts lets)), steps := .dat (.lst (dsteps st.2)), told := .own (.lst (nums (tl23 st.1 lets))), due := .own (.lst (nums (tl23 st.1 lets))), worth := .dat (.idict (dtab wt)), times := .dat (.idict (dtab tm)), ways := .dat (.lst (nums wy)), spelled := .dat (.str sp), lone := .dat (.lst (texts (loneOf sp))) } : LS) (loneOf sp) (tl23 st.1 lets) hl26 hlen26 hs26) ?_
  exact law27 T fr ({ script := .dat (.lst (nums xs)), cells := .dat (.lst (nums [(x : Int), (b : Int), (d : Int)])), first := .dat (.int f), all_names := .dat (.str allNames), names := .dat (.lst (texts (nm f))), numbers := .dat (.lst (nums (nbs f))), goal := .dat (.lst (nums goal)), sides := .dat (.idict (dsides sd)), part := .own (.lst (nums (splitSt L L.length).2)), gaps := .dat (.lst (dgaps gs)), write := .dat (.fn hv), table := .dat (.sdict (dtb tb)), marks := .dat (.str marksS), outer := .dat (.str out), inner := .dat (.str inn), text := .dat (.str tx), page := .dat (.str pg), letters := .dat (.lst (texts lets)), steps := .dat (.lst (dsteps st.2)), told := .own (.lst (nums (tl26s (tl23 st.1 lets) (loneOf sp) (loneOf sp)))), due := .own (.lst (nums (tl26s (tl23 st.1 lets) (loneOf sp) (loneOf sp)))), worth := .dat (.idict (dtab wt)), times := .dat (.idict (dtab tm)), ways := .dat (.lst (nums wy)), spelled := .dat (.str sp), lone := .dat (.lst (texts (loneOf sp))) } : LS) _ (nbs f) ⟨hl27, by simp [nbs]⟩
end
end Mine

namespace Mine
open PySem

section
variable {M : Model} {A : Around} {E : Value → Shared → Prop} {s : Shared}

/-- a frame for one parameter, with the token that its name takes -/
theorem newEnv_tok {scope : Scope} {globals : Addr} {x : Str} {v : Value} {qual : Str} {func : Option Addr} {code : Value} {builtins : Addr} {Q : Env → Shared → Prop}
    (hk : scope.kind = .function) (hx : scope.names.lookup x = some .local)
    (hQ : ∀ env, env = newEnv scope s.heap.objs.size globals (cellsFrom (s.heap.objs.size + 1) scope.names []) qual func code none builtins →
      ∀ s', InCallC s env.locals (bindL env.kindOf [(x, v)] fun _ => none) env.cells (bindC env.kindOf [(x, v)] fun _ => none) s' → 1 ≤ s'.toks → Q env s') :
    wpAny M A (newFunctionEnv scope globals [] [(x, v)] qual func code none builtins) Q E s := by
  simp only [newFunctionEnv, Option.isSome_none, Bool.false_eq_true, if_false]
  refine wpAny_bind (wpAny_alloc ?_)
  refine wpAny_bind (wpAny_layCells _ (fun name kind cells => by cases hkc : kind == NameKind.cell <;> simp [hkc]) _ _ _ _ ?_)
  have ok := cellsFrom_ok scope.names (s.heap.push { cls := .type "frame", data := .dict #[] }) (s.heap.objs.size + 1) [] ⟨fun _ _ hm => (nomatch hm), List.Pairwise.nil⟩ (by rw [Heap.size_push]; exact Nat.le_refl _)
  rw [Heap.size_push] at ok
  rw [show ({ s with heap := s.heap.push { cls := .type "frame", data := .dict #[] } } : Shared).heap.objs.size = s.heap.objs.size + 1 from Heap.size_push ..]
  rw [List.forIn_cons]
  have hL : (pushCells (s.heap.push { cls := .type "frame", data := .dict #[] }) scope.names).Ns s.heap.objs.size fun _ => none := (Heap.Ns.new s.heap (.type "frame")).keeps (pushCells_keeps _ _)
  refine wpAny_bind (wpAny_bind (wpAny_bind (wpAny_storeName_local (env := newEnv scope s.heap.objs.size globals (cellsFrom (s.heap.objs.size + 1) scope.names []) qual func code none builtins) hx hL (fun h' hn' hs' => ?_) (by show (scope.kind == .class || (scope.kind == .module && _)) = false; rw [hk]; rfl))))
  refine wpAny_pure ?_
  simp only [List.forIn_nil]
  refine wpAny_pure (wpAny_pure (hQ _ rfl _ ⟨⟨⟨_, _, rfl⟩, ?_, fun b o e => ?_, Nat.le_refl _⟩, fun n c hc => ?_, ok.apart, fun n c hm => (ok.empty n c hm).2⟩ (Nat.le_add_left 1 _)))
  · have e : bindL (newEnv scope s.heap.objs.size globals (cellsFrom (s.heap.objs.size + 1) scope.names []) qual func code none builtins).kindOf [(x, v)] (fun _ => none) = fun y => if y = x then some v else none := by
      unfold bindL bindL
      rw [if_pos (show (newEnv scope s.heap.objs.size globals (cellsFrom (s.heap.objs.size + 1) scope.names []) qual func code none builtins).kindOf x = some .local from hx)]
    rw [e]; exact hn'
  · exact hs'.extBut b o (Nat.ne_of_lt (Heap.lt_size e)) (pushCells_keeps _ _ b o (Heap.get?_push_of_some _ e))
  · have e : bindC (newEnv scope s.heap.objs.size globals (cellsFrom (s.heap.objs.size + 1) scope.names []) qual func code none builtins).kindOf [(x, v)] (fun _ => none) = fun _ => none := by
      unfold bindC bindC
      rw [if_pos (show (newEnv scope s.heap.objs.size globals (cellsFrom (s.heap.objs.size + 1) scope.names []) qual func code none builtins).kindOf x = some .local from hx)]
    rw [e]
    obtain ⟨h1, h2⟩ := ok.empty n c (mem_of_lookup hc)
    exact h1.sameBut hs' (Nat.ne_of_gt h2)
end

section
variable {prog : Program} {w : World} {mg mb : Str → Option Value}

def lawRest : List Str := [("cells" : Str), ("place" : Str), ("x" : Str), ("first" : Str), ("all_names" : Str), ("names" : Str), ("numbers" : Str), ("goal" : Str), ("sides" : Str), ("part" : Str), ("symbol" : Str), ("gaps" : Str), ("write" : Str), ("table" : Str), ("marks" : Str), ("outer" : Str), ("inner" : Str), ("text" : Str), ("page" : Str), ("letters" : Str), ("steps" : Str), ("told" : Str), ("due" : Str), ("line" : Str), ("k" : Str), ("piece" : Str), ("gap" : Str), ("worth" : Str), ("times" : Str), ("ways" : Str), ("letter" : Str), ("spelled" : Str), ("lone" : Str), ("one" : Str), ("other" : Str)]
theorem bind_law {pm code doc v : Value} : bindArgs (fdat 72 pm code doc) ⟨[v], []⟩ = pure [(("script" : Str), v)] := by rfl
theorem shape_law : shapeOk (fnScope (stm 72)) ["script"] lawRest = true := by
  decide +kernel

theorem law_call {A : Around} {E : Value → Shared → Prop} {s : Shared} {fa l : Addr} {o : Obj} {pm cd doc : Value} {vs : Array Value} {xs : List Int} (T : TopF s.heap mg mb) (ho : s.heap.get? fa = some o) (hd : o.data = .func (fdat 72 pm cd doc)) (hcd : s.heap.CodeRec cd (fnName (stm 72)))
    (hl : s.heap.PlainList l vs) (hv : RdAll prog w [] s.heap vs.toList (nums xs)) (hA : Lv 3 A)
    (hlaw : ∀ N, Fr0 (lenv pm cd doc N fa) → Rt prog w s.heap 2 (lenv pm cd doc N fa) ({ script := .dat (.lst (nums xs)) } : LS).st (fnBody (stm 72)) (.bool true)) :
    wpAny (model prog w) A (call (.ref fa) [.ref l] []) (fun v s' => Kp s s' ∧ v = .bool true) E s := by
  refine wpAny_kp (Kp.refl s) ?_
  have sh : FShape (fdat 72 pm cd doc) fa ["script"] lawRest :=
    shape_of rfl rfl shape_law
  have nd : decide ((fdat 72 pm cd doc).scope.names.map (·.1)).Nodup = true := by
    have := shape_law
    unfold shapeOk at this
    simp only [Bool.and_eq_true] at this
    exact this.1.1.1.1.1
  refine wpAny_call (codeAny_call_function hA.room ho hd sh.co sh.gen rfl hcd ?_)
  rw [bind_law]
  refine wpAny_pure (newEnv_tok sh.kind (show (fnScope (stm 72)).names.lookup ("script" : Str) = some .local by decide +kernel) fun env he s₁ x htk => ?_)
  subst he
  refine ⟨T.limit.keeps x.toInCall.keep, codeAny_func ?_⟩
  have r : RdAll prog w [] s.heap [.ref l] [.lst (nums xs)] := .one (.lst (fun h => nomatch h) hl hv)
  have hS := enter_frame (prog := prog) (w := w) (g₀ := s.heap) (Z := []) (vals := [.ref l]) sh rfl (fun _ _ e => e) (fun _ h => nomatch h) (fun _ h => nomatch h) r x htk
  obtain ⟨ρ', hx⟩ := hlaw s.heap.objs.size ⟨rfl, rfl, Cel.call nd⟩
  refine wpAny_mono (hx _ _ _ _ _ _ s₁ (hA.deeper _) hS) (fun f s' q => ?_) fun _ _ e => e
  obtain ⟨ru, vm', ls', hS', v, rfl, rv⟩ := q
  obtain ⟨⟨h', t, e⟩, hk⟩ := ru
  obtain ⟨h₁, t₁, e₁⟩ := x.toInCall.same
  refine ⟨⟨h', t, by rw [e, e₁], fun b o eb => ?_⟩, rv.bool_inv⟩
  have := hS'.keep b o eb
  rw [e] at this; exact this
end
end Mine

namespace Mine
open PySem

def ins (x : Int) : List Int → List (List Int)
  | [] => [[x]]
  | y :: l => (x :: y :: l) :: (ins x l).map (y :: ·)
def perms24 : List (List Int) := [[3]].flatMap (ins 2) |>.flatMap (ins 1) |>.flatMap (ins 0)
theorem made_step : ∀ o ∈ perms24, ∀ g ∈ ([0, 1, 2] : List Nat), madeStep o g ∈ perms24 := by decide +kernel
theorem made_mem {gs : List Nat} (h : ∀ g ∈ gs, g ≤ 2) : made gs ∈ perms24 := by
  unfold made
  have : ∀ (gs : List Nat) (o : List Int), (∀ g ∈ gs, g ≤ 2) → o ∈ perms24 → gs.foldl madeStep o ∈ perms24 := by
    intro gs
    induction gs with
    | nil => intro o _ ho; exact ho
    | cons g gs ih =>
      intro o h ho
      refine ih _ (fun x hx => h x (.tail _ hx)) (made_step o ho g ?_)
      have := h g (.head _)
      simp; omega
  exact this gs _ h (by decide +kernel)

/-- how many orders lie below -/
def mOf (goal : List Int) : Nat := ((List.range 30).find? fun m => decide ((gramSt [] goal m).1.length = m)).getD 0
theorem mOf_ok : ∀ o ∈ perms24, (gramSt [] o (mOf o)).1.length = mOf o ∧ (∀ i ∈ List.range (mOf o), i < (gramSt [] o i).1.length) ∧ mOf o ≤ 24 ∧ o.length = 4 := by decide +kernel
end Mine

namespace Mine
open PySem

theorem gap_fst {nb nb' o : List Int} {st st' : List (List Int) × List Int} {g : Nat} (h : st.1 = st'.1) : (gapStep nb o st g).1 = (gapStep nb' o st' g).1 := by
  unfold gapStep
  split
  · dsimp only; rw [h]
  · exact h
theorem gaps_fst {nb nb' o : List Int} : ∀ (l : List Nat) {st st' : List (List Int) × List Int}, st.1 = st'.1 → (l.foldl (gapStep nb o) st).1 = (l.foldl (gapStep nb' o) st').1
  | [], _, _, h => h
  | g :: l, st, st', h => gaps_fst l (gap_fst h)
theorem gram_fst {nb nb' goal : List Int} : ∀ i, (gramSt nb goal i).1 = (gramSt nb' goal i).1
  | 0 => rfl
  | i + 1 => by
    rw [gramSt_succ, gramSt_succ]
    unfold placeStep
    dsimp only
    rw [gram_fst (nb' := nb') i]
    exact gaps_fst _ (gram_fst (nb' := nb') i)

/-- what a place reads: (gap, the place below) -/
def pairsAt (os : List (List Int)) (p : Nat) : List (Nat × Nat) :=
  (List.range 3).filterMap fun g => if (os.getD p []).getD (g + 1) 0 < (os.getD p []).getD g 0 then some (g, findI (lessOf (os.getD p []) g) os) else none
def osOf (goal : List Int) : List (List Int) := (gramSt [] goal (mOf goal)).1
def prsOf (goal : List Int) : List (List (Nat × Nat)) := (List.range (mOf goal)).map (pairsAt (osOf goal))
def sideOf (nb : List Int) (l : List (Nat × Nat)) : List Int := l.flatMap fun q => [256 + (q.2 : Int), nb.getD q.1 0]
def sdOf (nb goal : List Int) : List (List Int) := (prsOf goal).map (sideOf nb)
def rulesOf (sd : List (List Int)) : List Int := (sd.mapIdx fun p s => (256 + (p : Int)) :: s ++ [0]).flatten
end Mine

namespace Mine
open PySem

/-- three signs stand for the numbers -/
def sg (nb : List Int) (v : Int) : Int := if v < 0 then nb.getD (-v - 1).toNat 0 else v
def n3 : List Int := [-1, -2, -3]
theorem sg_n3 {nb : List Int} {g : Nat} (h : g < 3) : sg nb (n3.getD g 0) = nb.getD g 0 := by
  have : g = 0 ∨ g = 1 ∨ g = 2 := by omega
  rcases this with rfl | rfl | rfl <;> rfl
theorem sg_pos {nb : List Int} {v : Int} (h : 0 ≤ v) : sg nb v = v := by unfold sg; rw [if_neg (by omega)]

theorem gap_snd {nb o : List Int} {st st' : List (List Int) × List Int} {g : Nat} (hg : g < 3) (h : st.1 = st'.1) (h2 : st.2 = st'.2.map (sg nb)) : (gapStep nb o st g).2 = (gapStep n3 o st' g).2.map (sg nb) := by
  unfold gapStep
  split
  · dsimp only
    rw [h, h2, List.map_append, List.map_cons, List.map_cons, List.map_nil, sg_n3 hg, sg_pos (by omega)]
  · exact h2
theorem gaps_snd {nb o : List Int} : ∀ (l : List Nat) {st st' : List (List Int) × List Int}, (∀ g ∈ l, g < 3) → st.1 = st'.1 → st.2 = st'.2.map (sg nb) → (l.foldl (gapStep nb o) st).2 = (l.foldl (gapStep n3 o) st').2.map (sg nb)
  | [], _, _, _, _, h => h
  | g :: l, st, st', hg, h, h2 => gaps_snd l (fun x hx => hg x (.tail _ hx)) (gap_fst h) (gap_snd (hg g (.head _)) h h2)
theorem gram_snd {nb goal : List Int} : ∀ i, (gramSt nb goal i).2 = (gramSt n3 goal i).2.map (sg nb)
  | 0 => rfl
  | i + 1 => by
    rw [gramSt_succ, gramSt_succ]
    unfold placeStep
    dsimp only
    rw [gram_fst (nb' := n3) i, List.map_append, List.map_cons, List.map_nil, sg_pos (by omega)]
    congr 1
    refine gaps_snd _ (fun g hg => List.mem_range.mp hg) rfl ?_
    dsimp only
    rw [gram_snd i, List.map_append, List.map_cons, List.map_nil, sg_pos (by omega)]
theorem rules_n3 : ∀ goal ∈ perms24, (gramSt n3 goal (mOf goal)).2 = rulesOf (sdOf n3 goal) := by decide +kernel
end Mine

namespace Mine
open PySem

theorem pairs_lt {os : List (List Int)} {p : Nat} : ∀ q ∈ pairsAt os p, q.1 < 3 := by
  intro q hq
  unfold pairsAt at hq
  obtain ⟨g, hg, e⟩ := List.mem_filterMap.mp hq
  have := List.mem_range.mp hg
  split at e
  · cases e; exact this
  · cases e
theorem side_sg {nb : List Int} : ∀ {l : List (Nat × Nat)}, (∀ q ∈ l, q.1 < 3) → sideOf nb l = (sideOf n3 l).map (sg nb)
  | [], _ => rfl
  | q :: l, h => by
    have e : ∀ nb, sideOf nb (q :: l) = [256 + (q.2 : Int), nb.getD q.1 0] ++ sideOf nb l := fun nb => rfl
    rw [e, e, List.map_append, ← side_sg fun x hx => h x (.tail _ hx), List.map_cons, List.map_cons, List.map_nil, sg_n3 (h q (.head _)), sg_pos (by omega)]
theorem sd_sg {nb goal : List Int} : sdOf nb goal = (sdOf n3 goal).map (List.map (sg nb)) := by
  unfold sdOf prsOf
  rw [List.map_map, List.map_map, List.map_map]
  refine List.map_congr_left fun p _ => ?_
  exact side_sg pairs_lt
theorem rulesOf_sg {nb : List Int} (sd : List (List Int)) : rulesOf (sd.map (List.map (sg nb))) = (rulesOf sd).map (sg nb) := by
  unfold rulesOf
  rw [List.map_flatten]
  congr 1
  apply List.ext_getElem?
  intro i
  simp only [List.getElem?_mapIdx, List.getElem?_map, Option.map_map]
  cases sd[i]? with
  | none => rfl
  | some s => simp [sg_pos (nb := nb) (v := 0) (by omega), sg_pos (nb := nb) (v := 256 + (i : Int)) (by omega)]
theorem rules_eq {nb goal : List Int} (h : goal ∈ perms24) : (gramSt nb goal (mOf goal)).2 = rulesOf (sdOf nb goal) := by
  rw [gram_snd (nb := nb), rules_n3 goal h, sd_sg (nb := nb), rulesOf_sg]
end Mine

namespace Mine
open PySem

/-- a stretch without 0 only grows the part -/
theorem split_part {st : List (Int × List Int) × List Int} : ∀ (l : List Int), (∀ v ∈ l, v ≠ 0) → l.foldl splitStep st = (st.1, st.2 ++ l) := by
  intro l
  induction l generalizing st with
  | nil => intro _; simp
  | cons v l ih =>
    intro h
    have hv : splitStep st v = (st.1, st.2 ++ [v]) := by unfold splitStep; rw [if_neg (h v (.head _))]
    rw [List.foldl_cons, hv, ih (fun x hx => h x (.tail _ hx))]
    simp
/-- one side, ended by 0 -/
theorem split_side {acc : List (Int × List Int)} {k : Int} {s : List Int} (hk : k ≠ 0) (hs : ∀ v ∈ s, v ≠ 0) : ((k :: s) ++ [0]).foldl splitStep (acc, []) = (acc ++ [(k, s)], []) := by
  rw [List.foldl_append, split_part (k :: s) (fun v hv => by rcases List.mem_cons.mp hv with rfl | hv; exact hk; exact hs v hv)]
  simp only [List.foldl_cons, List.foldl_nil, List.nil_append]
  unfold splitStep
  rw [if_pos rfl]
  simp
def blocks (b : Nat) (sd : List (List Int)) : List Int := (sd.mapIdx fun p s => (256 + ((b + p : Nat) : Int)) :: s ++ [0]).flatten
def keyed (b : Nat) (sd : List (List Int)) : List (Int × List Int) := sd.mapIdx fun p s => (256 + ((b + p : Nat) : Int), s)
theorem blocks_cons {b : Nat} {s : List Int} {sd : List (List Int)} : blocks b (s :: sd) = ((256 + (b : Int)) :: s ++ [0]) ++ blocks (b + 1) sd := by
  unfold blocks
  rw [List.mapIdx_cons, List.flatten_cons]
  have e : ∀ q : Nat, b + (q + 1) = b + 1 + q := fun q => by omega
  have e2 : (fun (p : Nat) (s : List Int) => (256 + ((b + (p + 1) : Nat) : Int)) :: s ++ [0]) = fun (p : Nat) (s : List Int) => (256 + ((b + 1 + p : Nat) : Int)) :: s ++ [0] := by
    funext p s; rw [e p]
  rw [e2]; rfl
theorem keyed_cons {b : Nat} {s : List Int} {sd : List (List Int)} : keyed b (s :: sd) = (256 + (b : Int), s) :: keyed (b + 1) sd := by
  unfold keyed
  rw [List.mapIdx_cons]
  have e2 : (fun (p : Nat) (s : List Int) => ((256 + ((b + (p + 1) : Nat) : Int)), s)) = fun (p : Nat) (s : List Int) => ((256 + ((b + 1 + p : Nat) : Int)), s) := by
    funext p s; rw [show b + (p + 1) = b + 1 + p by omega]
  rw [e2]; rfl
theorem split_blocks : ∀ (sd : List (List Int)) (b : Nat) (acc : List (Int × List Int)), (∀ s ∈ sd, ∀ v ∈ s, v ≠ 0) → (blocks b sd).foldl splitStep (acc, []) = (acc ++ keyed b sd, [])
  | [], b, acc, _ => by simp [blocks, keyed]
  | s :: sd, b, acc, h => by
    rw [blocks_cons, List.foldl_append, split_side (by omega) (h s (.head _)), split_blocks sd (b + 1) _ fun x hx => h x (.tail _ hx), keyed_cons]
    simp
end Mine

namespace Mine
open PySem

theorem fresh_blocks (ex : List Int) (hex : ∀ v ∈ ex, v ≠ 0) : ∀ (sd : List (List Int)) (b : Nat) (acc : List (Int × List Int)) (i : Nat), (∀ s ∈ sd, ∀ v ∈ s, v ≠ 0) → (∀ q ∈ acc, q.1 < 256 + (b : Int)) → (blocks b sd ++ ex)[i]? = some 0 →
    1 ≤ (((blocks b sd ++ ex).take i).foldl splitStep (acc, [])).2.length ∧ ∀ q ∈ (((blocks b sd ++ ex).take i).foldl splitStep (acc, [])).1, q.1 ≠ ((((blocks b sd ++ ex).take i).foldl splitStep (acc, [])).2 ++ [0]).getD 0 0
  | [], b, acc, i, _, _, h => by
    have : (blocks b [] ++ ex) = ex := by simp [blocks]
    rw [this] at h
    exact absurd rfl (hex 0 (List.mem_of_getElem? h))
  | s :: sd, b, acc, i, hs, ha, h => by
    rw [blocks_cons, List.append_assoc] at h ⊢
    have hn : ∀ v ∈ (256 + (b : Int)) :: s, v ≠ 0 := fun v hv => by
      rcases List.mem_cons.mp hv with rfl | hv
      · omega
      · exact hs s (.head _) v hv
    have hlen : (((256 + (b : Int)) :: s) ++ [0]).length = s.length + 2 := by simp
    by_cases h1 : i < s.length + 1
    · rw [List.append_assoc, List.getElem?_append_left (by simpa using h1)] at h
      exact absurd rfl (hn 0 (List.mem_of_getElem? h))
    · by_cases h2 : i = s.length + 1
      · subst h2
        have e : (((256 + (b : Int)) :: s ++ [0]) ++ (blocks (b + 1) sd ++ ex)).take (s.length + 1) = (256 + (b : Int)) :: s := by
          rw [List.append_assoc]
          exact List.take_left' (by simp)
        rw [e, split_part _ hn]
        refine ⟨by simp, fun q hq => ?_⟩
        have := ha q hq
        simp
        omega
      · obtain ⟨j, rfl⟩ : ∃ j, i = (((256 + (b : Int)) :: s) ++ [0]).length + j := ⟨i - (s.length + 2), by omega⟩
        rw [List.getElem?_append_right (by omega), Nat.add_sub_cancel_left] at h
        have e : (((256 + (b : Int)) :: s ++ [0]) ++ (blocks (b + 1) sd ++ ex)).take ((((256 + (b : Int)) :: s) ++ [0]).length + j) = ((256 + (b : Int)) :: s ++ [0]) ++ (blocks (b + 1) sd ++ ex).take j := List.take_length_add_append ..
        rw [e, List.foldl_append, split_side (by omega) (hs s (.head _))]
        refine fresh_blocks ex hex sd (b + 1) _ j (fun x hx => hs x (.tail _ hx)) (fun q hq => ?_) h
        rcases List.mem_append.mp hq with hq | hq
        · have := ha q hq; omega
        · rw [List.mem_singleton.mp hq]; simp; omega
end Mine

namespace Mine
open PySem

theorem rules_blocks (sd : List (List Int)) : rulesOf sd = blocks 0 sd := by
  unfold rulesOf blocks
  simp
theorem keyed_dsides (sd : List (List Int)) : dsd (keyed 0 sd) = dsides sd := by
  unfold dsd keyed dsides
  apply List.ext_getElem?
  intro i
  simp only [List.getElem?_map, List.getElem?_mapIdx, Option.map_map, Nat.zero_add]
  rfl

/-- the symbols that come last -/
def extraOf (t : Nat) : List Int := (List.range 8).map (fun i : Nat => 252 + (i : Int)) ++ [-1, (t : Int), -(t : Int)]
theorem extra_ne {t : Nat} (h : 0 < t) : ∀ v ∈ extraOf t, v ≠ 0 := by
  intro v hv
  unfold extraOf at hv
  rcases List.mem_append.mp hv with hv | hv
  · obtain ⟨i, _, rfl⟩ := List.mem_map.mp hv; omega
  · simp at hv; omega

theorem side_ne {nb : List Int} {l : List (Nat × Nat)} (hn : ∀ g, g < 3 → nb.getD g 0 ≠ 0) (hl : ∀ q ∈ l, q.1 < 3) : ∀ v ∈ sideOf nb l, v ≠ 0 := by
  intro v hv
  obtain ⟨q, hq, hv⟩ := List.mem_flatMap.mp hv
  rcases List.mem_cons.mp hv with rfl | hv
  · omega
  · rw [List.mem_singleton.mp hv]; exact hn _ (hl q hq)
theorem sd_ne {nb goal : List Int} (hn : ∀ g, g < 3 → nb.getD g 0 ≠ 0) : ∀ s ∈ sdOf nb goal, ∀ v ∈ s, v ≠ 0 := by
  intro s hs
  unfold sdOf prsOf at hs
  rw [List.map_map] at hs
  obtain ⟨p, _, rfl⟩ := List.mem_map.mp hs
  exact side_ne hn pairs_lt

theorem split_all {nb goal : List Int} {t : Nat} (hn : ∀ g, g < 3 → nb.getD g 0 ≠ 0) (ht : 0 < t) : dsd (splitSt (rulesOf (sdOf nb goal) ++ extraOf t) (rulesOf (sdOf nb goal) ++ extraOf t).length).1 = dsides (sdOf nb goal) := by
  unfold splitSt
  rw [List.take_of_length_le (Nat.le_refl _), rules_blocks, List.foldl_append, split_blocks _ _ _ (sd_ne hn), split_part _ (extra_ne ht)]
  simp only [List.nil_append]
  exact keyed_dsides _
theorem fresh_all {nb goal : List Int} {t : Nat} (hn : ∀ g, g < 3 → nb.getD g 0 ≠ 0) (ht : 0 < t) : ∀ i, (rulesOf (sdOf nb goal) ++ extraOf t)[i]? = some 0 →
    1 ≤ (splitSt (rulesOf (sdOf nb goal) ++ extraOf t) i).2.length ∧ ∀ q ∈ (splitSt (rulesOf (sdOf nb goal) ++ extraOf t) i).1, q.1 ≠ ((splitSt (rulesOf (sdOf nb goal) ++ extraOf t) i).2 ++ [0]).getD 0 0 := by
  intro i h
  rw [rules_blocks] at h ⊢
  exact fresh_blocks _ (extra_ne ht) _ 0 [] i (sd_ne hn) (fun _ h => nomatch h) h

theorem nbs_get {f g : Nat} (h : g < 3) : (nbs f).getD g 0 = (f : Int) + 7 + g := by
  have : g = 0 ∨ g = 1 ∨ g = 2 := by omega
  rcases this with rfl | rfl | rfl <;> simp [nbs] <;> omega
theorem findI_nbs {f g : Nat} (h : g < 3) : findI ((nbs f).getD g 0) (nbs f) = g := by
  rw [nbs_get h]
  have : g = 0 ∨ g = 1 ∨ g = 2 := by omega
  rcases this with rfl | rfl | rfl
  · simp [nbs, findI]
  · simp only [nbs, findI]
    rw [if_neg (by omega), if_pos (by omega)]
  · simp only [nbs, findI]
    rw [if_neg (by omega), if_neg (by omega), if_pos (by omega)]
theorem gapsOf_side {f : Nat} (hf : f < 46) : ∀ {l : List (Nat × Nat)}, (∀ q ∈ l, q.1 < 3) → gapsOf (nbs f) (sideOf (nbs f) l) = l.map (·.1)
  | [], _ => rfl
  | q :: l, h => by
    have hq := h q (.head _)
    have e : sideOf (nbs f) (q :: l) = (256 + (q.2 : Int)) :: (nbs f).getD q.1 0 :: sideOf (nbs f) l := rfl
    have hv := nbs_get (f := f) hq
    have ih := gapsOf_side hf (l := l) fun x hx => h x (.tail _ hx)
    unfold gapsOf at ih ⊢
    rw [e, List.filterMap_cons_none (by rw [if_neg (by omega)]), List.filterMap_cons_some (by rw [if_pos (by omega)]), ih, findI_nbs hq]
    rfl
end Mine

namespace Mine
open PySem

section
variable {prog : Program} {w : World} {A : Around} {E : Value → Shared → Prop} {s : Shared}

abbrev IsTupIt (h : Heap) (it l : Addr) (i : Nat) : Prop := h.get? it = some { cls := .type "tuple_iterator", data := .fields #[.ref l, .int i 0] }

theorem nextOf_tup_item {it l : Addr} {i : Nat} {items} {x : Value} {Q : Value → Shared → Prop} (hit : IsTupIt s.heap it l i)
    (hl : s.heap.IsTuple l items) (hx : items[i]? = some x)
    (hQ : ∀ h', IsTupIt h' it l (i + 1) → Heap.SameBut it s.heap h' → Q x { s with heap := h' }) :
    wpAny (model prog w) A (Builtin.SmallTypes.nextOf (.ref it)) Q E s := by
  have hT : s.TypeIs (.ref it) "tuple_iterator" := ⟨_, hit, rfl⟩
  obtain ⟨ol, hol, _, nl, hdl⟩ := hl
  unfold Builtin.SmallTypes.nextOf
  refine wpAny_bind (wpAny_callSpecial?_slot (name := Str.ofString "__next__") hT F.slot_tuple_iterator_next
    (wpAny_call_entry F.slot_tuple_iterator_next hT F.entry_tuple_iterator_next ?_ (F.args_tuple_iterator_next_1 _)))
  show wpAny _ _ (field (.ref it) 0 >>= _) _ _ s
  refine wpAny_bind (wpAny_field hit rfl (x := .ref l) rfl ?_)
  show wpAny _ _ (if (Value.ref l == Value.none) = true then _ else _) _ _ s
  rw [if_neg (show ¬ ((Value.ref l == Value.none) = true) from Bool.false_ne_true)]
  show wpAny _ _ (field (.ref it) 1 >>= _) _ _ s
  refine wpAny_bind (wpAny_field hit rfl (x := .int i 0) rfl ?_)
  show wpAny _ _ (seqItems? (.ref l) >>= _) _ _ s
  refine wpAny_bind (wpAny_seqItems hol hdl ?_)
  simp only [Int.toNat_natCast, hx]
  refine wpAny_bind (wpAny_setField_rec hit (by simp) fun h' hz' hs' => ?_)
  refine wpAny_pure ⟨x, rfl, wpAny_pure (hQ h' ?_ hs')⟩
  have e : ((i + 1 : Nat) : Int) = (i : Int) + 1 := by omega
  show h'.get? it = _
  rw [e]; simpa [rawInt] using hz'

abbrev IsZ (h : Heap) (z TI TO : Addr) (f0 : Value) (b : Bool) : Prop :=
  h.get? z = some { cls := .type "zip", dict := none, data := .fields #[f0, .bool b, .bool false, .ref TI, .ref TO], slots := #[] }

/-- the places of a zip over a text and a tuple are apart -/
structure ZA (z TI TO i1 i2 l2 : Addr) : Prop where
  TIz : TI ≠ z
  TOz : TO ≠ z
  i1z : i1 ≠ z
  i2z : i2 ≠ z
  TITO : TI ≠ TO
  TIi1 : TI ≠ i1
  TIi2 : TI ≠ i2
  TOi1 : TO ≠ i1
  TOi2 : TO ≠ i2
  i12 : i1 ≠ i2
  l2z : l2 ≠ z
  l2TO : l2 ≠ TO
  l2i1 : l2 ≠ i1
  l2i2 : l2 ≠ i2

/-- a zip that has handed out i pairs -/
structure ZS (x : Str) (t : Tok) (items : Array Value) (z TI TO i1 i2 l2 : Addr) (i : Nat) (h : Heap) : Prop where
  zip : (i = 0 ∧ IsZ h z TI TO .none false) ∨ (0 < i ∧ ∃ T o b, IsZ h z TI TO (rawInt (T : Addr)) b ∧ h.get? T = some o ∧ T ≠ z)
  TI : IsPair h TI (.ref i1) (.ref i2)
  TO : ∃ a b, IsPair h TO a b
  it1 : h.IsStrIter i1 "str_ascii_iterator" x t i
  it2 : IsTupIt h i2 l2 i
  tup : h.IsTuple l2 items

theorem str_iter_ext {h h' : Heap} {it c : Addr} {x : Str} {t : Tok} {i : Nat} {n : String} (a : h.IsStrIter it n x t i) (e : ∀ o, h.get? it = some o → h'.get? it = some o) : h'.IsStrIter it n x t i :=
  let ⟨o, ho, r⟩ := a; ⟨o, e o ho, r⟩

theorem zip_first {x : Str} {t : Tok} {items : Array Value} {z TI TO i1 i2 l2 : Addr} {c : Nat} {y : Value} {Q : Value → Shared → Prop} (D : ZA z TI TO i1 i2 l2)
    (Z : ZS x t items z TI TO i1 i2 l2 0 s.heap) (hx : x.cps[0]? = some c) (hy : items[0]? = some y)
    (hQ : ∀ h', ZS x t items z TI TO i1 i2 l2 1 h' → IsPair h' s.heap.objs.size (.str ⟨#[c]⟩ s.toks) y → h'.objs.size = s.heap.objs.size + 1 →
      (∀ c o, c ≠ z → c ≠ TO → c ≠ i1 → c ≠ i2 → s.heap.get? c = some o → h'.get? c = some o) → Q (.ref s.heap.objs.size) { s with heap := h', toks := s.toks + 1 }) :
    wpAny (model prog w) A (Builtin.«zip.__next__» ⟨[.ref z], []⟩) (fun fin s' => ∃ v, fin = .done (.ret v) ∧ Q v s') E s := by
  obtain ⟨hp, g, d, tk, os⟩ := s
  obtain ⟨zz, hTI, ⟨a, b, hTO⟩, h1, h2, hl⟩ := Z
  obtain hz : IsZ hp z TI TO .none false := by
    rcases zz with ⟨_, zz⟩ | ⟨k, _⟩
    · exact zz
    · exact absurd k (Nat.lt_irrefl _)
  show wpAny _ _ (field (.ref z) 2 >>= _) _ _ _
  refine wpAny_bind (wpAny_field hz rfl (x := .bool false) rfl ?_)
  show wpAny _ _ (field (.ref z) 3 >>= _) _ _ _
  refine wpAny_bind (wpAny_field hz rfl (x := .ref TI) rfl ?_)
  refine wpAny_bind (wpAny_seqItems hTI rfl ?_)
  show wpAny _ _ (Builtin.SmallTypes.ownedTupleIsFree (.ref z) >>= _) _ _ _
  refine wpAny_bind ?_
  unfold Builtin.SmallTypes.ownedTupleIsFree
  refine wpAny_bind (wpAny_field hz rfl (x := .none) rfl (wpAny_pure ?_))
  simp only [if_true]
  refine wpAny_bind (wpAny_rule ?_)
  refine wpAny_bind (wpAny_field hz rfl (x := .ref TO) rfl ?_)
  refine wpAny_bind (wpAny_setField_rec hz (by simp) fun h₁ hz₁ hs₁ => ?_)
  replace hz₁ : IsZip h₁ z TI TO .ellipsis := hz₁
  refine wpAny_bind ?_
  simp only [List.zipIdx_cons, List.zipIdx_nil, List.forIn_cons, List.forIn_nil]
  refine wpAny_bind (wpAny_bind (wpAny_onRaise ?_))
  show wpAny _ _ (Builtin.SmallTypes.nextOf (.ref i1) >>= _) _ _ _
  refine wpAny_bind (wpAny_nextOf_ascii_item (str_iter_ext (c := z) h1 fun o e => hs₁.extBut _ o D.i1z e) hx fun h₂ h1₂ hs₂ => wpAny_pure ?_)
  have hTO₂ : IsPair h₂ TO a b := hs₂.extBut _ _ D.TOi1 (hs₁.extBut _ _ D.TOz hTO)
  refine wpAny_bind (wpAny_seqItems hTO₂ rfl ?_)
  refine wpAny_bind (wpAny_updateSeq_pair hTO₂ fun h₃ hTO₃ hs₃ => ?_)
  replace hTO₃ : IsPair h₃ TO (.str ⟨#[c]⟩ tk) b := hTO₃
  refine wpAny_bind (wpAny_letGo (wpAny_pure ?_))
  refine wpAny_bind (wpAny_bind (wpAny_onRaise ?_))
  show wpAny _ _ (Builtin.SmallTypes.nextOf (.ref i2) >>= _) _ _ _
  have h2₃ : IsTupIt h₃ i2 l2 0 := hs₃.extBut _ _ D.TOi2.symm (hs₂.extBut _ _ D.i12.symm (hs₁.extBut _ _ D.i2z h2))
  have hl₃ : h₃.IsTuple l2 items := hl.at fun o e => hs₃.extBut _ o D.l2TO (hs₂.extBut _ o D.l2i1 (hs₁.extBut _ o D.l2z e))
  refine wpAny_bind (nextOf_tup_item h2₃ hl₃ hy fun h₄ h2₄ hs₄ => wpAny_pure ?_)
  have hTO₄ : IsPair h₄ TO (.str ⟨#[c]⟩ tk) b := hs₄.extBut _ _ D.TOi2 hTO₃
  refine wpAny_bind (wpAny_seqItems hTO₄ rfl ?_)
  refine wpAny_bind (wpAny_updateSeq_pair hTO₄ fun h₅ hTO₅ hs₅ => ?_)
  replace hTO₅ : IsPair h₅ TO (.str ⟨#[c]⟩ tk) y := hTO₅
  refine wpAny_bind (wpAny_letGo (wpAny_pure (wpAny_pure ?_)))
  refine wpAny_bind (wpAny_seqItems hTO₅ rfl ?_)
  refine wpAny_bind (wpAny_newTuple ?_)
  have hsz : h₅.objs.size = hp.objs.size := by rw [hs₅.1, hs₄.1, hs₃.1, hs₂.1, hs₁.1]
  have hz₅ : IsZip h₅ z TI TO .ellipsis := hs₅.extBut _ _ D.TOz.symm (hs₄.extBut _ _ D.i2z.symm (hs₃.extBut _ _ D.TOz.symm (hs₂.extBut _ _ D.i1z.symm hz₁)))
  have hk₅ : ∀ c o, c ≠ z → c ≠ TO → c ≠ i1 → c ≠ i2 → hp.get? c = some o → h₅.get? c = some o := fun c o c1 c2 c3 c4 e =>
    hs₅.extBut _ _ c2 (hs₄.extBut _ _ c4 (hs₃.extBut _ _ c2 (hs₂.extBut _ _ c3 (hs₁.extBut _ _ c1 e))))
  have h1₅ : h₅.IsStrIter i1 "str_ascii_iterator" x t (0 + 1) := str_iter_ext (c := z) h1₂ fun o e => hs₅.extBut _ o D.TOi1.symm (hs₄.extBut _ o D.i12 (hs₃.extBut _ o D.TOi1.symm e))
  have h2₅ : IsTupIt h₅ i2 l2 (0 + 1) := hs₅.extBut _ _ D.TOi2.symm h2₄
  have hzlt : z < h₅.objs.size := Heap.lt_size hz₅
  show wpAny _ _ (Builtin.SmallTypes.ownedTupleHandOut (.ref z) (.ref h₅.objs.size) >>= _) _ _ _
  refine wpAny_bind ?_
  unfold Builtin.SmallTypes.ownedTupleHandOut
  have hz₆ : IsZip (h₅.push { cls := .type "tuple", data := .seq #[.str ⟨#[c]⟩ tk, y] }) z TI TO .ellipsis := Heap.get?_push_of_some _ hz₅
  refine wpAny_bind (wpAny_setField_rec hz₆ (by simp) fun h₇ hz₇ hs₇ => ?_)
  replace hz₇ : IsZip h₇ z TI TO (rawInt h₅.objs.size) := hz₇
  refine wpAny_setField_rec hz₇ (by simp) fun h₈ hz₈ hs₈ => ?_
  replace hz₈ : IsZip h₈ z TI TO (rawInt h₅.objs.size) := hz₈
  have up : ∀ c o, c ≠ z → h₅.get? c = some o → h₈.get? c = some o := fun c o c1 e => hs₈.extBut _ _ c1 (hs₇.extBut _ _ c1 (Heap.get?_push_of_some _ e))
  have hT₈ : IsPair h₈ h₅.objs.size (.str ⟨#[c]⟩ tk) y := hs₈.extBut _ _ (Nat.ne_of_gt hzlt) (hs₇.extBut _ _ (Nat.ne_of_gt hzlt) (Heap.get?_push_size _ rfl))
  have hz8 : h₈.objs.size = h₅.objs.size + 1 := by rw [hs₈.1, hs₇.1, Heap.size_push]
  rw [hsz] at hz₈ hT₈ hz8
  refine wpAny_pure ⟨_, rfl, ?_⟩
  show Q (.ref h₅.objs.size) _
  rw [hsz]
  have hzhp : z ≠ hp.objs.size := by rw [hsz] at hzlt; exact Nat.ne_of_lt hzlt
  exact hQ h₈ ⟨.inr ⟨Nat.zero_lt_one, _, _, false, hz₈, hT₈, hzhp.symm⟩, up _ _ D.TIz (hk₅ _ _ D.TIz D.TITO D.TIi1 D.TIi2 hTI), ⟨_, _, up _ _ D.TOz hTO₅⟩, str_iter_ext (c := z) h1₅ fun o e => up _ o D.i1z e, up _ _ D.i2z h2₅,
    hl.at fun o e => up _ o D.l2z (hk₅ _ o D.l2z D.l2TO D.l2i1 D.l2i2 e)⟩ hT₈ hz8 fun c o c1 c2 c3 c4 e => up c o c1 (hk₅ c o c1 c2 c3 c4 e)

theorem alive_of {a : Addr} {o : Obj} {Q : Option Obj → Shared → Prop} (ho : s.heap.get? a = some o) (h : Q (some o) s) : wpAny (model prog w) A (loadIfAlive a) Q E s := by
  have h' : Q (s.heap.get? a) s := by rw [ho]; exact h
  exact fun _ _ _ => h'
theorem free_no {z TI TO T : Addr} {oT : Obj} {f : Bool} {Q : Bool → Shared → Prop} (hz : IsZ s.heap z TI TO (rawInt (T : Addr)) f) (hT : s.heap.get? T = some oT)
    (h : ∀ h₁, IsZ h₁ z TI TO (rawInt (T : Addr)) true → Heap.SameBut z s.heap h₁ → Q false { s with heap := h₁ }) : wpAny (model prog w) A (Builtin.SmallTypes.ownedTupleIsFree (.ref z)) Q E s := by
  unfold Builtin.SmallTypes.ownedTupleIsFree
  refine wpAny_bind (wpAny_field hz rfl (x := rawInt T) rfl ?_)
  show wpAny _ _ (loadIfAlive ((T : Int).toNat) >>= _) _ _ _
  rw [Int.toNat_natCast]
  refine wpAny_bind (alive_of hT ?_)
  simp only [Option.isNone_some, Bool.false_eq_true, if_false]
  refine wpAny_bind (wpAny_field hz rfl (x := .bool f) rfl ?_)
  cases f with
  | true =>
    rw [if_neg (show ¬ ((Value.bool true != Value.bool true) = true) from Bool.false_ne_true)]
    exact wpAny_pure (h _ hz (Heap.SameBut.refl _ _))
  | false =>
    rw [if_pos (show (Value.bool false != Value.bool true) = true from rfl)]
    refine wpAny_bind (wpAny_setField_rec hz (by simp) fun h₃ he₃ hs₃ => ?_)
    exact wpAny_pure (h _ he₃ hs₃)

theorem zip_more {x : Str} {t : Tok} {items : Array Value} {z TI TO i1 i2 l2 : Addr} {i c : Nat} {y : Value} {Q : Value → Shared → Prop} (D : ZA z TI TO i1 i2 l2) (hi : 0 < i)
    (Z : ZS x t items z TI TO i1 i2 l2 i s.heap) (hx : x.cps[i]? = some c) (hy : items[i]? = some y)
    (hQ : ∀ h', ZS x t items z TI TO i1 i2 l2 (i + 1) h' → IsPair h' s.heap.objs.size (.str ⟨#[c]⟩ s.toks) y → h'.objs.size = s.heap.objs.size + 1 →
      (∀ c o, c ≠ z → c ≠ TO → c ≠ i1 → c ≠ i2 → s.heap.get? c = some o → h'.get? c = some o) → Q (.ref s.heap.objs.size) { s with heap := h', toks := s.toks + 1 }) :
    wpAny (model prog w) A (Builtin.«zip.__next__» ⟨[.ref z], []⟩) (fun fin s' => ∃ v, fin = .done (.ret v) ∧ Q v s') E s := by
  obtain ⟨hp, g, d, tk, os⟩ := s
  obtain ⟨zz, hTI, ⟨a, b, hTO⟩, h1, h2, hl⟩ := Z
  obtain ⟨T, oT, f, hz, hT, hTz⟩ : ∃ T o b, IsZ hp z TI TO (rawInt (T : Addr)) b ∧ hp.get? T = some o ∧ T ≠ z := by
    rcases zz with ⟨k, _⟩ | ⟨_, zz⟩
    · omega
    · exact zz
  show wpAny _ _ (field (.ref z) 2 >>= _) _ _ _
  refine wpAny_bind (wpAny_field hz rfl (x := .bool false) rfl ?_)
  show wpAny _ _ (field (.ref z) 3 >>= _) _ _ _
  refine wpAny_bind (wpAny_field hz rfl (x := .ref TI) rfl ?_)
  refine wpAny_bind (wpAny_seqItems hTI rfl ?_)
  show wpAny _ _ (Builtin.SmallTypes.ownedTupleIsFree (.ref z) >>= _) _ _ _
  refine wpAny_bind (free_no hz hT fun h₁ hz₁ hs₁ => ?_)
  simp only [Bool.false_eq_true, if_false]
  refine wpAny_bind ?_
  simp only [← Array.forIn_toList, List.forIn_cons, List.forIn_nil]
  refine wpAny_bind (wpAny_bind (wpAny_holding ?_))
  show wpAny _ _ (Builtin.SmallTypes.nextOf (.ref i1) >>= _) _ _ _
  refine wpAny_bind (wpAny_nextOf_ascii_item (str_iter_ext (c := z) h1 fun o e => hs₁.extBut _ o D.i1z e) hx fun h₂ h1₂ hs₂ => wpAny_pure ?_)
  refine wpAny_pure ?_
  refine wpAny_bind (wpAny_bind (wpAny_holding ?_))
  show wpAny _ _ (Builtin.SmallTypes.nextOf (.ref i2) >>= _) _ _ _
  have h2₂ : IsTupIt h₂ i2 l2 i := hs₂.extBut _ _ D.i12.symm (hs₁.extBut _ _ D.i2z h2)
  have hl₂ : h₂.IsTuple l2 items := hl.at fun o e => hs₂.extBut _ o D.l2i1 (hs₁.extBut _ o D.l2z e)
  refine wpAny_bind (nextOf_tup_item h2₂ hl₂ hy fun h₃ h2₃ hs₃ => wpAny_pure ?_)
  refine wpAny_pure (wpAny_pure ?_)
  show wpAny _ _ (newTuple [.str ⟨#[c]⟩ tk, y] >>= _) _ _ _
  refine wpAny_bind (wpAny_newTuple ?_)
  refine wpAny_pure ⟨_, rfl, ?_⟩
  have hsz : h₃.objs.size = hp.objs.size := by rw [hs₃.1, hs₂.1, hs₁.1]
  show Q (.ref h₃.objs.size) _
  rw [hsz]
  have k₃ : ∀ b o, b ≠ z → b ≠ i1 → b ≠ i2 → hp.get? b = some o → (h₃.push { cls := .type "tuple", data := .seq #[.str ⟨#[c]⟩ tk, y] }).get? b = some o := fun b o c1 c3 c4 e =>
    Heap.get?_push_of_some _ (hs₃.extBut _ _ c4 (hs₂.extBut _ _ c3 (hs₁.extBut _ _ c1 e)))
  have hz₃ : IsZ (h₃.push { cls := .type "tuple", data := .seq #[.str ⟨#[c]⟩ tk, y] }) z TI TO (rawInt T) true := Heap.get?_push_of_some _ (hs₃.extBut _ _ D.i2z.symm (hs₂.extBut _ _ D.i1z.symm hz₁))
  have hT₃ : ∃ o, (h₃.push { cls := .type "tuple", data := .seq #[.str ⟨#[c]⟩ tk, y] }).get? T = some o := by
    by_cases e1 : T = i1
    · obtain ⟨o, ho, _⟩ := h1₂
      exact ⟨o, Heap.get?_push_of_some _ (hs₃.extBut _ _ (e1 ▸ D.i12) (e1 ▸ ho))⟩
    · by_cases e2 : T = i2
      · exact ⟨_, Heap.get?_push_of_some _ (e2 ▸ h2₃)⟩
      · exact ⟨_, k₃ T oT hTz e1 e2 hT⟩
  obtain ⟨oT', hT'⟩ := hT₃
  refine hQ _ ⟨.inr ⟨Nat.succ_pos _, T, oT', true, hz₃, hT', hTz⟩, k₃ _ _ D.TIz D.TIi1 D.TIi2 hTI, ⟨a, b, k₃ _ _ D.TOz D.TOi1 D.TOi2 hTO⟩, str_iter_ext (c := z) h1₂ fun o e => Heap.get?_push_of_some _ (hs₃.extBut _ o D.i12 e), Heap.get?_push_of_some _ h2₃,
    hl.at fun o e => k₃ _ o D.l2z D.l2i1 D.l2i2 e⟩ ?_ ?_ fun b o c1 c2 c3 c4 e => k₃ b o c1 c3 c4 e
  · have := Heap.get?_push_size h₃ (o := { cls := .type "tuple", data := .seq #[.str ⟨#[c]⟩ tk, y] }) rfl
    rw [hsz] at this; exact this
  · show (h₃.push _).objs.size = hp.objs.size + 1
    rw [Heap.size_push, hsz]

theorem zip_end {x : Str} {t : Tok} {items : Array Value} {z TI TO i1 i2 l2 : Addr} {i : Nat} {Q : Fin → Shared → Prop} (hh : A.handled = none) (D : ZA z TI TO i1 i2 l2) (hi : 0 < i)
    (Z : ZS x t items z TI TO i1 i2 l2 i s.heap) (hx : x.cps[i]? = none)
    (hE : ∀ h' e, (∀ c o, c ≠ z → c ≠ i1 → s.heap.get? c = some o → h'.get? c = some o) → (∃ o, h'.get? e = some o ∧ o.cls = .type "StopIteration") → E (.ref e) { s with heap := h' }) :
    wpAny (model prog w) A (Builtin.«zip.__next__» ⟨[.ref z], []⟩) Q E s := by
  obtain ⟨hp, g, d, tk, os⟩ := s
  obtain ⟨zz, hTI, ⟨a, b, hTO⟩, h1, h2, hl⟩ := Z
  obtain ⟨T, oT, f, hz, hT, hTz⟩ : ∃ T o b, IsZ hp z TI TO (rawInt (T : Addr)) b ∧ hp.get? T = some o ∧ T ≠ z := by
    rcases zz with ⟨k, _⟩ | ⟨_, zz⟩
    · omega
    · exact zz
  show wpAny _ _ (field (.ref z) 2 >>= _) _ _ _
  refine wpAny_bind (wpAny_field hz rfl (x := .bool false) rfl ?_)
  show wpAny _ _ (field (.ref z) 3 >>= _) _ _ _
  refine wpAny_bind (wpAny_field hz rfl (x := .ref TI) rfl ?_)
  refine wpAny_bind (wpAny_seqItems hTI rfl ?_)
  show wpAny _ _ (Builtin.SmallTypes.ownedTupleIsFree (.ref z) >>= _) _ _ _
  refine wpAny_bind (free_no hz hT fun h₁ hz₁ hs₁ => ?_)
  simp only [Bool.false_eq_true, if_false]
  refine wpAny_bind ?_
  simp only [← Array.forIn_toList, List.forIn_cons, List.forIn_nil]
  refine wpAny_bind (wpAny_bind (wpAny_holding ?_))
  show wpAny _ _ (Builtin.SmallTypes.nextOf (.ref i1) >>= _) _ _ _
  refine wpAny_bind (wpAny_nextOf_ascii_end hh (str_iter_ext (c := z) h1 fun o e => hs₁.extBut _ o D.i1z e) hx fun h₂ e hs₂ he => ?_)
  exact hE h₂ e (fun c o c1 c3 e => hs₂ c o c3 (hs₁.extBut _ _ c1 e)) he

/-- a pair handed out -/
theorem next_zip {x : Str} {t : Tok} {items : Array Value} {z TI TO i1 i2 l2 : Addr} {i c : Nat} {y : Value} {Q : Option Value → Shared → Prop} (D : ZA z TI TO i1 i2 l2)
    (Z : ZS x t items z TI TO i1 i2 l2 i s.heap) (hx : x.cps[i]? = some c) (hy : items[i]? = some y)
    (hQ : ∀ h', ZS x t items z TI TO i1 i2 l2 (i + 1) h' → IsPair h' s.heap.objs.size (.str ⟨#[c]⟩ s.toks) y → h'.objs.size = s.heap.objs.size + 1 →
      (∀ c o, c ≠ z → c ≠ TO → c ≠ i1 → c ≠ i2 → s.heap.get? c = some o → h'.get? c = some o) → Q (some (.ref s.heap.objs.size)) { s with heap := h', toks := s.toks + 1 }) :
    wpAny (model prog w) A (pyNext (.ref z)) Q E s := by
  have hT : s.TypeIs (.ref z) "zip" := by
    rcases Z.zip with ⟨_, h⟩ | ⟨_, _, _, _, h, _⟩
    · exact ⟨_, h, rfl⟩
    · exact ⟨_, h, rfl⟩
  unfold pyNext
  refine wpAny_bind (wpAny_attempt (wpAny_callSpecial?_slot (name := Str.ofString "__next__") hT F.slot_zip_next
    (wpAny_call_entry F.slot_zip_next hT F.entry_zip_next ?_ (F.args_zip_next_1 _))))
  cases i with
  | zero => exact zip_first D Z hx hy fun h' a1 a2 a3 a4 => wpAny_pure (hQ h' a1 a2 a3 a4)
  | succ i => exact zip_more D (Nat.succ_pos i) Z hx hy fun h' a1 a2 a3 a4 => wpAny_pure (hQ h' a1 a2 a3 a4)

theorem next_zip_end {x : Str} {t : Tok} {items : Array Value} {z TI TO i1 i2 l2 : Addr} {i : Nat} {Q : Option Value → Shared → Prop} (hh : A.handled = none) (D : ZA z TI TO i1 i2 l2) (hi : 0 < i)
    (Z : ZS x t items z TI TO i1 i2 l2 i s.heap) (hx : x.cps[i]? = none)
    (hQ : ∀ h', (∀ c o, c ≠ z → c ≠ i1 → s.heap.get? c = some o → h'.get? c = some o) → Q none { s with heap := h' }) :
    wpAny (model prog w) A (pyNext (.ref z)) Q E s := by
  have hT : s.TypeIs (.ref z) "zip" := by
    rcases Z.zip with ⟨_, h⟩ | ⟨_, _, _, _, h, _⟩
    · exact ⟨_, h, rfl⟩
    · exact ⟨_, h, rfl⟩
  unfold pyNext
  refine wpAny_bind (wpAny_attempt (wpAny_callSpecial?_slot (name := Str.ofString "__next__") hT F.slot_zip_next
    (wpAny_call_entry F.slot_zip_next hT F.entry_zip_next (zip_end hh D hi Z hx fun h' e hk he => ?_) (F.args_zip_next_1 _))))
  obtain ⟨o, ho, hc⟩ := he
  refine wpAny_bind (wpAny_isInstance (T := "StopIteration") (b := true) ⟨o, ho, hc⟩ isSubtype_stop ?_)
  exact wpAny_pure (hQ _ hk)
end
end Mine

namespace Mine
open PySem

theorem zip_getattr_none : typeLookup (.type "zip") "__getattr__" = pure none := by rw [typeLookup_type, builtinLookup_eq_fast]; kernel_rfl
theorem zip_keys_none : typeLookup (.type "zip") "keys" = pure none := by rw [typeLookup_type, builtinLookup_eq_fast]; kernel_rfl
theorem entry_zip_getattribute : entryFor table "zip.__getattribute__" = some Builtin.«object.__getattribute__» :=
  entryFor_alias (id' := "object.__getattribute__") (by kernel_rfl) (by decide +kernel) (by decide +kernel) (by kernel_rfl)

theorem meets_getattribute_miss_zip (z : Addr) (fs : Array Value) (name : Str) (u : Tok) (hmiss : typeLookup (.type "zip") name = pure none) (hname : (["__module__", "__name__", "__qualname__", "__doc__", "__annotations__"] : List Str).contains name = false) (hsz : name.length + 100 ≤ sizeLine := by size_fits) :
    Meets (Builtin.«object.__getattribute__» ⟨[.ref z, .str name u], []⟩) (fun A R s => s.heap.get? z = some { cls := .type "zip", dict := none, data := .fields fs, slots := #[] } ∧ raisesAttr (.ref z) name A R s) :=
  Meets.of_wp fun prog w A R s hs => by
    obtain ⟨hp, g, d, tk, os⟩ := s
    obtain ⟨hx, hs⟩ := hs
    have hT : (⟨hp, g, d, tk, os⟩ : Shared).TypeIs (.ref z) "zip" := ⟨_, hx, rfl⟩
    unfold Builtin.«object.__getattribute__»
    repeat (any_goals (first | assumption | wp_step))
    simp only [hname, Bool.false_eq_true, if_false]
    repeat (any_goals (first | assumption | wp_step))
    exact wpAny_raiseAttrError hs.1 hs.2 (attrMsg_fits (by decide +kernel) hsz)

theorem getAttr?_zip_keys {prog : Program} {w : World} {A : Around} {E : Value → Shared → Prop} {s : Shared} {z : Addr} {fs : Array Value} {Q : Option Value → Shared → Prop}
    (hx : s.heap.get? z = some { cls := .type "zip", dict := none, data := .fields fs, slots := #[] }) (hA : A.handled = none)
    (h : ∀ h' tk, (∀ b o, s.heap.get? b = some o → h'.get? b = some o) → Q none { s with heap := h', toks := tk }) :
    wpAny (model prog w) A (getAttr? (.ref z) "keys") Q E s := by
  obtain ⟨hp, g, d, tk, os⟩ := s
  have hT : ∀ tk', (⟨hp, g, d, tk', os⟩ : Shared).TypeIs (.ref z) "zip" := fun _ => ⟨_, hx, rfl⟩
  have f1 := sub_AttributeError
  have f3 := F.slot_zip_getattribute.lookup
  have f4 := F.slot_zip_getattribute.bind (.ref z)
  have f5 := zip_getattr_none
  have hn : (["__module__", "__name__", "__qualname__", "__doc__", "__annotations__"] : List Str).contains ("keys" : Str) = false := by decide +kernel
  unfold getAttr? getAttrBy? getAttrBy
  repeat (any_goals (first | assumption | exact hT _ | ((with_reducible show wpAny _ _ (call (Value.builtin "zip.__getattribute__") _ _) _ _ _); refine call_meets F.slot_zip_getattribute (hT _) entry_zip_getattribute (F.args_zip_getattribute_2 _ _) (meets_getattribute_miss_zip z fs "keys" _ zip_keys_none hn) ⟨hx, hA, fun h' tk' e hx' => ?_⟩) | wp_step))
  obtain ⟨t', u', he⟩ := hx'.there
  show wpAny _ _ (getattributeRaised _ _ _ _ _ _ _) _ _ _
  unfold getattributeRaised
  repeat (any_goals (first | assumption | wp_step))
  exact h _ _ hx'.keeps
end Mine

namespace Mine
open PySem

theorem entry_dict_update_loop : entryFor table "dict.update.loop" = some Builtin.«dict.update.loop» := entryFor_of_tree (by kernel_rfl)
theorem plain_dict_update_loop : plainId "dict.update.loop" = true := by decide +kernel

/-- a text's signs with the tuple's items, as far as i -/
def zpairs (x : Str) (ys : Array Value) (i : Nat) : List (Str × Value) := (List.range i).map fun k => (⟨#[x.cps.getD k 0]⟩, ys.getD k .none)

section
variable {prog : Program} {w : World} {A : Around} {E : Value → Shared → Prop} {s : Shared}

theorem stored_new {K : Type} [DecidableEq K] {kvs : List (K × Value)} {k : K} {v : Value} (h : ∀ p ∈ kvs, p.1 ≠ k) : stored kvs k v = kvs ++ [(k, v)] := by
  unfold stored
  rw [if_neg]
  simp only [List.any_eq_true, decide_eq_true_eq, not_exists, not_and]
  exact fun p hp => h p hp
theorem zpairs_succ (x : Str) (ys : Array Value) (i : Nat) : zpairs x ys (i + 1) = zpairs x ys i ++ [(⟨#[x.cps.getD i 0]⟩, ys.getD i .none)] := by
  unfold zpairs; rw [List.range_succ, List.map_append]; rfl
theorem zpairs_new {x : Str} {ys : Array Value} {i : Nat} (hn : x.cps.toList.Nodup) (hi : i < x.cps.size) : ∀ p ∈ zpairs x ys i, p.1 ≠ (⟨#[x.cps.getD i 0]⟩ : Str) := by
  intro p hp e
  unfold zpairs at hp
  obtain ⟨k, hk, rfl⟩ := List.mem_map.mp hp
  have hk := List.mem_range.mp hk
  have e1 : x.cps.getD k 0 = x.cps.getD i 0 := by simpa using e
  rw [Array.getD_eq_getD_getElem?, Array.getD_eq_getD_getElem?, Array.getElem?_eq_getElem (by omega), Array.getElem?_eq_getElem hi, Option.getD_some, Option.getD_some] at e1
  exact List.pairwise_iff_getElem.mp hn k i (by simp; omega) (by simpa using hi) hk (by simpa using e1)

theorem loop_zip {R : Result → Shared → Prop} (hh : A.handled = none) {x : Str} {t : Tok} {items : Array Value} {z TI TO i1 i2 l2 d : Addr} (D : ZA z TI TO i1 i2 l2) (hd : d ∉ [z, TI, TO, i1, i2, l2])
    (hn : x.cps.toList.Nodup) (hl : items.size = x.cps.size) (hsz : x.cps.size ≤ 100) (hpos : 0 < x.cps.size) :
    ∀ (k i : Nat) (s : Shared), x.cps.size - i = k → i ≤ x.cps.size → ZS x t items z TI TO i1 i2 l2 i s.heap → s.heap.DictOf (strKind prog w) d (zpairs x items i) →
      (∀ h' tk, (∀ b o, b ∉ [d, z, TO, i1, i2] → s.heap.get? b = some o → h'.get? b = some o) → h'.DictOf (strKind prog w) d (zpairs x items x.cps.size) → R (.ok (.ret .none)) { s with heap := h', toks := tk }) →
      codeAny (model prog w) A (.builtin "dict.update.loop" ⟨[.ref d, .ref z, rawInt (i : Nat), .none], []⟩) R s := by
  intro k
  induction k with
  | zero =>
    intro i s hk hi hz hD hR
    have hin : i = x.cps.size := by omega
    subst hin
    refine codeAny_builtin entry_dict_update_loop ?_
    rw [Around.under_plainId plain_dict_update_loop _]
    show wpAny _ A.in1 (pyNext (.ref z) >>= _) _ _ s
    refine wpAny_bind (next_zip_end hh D hpos hz (by simp) fun h' up => ?_)
    show wpAny _ A.in1 (Builtin.Dict.addKeywords d [] >>= _) _ _ _
    refine wpAny_bind (wpAny_pure (wpAny_pure ?_))
    have hd1 : d ≠ z := fun e => hd (by simp [e])
    have hd2 : d ≠ i1 := fun e => hd (by simp [e])
    exact hR h' s.toks (fun b o hb e => up b o (fun e => hb (by simp [e])) (fun e => hb (by simp [e])) e) (hD.at fun o e => up _ _ hd1 hd2 e)
  | succ k ih =>
    intro i s hk hi hz hD hR
    have hlt : i < x.cps.size := by omega
    refine codeAny_builtin entry_dict_update_loop ?_
    rw [Around.under_plainId plain_dict_update_loop _]
    show wpAny _ A.in1 (pyNext (.ref z) >>= _) _ _ s
    have hc : x.cps[i]? = some x.cps[i] := by simp [hlt]
    have hy : items[i]? = some items[i] := by simp [hl, hlt]
    refine wpAny_bind (next_zip D hz hc hy fun h' hz' hp hsz' up => ?_)
    show wpAny _ A.in1 (holding [Value.ref s.heap.objs.size] _ >>= _) _ _ _
    refine wpAny_bind (wpAny_holding ?_)
    refine wpAny_bind (wpAny_tryCatch ?_)
    show wpAny _ _ (typeOf (.ref s.heap.objs.size) >>= _) _ _ _
    refine wpAny_bind (wpAny_typeOf (T := "tuple") ⟨_, hp, rfl⟩ ?_)
    rw [if_pos (by decide)]
    refine wpAny_bind (wpAny_seqItems hp rfl (wpAny_pure ?_))
    show wpAny _ _ (holding [.str ⟨#[x.cps[i]]⟩ s.toks, items[i]] (dictSet d (.str ⟨#[x.cps[i]]⟩ s.toks) items[i])) _ _ _
    refine wpAny_holding ?_
    have nd : ∀ b ∈ [z, TI, TO, i1, i2, l2], b ≠ d := fun b hb e => hd (e ▸ hb)
    have hd1 : d ≠ z := (nd z (by simp)).symm
    have hd2 : d ≠ i1 := (nd i1 (by simp)).symm
    have hd3 : d ≠ TO := (nd TO (by simp)).symm
    have hd4 : d ≠ i2 := (nd i2 (by simp)).symm
    have hD' : h'.DictOf (strKind prog w) d (zpairs x items i) := hD.at fun o e => up _ _ hd1 hd3 hd2 hd4 e
    have lz : (zpairs x items i).length ≤ sizeLine := by
      have : (zpairs x items i).length = i := by simp [zpairs]
      rw [this]; unfold sizeLine; omega
    refine wpAny_dictSet_pairs (strKind_is prog w ⟨#[x.cps[i]]⟩ s.toks) hD' (fun h'' hD'' hs'' => ?_) lz
    have e0 : (x.cps.getD i 0) = x.cps[i] := by rw [Array.getD_eq_getD_getElem?, hc]; rfl
    have e1 : items.getD i .none = items[i] := by rw [Array.getD_eq_getD_getElem?, hy]; rfl
    have e2 : stored (zpairs x items i) (⟨#[x.cps[i]]⟩ : Str) items[i] = zpairs x items (i + 1) := by
      rw [zpairs_succ, e0, e1]
      exact stored_new (e0 ▸ zpairs_new hn hlt)
    rw [e2] at hD''
    have up2 : ∀ b o, b ≠ d → h'.get? b = some o → h''.get? b = some o := fun b o hb e => hs''.extBut b o hb e
    have hz'' : ZS x t items z TI TO i1 i2 l2 (i + 1) h'' := by
      obtain ⟨zz, a1, ⟨a, b, a2⟩, a3, a4, a5⟩ := hz'
      refine ⟨?_, up2 _ _ (nd _ (by simp)) a1, ⟨a, b, up2 _ _ (nd _ (by simp)) a2⟩, str_iter_ext (c := z) a3 fun o e => up2 _ _ (nd _ (by simp)) e, up2 _ _ (nd _ (by simp)) a4, a5.at fun o e => up2 _ _ (nd _ (by simp)) e⟩
      rcases zz with ⟨k, _⟩ | ⟨k, T, o, b, a, a', a''⟩
      · exact absurd k (Nat.succ_ne_zero i)
      · refine .inr ⟨k, T, ?_⟩
        by_cases eT : T = d
        · obtain ⟨o2, _, _, ho2, _⟩ := hD''
          exact ⟨o2, b, up2 _ _ (nd _ (by simp)) a, eT ▸ ho2, a''⟩
        · exact ⟨o, b, up2 _ _ (nd _ (by simp)) a, up2 _ _ eT a', a''⟩
    refine wpAny_pure ⟨plainId_quiet plain_dict_update_loop _, ?_⟩
    have ei : rawInt ((i : Int) + 1) = rawInt ((i + 1 : Nat) : Int) := by simp
    show codeAny _ _ (.builtin "dict.update.loop" ⟨[.ref d, .ref z, rawInt ((i : Int) + 1), .none], []⟩) _ _
    rw [ei]
    refine ih (i + 1) _ (by omega) hlt hz'' hD'' fun h₃ tk₃ up₃ hD₃ => ?_
    refine hR h₃ tk₃ (fun b o hb e => up₃ b o hb (up2 b o (fun e => hb (by simp [e])) (up b o (fun e => hb (by simp [e])) (fun e => hb (by simp [e])) (fun e => hb (by simp [e])) (fun e => hb (by simp [e])) e))) hD₃

abbrev zt1 (h : Heap) (x : Str) (t : Tok) : Heap := h.push { cls := .type "str_ascii_iterator", data := .fields #[.str x t, .int 0 0] }
abbrev zt2 (h : Heap) (x : Str) (t : Tok) (l : Addr) : Heap := (zt1 h x t).push { cls := .type "tuple_iterator", data := .fields #[.ref l, .int 0 0] }
abbrev zt3 (h : Heap) (x : Str) (t : Tok) (l : Addr) : Heap := (zt2 h x t l).push { cls := .type "tuple", data := .seq #[.ref h.objs.size, .ref (zt1 h x t).objs.size] }
abbrev zt4 (h : Heap) (x : Str) (t : Tok) (l : Addr) : Heap := (zt3 h x t l).push { cls := .type "tuple", data := .seq #[.none, .none] }
abbrev zt5 (h : Heap) (x : Str) (t : Tok) (l : Addr) : Heap := (zt4 h x t l).push { cls := .type "zip", data := .fields #[.none, .bool false, .bool false, .ref (zt2 h x t l).objs.size, .ref (zt3 h x t l).objs.size] }

set_option maxHeartbeats 4000000 in
theorem meets_zip_st (x : Str) (t : Tok) (l : Addr) (ys : Array Value) (ha : x.cps.all (· < 128) = true) :
    Meets (Builtin.«zip.__new__» ⟨[.type "zip", .str x t, .ref l], []⟩) (fun _ R s => s.heap.IsTuple l ys ∧
      R (.ok (.ret (.ref (zt4 s.heap x t l).objs.size))) { s with heap := zt5 s.heap x t l }) :=
  .of_wp fun prog w A R s h => by
    obtain ⟨hp, g, d, tk, os⟩ := s
    obtain ⟨hl, h⟩ := h
    have hsub := sub_zip
    have hL2 : Heap.IsTuple (Shared.heap ⟨hp.push { cls := .type "str_ascii_iterator", data := .fields #[.str x t, .int 0 0] }, g, d, tk, os⟩) l ys := Heap.IsTuple.push hl _
    unfold Builtin.«zip.__new__» Builtin.SmallTypes.iterAll
    generalize hPI : pyIter = PI
    wp_walk
    subst hPI
    refine wpAny_pyIter_ascii ha ?_
    generalize hPI : pyIter = PI
    wp_walk
    subst hPI
    refine wpAny_pyIter_tuple hL2 ?_
    wp_walk
    exact ⟨_, rfl, h⟩

theorem call_zip_st {x : Str} {t : Tok} {l : Addr} {ys : Array Value} {Q : Value → Shared → Prop} (ha : x.cps.all (· < 128) = true) (hl : s.heap.IsTuple l ys)
    (h : ∀ h', ZS x t ys (s.heap.objs.size + 4) (s.heap.objs.size + 2) (s.heap.objs.size + 3) s.heap.objs.size (s.heap.objs.size + 1) l 0 h' → h'.objs.size = s.heap.objs.size + 5 →
      (∀ c o, s.heap.get? c = some o → h'.get? c = some o) → Q (.ref (s.heap.objs.size + 4)) { s with heap := h' }) :
    wpAny (model prog w) A (call (.type "zip") [.str x t, .ref l]) Q E s := by
  refine callType_new F.called_zip (by decide) (F.typeCall_zip_2 _ _) (F.newCall_zip_2 _ _) (fun obj => F.args_object_init_3 obj _ _) F.entry_zip_new
    (meets_zip_st x t l ys ha) ⟨hl, ?_⟩
  have z1 : (zt1 s.heap x t).objs.size = s.heap.objs.size + 1 := Heap.size_push ..
  have z2 : (zt2 s.heap x t l).objs.size = s.heap.objs.size + 2 := by rw [Heap.size_push, z1]
  have z3 : (zt3 s.heap x t l).objs.size = s.heap.objs.size + 3 := by rw [Heap.size_push, z2]
  have z4 : (zt4 s.heap x t l).objs.size = s.heap.objs.size + 4 := by rw [Heap.size_push, z3]
  have z5 : (zt5 s.heap x t l).objs.size = s.heap.objs.size + 5 := by rw [Heap.size_push, z4]
  have g5 : (zt5 s.heap x t l).get? (zt4 s.heap x t l).objs.size = some _ := Heap.get?_push_size _ rfl
  have g4 : (zt5 s.heap x t l).get? (zt3 s.heap x t l).objs.size = some _ := Heap.get?_push_of_some _ (Heap.get?_push_size _ rfl)
  have g3 : (zt5 s.heap x t l).get? (zt2 s.heap x t l).objs.size = some _ := Heap.get?_push_of_some _ (Heap.get?_push_of_some _ (Heap.get?_push_size _ rfl))
  have g2 : (zt5 s.heap x t l).get? (zt1 s.heap x t).objs.size = some _ := Heap.get?_push_of_some _ (Heap.get?_push_of_some _ (Heap.get?_push_of_some _ (Heap.get?_push_size _ rfl)))
  have g1 : (zt5 s.heap x t l).get? s.heap.objs.size = some _ := Heap.get?_push_of_some _ (Heap.get?_push_of_some _ (Heap.get?_push_of_some _ (Heap.get?_push_of_some _ (Heap.get?_push_size _ rfl))))
  show _ ∧ _
  rw [z2, z3, z4] at g5
  rw [z1, z2] at g3
  rw [z3] at g4
  rw [z1] at g2
  rw [z4]
  have up : ∀ c o, s.heap.get? c = some o → (zt5 s.heap x t l).get? c = some o := fun c o x =>
    Heap.get?_push_of_some _ (Heap.get?_push_of_some _ (Heap.get?_push_of_some _ (Heap.get?_push_of_some _ (Heap.get?_push_of_some _ x))))
  exact ⟨⟨_, g5, rfl⟩, h _ ⟨.inl ⟨rfl, g5⟩, g3, ⟨_, _, g4⟩, ⟨_, g1, rfl, rfl⟩, g2, hl.at fun o e => up _ o e⟩ z5 up⟩
end
end Mine

namespace Mine
open PySem

section
variable {prog : Program} {w : World} {A : Around} {E : Value → Shared → Prop} {s : Shared}

theorem zs_keeps {x : Str} {t : Tok} {ys : Array Value} {z TI TO i1 i2 l2 : Addr} {h h' : Heap} (Z : ZS x t ys z TI TO i1 i2 l2 0 h) (k : ∀ b o, h.get? b = some o → h'.get? b = some o) : ZS x t ys z TI TO i1 i2 l2 0 h' := by
  obtain ⟨zz, a1, ⟨a, b, a2⟩, a3, a4, a5⟩ := Z
  refine ⟨?_, k _ _ a1, ⟨a, b, k _ _ a2⟩, str_iter_ext (c := z) a3 fun o e => k _ _ e, k _ _ a4, a5.at fun o e => k _ _ e⟩
  rcases zz with ⟨_, zz⟩ | ⟨k, _⟩
  · exact .inl ⟨rfl, k _ _ zz⟩
  · exact absurd k (Nat.lt_irrefl _)

theorem call_dict_zip (hh : A.handled = none) {x : Str} {t : Tok} {ys : Array Value} {z TI TO i1 i2 l2 : Addr} {Q : Value → Shared → Prop} (D : ZA z TI TO i1 i2 l2) (Z : ZS x t ys z TI TO i1 i2 l2 0 s.heap)
    (hn : x.cps.toList.Nodup) (hl : ys.size = x.cps.size) (hsz : x.cps.size ≤ 100) (hpos : 0 < x.cps.size)
    (hQ : ∀ h' tk, (∀ b o, b ∉ [z, TO, i1, i2] → s.heap.get? b = some o → h'.get? b = some o) → h'.DictOf (strKind prog w) s.heap.objs.size (zpairs x ys x.cps.size) → Q (.ref s.heap.objs.size) { s with heap := h', toks := tk }) :
    wpAny (model prog w) A (call (.type "dict") [.ref z]) Q E s := by
  obtain ⟨zz, a1, a2, a3, a4, a5⟩ := id Z
  have hz : IsZ s.heap z TI TO .none false := by
    rcases zz with ⟨_, zz⟩ | ⟨k, _⟩
    · exact zz
    · exact absurd k (Nat.lt_irrefl _)
  refine callType_codes (Q₁ := fun obj s₁ => obj = .ref s.heap.objs.size ∧ s₁ = { s with heap := s.heap.push { cls := .type "dict", data := .dict #[] } }) F.kt_called_dict (F.kt_typeCall_dict_1 _) F.entry_dict_init (kt_code_dict_new _ ⟨rfl, rfl⟩) ?_
  rintro obj s₁ ⟨rfl, rfl⟩
  have hnew : (s.heap.push { cls := .type "dict", data := .dict #[] }).DictOf (strKind prog w) s.heap.objs.size [] := Heap.DictOf.new s.heap
  have up0 : ∀ b o, s.heap.get? b = some o → (s.heap.push { cls := .type "dict", data := .dict #[] }).get? b = some o := fun b o e => Heap.get?_push_of_some _ e
  have hz' : IsZ (s.heap.push { cls := .type "dict", data := .dict #[] }) z TI TO .none false := up0 _ _ hz
  have hT : Shared.TypeIs { s with heap := s.heap.push { cls := .type "dict", data := .dict #[] } } (.ref z) "zip" := ⟨_, hz', rfl⟩
  refine ⟨hnew.typeIs, F.args_dict_init_2 _ _, ?_⟩
  unfold Builtin.«dict.__init__»
  refine wpAny_bind ?_
  unfold Builtin.Dict.selfAndRest
  refine wpAny_bind (wpAny_notOrdered_dict hnew.typeIs ?_)
  show wpAny _ _ (pure (s.heap.objs.size, [Value.ref z])) _ _ _
  refine wpAny_pure ?_
  show wpAny _ _ (Builtin.Dict.updateFrom "dict.__init__" s.heap.objs.size (.ref z) [] .none) _ _ _
  unfold Builtin.Dict.updateFrom
  refine wpAny_bind (wpAny_typeOf hT ?_)
  rw [if_pos (by decide)]
  refine wpAny_bind (getAttr?_zip_keys hz' (by simpa using hh) fun h₁ tk₁ up₁ => ?_)
  simp only [Option.isNone_none, if_true]
  refine wpAny_bind (wpAny_rule ?_)
  have Z₁ : ZS x t ys z TI TO i1 i2 l2 0 h₁ := zs_keeps Z fun b o e => up₁ b o (up0 b o e)
  have hz₁ : IsZ h₁ z TI TO .none false := up₁ _ _ hz'
  refine wpAny_bind (wpAny_pyIter_zip hz₁ ?_)
  refine wpAny_pure ⟨plainId_quiet plain_dict_update_loop _, ?_⟩
  have fresh : ∀ b o, s.heap.get? b = some o → b ≠ s.heap.objs.size := fun b o e => Nat.ne_of_lt (Heap.lt_size e)
  have hd : s.heap.objs.size ∉ [z, TI, TO, i1, i2, l2] := by
    intro hm
    obtain ⟨p, q, a2⟩ := a2
    obtain ⟨o3, e3, _⟩ := a3
    obtain ⟨o5, e5, _⟩ := a5
    simp only [List.mem_cons, List.not_mem_nil, or_false] at hm
    rcases hm with hm | hm | hm | hm | hm | hm
    · exact fresh _ _ hz hm.symm
    · exact fresh _ _ a1 hm.symm
    · exact fresh _ _ a2 hm.symm
    · exact fresh _ _ e3 hm.symm
    · exact fresh _ _ a4 hm.symm
    · exact fresh _ _ e5 hm.symm
  have hnew₁ : h₁.DictOf (strKind prog w) s.heap.objs.size (zpairs x ys 0) := by
    have : zpairs x ys 0 = [] := rfl
    rw [this]; exact hnew.at fun o e => up₁ _ _ e
  refine loop_zip (A := A.in1) (by simpa using hh) D hd hn hl hsz hpos x.cps.size 0 _ (by simp) (Nat.zero_le _) Z₁ hnew₁ fun h' tk up hD => ?_
  refine ⟨rfl, hQ h' tk (fun b o hb e => up b o (fun hm => ?_) (up₁ b o (up0 b o e))) hD⟩
  rcases List.mem_cons.mp hm with hm | hm
  · exact fresh b o e hm
  · exact hb hm
end

section
variable {prog : Program} {w : World} {g₀ g : Heap} {n : Nat} {env cenv : Env} {ρ ρ₁ ρ₂ ρ' ρc : Store} {mg mb : Str → Option Value} {fl : Fl}

theorem za_of (N l : Nat) (h : l < N) : ZA (N + 4) (N + 2) (N + 3) N (N + 1) l := by
  have e (a b : Nat) (h : a ≠ b) : @Ne Addr a b := h
  exact ⟨e _ _ (by omega), e _ _ (by omega), e _ _ (by omega), e _ _ (by omega), e _ _ (by omega), e _ _ (by omega), e _ _ (by omega), e _ _ (by omega), e _ _ (by omega), e _ _ (by omega), e _ _ (by omega), e _ _ (by omega), e _ _ (by omega), e _ _ (by omega)⟩
theorem za_far (N b : Nat) (h : b < N) : b ∉ [N + 4, N + 3, N, N + 1] := by
  simp only [List.mem_cons, List.not_mem_nil, or_false]; omega
theorem texts_at {Z : List Addr} {h : Heap} {vs : List Value} {ys : List Str} (r : RdAll prog w Z h vs (texts ys)) {k : Nat} (hk : k < ys.length) : ∃ t, vs.getD k .none = .str (ys.getD k "") t := by
  have hd : (texts ys)[k]? = some (.str (ys.getD k "")) := by
    unfold texts
    rw [List.getElem?_map, List.getElem?_eq_getElem hk, List.getD_eq_getElem?_getD, List.getElem?_eq_getElem hk]; rfl
  obtain ⟨v, hv, rv⟩ := r.get hd
  obtain ⟨t, rfl⟩ := rv.str_inv
  exact ⟨t, by rw [List.getD_eq_getElem?_getD, hv]; rfl⟩
theorem RdAll.map_of {α : Type} {Z : List Addr} {h : Heap} {f : α → Value} {g : α → D} : ∀ {l : List α}, (∀ a ∈ l, Rd prog w Z h (f a) (g a)) → RdAll prog w Z h (l.map f) (l.map g)
  | [], _ => .nil
  | a :: l, k => .cons (k a (.head _)) (RdAll.map_of fun b hb => k b (.tail _ hb))

/-- dict(zip(text, texts)) -/
theorem Ev.dictZip {f z : Str} {fp zp pos zpos : Pos} {e₁ e₂ : Expr} {x : Str} {ys : List Str} (G : Gf g₀ mg mb) (hf : Ev prog w g₀ n env ρ (.Name f fp) (.fn (.type "dict"))) (hz : Ev prog w g₀ n env ρ (.Name z zp) (.fn (.type "zip")))
    (h₁ : Ev prog w g₀ n env ρ e₁ (.str x)) (h₂ : Ev prog w g₀ n env ρ e₂ (.tup (texts ys))) (hn : x.cps.toList.Nodup) (hl : ys.length = x.cps.size) (hsz : x.cps.size ≤ 100) (hpos : 0 < x.cps.size) (ha : x.cps.all (· < 128) = true)
    (hu : unstarred e₁ = true ∧ unstarred e₂ = true := by exact ⟨rfl, rfl⟩) :
    Ev prog w g₀ n env ρ (.Call (.Name f fp) [.Call (.Name z zp) [e₁, e₂] [] zpos] [] pos) (.sdict ((List.range x.cps.size).map fun k => ((⟨#[x.cps.getD k 0]⟩ : Str), D.str (ys.getD k "")))) := fun A E Z vm s hA hS => by
  have aa : EvAll prog w g₀ n env ρ [e₁, e₂] [.str x, .tup (texts ys)] := EvAll.cons h₁ (EvAll.cons h₂ EvAll.nil hu.2) hu.1
  refine PyProof.Rows.Call_Name (backTo_plain (env := env) (es := [.Call (.Name z zp) [e₁, e₂] [] zpos]) rfl) (wpAny_mono (hf A E Z vm s hA hS) (fun v s₁ q₁ => ?_) fun _ _ e => e)
  obtain ⟨k₁, q₁⟩ := q₁
  obtain rfl := q₁.fn_inv
  refine callWith_bi (first := []) (.inr ⟨_, rfl⟩) (es := [.Call (.Name z zp) [e₁, e₂] [] zpos]) rfl ?_
  rw [starEach_cons rfl]
  refine Calls.spliced_cons ?_
  refine PyProof.Rows.Call_Name (backTo_plain aa.1) (wpAny_mono (hz A E Z vm s₁ hA (hS.keep k₁)) (fun v s₂ q₂ => ?_) fun _ _ e => e)
  obtain ⟨k₂, q₂⟩ := q₂
  obtain rfl := q₂.fn_inv
  refine callWith_bi (first := []) (.inr ⟨_, rfl⟩) aa.1 (wpAny_mono (aa.2 A E Z vm s₂ hA (hS.keep (k₁.trans k₂))) (fun vs s₃ q₃ => ?_) fun _ _ e => e)
  obtain ⟨k₃, q₃⟩ := q₃
  have k := (k₁.trans k₂).trans k₃
  cases q₃ with
  | cons r₁ r₂ =>
  cases r₂ with
  | cons r₂ r₃ =>
  cases r₃
  obtain ⟨t, rfl⟩ := r₁.str_inv
  cases r₂ with
  | @tup l us _ hzl hl2 r =>
  have len := r.length
  have len2 : us.size = x.cps.size := by simpa [texts, hl] using len
  show wpAny _ _ (PySem.call (.type "zip") [.str x t, .ref l] []) _ _ _
  refine call_zip_st ha hl2 fun h₄ Z₄ hsz₄ up₄ => ?_
  show wpAny _ _ (spliced (starEach [] env)) _ _ _
  refine Calls.spliced_nil ?_
  show wpAny _ _ (PySem.call (.type "dict") [.ref (s₃.heap.objs.size + 4)] []) _ _ _
  have hl0 : l < s₃.heap.objs.size := by obtain ⟨o, e, _⟩ := hl2; exact Heap.lt_size e
  generalize hN : s₃.heap.objs.size = N at *
  have ZD : ZA (N + 4) (N + 2) (N + 3) N (N + 1) l := za_of N l hl0
  refine wpAny_with_toks (n := s₃.toks) (Nat.le_refl _) (wpAny_mono (Q := fun v s' => Keeps s₃ s' ∧ Rd prog w Z s'.heap v (.sdict ((List.range x.cps.size).map fun k => ((⟨#[x.cps.getD k 0]⟩ : Str), D.str (ys.getD k ""))))) ?_ (fun v s' q hk => ⟨k.trans ⟨q.1, hk⟩, q.2⟩) fun _ _ e _ => e)
  refine call_dict_zip hA.hh ZD Z₄ hn len2 hsz hpos fun h₅ tk up₅ hD => ?_
  have old : ∀ b o, s₃.heap.get? b = some o → h₅.get? b = some o := fun b o e => up₅ b o (za_far N b (hN ▸ Heap.lt_size e)) (up₄ b o e)
  have dN : h₄.objs.size = N + 5 := hsz₄
  have dnew : s₃.heap.get? h₄.objs.size = none := by
    cases e : s₃.heap.get? h₄.objs.size with
    | none => rfl
    | some o => exact absurd (Heap.lt_size (up₄ _ _ e)) (Nat.lt_irrefl _)
  have dZ : h₄.objs.size ∉ Z := fun hm => by
    obtain ⟨o, e⟩ := (hS.keep k).alive _ hm
    rw [dnew] at e; cases e
  have dS : (h₄.objs.size == sysModules) = false := by
    obtain ⟨o, e⟩ := G.sys
    have := Heap.lt_size (up₄ _ _ ((hS.keep k).base _ _ e))
    exact beq_false_of_ne (Nat.ne_of_gt this)
  have kp : Keeps s₃ { s₃ with heap := h₅, toks := tk } := ⟨h₅, tk, rfl, old⟩
  refine ⟨kp, .sdict ⟨dZ, dS⟩ hD ?_ ?_⟩
  · simp [zpairs]
  · unfold zpairs
    rw [List.map_map, List.map_map]
    refine RdAll.map_of fun i hi => ?_
    have hi := List.mem_range.mp hi
    obtain ⟨t', e⟩ := texts_at r (k := i) (by omega)
    show Rd prog w Z h₅ (us.getD i .none) (.str (ys.getD i ""))
    have : us.getD i .none = us.toList.getD i .none := by simp [Array.getD_eq_getD_getElem?, List.getD_eq_getElem?_getD]
    rw [this, e]; exact .str _ _
end
end Mine

namespace Mine
open PySem

section
variable {prog : Program} {w : World} {g₀ g : Heap} {n : Nat} {env cenv : Env} {ρ ρ₁ ρ₂ ρ' ρc : Store} {mg mb : Str → Option Value} {fl : Fl} {Z Z' Zc Zc' prv : List Addr} {vm vm' : Str → Option Value} {ls ls' : List (List Addr)} {h h' : Heap}

theorem compLoop_drawnD {A : Around} {R : Result → Shared → Prop} {s : Shared} {kx vx target iter : Expr} {scope : Scope} {pos : Pos} {it D : Addr} (I : Nat → Shared → Prop)
    (turn : ∀ n s, I n s → wpAny (model prog w) A (pyNext (.ref it)) (Drawn prog w A target it
      (fun v s₁ => wpAny (model prog w) A (PySem.assign target env v) (fun _ s₂ =>
          wpAny (model prog w) A (eval kx env) (fun kv s₄ => wpAny (model prog w) A (eval vx env) (fun vv s₅ =>
              wpAny (model prog w) A (dictSet D kv vv) (fun _ s₆ => ∃ m, m < n ∧ I m s₆) (notedBy (model prog w) A env fun e s' => R (.error e) s') s₅) (notedBy (model prog w) A env fun e s' => R (.error e) s') s₄) (notedBy (model prog w) A env fun e s' => R (.error e) s') s₂) (notedBy (model prog w) A env fun e s' => R (.error e) s') s₁)
      (fun s₁ => R (.ok .next) s₁) (notedBy (model prog w) A env fun e s' => R (.error e) s')) (notedBy (model prog w) A env fun e s' => R (.error e) s') s)
    (n : Nat) (h : I n s) : codeAny (model prog w) A (.compLoop (.DictComp kx vx [⟨target, iter, [], 0⟩] scope pos) 0 (.ref it) (.ref D) env) R s := by
  refine codeAny_loop rfl I (fun n s hI => ?_) n h
  show wpAny _ A ((compTurn (.DictComp kx vx [⟨target, iter, [], 0⟩] scope pos) 0 (.ref it) (.ref D) env).onRaise (fun x => do noteFrame x env; theTreesLotGoes x)) _ _ s
  refine wpAny_noted ?_
  rw [compTurn_dict]
  refine wpAny_bind (wpAny_standAt (wpAny_bind (wpAny_mono (turn n s hI) (fun r s₁ h₁ => ?_) fun _ _ h' => h')))
  cases r with
  | none => exact wpAny_pure h₁
  | some v =>
    refine wpAny_bind (wpAny_mono h₁ (fun _ s₁' h₁' => ?_) fun _ _ h' => h')
    refine wpAny_bind (wpAny_mono h₁' (fun _ s₂ h₂ => wpAny_bind (wpAny_tests_nil ?_)) fun _ _ h' => h')
    exact wpAny_bind (wpAny_bind (wpAny_mono h₂ (fun kv s₄ h₄ => wpAny_bind (wpAny_holding (wpAny_mono h₄ (fun vv s₅ h₅ => wpAny_bind (wpAny_standAt (wpAny_holding (wpAny_mono h₅ (fun _ s₆ h₆ => wpAny_pure ⟨rfl, h₆⟩) fun _ _ h' => h')))) fun _ _ h' => h'))) fun _ _ h' => h'))

theorem comp_coreD {A : Around} {E : Value → Shared → Prop} {s : Shared} {kx vx iter tgt : Expr} {scope : Scope} {pos : Pos} {cl : List (Str × Addr)} {ds : List D} {RR : Value → Addr → Result → Shared → Prop} (fk : D → Str) (fv : D → D)
    (hA : Lv n A) (hS : RS prog w g₀ env Z vm ρ s) (hI : EvI prog w g₀ n env ρ iter tgt ds) (F : Form env scope cl (ρc.map (·.1))) (hcap : Cap (fun x => (relabel scope env).names.lookup x) ρ ρc) (hg : env.globals = mainGlobals ∧ env.builtins = builtinsNs) (hsz : ds.length ≤ sizeLine)
    (turn : ∀ d ∈ ds, ∀ C, ∃ ρ₁, AsgC prog w g₀ n (compEnvC scope cl C env) ρc tgt d ρ₁ ∧ Ev prog w g₀ n (compEnvC scope cl C env) ρ₁ kx (.str (fk d)) ∧ Ev prog w g₀ n (compEnvC scope cl C env) ρ₁ vx (fv d) ∧ Fg ρ₁ ρc) (hnd : (ds.map fk).Nodup)
    (hRR : ∀ D C s' m kvs, Kp s s' → D ≠ C → s.heap.get? D = none → s.heap.get? C = none → s'.heap.Ns C m → s'.heap.DictOf (strKind prog w) D kvs → kvs.map (·.1) = ds.map fk → RdAll prog w ([D, C] ++ Z) s'.heap (kvs.map (·.2)) (ds.map fv) → RR (.ref D) C (.ok .next) s') :
    wpAny (model prog w) A (eval iter env) (fun x s₁ => wpAny (model prog w) A (pyIter x) (fun it s₂ => wpAny (model prog w) A newDict (fun acc s₃ =>
      wpAny (model prog w) A (newFunctionEnv scope env.globals cl [] env.qual none .none (some env)) (fun cenv s₄ =>
        codeAny (model prog w) A (.compStart (.DictComp kx vx [⟨tgt, iter, [], 0⟩] scope pos) 0 it acc { cenv with scope := relabel scope env }) (RR acc cenv.locals) s₄) E s₃) E s₂) E s₁) E s := by
  refine wpAny_mono (hI A E Z vm s hA hS) (fun x s₁ h₁ => wpAny_mono h₁ (fun v s₂ h₂ => ?_) fun _ _ e => e) fun _ _ e => e
  obtain ⟨k₂, it, wr, J, rfl, W, j, nd, hf, hal⟩ := h₂
  replace W := W A hA.hh
  refine wpAny_newObj_type (wpAny_newFunctionEnv F.nocell (by intro y hy; simp at hy) (fun h₁ hns₁ hsb₁ => ?_) F.kind)
  dsimp only at hns₁ hsb₁ ⊢
  generalize hH2 : s₂.heap.push { cls := .type "dict", dict := none, data := .dict #[] } = H2 at hns₁ hsb₁ ⊢
  generalize hD : s₂.heap.objs.size = D₀ at *
  generalize hC : H2.objs.size = C at *
  have hCD : C = D₀ + 1 := by rw [← hC, ← hH2, Heap.size_push, hD]
  have hDC : D₀ ≠ C := by rw [hCD]; exact Nat.ne_of_lt (Nat.lt_succ_self _)
  have fD : s₂.heap.get? D₀ = none := by rw [← hD]; exact fresh_of (.refl s₂)
  have fC : s₂.heap.get? C = none := by
    cases e : s₂.heap.get? C with
    | none => rfl
    | some o => have := Heap.lt_size e; rw [hD, hCD] at this; exact absurd this (Nat.not_lt.mpr (Nat.le_succ _))
  have old : ∀ b o, s₂.heap.get? b = some o → h₁.get? b = some o := fun b o e => hsb₁.extBut b o (fun z => by rw [z, fC] at e; cases e) (Heap.get?_push_of_some _ (hH2 ▸ Heap.get?_push_of_some _ e))
  have hacc : h₁.DictOf (strKind prog w) D₀ [] := (hH2 ▸ hD ▸ Heap.DictOf.new s₂.heap : H2.DictOf (strKind prog w) D₀ []).at fun o e => hsb₁.extBut _ _ hDC (Heap.get?_push_of_some _ e)
  have up : ∀ b o, s.heap.get? b = some o → h₁.get? b = some o := fun b o e => old b o (k₂.up b o e)
  have hfp : ∀ a ∈ D₀ :: C :: wr, s.heap.get? a = none := fun a ha => by
    rcases List.mem_cons.mp ha with ha | ha
    · rw [ha]; exact none_up k₂ fD
    · rcases List.mem_cons.mp ha with ha | ha
      · rw [ha]; exact none_up k₂ fC
      · exact hf a ha
  have nC : C ∉ wr := fun hm => by obtain ⟨o, e⟩ := hal C hm; rw [fC] at e; cases e
  have nD : D₀ ∉ wr := fun hm => by obtain ⟨o, e⟩ := hal D₀ hm; rw [fD] at e; cases e
  let vm₀ : Str → Option Value := fun x => if (relabel scope env).names.lookup x = some .local then none else vm x
  have sub : ∀ a ∈ wr, a ∈ (D₀ :: C :: wr) ++ Z := fun a ha => List.mem_append_left _ (.tail _ (.tail _ ha))
  have kt : s.toks ≤ s₂.toks + ([] : List (Str × Value)).length := k₂.tk
  have hS₁ : CS prog w g₀ (compEnvC scope cl C env) (D₀ :: C :: wr) ((D₀ :: C :: wr) ++ Z) vm₀ ρc { s₂ with heap := h₁, toks := s₂.toks + ([] : List (Str × Value)).length } := by
    obtain ⟨ls, sl⟩ := hS.slots
    obtain ⟨ls', sl', al'⟩ := cap_slots (kind := fun x => (relabel scope env).names.lookup x) (vm' := vm₀) sl (fun x hx => if_neg hx) hcap
    have sl₂ : SlotsAre prog w ((D₀ :: C :: wr) ++ Z) h₁ vm₀ ρc ls' := sl'.move (fun _ _ => rfl) (fun b o hb e => ⟨up b o e, fun hm => by
      rcases List.mem_append.mp hm with hm | hm
      · rw [hfp b hm] at e; cases e
      · exact hb hm⟩) fun a _ o e => up a o e
    refine ⟨⟨⟨F.wf C, fun b o e => up b o (hS.base b o e), ⟨⟨_, hns₁, fun x hx => ?_⟩, fun nm c e => ?_⟩, ⟨ls', sl₂⟩, fun a ha => ?_, fun a ha => ?_⟩, Nat.le_trans hS.tok kt⟩, fun a ha => List.mem_append_left _ ha, .tail _ (.head _), ⟨ls', sl₂, fun a ha hm => ?_⟩, fun nm c e hm => ?_⟩
    · show _ = vm₀ x
      have : (relabel scope env).names.lookup x = some .local := hx
      simp [vm₀, this]
    · obtain ⟨h1, h2⟩ := F.cells (nm, c) (mem_of_lookup e)
      obtain ⟨o, e', d⟩ := hS.frame.cell nm c h1
      refine ⟨o, up c o e', ?_⟩
      have : vm₀ nm = vm nm := if_neg h2
      rw [this]; exact d
    · rcases List.mem_append.mp ha with ha | ha
      · rcases List.mem_cons.mp ha with ha | ha
        · rw [ha]; obtain ⟨o, _, _, e, _⟩ := hacc; exact ⟨_, e⟩
        · rcases List.mem_cons.mp ha with ha | ha
          · rw [ha]; obtain ⟨o, _, _, e, _⟩ := hns₁; exact ⟨_, e⟩
          · obtain ⟨o, e⟩ := hal a ha; exact ⟨o, old a o e⟩
      · obtain ⟨o, e⟩ := hS.alive a ha; exact ⟨o, up a o e⟩
    · rcases List.mem_append.mp ha with ha | ha
      · cases e : g₀.get? a with
        | none => rfl
        | some o => have := hS.base a o e; rw [hfp a ha] at this; cases this
      · exact hS.apart a ha
    · obtain ⟨o, e⟩ := al' a hm; rw [hfp a ha] at e; cases e
    · obtain ⟨h1, h2⟩ := F.cells (nm, c) (mem_of_lookup e)
      obtain ⟨o, e', d⟩ := hS.frame.cell nm c h1
      rw [hfp c hm] at e'; cases e'
  have j₁ : J ((D₀ :: C :: wr) ++ Z) 0 h₁ := W.move _ _ _ _ _ j (fun b o hb e => ⟨old b o e, fun hm => hb (by
      rcases List.mem_append.mp hm with hm | hm
      · rcases List.mem_cons.mp hm with hm | hm
        · rw [hm, fD] at e; cases e
        · rcases List.mem_cons.mp hm with hm | hm
          · rw [hm, fC] at e; cases e
          · exact List.mem_append_left _ hm
      · exact List.mem_append_right _ hm)⟩) (fun a _ o e => old a o e) sub hS₁.alive
  have ru₁ : Ru s { s₂ with heap := h₁, toks := s₂.toks + ([] : List (Str × Value)).length } := k₂.ru.trans ⟨⟨h₁, _, rfl⟩, Nat.le_add_right _ _⟩
  have loop : codeAny (model prog w) A (.compLoop (.DictComp kx vx [⟨tgt, iter, [], 0⟩] scope pos) 0 (.ref it) (.ref D₀) (compEnvC scope cl C env)) (RR (.ref D₀) C) { s₂ with heap := h₁, toks := s₂.toks + ([] : List (Str × Value)).length } := by
    refine compLoop_drawnD (fun m s' => ∃ i vm kvs, m = ds.length - i ∧ i ≤ ds.length ∧ Ru s s' ∧ (∀ b o, s.heap.get? b = some o → s'.heap.get? b = some o) ∧ CS prog w g₀ (compEnvC scope cl C env) (D₀ :: C :: wr) ((D₀ :: C :: wr) ++ Z) vm ρc s' ∧ J ((D₀ :: C :: wr) ++ Z) i s'.heap ∧
      s'.heap.DictOf (strKind prog w) D₀ kvs ∧ kvs.map (·.1) = (ds.take i).map fk ∧ RdAll prog w ((D₀ :: C :: wr) ++ Z) s'.heap (kvs.map (·.2)) ((ds.take i).map fv)) (fun m s' inv => ?_) ds.length ⟨0, vm₀, [], rfl, Nat.zero_le _, ru₁, up, hS₁, j₁, hacc, rfl, .nil⟩
    obtain ⟨i, vm, kvs, rfl, hi, ru, up', hS', j', pl, ek, ra⟩ := inv
    have lzC : C ∈ (D₀ :: C :: wr) ++ Z := .tail _ (.head _)
    have lzD : D₀ ∈ (D₀ :: C :: wr) ++ Z := .head _
    have fs : ∀ a ∈ D₀ :: C :: wr, ∀ o, s.heap.get? a ≠ some o := fun a ha o e => by rw [hfp a ha] at e; cases e
    have len : kvs.length = i := by have := congrArg List.length ek; simpa [Nat.min_eq_left hi] using this
    have hys : kvs.length ≤ sizeLine := by omega
    by_cases hlt : i < ds.length
    · have hd : ds[i]? = some ds[i] := List.getElem?_eq_getElem hlt
      obtain ⟨ρ₁, ha, hkx, hvx, hfg⟩ := turn ds[i] (List.getElem_mem hlt) C
      refine W.item _ i ds[i] s' _ _ _ hd j' fun v h' tk rv j₂ kk htk => ?_
      have hS₂ := hS'.but (wr := wr) (fun a ha => ⟨.tail _ (.tail _ ha), fun z => nC (by rw [← show a = C from z]; exact ha)⟩) kk (W.alive _ _ _ j₂) htk
      have up₂ : ∀ b o, s.heap.get? b = some o → h'.get? b = some o := fun b o e => kk b o (fun hm => fs b (.tail _ (.tail _ hm)) o e) (up' b o e)
      have pl₂ : h'.DictOf (strKind prog w) D₀ kvs := pl.at fun o e => kk D₀ o nD e
      have ra₂ : RdAll prog w ((D₀ :: C :: wr) ++ Z) h' (kvs.map (·.2)) ((ds.take i).map fv) := ra.move fun b o hb e => ⟨kk b o (fun hm => hb (sub b hm)) e, hb⟩
      refine wpAny_mono (ha A _ _ _ vm _ v hA hS₂ rv) (fun _ s₃ q => ?_) fun _ _ e => e
      obtain ⟨r₃, vm', hS₃, k₃⟩ := q
      have nCb : ∀ b, b ∉ (D₀ :: C :: wr) ++ Z → b ≠ (compEnvC scope cl C env).locals := fun b hb z => hb (by rw [show b = C from z]; exact lzC)
      have mv₃ : Mv ((D₀ :: C :: wr) ++ Z) h' ((D₀ :: C :: wr) ++ Z) s₃.heap := fun b o hb e => ⟨k₃ b o (nCb b hb) e, hb⟩
      have j₃ := W.move _ _ _ _ _ j₂ mv₃ (fun a ha o e => k₃ a o (fun z => nC (by rw [← show a = C from z]; exact ha)) e) sub hS₃.alive
      refine wpAny_mono (hkx A _ _ vm' s₃ hA hS₃.toRS) (fun ky s₄ q => ?_) fun _ _ e => e
      obtain ⟨k₄, rk⟩ := q
      obtain ⟨tk', rfl⟩ := rk.str_inv
      have hS₄ := hS₃.kp k₄
      have j₄ := W.move _ _ _ _ _ j₃ (Mv.kp k₄) (fun a _ o e => k₄.up a o e) sub hS₄.alive
      have up₄ : ∀ b o, s.heap.get? b = some o → s₄.heap.get? b = some o := fun b o e => k₄.up b o (k₃ b o (fun z => fs C (.tail _ (.head _)) o (by rw [← show b = C from z]; exact e)) (up₂ b o e))
      have pl₄ : s₄.heap.DictOf (strKind prog w) D₀ kvs := pl₂.at fun o e => k₄.up _ o (k₃ D₀ o hDC e)
      have ra₄ := (ra₂.move mv₃).keep k₄.up
      have ru₄ : Ru s s₄ := ru.trans (Ru.trans ⟨⟨h', tk, rfl⟩, htk⟩ (r₃.trans k₄.ru))
      have tk1 : ds.take (i + 1) = ds.take i ++ [ds[i]] := by rw [List.take_add_one, hd]; rfl
      refine wpAny_mono (hvx A _ _ vm' s₄ hA hS₄.toRS) (fun x s₅ q => ?_) fun _ _ e => e
      obtain ⟨k₅, rx⟩ := q
      have hS₅ := hS₄.kp k₅
      have j₅ := W.move _ _ _ _ _ j₄ (Mv.kp k₅) (fun a _ o e => k₅.up a o e) sub hS₅.alive
      have hnew : stored kvs (fk ds[i]) x = kvs ++ [(fk ds[i], x)] := stored_new fun p hp e => by
        have h1 : fk ds[i] ∈ (ds.take i).map fk := by rw [← ek, ← e]; exact List.mem_map.mpr ⟨p, hp, rfl⟩
        obtain ⟨d', hd', e'⟩ := List.mem_map.mp h1
        obtain ⟨j, hj, ej⟩ := List.mem_iff_getElem.mp hd'
        have hj' : j < i := by have := hj; simp at this; omega
        have := List.pairwise_iff_getElem.mp hnd j i (by simp; omega) (by simpa using hlt) hj'
        apply this
        simp only [List.getElem_map]
        rw [← e', ← ej, List.getElem_take]
      refine wpAny_dictSet_pairs (strKind_is prog w (fk ds[i]) tk') (pl₄.at fun o e => k₅.up _ _ e) (fun h₆ l₆ sb => ?_) hys
      rw [hnew] at l₆
      have kb : ∀ b o, b ≠ D₀ → s₅.heap.get? b = some o → h₆.get? b = some o := fun b o hb e => sb.extBut b o hb e
      have hS₆ := hS₅.but (wr := [D₀]) (h' := h₆) (tk := s₅.toks + 1) (fun a ha => ⟨by rw [List.mem_singleton.mp ha]; exact .head _, by rw [List.mem_singleton.mp ha]; exact hDC⟩) (fun b o hb e => kb b o (fun z => hb (by rw [z]; exact .head _)) e)
        (fun a ha => by rw [List.mem_singleton.mp ha]; obtain ⟨o, _, _, e, _⟩ := l₆; exact ⟨_, e⟩) (Nat.le_succ _)
      have mv₆ : Mv ((D₀ :: C :: wr) ++ Z) s₅.heap ((D₀ :: C :: wr) ++ Z) h₆ := fun b o hb e => ⟨kb b o (fun z => hb (by rw [z]; exact lzD)) e, hb⟩
      have j₆ := W.move _ _ _ _ _ j₅ mv₆ (fun a ha o e => kb a o (fun z => nD (z ▸ ha)) e) sub hS₆.alive
      refine ⟨ds.length - (i + 1), by omega, i + 1, vm', _, rfl, hlt, ru₄.trans (k₅.ru.trans ⟨⟨h₆, _, rfl⟩, Nat.le_succ _⟩), fun b o e => kb b o (fun z => fs D₀ (.head _) o (z ▸ e)) (k₅.up b o (up₄ b o e)), hS₆.forget hfg, j₆, l₆, ?_, ?_⟩
      · rw [tk1, List.map_append, List.map_append, ek]; rfl
      · rw [tk1, List.map_append, List.map_append]
        exact ((ra₄.keep k₅.up).append (.one rx)).move mv₆
    · have : i = ds.length := by omega
      subst this
      refine W.done _ s' _ _ _ j' fun h' tk kk htk => ?_
      obtain ⟨m, hm, _⟩ := hS'.frame.ns
      rw [List.take_length] at ra ek
      refine hRR D₀ C _ m kvs ⟨?_, Nat.le_trans ru.tk htk⟩ hDC (hfp _ (.head _)) (hfp _ (.tail _ (.head _))) (hm.at' fun o e => kk C o nC e) (pl.at fun o e => kk D₀ o nD e) ek (ra.move fun b o hb e => ⟨kk b o (fun hm => hb (sub b hm)) e, fun hm => hb ?_⟩)
      · obtain ⟨⟨h₀, t₀, e₀⟩, _⟩ := ru
        rw [e₀] at kk up' ⊢
        exact ⟨h', tk, rfl, fun b o e => kk b o (fun hm => fs b (.tail _ (.tail _ hm)) o e) (up' b o e)⟩
      · rcases List.mem_append.mp hm with hm | hm
        · rcases List.mem_cons.mp hm with hm | hm
          · rw [hm]; exact lzD
          · rw [List.mem_singleton.mp hm]; exact lzC
        · exact List.mem_append_right _ hm
  exact codeAny_compStart_dict loop (W.self _ 0 _ _ _ j₁ loop)

theorem Ev.dictComp {kx vx iter tgt : Expr} {scope : Scope} {pos : Pos} {cl : List (Str × Addr)} {ds : List D} (G : Gf g₀ mg mb) (fk : D → Str) (fv : D → D) (ρc : Store)
    (hI : EvI prog w g₀ n env ρ iter tgt ds) (F : Form env scope cl (ρc.map (·.1))) (hcap : Cap (fun x => (relabel scope env).names.lookup x) ρ ρc) (hg : env.globals = mainGlobals ∧ env.builtins = builtinsNs) (hsz : ds.length ≤ sizeLine)
    (turn : ∀ d ∈ ds, ∀ C, ∃ ρ₁, AsgC prog w g₀ n (compEnvC scope cl C env) ρc tgt d ρ₁ ∧ Ev prog w g₀ n (compEnvC scope cl C env) ρ₁ kx (.str (fk d)) ∧ Ev prog w g₀ n (compEnvC scope cl C env) ρ₁ vx (fv d) ∧ Fg ρ₁ ρc) (hnd : (ds.map fk).Nodup)
    (hs : ∀ x, foldedSetIterable iter env x = pure x := by intro _; rfl) :
    Ev prog w g₀ n env ρ (.DictComp kx vx [⟨tgt, iter, [], 0⟩] scope pos) (.sdict (ds.map fun d => (fk d, fv d))) := fun A E Z vm s hA hS => by
  rw [arm_eval_DictComp]
  refine wpAny_comprehension_free (use := none) rfl hs F.clos F.kind F.local_ (comp_coreD fk fv hA hS hI F hcap hg hsz turn hnd fun D C s' m kvs k hDC hD hC hn pl ek ra => ?_)
  refine ⟨m, hn, fun h'' hs'' => ?_⟩
  have kb : ∀ b o, b ≠ C → s'.heap.get? b = some o → h''.get? b = some o := fun b o hb e => hs''.extBut b o hb e
  have pl' : h''.DictOf (strKind prog w) D kvs := pl.at fun o e => kb D o hDC e
  have k' : Kp s { s' with heap := h'' } := by
    obtain ⟨⟨h', t, e, kk⟩, tk⟩ := k
    subst e
    exact ⟨⟨h'', t, rfl, fun b o e => kb b o (fun z => by rw [z, hC] at e; cases e) (kk b o e)⟩, tk⟩
  have dZ : D ∉ Z := fun hm => by
    obtain ⟨o, e⟩ := hS.alive _ hm
    rw [hD] at e; cases e
  have dS : (D == sysModules) = false := by
    obtain ⟨o, e⟩ := G.sys
    refine beq_false_of_ne fun z => ?_
    have := hS.base _ _ e
    rw [← z, hD] at this; cases this
  refine ⟨k', .sdict ⟨dZ, dS⟩ pl' (by rw [ek, List.map_map]; rfl) ?_⟩
  rw [List.map_map]
  exact ra.move fun b o hb e => ⟨kb b o (fun z => hb (by simp [z])) e, fun hm => hb (List.mem_append_right _ hm)⟩

theorem Ev.dictComp1 {kx vx iter tgt : Expr} {inner : Scope} {pos : Pos} {ds : List D} (G : Gf g₀ mg mb) (fk : D → Str) (fv : D → D) (ρc : Store)
    (fr : Fr0 env) (hI : EvI prog w g₀ n env ρ iter tgt ds) (ok : formOk env.scope inner (ρc.map (·.1)) = true) (hcap : Cap (fun x => (relabel inner env).names.lookup x) ρ ρc) (hsz : ds.length ≤ sizeLine)
    (turn : ∀ cl C, Fr0 (compEnvC inner cl C env) → ∀ d ∈ ds, ∃ ρ₁, AsgC prog w g₀ n (compEnvC inner cl C env) ρc tgt d ρ₁ ∧ Ev prog w g₀ n (compEnvC inner cl C env) ρ₁ kx (.str (fk d)) ∧ Ev prog w g₀ n (compEnvC inner cl C env) ρ₁ vx (fv d) ∧ Fg ρ₁ ρc) (hnd : (ds.map fk).Nodup)
    (hs : ∀ x, foldedSetIterable iter env x = pure x := by intro _; rfl) :
    Ev prog w g₀ n env ρ (.DictComp kx vx [⟨tgt, iter, [], 0⟩] inner pos) (.sdict (ds.map fun d => (fk d, fv d))) := by
  have hc : ∀ x ∈ freeOf inner, ∃ c, env.cells.lookup x = some c := fun x hx => fr.cel x (by
    unfold formOk at ok
    simp only [Bool.and_eq_true, List.all_eq_true, beq_iff_eq] at ok
    exact ok.1.2 x hx)
  obtain ⟨cl, F, h⟩ := form_of fr.globals fr.builtins hc ok
  exact Ev.dictComp G fk fv ρc hI F hcap ⟨fr.globals, fr.builtins⟩ hsz (fun d hd C => turn cl C ⟨fr.globals, fr.builtins, Cel.comp F.nocell h⟩ d hd) hnd hs
end
end Mine

namespace Mine
open PySem

def marks7 : Str := "&<>\"\r\n\t"
def brks (wh : Nat) : List Str := if wh = 1 then ["&#13;", "&#10;", "&#09;"] else ["&#xD;", "&#xA;", "&#x9;"]
def four7 : List Str := ["&amp;", "&lt;", "&gt;", "&quot;"]
def full7 (wh : Nat) : List Str := four7 ++ brks wh
def spelledS : Nat → Str
  | 0 => "&<>"
  | 1 => "&<>\"\r\n\t"
  | 2 => "&>\""
  | 3 => "&<>\r"
  | _ => "&<\"\r\n\t"
def esc7 (wh : Nat) (c : Nat) : Str := (full7 wh).getD (marks7.cps.toList.findIdx (· == c)) ""
/-- the table of a hand -/
def tblOf (wh : Nat) : STab := (spelledS wh).cps.toList.map fun c => (⟨#[c]⟩, esc7 wh c)
def fkS : D → Str
  | .str s => s
  | _ => ""
def c0 (s : Str) : Nat := s.cps.getD 0 0

def sigD (wh : Nat) : D → D := fun d => .str (esc7 wh (c0 (fkS d)))

section
variable {prog : Program} {w : World} {g₀ g : Heap} {n : Nat} {env cenv : Env} {ρ ρ₁ ρ₂ ρ' ρc : Store} {mg mb : Str → Option Value} {fl : Fl}

theorem tup_texts {es : List Expr} {ds : List D} (x : EvAll prog w g₀ n env ρ es ds) (hs : ds.length ≤ sizeLine := by simp [sizeLine]) {k : Nat} {p : Pos} : Ev prog w g₀ n env ρ (.Tuple es k p) (.tup ds) := Ev.tuple x hs

def fullD (wh : Nat) : List (Str × D) := (List.range marks7.cps.size).map fun k => ((⟨#[marks7.cps.getD k 0]⟩ : Str), D.str ((full7 wh).getD k ""))

theorem spelled_len (wh : Nat) (hw : wh < 5) : (spelledS wh).cps.size ≤ 7 := by
  rcases (show wh = 0 ∨ wh = 1 ∨ wh = 2 ∨ wh = 3 ∨ wh = 4 by omega) with rfl | rfl | rfl | rfl | rfl <;> decide +kernel
theorem look_all (wh : Nat) (hw : wh < 5) : ∀ c ∈ (spelledS wh).cps.toList, ((marks7.cps.toList.findIdx (· == c)) < 7 ∧ marks7.cps.getD (marks7.cps.toList.findIdx (· == c)) 0 = c) := by
  rcases (show wh = 0 ∨ wh = 1 ∨ wh = 2 ∨ wh = 3 ∨ wh = 4 by omega) with rfl | rfl | rfl | rfl | rfl <;> decide +kernel
theorem look_at {K : Type} [DecidableEq K] {l : List (K × D)} (hn : (l.map (·.1)).Nodup) {i : Nat} {k : K} {d : D} (h : l[i]? = some (k, d)) : look l k = some d := by
  unfold look
  induction l generalizing i with
  | nil => simp at h
  | cons p l ih =>
    cases i with
    | zero => simp at h; subst h; simp
    | succ i =>
      simp at h
      have hm : k ∈ l.map (·.1) := List.mem_map.mpr ⟨_, List.mem_of_getElem? h, rfl⟩
      rw [List.map_cons, List.nodup_cons] at hn
      have hne : p.1 ≠ k := fun e => hn.1 (e ▸ hm)
      rw [List.find?_cons]
      simp only [hne, decide_false]
      exact ih hn.2 h
theorem full_nodup (wh : Nat) : ((fullD wh).map (·.1)).Nodup := by
  have : (fullD wh).map (·.1) = (List.range marks7.cps.size).map fun k => (⟨#[marks7.cps.getD k 0]⟩ : Str) := by
    unfold fullD; rw [List.map_map]; rfl
  rw [this]; decide +kernel
theorem look7 (wh : Nat) (hw : wh < 5) (c : Nat) (hc : c ∈ (spelledS wh).cps.toList) : look (fullD wh) (⟨#[c]⟩ : Str) = some (sigD wh (.str ⟨#[c]⟩)) := by
  obtain ⟨h1, h2⟩ := look_all wh hw c hc
  refine look_at (full_nodup wh) (i := marks7.cps.toList.findIdx (· == c)) ?_
  have h7 : marks7.cps.size = 7 := by decide +kernel
  unfold fullD
  rw [List.getElem?_map, List.getElem?_range (by omega), Option.map_some, h2]
  rfl

theorem hand_ok (T : TopF g₀ mg mb) (wh : Nat) (hw : wh < 5) : FnOk prog w g₀ 2 (fv mg "_law_hand") [.int (wh : Int)] (.tup [.fn (fv mg (handName wh)), .sdict (dtb (tblOf wh))]) := by
  refine FnOk.at (i := 67) (ps := ["which"]) (rest := ["hands", "breaks", "table", "spelled"]) T (by walk_at "m tab") rfl (fun pm code doc => bind1 fun v => by rfl) (by decide +kernel) fun N a pm code doc fr => ?_
  let hv : List D := [.fn (fv mg "_escape_cdata"), .fn (fv mg "_escape_attrib"), .fn (fv mg "_escape_attrib_html"), .fn (fv mg "_escape_cdata_c14n"), .fn (fv mg "_escape_attrib_c14n")]
  show Rt prog w g₀ 1 _ [("which", .dat (.int wh)), ("hands", .unset), ("breaks", .unset), ("table", .unset), ("spelled", .unset)] _ _
  refine Rt.cons (ρ₁ := [("which", .dat (.int wh)), ("hands", .dat (.tup hv)), ("breaks", .unset), ("table", .unset), ("spelled", .unset)]) (Ex.assign (Ev.toS (Ev.tuple (EvAll.cons (Ev.fun0 T ⟨rfl, rfl, rfl, rfl, rfl⟩ (by walk_at "m tab")) (EvAll.cons (Ev.fun0 T ⟨rfl, rfl, rfl, rfl, rfl⟩ (by walk_at "m tab")) (EvAll.cons (Ev.fun0 T ⟨rfl, rfl, rfl, rfl, rfl⟩ (by walk_at "m tab"))
    (EvAll.cons (Ev.fun0 T ⟨rfl, rfl, rfl, rfl, rfl⟩ (by walk_at "m tab")) (EvAll.cons (Ev.fun0 T ⟨rfl, rfl, rfl, rfl, rfl⟩ (by walk_at "m tab")) EvAll.nil))))))) (by walk_at "m put")) ?_
  refine Rt.cons (ρ₁ := [("which", .dat (.int wh)), ("hands", .dat (.tup hv)), ("breaks", .dat (.tup (texts (brks wh)))), ("table", .unset), ("spelled", .unset)]) (Ex.assign (Ev.toS (Ev.ite (b := ((wh : Int) == 1)) (Tst.cmp (Ev.name (by walk_at "m mem")).toB Ev.int.toB (.eqI _ _)) ?_)) (by walk_at "m put")) ?_
  · by_cases h1 : wh = 1
    · subst h1
      rw [if_pos (by rfl)]
      exact Ev.tuple (ds := texts ["&#13;", "&#10;", "&#09;"]) (EvAll.cons Ev.str (EvAll.cons Ev.str (EvAll.cons Ev.str EvAll.nil))) (by simp [texts, sizeLine])
    · rw [if_neg (by simp; omega)]
      have : brks wh = (["&#xD;", "&#xA;", "&#x9;"] : List Str) := if_neg h1
      rw [this]
      exact Ev.tuple (ds := texts ["&#xD;", "&#xA;", "&#x9;"]) (EvAll.cons Ev.str (EvAll.cons Ev.str (EvAll.cons Ev.str EvAll.nil))) (by simp [texts, sizeLine])
  refine Rt.cons (ρ₁ := [("which", .dat (.int wh)), ("hands", .dat (.tup hv)), ("breaks", .dat (.tup (texts (brks wh)))), ("table", .dat (.sdict (fullD wh))), ("spelled", .unset)])
    (Ex.assign (Ev.toS (Ev.dictZip (x := marks7) (ys := full7 wh) T.toGf (Ev.ty T ⟨rfl, rfl, rfl, rfl, rfl⟩ (by walk_at "m tab")) (Ev.ty T ⟨rfl, rfl, rfl, rfl, rfl⟩ (by walk_at "m tab")) Ev.str ?_ (by decide +kernel) ?_ (by decide +kernel) (by decide +kernel) (by decide +kernel))) (.there (.there (.there .here)))) ?_
  · have : texts (full7 wh) = texts four7 ++ texts (brks wh) := by simp [full7, texts]
    rw [this]
    exact Ev.addT (Ev.tuple (ds := texts four7) (EvAll.cons Ev.str (EvAll.cons Ev.str (EvAll.cons Ev.str (EvAll.cons Ev.str EvAll.nil)))) (by simp [four7, texts, sizeLine])) (Ev.name (by walk_at "m mem")) (by unfold brks; split <;> exact ⟨rfl, rfl⟩) (by unfold brks; split <;> simp [four7, texts, sizeLine])
  · unfold full7 brks; split <;> rfl
  refine Rt.cons (ρ₁ := [("which", .dat (.int wh)), ("hands", .dat (.tup hv)), ("breaks", .dat (.tup (texts (brks wh)))), ("table", .dat (.sdict (fullD wh))), ("spelled", .dat (.str (spelledS wh)))])
    (Ex.assign (Ev.toS (Ev.sub (Ev.tuple (ds := texts ["&<>", "&<>\"\r\n\t", "&>\"", "&<>\r", "&<\"\r\n\t"]) (EvAll.cons Ev.str (EvAll.cons Ev.str (EvAll.cons Ev.str (EvAll.cons Ev.str (EvAll.cons Ev.str EvAll.nil))))) (by simp [texts, sizeLine])).toB (Ev.name (by walk_at "m mem")).toB (.tup _ _ _ (by omega) ?_))) (by walk_at "m put")) ?_
  · rw [Int.toNat_natCast]
    rcases (show wh = 0 ∨ wh = 1 ∨ wh = 2 ∨ wh = 3 ∨ wh = 4 by omega) with rfl | rfl | rfl | rfl | rfl <;> rfl
  refine Rt.ret (Ev.tuple (ds := [.fn (fv mg (handName wh)), .sdict (dtb (tblOf wh))]) (EvAll.cons (Ev.sub (Ev.name (by walk_at "m mem")).toB (Ev.name (by walk_at "m mem")).toB (.tup _ _ _ (by omega) ?_)) (EvAll.cons ?_ EvAll.nil)))
  · rw [Int.toNat_natCast]
    rcases (show wh = 0 ∨ wh = 1 ∨ wh = 2 ∨ wh = 3 ∨ wh = 4 by omega) with rfl | rfl | rfl | rfl | rfl <;> rfl
  · have e : dtb (tblOf wh) = (signs (spelledS wh)).map fun d => (fkS d, sigD wh d) := by
      unfold dtb tblOf signs
      rw [List.map_map, List.map_map]; rfl
    rw [e]
    refine Ev.dictComp1 (iter := .Name "spelled" _) (tgt := .Name "sign" _) T.toGf fkS (sigD wh) [("table", .dat (.sdict (fullD wh))), ("sign", .unset)] fr (EvI.str (Ev.name (by walk_at "m mem")).toB) (by show formOk (fnScope (stm 67)) _ ["table", "sign"] = true; decide +kernel) (Cap.name (by walk_at "m mem") (Cap.var Cap.nil)) ?_ (fun cl C fr' d hd => ?_) ?_
    · have := spelled_len wh hw
      simp only [signs, List.length_map, Array.length_toList]
      unfold sizeLine; omega
    · obtain ⟨c, hc, rfl⟩ := List.mem_map.mp hd
      refine ⟨[("table", .dat (.sdict (fullD wh))), ("sign", .dat (.str ⟨#[c]⟩))], AsgC.name (.there .here), Ev.name (mem_there mem_here), Ev.sub (Ev.name mem_here).toB (Ev.name (mem_there mem_here)).toB (.sdict _ _ _ (look7 wh hw c hc)), .keep (.drop .nil)⟩
    · have : (signs (spelledS wh)).map fkS = (spelledS wh).cps.toList.map fun c => (⟨#[c]⟩ : Str) := by
        unfold signs; rw [List.map_map]; rfl
      rw [this]
      rcases (show wh = 0 ∨ wh = 1 ∨ wh = 2 ∨ wh = 3 ∨ wh = 4 by omega) with rfl | rfl | rfl | rfl | rfl <;> decide +kernel
end
end Mine

namespace Mine
open PySem PySem.StrLaws PySem.Builtin PySem.Builtin.Str

/-- a text of signs -/
def tS (l : List Nat) : Str := ⟨l.toArray⟩
theorem tS_list (l : List Nat) : (tS l).cps.toList = l := rfl
theorem tS_of (x : Str) : tS x.cps.toList = x := rfl
theorem tS_len (l : List Nat) : (tS l).length = l.length := by simp [tS, PySem.Str.length]
theorem str_len (x : Str) : x.length = x.cps.toList.length := by simp [PySem.Str.length]

theorem chainG_one {x y : Str} (hw : 1 ≤ y.length) : ∀ {c1 c2 : List Nat} {a f1 f2 : Nat}, ChainG x y x.length a c1 f1 → (∀ k, f1 ≤ k → ¬ At x y x.length k) → ChainG x y x.length a c2 f2 → (∀ k, f2 ≤ k → ¬ At x y x.length k) → c1 = c2
  | [], [], _, _, _, _, _, _, _ => rfl
  | [], c :: r, a, f1, f2, h1, n1, h2, n2 => by
    have e : f1 = a := h1
    exact absurd h2.2.1 (n1 c (by rw [e]; exact h2.1))
  | c :: r, [], a, f1, f2, h1, n1, h2, n2 => by
    have e : f2 = a := h2
    exact absurd h1.2.1 (n2 c (by rw [e]; exact h1.1))
  | c :: r, d :: q, a, f1, f2, h1, n1, h2, n2 => by
    obtain ⟨p1, p2, p3, p4⟩ := h1
    obtain ⟨q1, q2, q3, q4⟩ := h2
    have e : c = d := by
      rcases Nat.lt_trichotomy c d with h | h | h
      · exact absurd p2 (q3 c p1 h)
      · exact h
      · exact absurd q2 (p3 d q1 h)
    subst e
    rw [chainG_one hw p4 n1 q4 n2]

theorem split_chain {x y : Str} (hw : 1 ≤ y.length) (hk : Builtin.Str.strKind y = 1) {cuts : List Nat} {f : Nat} (h : ChainG x y x.length 0 cuts f) (hn : ∀ k, f ≤ k → ¬ At x y x.length k) : Txt.split x y = partsFrom x y.length 0 cuts := by
  obtain ⟨f', h', hn'⟩ := occ_tight x y hw
  have e := chainG_one hw h' hn' h hn
  unfold Txt.split
  rw [e]
  have hkx : 1 ≤ Builtin.Str.strKind x := by unfold Builtin.Str.strKind; split <;> (try split) <;> omega
  have one : cuts = [] → partsFrom x y.length 0 cuts = [x] := fun e => by
    rw [e]; show [strSub x 0 x.length] = _; rw [sub_whole]
  split
  · rename_i hc
    refine (one ?_).symm
    cases cuts with
    | nil => rfl
    | cons c r =>
      have := h.2.1.1
      simp only [Bool.or_eq_true, decide_eq_true_eq] at hc
      omega
  · split
    · rename_i hc
      exact (one (by simpa using hc)).symm
    · rw [partsBetween_eq]

theorem at_iff {x y : Str} {k : Nat} (hw : 1 ≤ y.length) : At x y x.length k ↔ y.cps.toList <+: x.cps.toList.drop k := by
  unfold At
  rw [subAt_eq, str_len, str_len]
  rw [str_len] at hw
  constructor
  · rintro ⟨h1, h2⟩
    have := eq_of_beq h2
    rw [← this]
    exact List.take_prefix ..
  · intro h
    have hl := h.length_le
    rw [List.length_drop] at hl
    refine ⟨by omega, ?_⟩
    rw [beq_iff_eq]
    exact (List.prefix_iff_eq_take.mp h).symm

/-! ### cutting signs -/
def cutN (c : Nat) : List Nat → List (List Nat)
  | [] => [[]]
  | s :: l => if s = c then [] :: cutN c l else match cutN c l with
    | [] => [[s]]
    | p :: r => (s :: p) :: r
theorem cutN_ne (c : Nat) : ∀ l, ∃ p r, cutN c l = p :: r
  | [] => ⟨_, _, rfl⟩
  | s :: l => by
    unfold cutN
    split
    · exact ⟨_, _, rfl⟩
    · obtain ⟨p, r, e⟩ := cutN_ne c l
      rw [e]; exact ⟨_, _, rfl⟩
def consL (u : List Nat) : List (List Nat) → List (List Nat)
  | [] => [u]
  | p :: r => (u ++ p) :: r

/-- two codes part within the first one -/
def clearAt (a y : List Nat) : Bool := (a.zip y).any fun p => p.1 != p.2
def Clear (a y : List Nat) : Prop := ∀ j, j < a.length → clearAt (a.drop j) y = true
theorem clearAt_no {a y rest : List Nat} (h : clearAt a y = true) : ¬ y <+: a ++ rest := by
  intro hp
  unfold clearAt at h
  rw [List.any_eq_true] at h
  obtain ⟨p, hp', hne⟩ := h
  obtain ⟨i, hi, e⟩ := List.mem_iff_getElem.mp hp'
  rw [List.getElem_zip] at e
  have hi1 : i < a.length := by have := hi; simp at this; omega
  have hi2 : i < y.length := by have := hi; simp at this; omega
  have e2 := hp.getElem (i := i) hi2
  rw [List.getElem_append_left hi1] at e2
  rw [← e] at hne
  simp only [bne_iff_ne] at hne
  exact hne e2.symm

theorem sub_list {x : Str} {a b : Nat} : (strSub x a b).cps.toList = (x.cps.toList.drop a).take (b - a) := strSub_toList x a b

theorem chain_code {φ : Nat → List Nat} {c : Nat} {x y : Str} (hy : y.cps.toList = φ c) (hw : 1 ≤ y.length) : ∀ (l pre : List Nat) (a : Nat), x.cps.toList = pre ++ l.flatMap φ → a ≤ pre.length →
    (∀ k, a ≤ k → k < pre.length → ¬ At x y x.length k) → (∀ s ∈ l, s = c ∨ Clear (φ s) (φ c)) →
    ∃ cuts f, ChainG x y x.length a cuts f ∧ (∀ k, f ≤ k → ¬ At x y x.length k) ∧ (partsFrom x y.length a cuts).map (·.cps.toList) = consL (pre.drop a) ((cutN c l).map fun p => p.flatMap φ)
  | [], pre, a, hx, ha, hn, _ => by
    have hx : x.cps.toList = pre := by simpa using hx
    refine ⟨[], a, rfl, fun k hk hA => ?_, ?_⟩
    · by_cases h : k < pre.length
      · exact hn k hk h hA
      · have := ((at_iff hw).mp hA).length_le
        rw [List.length_drop, hx, ← str_len] at this
        omega
    · show [(strSub x a x.length).cps.toList] = _
      rw [sub_list, hx, str_len, hx, List.take_of_length_le (by simp)]
      simp [cutN, consL]
  | s :: l, pre, a, hx, ha, hn, hc => by
    rw [List.flatMap_cons] at hx
    have hcl : ∀ t ∈ l, t = c ∨ Clear (φ t) (φ c) := fun t ht => hc t (.tail _ ht)
    have hlen : y.length = (φ c).length := by rw [str_len, hy]
    by_cases hs : s = c
    · subst hs
      obtain ⟨cuts, f, h1, h2, h3⟩ := chain_code hy hw l (pre ++ φ s) (pre ++ φ s).length (by rw [hx, List.append_assoc]) (Nat.le_refl _) (fun k h1 h2 => by omega) hcl
      have hA : At x y x.length pre.length := (at_iff hw).mpr (by rw [hx, List.drop_left', hy]; exact List.prefix_append ..; rfl)
      refine ⟨pre.length :: cuts, f, ⟨ha, hA, hn, by rw [hlen]; simpa using h1⟩, h2, ?_⟩
      show (strSub x a pre.length).cps.toList :: (partsFrom x y.length (pre.length + y.length) cuts).map _ = _
      rw [hlen, ← List.length_append, ← hlen, h3, sub_list, hx]
      have e1 : ((pre ++ (φ s ++ l.flatMap φ)).drop a).take (pre.length - a) = pre.drop a := by
        rw [List.drop_append_of_le_length ha, List.take_left' (by simp)]
      have e2 : cutN s (s :: l) = [] :: cutN s l := by simp [cutN]
      rw [e1, e2, List.drop_length]
      obtain ⟨p, r, e⟩ := cutN_ne s l
      rw [e]
      simp [consL]
    · have hcs := (hc s (.head _)).resolve_left hs
      obtain ⟨cuts, f, h1, h2, h3⟩ := chain_code hy hw l (pre ++ φ s) a (by rw [hx, List.append_assoc]) (by simp; omega) (fun k h1 h2 hA => by
        by_cases hk : k < pre.length
        · exact hn k h1 hk hA
        · have hp := (at_iff hw).mp hA
          obtain ⟨j, rfl⟩ : ∃ j, k = pre.length + j := ⟨k - pre.length, by omega⟩
          have hj : j < (φ s).length := by rw [List.length_append] at h2; omega
          rw [hx, List.drop_append, hy, List.drop_eq_nil_of_le (by omega), List.nil_append, Nat.add_sub_cancel_left, List.drop_append_of_le_length (by omega)] at hp
          exact clearAt_no (hcs j hj) hp) hcl
      refine ⟨cuts, f, h1, h2, ?_⟩
      rw [h3, List.drop_append_of_le_length ha]
      obtain ⟨p, r, e⟩ := cutN_ne c l
      have e2 : cutN c (s :: l) = (s :: p) :: r := by simp [cutN, hs, e]
      rw [e, e2]
      simp [consL]

theorem split_code {φ : Nat → List Nat} {c : Nat} {l : List Nat} (hk : Builtin.Str.strKind (tS (φ c)) = 1) (hw : φ c ≠ []) (hc : ∀ s ∈ l, s = c ∨ Clear (φ s) (φ c)) :
    Txt.split (tS (l.flatMap φ)) (tS (φ c)) = (cutN c l).map fun p => tS (p.flatMap φ) := by
  have hw' : 1 ≤ (tS (φ c)).length := by
    rw [tS_len]
    cases h : φ c with
    | nil => exact absurd h hw
    | cons _ _ => simp
  obtain ⟨cuts, f, h1, h2, h3⟩ := chain_code (φ := φ) (c := c) (x := tS (l.flatMap φ)) (y := tS (φ c)) rfl hw' l [] 0 rfl (Nat.le_refl _) (fun k _ h => absurd h (Nat.not_lt_zero _)) hc
  rw [split_chain hw' hk h1 h2]
  have e : consL (([] : List Nat).drop 0) ((cutN c l).map fun p => p.flatMap φ) = (cutN c l).map fun p => p.flatMap φ := by
    obtain ⟨p, r, e⟩ := cutN_ne c l
    rw [e]; rfl
  rw [e] at h3
  have := congrArg (List.map tS) h3
  rw [List.map_map, List.map_map] at this
  have hid : (tS ∘ fun x : Str => x.cps.toList) = _root_.id := by funext x; exact tS_of x
  rw [hid, List.map_id] at this
  exact this
end Mine

namespace Mine
open PySem PySem.StrLaws PySem.Builtin PySem.Builtin.Str

def joinZ (z : List Nat) : List (List Nat) → List Nat
  | [] => []
  | [p] => p
  | p :: q :: r => p ++ z ++ joinZ z (q :: r)
theorem tS_append (a b : List Nat) : tS a ++ tS b = tS (a ++ b) := by
  apply Str.ext'; apply Array.toList_inj.mp; simp [Str.cps_append, tS]
theorem joinStr (z : List Nat) : ∀ ps : List (List Nat), PySem.Str.join (tS z) (ps.map tS) = tS (joinZ z ps)
  | [] => rfl
  | [p] => rfl
  | p :: q :: r => by
    have := joinStr z (q :: r)
    show tS p ++ tS z ++ PySem.Str.join (tS z) ((q :: r).map tS) = _
    rw [this, tS_append, tS_append]; rfl
theorem join_tS (z : List Nat) (ps : List (List Nat)) : Txt.join (tS z) (ps.map tS) = tS (joinZ z ps) := by
  unfold Txt.join; rw [glued_eq_join, joinStr]
theorem joinZ_nil : ∀ ps : List (List Nat), joinZ [] ps = ps.flatten
  | [] => rfl
  | [p] => by simp [joinZ]
  | p :: q :: r => by
    have := joinZ_nil (q :: r)
    simp only [joinZ, List.append_nil, this, List.flatten_cons]

theorem cutN_app {c : Nat} : ∀ {p l : List Nat}, c ∉ p → cutN c (p ++ l) = consL p (cutN c l)
  | [], l, _ => by
    obtain ⟨q, r, e⟩ := cutN_ne c l
    rw [List.nil_append, e]; rfl
  | s :: p, l, h => by
    have hs : s ≠ c := fun e => h (e ▸ .head _)
    have ih := cutN_app (p := p) (l := l) fun hm => h (.tail _ hm)
    obtain ⟨q, r, e⟩ := cutN_ne c l
    rw [e] at ih ⊢
    simp only [List.cons_append, cutN, hs, if_false, ih, consL]
theorem cutN_free {c : Nat} {p : List Nat} (h : c ∉ p) : cutN c p = [p] := by
  have := cutN_app (l := []) h
  rw [List.append_nil] at this
  rw [this]; simp [cutN, consL]
theorem cutN_join {c : Nat} : ∀ {ps : List (List Nat)}, ps ≠ [] → (∀ p ∈ ps, c ∉ p) → cutN c (joinZ [c] ps) = ps
  | [], h, _ => absurd rfl h
  | [p], _, h => cutN_free (h p (.head _))
  | p :: q :: r, _, h => by
    have ih := cutN_join (ps := q :: r) (by simp) fun x hx => h x (.tail _ hx)
    show cutN c (p ++ [c] ++ joinZ [c] (q :: r)) = _
    rw [List.append_assoc, cutN_app (h p (.head _))]
    have : cutN c ([c] ++ joinZ [c] (q :: r)) = [] :: (q :: r) := by simp [cutN, ih]
    rw [this]; simp [consL]

/-! ### one sign replaced -/
def subN (c : Nat) (z : List Nat) (k : Nat) : List Nat := if k = c then z else [k]
theorem join_cut {c : Nat} {z : List Nat} : ∀ l : List Nat, joinZ z (cutN c l) = l.flatMap (subN c z)
  | [] => rfl
  | s :: l => by
    have ih := join_cut (c := c) (z := z) l
    obtain ⟨p, r, e⟩ := cutN_ne c l
    rw [e] at ih
    rw [List.flatMap_cons, ← ih]
    unfold subN
    by_cases hs : s = c
    · simp only [cutN, hs, if_true, e]
      rfl
    · simp only [cutN, hs, if_false, e]
      cases r <;> rfl
theorem flat_self (l : List Nat) : l.flatMap (fun k => [k]) = l := by
  induction l with
  | nil => rfl
  | cons s l ih => rw [List.flatMap_cons, ih]; rfl
theorem subN_free {c : Nat} {z : List Nat} : ∀ {l : List Nat}, c ∉ l → l.flatMap (subN c z) = l
  | [], _ => rfl
  | s :: l, h => by
    have hs : s ≠ c := fun e => h (e ▸ .head _)
    rw [List.flatMap_cons, subN_free fun hm => h (.tail _ hm)]
    simp [subN, hs]
theorem kind1 {l : List Nat} (h : ∀ k ∈ l, k < 256) : Builtin.Str.strKind (tS l) = 1 := by
  unfold Builtin.Str.strKind
  rw [if_pos]
  rw [Array.all_eq_true']
  intro k hk
  exact decide_eq_true (h k (by simpa [tS] using hk))
theorem rep_flat {l z : List Nat} {c : Nat} (hc : c < 256) : rep (tS l) (tS [c]) (tS z) = tS (l.flatMap (subN c z)) := by
  unfold rep
  have ho : occurs (tS l) (tS [c]) = decide (c ∈ l) := found_one (tS l) c
  rw [ho]
  by_cases h : c ∈ l
  · rw [if_pos (decide_eq_true h)]
    have e1 : Txt.replace (tS l) (tS [c]) (tS z) = PySem.Str.join (tS z) (Txt.split (tS l) (tS [c])) := replace_one (tS l) (tS z) c
    have e2 := split_code (φ := fun k => [k]) (c := c) (l := l) (kind1 fun k hk => by rw [List.mem_singleton.mp hk]; exact hc) (by simp) fun s hs => by
      by_cases e : s = c
      · exact .inl e
      · refine .inr fun j hj => ?_
        have : j = 0 := by have : j < 1 := hj; omega
        subst this
        simp [clearAt, e]
    rw [flat_self] at e2
    have e3 : ((cutN c l).map fun p => tS (p.flatMap fun k => [k])) = (cutN c l).map tS := List.map_congr_left fun p _ => by rw [flat_self]
    rw [e1, e2, e3, joinStr, join_cut]
  · rw [if_neg (by simpa using h), subN_free h]

def escL (ps : List (Nat × List Nat)) (l : List Nat) : List Nat := ps.foldl (fun l p => l.flatMap (subN p.1 p.2)) l
def sPrs (ps : List (Nat × List Nat)) : List (Str × Str) := ps.map fun p => (tS [p.1], tS p.2)
theorem escAll_L : ∀ (ps : List (Nat × List Nat)) (l : List Nat), (∀ p ∈ ps, p.1 < 256) → escAll (tS l) (sPrs ps) = tS (escL ps l)
  | [], _, _ => rfl
  | p :: ps, l, h => by
    have ih := escAll_L ps (l.flatMap (subN p.1 p.2)) fun q hq => h q (.tail _ hq)
    show escAll (rep (tS l) (tS [p.1]) (tS p.2)) (sPrs ps) = _
    rw [rep_flat (h p (.head _)), ih]; rfl
theorem escL_flat : ∀ (ps : List (Nat × List Nat)) (l : List Nat), escL ps l = l.flatMap fun k => escL ps [k]
  | [], l => (flat_self l).symm
  | p :: ps, l => by
    have ih := escL_flat ps
    show escL ps (l.flatMap (subN p.1 p.2)) = _
    rw [ih, List.flatMap_assoc]
    have : (fun k => (subN p.1 p.2 k).flatMap fun k => escL ps [k]) = fun k => escL (p :: ps) [k] := funext fun k => by
      show (subN p.1 p.2 k).flatMap (fun k => escL ps [k]) = escL ps ([k].flatMap (subN p.1 p.2))
      rw [← ih]
      simp
    rw [this]

/-! ### the five hands over the signs that come -/
def alphaL : List Nat := [9, 10, 13, 33, 34, 37, 38, 40, 41, 42, 43, 44, 45, 46, 47, 58, 59, 60, 61, 62, 64, 91, 93, 94, 123, 124, 125, 126]
def wordsL : List (List Nat) := [[40], [41], [91], [93], [58], [44], [59], [43], [45], [42], [47], [124], [38], [60], [62], [61], [46], [37], [123], [125], [61, 61], [33, 61], [60, 61], [62, 61], [126], [94], [60, 60], [62, 62], [42, 42], [43, 61], [45, 61], [42, 61], [47, 61], [37, 61], [38, 61], [124, 61], [94, 61], [60, 60, 61], [62, 62, 61], [42, 42, 61], [47, 47], [47, 47, 61], [64], [64, 61], [45, 62], [46, 46, 46], [58, 61], [33]]
def marksL : List Nat := [34, 13, 10, 9]
theorem words_eq : Txt.words allNames = wordsL.map tS := by
  have h : (Txt.words allNames).map (fun s => s.cps.toList) = wordsL := by decide +kernel
  have := congrArg (List.map tS) h
  rw [List.map_map] at this
  have hid : (tS ∘ fun x : Str => x.cps.toList) = _root_.id := by funext x; exact tS_of x
  rw [hid, List.map_id] at this
  exact this
theorem marks_eq : marksS = tS marksL := by
  have h : marksS.cps.toList = marksL := by decide +kernel
  rw [← h]; exact (tS_of _).symm
def nmL (f : Nat) : List (List Nat) := (wordsL.drop f).take 3
theorem nm_eq (f : Nat) : nm f = (nmL f).map tS := by
  unfold nm nmL; rw [words_eq, List.map_take, List.map_drop]
def mkL (k : Nat) : Nat := marksL.getD k 0
theorem mk_eq (k : Nat) : mk k = tS [mkL k] := by
  unfold mk; rw [marks_eq]
  show _ = (⟨#[marksL.getD k 0]⟩ : Str)
  congr 2
  simp [tS, Array.getD_eq_getD_getElem?, List.getD_eq_getElem?_getD]

def prL : Nat → List (Nat × List Nat)
  | 0 => [(38, [38, 97, 109, 112, 59]), (60, [38, 108, 116, 59]), (62, [38, 103, 116, 59])]
  | 1 => [(38, [38, 97, 109, 112, 59]), (60, [38, 108, 116, 59]), (62, [38, 103, 116, 59]), (34, [38, 113, 117, 111, 116, 59]), (13, [38, 35, 49, 51, 59]), (10, [38, 35, 49, 48, 59]), (9, [38, 35, 48, 57, 59])]
  | 2 => [(38, [38, 97, 109, 112, 59]), (62, [38, 103, 116, 59]), (34, [38, 113, 117, 111, 116, 59])]
  | 3 => [(38, [38, 97, 109, 112, 59]), (60, [38, 108, 116, 59]), (62, [38, 103, 116, 59]), (13, [38, 35, 120, 68, 59])]
  | _ => [(38, [38, 97, 109, 112, 59]), (60, [38, 108, 116, 59]), (34, [38, 113, 117, 111, 116, 59]), (9, [38, 35, 120, 57, 59]), (10, [38, 35, 120, 65, 59]), (13, [38, 35, 120, 68, 59])]
def prsW : Nat → List (Str × Str)
  | 0 => prs0
  | 1 => prs1
  | 2 => prs2
  | 3 => prs3
  | _ => prs4
theorem five {P : Nat → Prop} (h0 : P 0) (h1 : P 1) (h2 : P 2) (h3 : P 3) (h4 : P 4) {wh : Nat} (hw : wh < 5) : P wh := by
  rcases (show wh = 0 ∨ wh = 1 ∨ wh = 2 ∨ wh = 3 ∨ wh = 4 by omega) with rfl | rfl | rfl | rfl | rfl <;> assumption
theorem prsW_eq {wh : Nat} (hw : wh < 5) : prsW wh = sPrs (prL wh) := five (P := fun wh => prsW wh = sPrs (prL wh)) (by decide +kernel) (by decide +kernel) (by decide +kernel) (by decide +kernel) (by decide +kernel) hw
/-- what a sign becomes -/
def phi (wh k : Nat) : List Nat := (tg (tblOf wh) (tS [k])).cps.toList
theorem esc_phi {wh : Nat} (hw : wh < 5) : ∀ k ∈ alphaL, escL (prL wh) [k] = phi wh k := five (P := fun wh => ∀ k ∈ alphaL, escL (prL wh) [k] = phi wh k) (by decide +kernel) (by decide +kernel) (by decide +kernel) (by decide +kernel) (by decide +kernel) hw
theorem esc_short {wh : Nat} (hw : wh < 5) : ∀ j ∈ List.range 8, ∀ k ∈ alphaL, (escL ((prL wh).take j) [k]).length ≤ 6 := five (P := fun wh => ∀ j ∈ List.range 8, ∀ k ∈ alphaL, (escL ((prL wh).take j) [k]).length ≤ 6) (by decide +kernel) (by decide +kernel) (by decide +kernel) (by decide +kernel) (by decide +kernel) hw
def clearB (a y : List Nat) : Bool := (List.range a.length).all fun j => clearAt (a.drop j) y
theorem Clear.of {a y : List Nat} (h : clearB a y = true) : Clear a y := fun j hj => by
  unfold clearB at h
  rw [List.all_eq_true] at h
  exact h j (List.mem_range.mpr hj)
theorem phi_clear {wh : Nat} (hw : wh < 5) : ∀ c ∈ marksL, ∀ s ∈ alphaL, s = c ∨ clearB (phi wh s) (phi wh c) = true :=
  five (P := fun wh => ∀ c ∈ marksL, ∀ s ∈ alphaL, s = c ∨ clearB (phi wh s) (phi wh c) = true) (by decide +kernel) (by decide +kernel) (by decide +kernel) (by decide +kernel) (by decide +kernel) hw
theorem phi_kind {wh : Nat} (hw : wh < 5) : ∀ c ∈ alphaL, (phi wh c ≠ [] ∧ (phi wh c).length ≤ 6) ∧ ∀ k ∈ phi wh c, k < 256 :=
  five (P := fun wh => ∀ c ∈ alphaL, (phi wh c ≠ [] ∧ (phi wh c).length ≤ 6) ∧ ∀ k ∈ phi wh c, k < 256) (by decide +kernel) (by decide +kernel) (by decide +kernel) (by decide +kernel) (by decide +kernel) hw
theorem words_ok : ∀ p ∈ wordsL, (p ≠ [] ∧ p.length ≤ 3) ∧ (∀ k ∈ p, k ∈ alphaL) ∧ ∀ m ∈ marksL, m ∉ p := by decide +kernel
theorem marks_in : ∀ m ∈ marksL, m ∈ alphaL := by decide +kernel
end Mine

namespace Mine
open PySem PySem.StrLaws PySem.Builtin PySem.Builtin.Str

theorem flat_congr {α β : Type} {f g : α → List β} : ∀ {l : List α}, (∀ a ∈ l, f a = g a) → l.flatMap f = l.flatMap g
  | [], _ => rfl
  | a :: l, h => by rw [List.flatMap_cons, List.flatMap_cons, h a (.head _), flat_congr fun b hb => h b (.tail _ hb)]
theorem flat_len {α β : Type} {f : α → List β} {n : Nat} : ∀ {l : List α}, (∀ a ∈ l, (f a).length ≤ n) → (l.flatMap f).length ≤ n * l.length
  | [], _ => by simp
  | a :: l, h => by
    have h1 := h a (.head _)
    have h2 := flat_len (l := l) fun b hb => h b (.tail _ hb)
    rw [List.flatMap_cons, List.length_append, List.length_cons, Nat.mul_succ]
    omega
theorem pr_small {wh : Nat} (hw : wh < 5) : (∀ p ∈ prL wh, p.1 < 256) ∧ (prL wh).length ≤ 7 := five (P := fun wh => (∀ p ∈ prL wh, p.1 < 256) ∧ (prL wh).length ≤ 7) (by decide +kernel) (by decide +kernel) (by decide +kernel) (by decide +kernel) (by decide +kernel) hw
theorem esc_page {wh : Nat} (hw : wh < 5) {l : List Nat} (hl : ∀ k ∈ l, k ∈ alphaL) : escAll (tS l) (prsW wh) = tS (l.flatMap (phi wh)) := by
  rw [prsW_eq hw, escAll_L _ _ (pr_small hw).1, escL_flat]
  congr 1
  exact flat_congr fun k hk => esc_phi hw k (hl k hk)
theorem esc_fits {wh : Nat} (hw : wh < 5) {l : List Nat} (hl : ∀ k ∈ l, k ∈ alphaL) (hlen : l.length ≤ 100000) : Fits (tS l) (prsW wh) := by
  intro k
  obtain ⟨h1, h2⟩ := pr_small hw
  rw [prsW_eq hw]
  have e : (sPrs (prL wh)).take k = sPrs ((prL wh).take k) := by unfold sPrs; rw [List.map_take]
  rw [e, escAll_L _ _ (fun p hp => h1 p (List.mem_of_mem_take hp)), escL_flat, tS_len]
  have e2 : (prL wh).take k = (prL wh).take (min k 7) := by
    by_cases h : k ≤ 7
    · rw [Nat.min_eq_left h]
    · rw [Nat.min_eq_right (by omega), List.take_of_length_le (by omega), List.take_of_length_le h2]
  rw [e2]
  have := flat_len (f := fun q => escL ((prL wh).take (min k 7)) [q]) (n := 6) (l := l) fun q hq => esc_short hw (min k 7) (List.mem_range.mpr (by omega)) q (hl q hq)
  omega
theorem page_join {wh : Nat} (l : List Nat) : tS (l.flatMap (phi wh)) = Txt.join "" ((signStrs (tS l)).map (tg (tblOf wh))) := by
  have e : (signStrs (tS l)).map (tg (tblOf wh)) = (l.map (phi wh)).map tS := by
    unfold signStrs
    rw [List.map_map, List.map_map]
    exact List.map_congr_left fun k _ => (tS_of _).symm
  have e0 : ("" : Str) = tS [] := by decide +kernel
  rw [e, e0, join_tS, joinZ_nil]; rfl

section
variable {prog : Program} {w : World} {g₀ : Heap} {mg mb : Str → Option Value}
theorem hand_writes (T : TopF g₀ mg mb) {wh : Nat} (hw : wh < 5) {x : Str} (h : Fits x (prsW wh)) : FnOk prog w g₀ 1 (fv mg (handName wh)) [.str x] (.str (escAll x (prsW wh))) := by
  rcases (show wh = 0 ∨ wh = 1 ∨ wh = 2 ∨ wh = 3 ∨ wh = 4 by omega) with rfl | rfl | rfl | rfl | rfl
  · exact esc0_ok T x h
  · exact esc1_ok T x h
  · exact esc2_ok T x h
  · exact esc3_ok T x h
  · exact esc4_ok T x h
theorem hand_page (T : TopF g₀ mg mb) {wh : Nat} (hw : wh < 5) {l : List Nat} (hl : ∀ k ∈ l, k ∈ alphaL) (hlen : l.length ≤ 100000) : FnOk prog w g₀ 1 (fv mg (handName wh)) [.str (tS l)] (.str (tS (l.flatMap (phi wh)))) := by
  have := hand_writes (prog := prog) (w := w) T hw (esc_fits hw hl hlen)
  rwa [esc_page hw hl] at this
end

/-! ### lines and text -/
def lineL (ci : Nat) (nms : List (List Nat)) (line : List Nat) : List Nat := joinZ [ci] (line.map fun g => nms.getD g [])
def textL (co ci : Nat) (nms gs : List (List Nat)) : List Nat := joinZ [co] (gs.map (lineL ci nms))
theorem empty_tS : ("" : Str) = tS [] := by decide +kernel
theorem getD_tS (nms : List (List Nat)) (g : Nat) : (nms.map tS).getD g "" = tS (nms.getD g []) := by
  rw [List.getD_eq_getElem?_getD, List.getElem?_map, List.getD_eq_getElem?_getD]
  cases nms[g]? with
  | none => exact empty_tS
  | some p => rfl
theorem lineS_eq (ci : Nat) (nms : List (List Nat)) (line : List Nat) : lineS (tS [ci]) (nms.map tS) line = tS (lineL ci nms line) := by
  unfold lineS lineL
  rw [← join_tS, List.map_map]
  congr 1
  exact List.map_congr_left fun g _ => getD_tS nms g
theorem textOf_eq (co ci : Nat) (nms gs : List (List Nat)) : textOf (tS [co]) (tS [ci]) (nms.map tS) gs = tS (textL co ci nms gs) := by
  unfold textOf textL
  rw [← join_tS, List.map_map]
  congr 1
  exact List.map_congr_left fun g _ => lineS_eq ci nms g

/-- what the names must be -/
structure NmOk (nms : List (List Nat)) : Prop where
  len : nms.length = 3
  ok : ∀ p ∈ nms, (p ≠ [] ∧ p.length ≤ 3) ∧ (∀ k ∈ p, k ∈ alphaL) ∧ ∀ m ∈ marksL, m ∉ p
theorem nm_ok {f : Nat} (hf : f < 46) : NmOk (nmL f) := by
  have h48 : wordsL.length = 48 := by decide +kernel
  refine ⟨by unfold nmL; rw [List.length_take, List.length_drop]; omega, fun p hp => words_ok p ?_⟩
  unfold nmL at hp
  exact List.mem_of_mem_drop (List.mem_of_mem_take hp)
theorem NmOk.get {nms : List (List Nat)} (N : NmOk nms) {g : Nat} (hg : g < 3) : nms.getD g [] ∈ nms := by
  rw [List.getD_eq_getElem?_getD, List.getElem?_eq_getElem (by rw [N.len]; exact hg)]
  exact List.getElem_mem _

theorem mem_joinZ {z : List Nat} {k : Nat} : ∀ {ps : List (List Nat)}, k ∈ joinZ z ps → k ∈ z ∨ ∃ p ∈ ps, k ∈ p
  | [], h => nomatch h
  | [p], h => .inr ⟨p, .head _, h⟩
  | p :: q :: r, h => by
    have h : k ∈ p ++ z ++ joinZ z (q :: r) := h
    rcases List.mem_append.mp h with h | h
    · rcases List.mem_append.mp h with h | h
      · exact .inr ⟨p, .head _, h⟩
      · exact .inl h
    · rcases mem_joinZ h with h | ⟨x, hx, h⟩
      · exact .inl h
      · exact .inr ⟨x, .tail _ hx, h⟩
theorem joinZ_len {z : List Nat} {n : Nat} : ∀ {ps : List (List Nat)}, (∀ p ∈ ps, p.length ≤ n) → (joinZ z ps).length ≤ ps.length * (n + z.length)
  | [], _ => by simp [joinZ]
  | [p], h => by have := h p (.head _); simp only [joinZ, List.length_cons, List.length_nil]; omega
  | p :: q :: r, h => by
    have h1 := h p (.head _)
    have h2 := joinZ_len (z := z) (ps := q :: r) fun x hx => h x (.tail _ hx)
    show (p ++ z ++ joinZ z (q :: r)).length ≤ _
    rw [List.length_append, List.length_append]
    rw [List.length_cons, Nat.succ_mul]
    omega

/-- the gaps of all lines -/
structure GsOk (gs : List (List Nat)) : Prop where
  ne : gs ≠ []
  len : gs.length ≤ 24
  line : ∀ l ∈ gs, l.length ≤ 3 ∧ ∀ g ∈ l, g < 3

section
variable {nms gs : List (List Nat)} {co ci wh : Nat}
theorem name_mem (N : NmOk nms) {line : List Nat} (h : ∀ g ∈ line, g < 3) : ∀ p ∈ line.map (fun g => nms.getD g []), p ∈ nms := by
  intro p hp
  obtain ⟨g, hg, rfl⟩ := List.mem_map.mp hp
  exact N.get (h g hg)
theorem line_alpha (N : NmOk nms) (hi : ci ∈ marksL) {line : List Nat} (h : ∀ g ∈ line, g < 3) : ∀ k ∈ lineL ci nms line, k ∈ alphaL := by
  intro k hk
  rcases mem_joinZ hk with hk | ⟨p, hp, hk⟩
  · rw [List.mem_singleton.mp hk]; exact marks_in _ hi
  · exact (N.ok p (name_mem N h p hp)).2.1 k hk
theorem line_free (N : NmOk nms) (ho : co ∈ marksL) (hne : co ≠ ci) {line : List Nat} (h : ∀ g ∈ line, g < 3) : co ∉ lineL ci nms line := by
  intro hk
  rcases mem_joinZ hk with hk | ⟨p, hp, hk⟩
  · exact hne (List.mem_singleton.mp hk)
  · exact (N.ok p (name_mem N h p hp)).2.2 co ho hk
theorem line_len (N : NmOk nms) {line : List Nat} (h : line.length ≤ 3 ∧ ∀ g ∈ line, g < 3) : (lineL ci nms line).length ≤ 12 := by
  have := joinZ_len (z := [ci]) (n := 3) (ps := line.map fun g => nms.getD g []) fun p hp => (N.ok p (name_mem N h.2 p hp)).1.2
  rw [List.length_map] at this
  have h3 := h.1
  have : line.length * (3 + [ci].length) ≤ 3 * 4 := Nat.mul_le_mul h3 (by simp)
  unfold lineL; omega
theorem text_alpha (N : NmOk nms) (G : GsOk gs) (ho : co ∈ marksL) (hi : ci ∈ marksL) : ∀ k ∈ textL co ci nms gs, k ∈ alphaL := by
  intro k hk
  rcases mem_joinZ hk with hk | ⟨p, hp, hk⟩
  · rw [List.mem_singleton.mp hk]; exact marks_in _ ho
  · obtain ⟨l, hl, rfl⟩ := List.mem_map.mp hp
    exact line_alpha N hi (G.line l hl).2 k hk
theorem text_len (N : NmOk nms) (G : GsOk gs) : (textL co ci nms gs).length ≤ 312 := by
  have := joinZ_len (z := [co]) (n := 12) (ps := gs.map (lineL ci nms)) fun p hp => by
    obtain ⟨l, hl, rfl⟩ := List.mem_map.mp hp
    exact line_len N (G.line l hl)
  rw [List.length_map] at this
  have h2 : gs.length * (12 + [co].length) ≤ 24 * 13 := Nat.mul_le_mul G.len (by simp)
  unfold textL; omega

theorem phi_tS (k : Nat) : tg (tblOf wh) (tS [k]) = tS (phi wh k) := (tS_of _).symm

theorem split_text (hw : wh < 5) (N : NmOk nms) (G : GsOk gs) (ho : co ∈ marksL) (hi : ci ∈ marksL) (hne : co ≠ ci) :
    Txt.split (tS ((textL co ci nms gs).flatMap (phi wh))) (tS (phi wh co)) = gs.map fun l => tS ((lineL ci nms l).flatMap (phi wh)) := by
  have hk := phi_kind hw co (marks_in _ ho)
  rw [split_code (kind1 hk.2) hk.1.1 fun s hs => (phi_clear hw co ho s (text_alpha N G ho hi s hs)).imp _root_.id Clear.of]
  have e : cutN co (textL co ci nms gs) = gs.map (lineL ci nms) := cutN_join (by simpa using G.ne) fun p hp => by
    obtain ⟨l, hl, rfl⟩ := List.mem_map.mp hp
    exact line_free N ho hne (G.line l hl).2
  rw [e, List.map_map]; rfl
theorem split_line (hw : wh < 5) (N : NmOk nms) (hi : ci ∈ marksL) {line : List Nat} (hl : line.length ≤ 3 ∧ ∀ g ∈ line, g < 3) :
    (Txt.split (tS ((lineL ci nms line).flatMap (phi wh))) (tS (phi wh ci))).filter (fun s => s != ("" : Str)) = line.map fun g => (nms.map fun p => tS (p.flatMap (phi wh))).getD g "" := by
  have hk := phi_kind hw ci (marks_in _ hi)
  rw [split_code (kind1 hk.2) hk.1.1 fun s hs => (phi_clear hw ci hi s (line_alpha N hi hl.2 s hs)).imp _root_.id Clear.of]
  cases line with
  | nil =>
    show (([[]] : List (List Nat)).map fun p => tS (p.flatMap (phi wh))).filter _ = []
    simp [empty_tS]
  | cons g r =>
    have e : cutN ci (lineL ci nms (g :: r)) = (g :: r).map fun g => nms.getD g [] := cutN_join (by simp) fun p hp => (N.ok p (name_mem N hl.2 p hp)).2.2 ci hi
    rw [e, List.map_map, List.filter_eq_self.mpr]
    · refine List.map_congr_left fun x hx => ?_
      have h3 := hl.2 x hx
      rw [List.getD_eq_getElem?_getD, List.getElem?_map, List.getElem?_eq_getElem (by rw [N.len]; exact h3)]
      show tS ((nms.getD x []).flatMap (phi wh)) = _
      rw [List.getD_eq_getElem?_getD, List.getElem?_eq_getElem (by rw [N.len]; exact h3)]; rfl
    · intro s hs
      obtain ⟨x, hx, rfl⟩ := List.mem_map.mp hs
      have hm := N.get (hl.2 x hx)
      obtain ⟨⟨h1, _⟩, h2, _⟩ := N.ok _ hm
      show (tS ((nms.getD x []).flatMap (phi wh)) != ("" : Str)) = true
      rw [bne_iff_ne, empty_tS]
      intro e
      have e : (nms.getD x []).flatMap (phi wh) = [] := congrArg (fun s : Str => s.cps.toList) e
      generalize nms.getD x [] = p at *
      cases p with
      | nil => exact h1 rfl
      | cons a p =>
        rw [List.flatMap_cons, List.append_eq_nil_iff] at e
        exact (phi_kind hw a (h2 a (.head _))).1.1 e.1
end
end Mine

namespace Mine
open PySem PySem.StrLaws PySem.Builtin PySem.Builtin.Str

theorem partsFrom_len (x : Str) (w : Nat) : ∀ (cuts : List Nat) (a : Nat), (partsFrom x w a cuts).length = cuts.length + 1
  | [], _ => rfl
  | c :: r, a => by show (partsFrom x w (c + w) r).length + 1 = _; rw [partsFrom_len x w r]; rfl
theorem splitOk_of {x y : Str} (hy : 1 ≤ y.length) (hx : x.length ≤ 10000) : SplitOk x y := by
  refine ⟨by rw [beq_eq_false_iff_ne]; omega, by unfold sizeLine; omega, ?_⟩
  rw [partsBetween_eq, partsFrom_len]
  have := occ_length_le x y 0 x.length (x.length + 1)
  unfold sizeLine; omega

def letL (wh f : Nat) : List Str := (nmL f).map fun p => tS (p.flatMap (phi wh))
theorem cost_chk {wh : Nat} (hw : wh < 5) : ∀ f ∈ List.range 46, ∀ g ∈ List.range 3, ∀ g' ∈ List.range 3, subst ((letL wh f).getD g "") ((letL wh f).getD g' "") = if g = g' then 0 else 2 :=
  five (P := fun wh => ∀ f ∈ List.range 46, ∀ g ∈ List.range 3, ∀ g' ∈ List.range 3, subst ((letL wh f).getD g "") ((letL wh f).getD g' "") = if g = g' then 0 else 2) (by decide +kernel) (by decide +kernel) (by decide +kernel) (by decide +kernel) (by decide +kernel) hw
theorem case_chk {wh : Nat} (hw : wh < 5) : ∀ p ∈ wordsL, (tS (p.flatMap (phi wh))).length ≤ 18 ∧ (Txt.upper (tS (p.flatMap (phi wh)))).length ≤ 18 ∧
    subst (tS (p.flatMap (phi wh))) (Txt.upper (tS (p.flatMap (phi wh)))) = amp (tS (p.flatMap (phi wh))) ∧ subst (Txt.upper (tS (p.flatMap (phi wh)))) (tS (p.flatMap (phi wh))) = amp (tS (p.flatMap (phi wh))) :=
  five (P := fun wh => ∀ p ∈ wordsL, (tS (p.flatMap (phi wh))).length ≤ 18 ∧ (Txt.upper (tS (p.flatMap (phi wh)))).length ≤ 18 ∧
    subst (tS (p.flatMap (phi wh))) (Txt.upper (tS (p.flatMap (phi wh)))) = amp (tS (p.flatMap (phi wh))) ∧ subst (Txt.upper (tS (p.flatMap (phi wh)))) (tS (p.flatMap (phi wh))) = amp (tS (p.flatMap (phi wh)))) (by decide +kernel) (by decide +kernel) (by decide +kernel) (by decide +kernel) (by decide +kernel) hw

def betaL : List Nat := [33, 37, 38, 40, 41, 42, 43, 44, 45, 46, 47, 58, 59, 60, 61, 62, 64, 91, 93, 94, 97, 103, 108, 109, 112, 116, 123, 124, 125, 126]
theorem beta_chk {wh : Nat} (hw : wh < 5) : ∀ p ∈ wordsL, ∀ k ∈ p.flatMap (phi wh), k ∈ betaL :=
  five (P := fun wh => ∀ p ∈ wordsL, ∀ k ∈ p.flatMap (phi wh), k ∈ betaL) (by decide +kernel) (by decide +kernel) (by decide +kernel) (by decide +kernel) (by decide +kernel) hw
theorem lone_chk : ∀ a ∈ betaL, (Txt.upper (tS [a])).length ≤ 3 ∧ ∀ b ∈ betaL, [subst (tS [a]) (tS [b]), subst (tS [a]) (Txt.upper (tS [b])), subst (Txt.upper (tS [a])) (tS [b])] = due26 (tS [a]) (tS [b]) := by decide +kernel

theorem lone_mem {l : List Nat} {a : Str} (h : a ∈ loneOf (tS l)) : ∃ k ∈ l, a = tS [k] := by
  unfold loneOf at h
  obtain ⟨i, hi, rfl⟩ := List.mem_map.mp h
  have hi := List.mem_range.mp (List.mem_filter.mp hi).1
  have hi : i < l.length := by simpa [tS] using hi
  refine ⟨l.getD i 0, ?_, rfl⟩
  rw [List.getD_eq_getElem?_getD, List.getElem?_eq_getElem hi]
  exact List.getElem_mem _
theorem lone_len (l : List Nat) : (loneOf (tS l)).length ≤ l.length := by
  unfold loneOf
  rw [List.length_map]
  have := List.length_filter_le (fun k => !occurs (takeS (tS l) k) (chr (tS l) k)) (List.range (tS l).cps.size)
  rw [List.length_range] at this
  exact this

def spL (wh f : Nat) : List Nat := ((nmL f).map fun p => p.flatMap (phi wh)).flatten
theorem sp_eq (wh f : Nat) : Txt.join "" (letL wh f) = tS (spL wh f) := by
  have : letL wh f = ((nmL f).map fun p => p.flatMap (phi wh)).map tS := by unfold letL; rw [List.map_map]; rfl
  rw [this, empty_tS, join_tS, joinZ_nil]; rfl
theorem nm_words {f : Nat} {p : List Nat} (hp : p ∈ nmL f) : p ∈ wordsL := by
  unfold nmL at hp
  exact List.mem_of_mem_drop (List.mem_of_mem_take hp)
theorem sp_beta {wh f : Nat} (hw : wh < 5) : ∀ k ∈ spL wh f, k ∈ betaL := by
  intro k hk
  unfold spL at hk
  obtain ⟨q, hq, hk⟩ := List.mem_flatten.mp hk
  obtain ⟨p, hp, rfl⟩ := List.mem_map.mp hq
  exact beta_chk hw p (nm_words hp) k hk
theorem nmL_len {f : Nat} (hf : f < 46) : (nmL f).length = 3 := (nm_ok hf).len
theorem sp_len {wh f : Nat} (hw : wh < 5) (hf : f < 46) : (spL wh f).length ≤ 54 := by
  have e : spL wh f = (nmL f).flatMap fun p => p.flatMap (phi wh) := rfl
  rw [e]
  have := flat_len (f := fun p : List Nat => p.flatMap (phi wh)) (n := 18) (l := nmL f) fun p hp => by
    have := (case_chk hw p (nm_words hp)).1
    rwa [tS_len] at this
  rw [nmL_len hf] at this
  exact this
theorem let_mem {wh f : Nat} {s : Str} (h : s ∈ letL wh f) : ∃ p ∈ wordsL, s = tS (p.flatMap (phi wh)) := by
  unfold letL at h
  obtain ⟨p, hp, rfl⟩ := List.mem_map.mp h
  exact ⟨p, nm_words hp, rfl⟩
theorem let_len {wh f : Nat} (hf : f < 46) : (letL wh f).length = 3 := by unfold letL; rw [List.length_map, nmL_len hf]

theorem facts23 {wh f : Nat} (hw : wh < 5) : ∀ s ∈ letL wh f, s.length ≤ 1000000 ∧ (Txt.upper s).length ≤ 1000000 ∧ subst s (Txt.upper s) = amp s ∧ subst (Txt.upper s) s = amp s := by
  intro s hs
  obtain ⟨p, hp, rfl⟩ := let_mem hs
  obtain ⟨a, b, c, d⟩ := case_chk hw p hp
  exact ⟨by omega, by omega, c, d⟩
theorem facts26 {wh f : Nat} (hw : wh < 5) : (∀ a ∈ loneOf (tS (spL wh f)), a.length ≤ 1000000 ∧ (Txt.upper a).length ≤ 1000000) ∧
    ∀ a ∈ loneOf (tS (spL wh f)), ∀ b ∈ loneOf (tS (spL wh f)), [subst a b, subst a (Txt.upper b), subst (Txt.upper a) b] = due26 a b := by
  refine ⟨fun a ha => ?_, fun a ha b hb => ?_⟩
  · obtain ⟨k, hk, rfl⟩ := lone_mem ha
    have := (lone_chk k (sp_beta hw k hk)).1
    refine ⟨?_, by omega⟩
    rw [tS_len]; exact Nat.le_trans (Nat.le_refl 1) (by omega)
  · obtain ⟨k, hk, rfl⟩ := lone_mem ha
    obtain ⟨j, hj, rfl⟩ := lone_mem hb
    exact (lone_chk k (sp_beta hw k hk)).2 j (sp_beta hw j hj)
theorem costs {wh f : Nat} (hw : wh < 5) (hf : f < 46) : ∀ g g', g < 3 → g' < 3 → subst ((letL wh f).getD g "") ((letL wh f).getD g' "") = if g = g' then 0 else 2 :=
  fun g g' hg hg' => cost_chk hw f (List.mem_range.mpr hf) g (List.mem_range.mpr hg) g' (List.mem_range.mpr hg')
theorem joinOk_of {sep : Str} {ss : List Str} {n : Nat} (h : ∀ s ∈ ss, s.length ≤ n) (hn : ss.length * n + ss.length * sep.length ≤ 16777216) : JoinOk sep ss := by
  unfold JoinOk
  have : (ss.map (·.length)).sum ≤ ss.length * n := StrLaws.sumLen_le ss h
  omega
end Mine

namespace Mine
open PySem

def gsOf (goal : List Int) : List (List Nat) := (prsOf goal).map (List.map (·.1))
def stepsG (goal : List Int) : Steps := (allSt (sdOf n3 goal) (gsOf goal) (gsOf goal).length).2
noncomputable def nthN (l : List Nat) : Nat → Nat := List.rec (motive := fun _ => Nat → Nat) (fun _ => 0) (fun x _ ih i => Nat.rec (motive := fun _ => Nat) x (fun j _ => ih j) i) l
noncomputable def addN (a : Nat) (l : List Nat) : Nat → List Nat := List.rec (motive := fun _ => Nat → List Nat) (fun _ => []) (fun x l ih i => Nat.rec (motive := fun _ => List Nat) (Nat.add x a :: l) (fun j _ => x :: ih j) i) l
noncomputable def augN (ws : List Nat) (q : Nat × Nat) : List Nat := addN (nthN ws q.2) ws q.1
noncomputable def gapN (steps : Steps) (ws : List Nat) (g : Nat) : List Nat := (steps.getD g []).foldl augN ws
noncomputable def turnN (steps : Steps) (k : Nat) (ws : List Nat) : List Nat := (([2, 1, 0] : List Nat).take k).foldl (gapN steps) ws
noncomputable def fullN (steps : Steps) (size : Nat) : Nat → List Nat
  | 0 => List.replicate (size - 1) 0 ++ [1]
  | r + 1 => turnN steps 3 (fullN steps size r)
noncomputable def waysN (steps : Steps) (size r : Nat) : List Nat := turnN steps 1 (turnN steps 2 (fullN steps size r))
/-- how far an order is from the first one -/
def invs : List Int → Nat
  | [] => 0
  | x :: l => (l.filter fun y => decide (y < x)).length + invs l
def fact : Nat → Nat
  | 0 => 1
  | n + 1 => (n + 1) * fact n
def zsOf (goal : List Int) : List Nat := (osOf goal).map invs
def tsOf (goal : List Int) : List Nat := (zsOf goal).map fact
abbrev Prs := List (List (Nat × Nat))
/-- the worths answer the rules -/
noncomputable def okF (prs : Prs) (us : List Nat) (b : Nat) : Bool := (prs.zip us).all fun x => decide (x.2 < 2 ^ 50) && (if x.1 = [] then x.2 == 1 else (x.1.map fun q => nthN us q.2 * (b + q.1)).sum == x.2)
def usOf (ts ws : List Nat) : List Nat := List.zipWith (· * ·) ts ws
noncomputable def runF (prs : Prs) (steps : Steps) (ts : List Nat) : Nat → Nat → List Nat → Bool
  | 0, _, _ => true
  | m + 1, b, ws => okF prs (usOf ts (turnN steps 1 (turnN steps 2 ws))) b && runF prs steps ts m (b + 1) (turnN steps 3 ws)
noncomputable def chkW (goal : List Int) : Bool := runF (prsOf goal) (stepsG goal) (tsOf goal) 46 7 (fullN (stepsG goal) (prsOf goal).length 7)
/-- the shape of the rules -/
def chkS (goal : List Int) : Bool :=
  decide ((osOf goal).length = (prsOf goal).length) && decide (1 ≤ (prsOf goal).length ∧ (prsOf goal).length ≤ 24) && decide ((stepsG goal).length = 3) && (stepsG goal).all (fun l => l.all fun q => decide (q.1 < (prsOf goal).length ∧ q.2 < (prsOf goal).length)) &&
  (prsOf goal).zipIdx.all (fun x => decide (x.1.length ≤ 3) && x.1.all (fun q => decide (q.1 < 3 ∧ x.2 < q.2 ∧ q.2 < (prsOf goal).length)) && decide ((zsOf goal).getD x.2 0 < 1000 ∧ (tsOf goal).getD x.2 0 < 10000) &&
    (match x.1 with
      | [] => decide ((zsOf goal).getD x.2 0 = 0 ∧ (tsOf goal).getD x.2 0 = 1)
      | q :: _ => decide ((zsOf goal).getD x.2 0 = (zsOf goal).getD q.2 0 + 1 ∧ (tsOf goal).getD x.2 0 = (tsOf goal).getD q.2 0 * (zsOf goal).getD x.2 0))) &&
  decide ((rulesOf (sdOf n3 goal)).length ≤ 1000)
theorem s_ok : ∀ goal ∈ perms24, chkS goal = true := by decide +kernel
theorem w_ok : ∀ goal ∈ perms24, chkW goal = true := by decide +kernel
end Mine

namespace Mine
open PySem

theorem nthN_cons (x : Nat) (l : List Nat) (i : Nat) : nthN (x :: l) i = Nat.rec (motive := fun _ => Nat) x (fun j _ => nthN l j) i := rfl
theorem nthN_eq : ∀ (l : List Nat) (i : Nat), nthN l i = l.getD i 0
  | [], i => by simp [nthN]
  | x :: l, 0 => by show x = _; simp
  | x :: l, i + 1 => by
    have := nthN_eq l i
    show nthN l i = _
    rw [this]; simp
theorem addN_eq (a : Nat) : ∀ (l : List Nat) (i : Nat), addN a l i = l.set i (l.getD i 0 + a)
  | [], i => by simp [addN]
  | x :: l, 0 => by
    show Nat.add x a :: l = _
    simp
  | x :: l, i + 1 => by
    have := addN_eq a l i
    show x :: addN a l i = _
    rw [this]; simp
theorem augN_eq (ws : List Nat) (q : Nat × Nat) : augN ws q = ws.set q.1 (ws.getD q.1 0 + ws.getD q.2 0) := by
  unfold augN; rw [addN_eq, nthN_eq]

def ofN (ws : List Nat) : List Int := ws.map Int.ofNat
theorem ofN_get (ws : List Nat) (i : Nat) : (ofN ws).getD i 0 = ((ws.getD i 0 : Nat) : Int) := by
  unfold ofN
  rw [List.getD_eq_getElem?_getD, List.getElem?_map, List.getD_eq_getElem?_getD]
  cases ws[i]? <;> rfl
theorem aug_of (ws : List Nat) (q : Nat × Nat) : aug (ofN ws) q = ofN (augN ws q) := by
  unfold aug
  rw [ofN_get, ofN_get, augN_eq]
  unfold ofN
  rw [List.map_set]; rfl
theorem fold_of {α : Type} {f : List Int → α → List Int} {g : List Nat → α → List Nat} (h : ∀ ws a, f (ofN ws) a = ofN (g ws a)) : ∀ (l : List α) (ws : List Nat), l.foldl f (ofN ws) = ofN (l.foldl g ws)
  | [], _ => rfl
  | a :: l, ws => by rw [List.foldl_cons, List.foldl_cons, h, fold_of h l]
theorem turn_of (steps : Steps) (k : Nat) (ws : List Nat) : turnRun steps k (ofN ws) = ofN (turnN steps k ws) := fold_of (f := gapRun steps) (g := gapN steps) (fun ws g => fold_of (f := aug) (g := augN) aug_of (steps.getD g []) ws) (([2, 1, 0] : List Nat).take k) ws
theorem turn_more (steps : Steps) (k : Nat) (h : 3 ≤ k) (ws : List Int) : turnRun steps k ws = turnRun steps 3 ws := by
  unfold turnRun
  rw [List.take_of_length_le (by simpa using h)]
  rfl
theorem along_ways (steps : Steps) (size rounds : Nat) : along steps size rounds (rounds + 2) = ofN (waysN steps size rounds) := by
  have base : List.replicate (size - 1) (0 : Int) ++ [1] = ofN (fullN steps size 0) := by
    unfold ofN; simp [fullN, List.map_append, List.map_replicate]
  have full : ∀ r, r ≤ rounds → along steps size rounds r = ofN (fullN steps size r) := by
    intro r
    induction r with
    | zero => intro _; exact base
    | succ r ih =>
      intro h
      unfold along at ih ⊢
      rw [List.range_succ, List.foldl_append, ih (by omega)]
      show turnRun steps (rounds + 2 - r) (ofN (fullN steps size r)) = _
      rw [turn_more _ _ (by omega), turn_of]; rfl
  have h0 := full rounds (Nat.le_refl _)
  unfold along at h0 ⊢
  rw [List.range_succ, List.foldl_append, List.range_succ, List.foldl_append, h0]
  show turnRun steps (rounds + 2 - (rounds + 1)) (turnRun steps (rounds + 2 - rounds) (ofN (fullN steps size rounds))) = _
  rw [show rounds + 2 - (rounds + 1) = 1 by omega, show rounds + 2 - rounds = 2 by omega, turn_of, turn_of]; rfl

theorem run_ok {prs : Prs} {steps : Steps} {ts : List Nat} {size : Nat} : ∀ (m r : Nat), runF prs steps ts m r (fullN steps size r) = true → ∀ j, j < m → okF prs (usOf ts (waysN steps size (r + j))) (r + j) = true
  | 0, _, _, j, h => absurd h (Nat.not_lt_zero _)
  | m + 1, r, h, j, hj => by
    have h : (okF prs (usOf ts (waysN steps size r)) r && runF prs steps ts m (r + 1) (fullN steps size (r + 1))) = true := h
    rw [Bool.and_eq_true] at h
    cases j with
    | zero => exact h.1
    | succ j =>
      have := run_ok m (r + 1) h.2 j (by omega)
      rwa [show r + 1 + j = r + (j + 1) by omega] at this
theorem worth_chk {goal : List Int} (hg : goal ∈ perms24) {f : Nat} (hf : f < 46) : okF (prsOf goal) (usOf (tsOf goal) (waysN (stepsG goal) (prsOf goal).length (f + 7))) (f + 7) = true := by
  have := run_ok 46 7 (w_ok goal hg) f hf
  rwa [Nat.add_comm 7 f] at this

theorem len_aug {ws : List Nat} {q : Nat × Nat} : (augN ws q).length = ws.length := by rw [augN_eq]; simp
theorem len_fold {α : Type} {g : List Nat → α → List Nat} (h : ∀ ws a, (g ws a).length = ws.length) : ∀ (l : List α) (ws : List Nat), (l.foldl g ws).length = ws.length
  | [], _ => rfl
  | a :: l, ws => by rw [List.foldl_cons, len_fold h l, h]
theorem len_turn {steps : Steps} {k : Nat} {ws : List Nat} : (turnN steps k ws).length = ws.length := len_fold (g := gapN steps) (fun ws g => len_fold (g := augN) (fun ws q => len_aug) (steps.getD g []) ws) (([2, 1, 0] : List Nat).take k) ws
theorem len_full {steps : Steps} {size : Nat} (h : 1 ≤ size) : ∀ r, (fullN steps size r).length = size
  | 0 => by simp [fullN]; omega
  | r + 1 => by show (turnN steps 3 (fullN steps size r)).length = _; rw [len_turn, len_full h r]
theorem len_ways {steps : Steps} {size r : Nat} (h : 1 ≤ size) : (waysN steps size r).length = size := by unfold waysN; rw [len_turn, len_turn, len_full h]
end Mine

namespace Mine
open PySem

def tab (n : Nat) (v : List Nat) (i : Nat) : Tab := (List.range i).map fun j => (256 + ((n - 1 - j : Nat) : Int), ((v.getD (n - 1 - j) 0 : Nat) : Int))
theorem tab_succ (n : Nat) (v : List Nat) (i : Nat) : tab n v (i + 1) = tab n v i ++ [(256 + ((n - 1 - i : Nat) : Int), ((v.getD (n - 1 - i) 0 : Nat) : Int))] := by
  unfold tab; rw [List.range_succ, List.map_append]; rfl
theorem lk_snoc (l : Tab) (k v k' : Int) : lk (l ++ [(k, v)]) k' = (lk l k').or (if k = k' then some v else none) := by
  unfold lk
  rw [List.find?_append]
  cases l.find? fun q => q.1 = k' with
  | some a => simp
  | none =>
    by_cases h : k = k'
    · simp [h]
    · simp [h]
theorem lk_tab {n : Nat} {v : List Nat} : ∀ {i p : Nat}, i ≤ n → lk (tab n v i) (256 + (p : Int)) = if n - i ≤ p ∧ p < n then some ((v.getD p 0 : Nat) : Int) else none
  | 0, p, _ => by
    rw [if_neg (by omega)]; rfl
  | i + 1, p, h => by
    rw [tab_succ, lk_snoc, lk_tab (i := i) (p := p) (by omega)]
    by_cases h1 : n - i ≤ p ∧ p < n
    · rw [if_pos h1, if_pos (show n - (i + 1) ≤ p ∧ p < n by omega)]; rfl
    · rw [if_neg h1]
      by_cases h2 : p = n - 1 - i
      · subst h2
        rw [if_pos rfl, if_pos (show n - (i + 1) ≤ n - 1 - i ∧ n - 1 - i < n by omega)]; rfl
      · rw [if_neg (show ¬ (256 + ((n - 1 - i : Nat) : Int) = 256 + (p : Int)) by omega), if_neg (show ¬ (n - (i + 1) ≤ p ∧ p < n) by omega)]; rfl

structure WOk (prs : Prs) (us zs ts : List Nat) (b : Nat) : Prop where
  n1 : 1 ≤ prs.length ∧ prs.length ≤ 24
  row : ∀ p, p < prs.length → (prs.getD p []).length ≤ 3 ∧ (∀ q ∈ prs.getD p [], q.1 < 3 ∧ p < q.2 ∧ q.2 < prs.length)
  small : ∀ p, p < prs.length → us.getD p 0 < 2 ^ 50 ∧ zs.getD p 0 < 1000 ∧ ts.getD p 0 < 10000
  leaf : ∀ p, p < prs.length → prs.getD p [] = [] → us.getD p 0 = 1 ∧ zs.getD p 0 = 0 ∧ ts.getD p 0 = 1
  step : ∀ p q r, p < prs.length → prs.getD p [] = q :: r → zs.getD p 0 = zs.getD q.2 0 + 1 ∧ ts.getD p 0 = ts.getD q.2 0 * zs.getD p 0 ∧ ((prs.getD p []).map fun q => us.getD q.2 0 * (b + q.1)).sum = us.getD p 0

theorem side_len {nb : List Int} : ∀ l : List (Nat × Nat), (sideOf nb l).length = 2 * l.length
  | [] => rfl
  | q :: l => by
    have e : sideOf nb (q :: l) = [256 + (q.2 : Int), nb.getD q.1 0] ++ sideOf nb l := rfl
    rw [e, List.length_append, side_len l]; simp; omega
theorem side_get {nb : List Int} : ∀ {l : List (Nat × Nat)} {k : Nat}, k < l.length → (sideOf nb l).getD (2 * k) 0 = 256 + (((l.getD k (0, 0)).2 : Nat) : Int) ∧ (sideOf nb l).getD (2 * k + 1) 0 = nb.getD (l.getD k (0, 0)).1 0
  | [], k, h => absurd h (Nat.not_lt_zero _)
  | q :: l, 0, _ => ⟨rfl, rfl⟩
  | q :: l, k + 1, h => by
    have ih := side_get (nb := nb) (l := l) (k := k) (by simpa using h)
    have e : sideOf nb (q :: l) = (256 + (q.2 : Int)) :: nb.getD q.1 0 :: sideOf nb l := rfl
    rw [e, show 2 * (k + 1) = 2 * k + 1 + 1 by omega]
    simp only [List.getD_cons_succ]
    exact ih
theorem sum_cast : ∀ l : List Nat, (l.map fun n : Nat => (n : Int)).sum = ((l.sum : Nat) : Int)
  | [] => rfl
  | a :: l => by rw [List.map_cons, List.sum_cons, List.sum_cons, sum_cast l]; omega

section
variable {prs : Prs} {us zs ts : List Nat} {b : Nat} {nb : List Int}
theorem getD_mem {α : Type} {l : List α} {k : Nat} {d : α} (h : k < l.length) : l.getD k d ∈ l := by
  rw [List.getD_eq_getElem?_getD, List.getElem?_eq_getElem h]; exact List.getElem_mem _
theorem sd_get {p : Nat} (h : p < prs.length) : (prs.map (sideOf nb)).getD p [] = sideOf nb (prs.getD p []) := by
  rw [List.getD_eq_getElem?_getD, List.getElem?_map, List.getD_eq_getElem?_getD, List.getElem?_eq_getElem h]; rfl
theorem wprods_tab (W : WOk prs us zs ts b) (hnb : ∀ g, g < 3 → nb.getD g 0 = ((b + g : Nat) : Int)) {i : Nat} (hi : i < prs.length) :
    wprods (tab prs.length us i) (sideOf nb (prs.getD (prs.length - 1 - i) [])) = (((prs.getD (prs.length - 1 - i) []).map fun q => us.getD q.2 0 * (b + q.1)).map fun n : Nat => (n : Int)) := by
  have hp : prs.length - 1 - i < prs.length := by omega
  obtain ⟨_, hq⟩ := W.row _ hp
  unfold wprods
  rw [side_len, Nat.mul_div_cancel_left _ (by omega), List.map_map]
  rw [← map_range_getD ((fun n : Nat => (n : Int)) ∘ fun q : Nat × Nat => us.getD q.2 0 * (b + q.1)) (prs.getD (prs.length - 1 - i) []) (0, 0)]
  refine List.map_congr_left fun k hk => ?_
  have hk := List.mem_range.mp hk
  obtain ⟨e1, e2⟩ := side_get (nb := nb) hk
  have hm := getD_mem (d := ((0, 0) : Nat × Nat)) hk
  obtain ⟨h1, h2, h3⟩ := hq _ hm
  rw [e1, e2, lk_tab (by omega), if_pos (by omega), hnb _ h1]
  simp
theorem wst_tab (W : WOk prs us zs ts b) (hnb : ∀ g, g < 3 → nb.getD g 0 = ((b + g : Nat) : Int)) : ∀ i, i ≤ prs.length → wst (prs.map (sideOf nb)) i = (tab prs.length us i, tab prs.length zs i, tab prs.length ts i)
  | 0, _ => rfl
  | i + 1, h => by
    have hp : prs.length - 1 - i < prs.length := by omega
    rw [wst_succ, wst_tab W hnb i (by omega), List.length_map, tab_succ, tab_succ, tab_succ]
    unfold wstep
    dsimp only
    rw [sd_get hp, wprods_tab W hnb (by omega)]
    cases hl : prs.getD (prs.length - 1 - i) [] with
    | nil =>
      obtain ⟨a, b, c⟩ := W.leaf _ hp hl
      rw [if_pos (show sideOf nb [] = [] from rfl), a, b, c]; rfl
    | cons q r =>
      obtain ⟨a, b', c⟩ := W.step _ q r hp hl
      have hq := (W.row _ hp).2 q (by rw [hl]; exact .head _)
      have e0 : (sideOf nb (q :: r)).getD 0 0 = 256 + (q.2 : Int) := rfl
      rw [if_neg (by intro e; have := congrArg List.length e; rw [side_len] at this; simp at this), e0, lk_tab (by omega), if_pos (by omega), lk_tab (by omega), if_pos (by omega), ← hl, sum_cast, c, a, b', a]
      simp
theorem wgood_tab (W : WOk prs us zs ts b) (hb : b + 3 < 1000) (hnb : ∀ g, g < 3 → nb.getD g 0 = ((b + g : Nat) : Int)) : ∀ i, i < (prs.map (sideOf nb)).length → wgood (prs.map (sideOf nb)) (wst (prs.map (sideOf nb)) i) ((prs.map (sideOf nb)).length - 1 - i) = true := by
  intro i hi
  rw [List.length_map] at hi ⊢
  have hp : prs.length - 1 - i < prs.length := by omega
  obtain ⟨h3, hq⟩ := W.row _ hp
  rw [wst_tab W hnb i (by omega)]
  unfold wgood
  dsimp only
  rw [sd_get hp, wprods_tab W hnb hi, sum_cast, side_len]
  have nope : ∀ v : List Nat, lk (tab prs.length v i) (256 + ((prs.length - 1 - i : Nat) : Int)) = none := fun v => by rw [lk_tab (by omega), if_neg (by omega)]
  rw [nope, nope, nope]
  simp only [Bool.and_eq_true, Option.isNone_none, Bool.or_eq_true, decide_eq_true_eq, List.all_eq_true, List.mem_range, beq_iff_eq]
  refine ⟨⟨⟨⟨⟨⟨⟨trivial, trivial⟩, trivial⟩, by omega⟩, by omega⟩, fun k hk => ?_⟩, ?_⟩, ?_⟩
  · have hk : k < (prs.getD (prs.length - 1 - i) []).length := by omega
    obtain ⟨e1, e2⟩ := side_get (nb := nb) hk
    obtain ⟨h1, h2, h3⟩ := hq _ (getD_mem (d := ((0, 0) : Nat × Nat)) hk)
    rw [e1, e2, lk_tab (by omega), if_pos (by omega), hnb _ h1]
    have := (W.small _ h3).1
    simp only [Bool.and_eq_true, decide_eq_true_eq]
    omega
  · cases hl : prs.getD (prs.length - 1 - i) [] with
    | nil => simp
    | cons q r =>
      obtain ⟨_, _, c⟩ := W.step _ q r hp hl
      rw [← hl, c]
      have := (W.small _ hp).1
      omega
  · cases hl : prs.getD (prs.length - 1 - i) [] with
    | nil => exact .inl rfl
    | cons q r =>
      have hq := hq q (by rw [hl]; exact .head _)
      have e0 : (sideOf nb (q :: r)).getD 0 0 = 256 + (q.2 : Int) := rfl
      have hs := W.small _ hq.2.2
      rw [e0, lk_tab (by omega), if_pos (by omega), lk_tab (by omega), if_pos (by omega)]
      refine .inr ⟨?_, ?_⟩
      · simp only [decide_eq_true_eq]; omega
      · simp only [decide_eq_true_eq]; omega
end
end Mine

namespace Mine
open PySem

structure SOk (goal : List Int) : Prop where
  osl : (osOf goal).length = (prsOf goal).length
  n1 : 1 ≤ (prsOf goal).length ∧ (prsOf goal).length ≤ 24
  st3 : (stepsG goal).length = 3
  stp : ∀ l ∈ stepsG goal, ∀ q ∈ l, q.1 < (prsOf goal).length ∧ q.2 < (prsOf goal).length
  row : ∀ p, p < (prsOf goal).length → ((prsOf goal).getD p []).length ≤ 3 ∧ (∀ q ∈ (prsOf goal).getD p [], q.1 < 3 ∧ p < q.2 ∧ q.2 < (prsOf goal).length) ∧ (zsOf goal).getD p 0 < 1000 ∧ (tsOf goal).getD p 0 < 10000 ∧
    ((prsOf goal).getD p [] = [] → (zsOf goal).getD p 0 = 0 ∧ (tsOf goal).getD p 0 = 1) ∧
    ∀ q r, (prsOf goal).getD p [] = q :: r → (zsOf goal).getD p 0 = (zsOf goal).getD q.2 0 + 1 ∧ (tsOf goal).getD p 0 = (tsOf goal).getD q.2 0 * (zsOf goal).getD p 0
  rules : (rulesOf (sdOf n3 goal)).length ≤ 1000
theorem s_of {goal : List Int} (hg : goal ∈ perms24) : SOk goal := by
  have h := s_ok goal hg
  unfold chkS at h
  simp only [Bool.and_eq_true, decide_eq_true_eq, List.all_eq_true] at h
  obtain ⟨⟨⟨⟨⟨a, b⟩, c⟩, d⟩, e⟩, r⟩ := h
  refine ⟨a, b, c, d, fun p hp => ?_, r⟩
  have hm : ((prsOf goal).getD p [], p) ∈ (prsOf goal).zipIdx := by
    rw [List.mem_zipIdx_iff_getElem?]
    show (prsOf goal)[p]? = some ((prsOf goal).getD p [])
    rw [List.getD_eq_getElem?_getD, List.getElem?_eq_getElem hp]; rfl
  obtain ⟨⟨⟨e1, e2⟩, e3⟩, e4⟩ := e _ hm
  refine ⟨e1, e2, e3.1, e3.2, fun h0 => ?_, fun q r h0 => ?_⟩
  · dsimp only at e4
    rw [h0] at e4
    exact of_decide_eq_true e4
  · dsimp only at e4
    rw [h0] at e4
    exact of_decide_eq_true e4

noncomputable def wsOf (goal : List Int) (f : Nat) : List Nat := waysN (stepsG goal) (prsOf goal).length (f + 7)
noncomputable def uOf (goal : List Int) (f : Nat) : List Nat := usOf (tsOf goal) (wsOf goal f)
theorem uOf_get {goal : List Int} (hg : goal ∈ perms24) {f p : Nat} (hp : p < (prsOf goal).length) :
    (uOf goal f).length = (prsOf goal).length ∧ (wsOf goal f)[p]? = some ((wsOf goal f).getD p 0) ∧ (uOf goal f).getD p 0 = (tsOf goal).getD p 0 * (wsOf goal f).getD p 0 := by
  have S := s_of hg
  have l1 : (tsOf goal).length = (prsOf goal).length := by rw [← S.osl]; simp [tsOf, zsOf]
  have l2 : (wsOf goal f).length = (prsOf goal).length := len_ways S.n1.1
  have l3 : (uOf goal f).length = (prsOf goal).length := by unfold uOf usOf; rw [List.length_zipWith]; omega
  refine ⟨l3, ?_, ?_⟩
  · rw [List.getD_eq_getElem?_getD, List.getElem?_eq_getElem (by omega)]; rfl
  · rw [List.getD_eq_getElem?_getD, List.getElem?_eq_getElem (by omega), List.getD_eq_getElem?_getD, List.getElem?_eq_getElem (by omega), List.getD_eq_getElem?_getD, List.getElem?_eq_getElem (by omega)]
    simp only [Option.getD_some]
    simp only [uOf, usOf, List.getElem_zipWith]
theorem w_of {goal : List Int} (hg : goal ∈ perms24) {f : Nat} (hf : f < 46) : WOk (prsOf goal) (uOf goal f) (zsOf goal) (tsOf goal) (f + 7) := by
  have S := s_of hg
  have W := worth_chk hg hf
  have row : ∀ p, p < (prsOf goal).length → (uOf goal f).getD p 0 < 2 ^ 50 ∧ (if (prsOf goal).getD p [] = [] then ((uOf goal f).getD p 0 == 1) else (((prsOf goal).getD p []).map fun q => nthN (uOf goal f) q.2 * (f + 7 + q.1)).sum == (uOf goal f).getD p 0) = true := by
    intro p hp
    have W : okF (prsOf goal) (uOf goal f) (f + 7) = true := W
    unfold okF at W
    rw [List.all_eq_true] at W
    have hl := (uOf_get hg (f := f) hp).1
    have hm : ((prsOf goal).getD p [], (uOf goal f).getD p 0) ∈ (prsOf goal).zip (uOf goal f) := by
      rw [List.mem_iff_getElem]
      refine ⟨p, by rw [List.length_zip]; omega, ?_⟩
      rw [List.getElem_zip, List.getD_eq_getElem?_getD, List.getElem?_eq_getElem hp, List.getD_eq_getElem?_getD, List.getElem?_eq_getElem (by omega)]; rfl
    have := W _ hm
    rw [Bool.and_eq_true, decide_eq_true_eq] at this
    exact this
  refine ⟨S.n1, fun p hp => ⟨(S.row p hp).1, (S.row p hp).2.1⟩, fun p hp => ⟨(row p hp).1, (S.row p hp).2.2.1, (S.row p hp).2.2.2.1⟩, fun p hp h0 => ?_, fun p q r hp h0 => ?_⟩
  · have h1 := (row p hp).2
    rw [if_pos h0, beq_iff_eq] at h1
    exact ⟨h1, (S.row p hp).2.2.2.2.1 h0⟩
  · have h1 := (row p hp).2
    rw [if_neg (by rw [h0]; exact List.cons_ne_nil _ _), beq_iff_eq] at h1
    have h2 := (S.row p hp).2.2.2.2.2 q r h0
    refine ⟨h2.1, h2.2, ?_⟩
    rw [← h1]
    congr 1
    exact List.map_congr_left fun q _ => by rw [nthN_eq]

/-! ### the steps do not hang on the numbers -/
theorem less_same {nb nb' : List Int} (prs : Prs) : lessAt (prs.map (sideOf nb)) = lessAt (prs.map (sideOf nb')) := by
  funext p k
  unfold lessAt
  congr 2
  by_cases hp : p < prs.length
  · rw [sd_get hp, sd_get hp]
    by_cases hk : k < (prs.getD p []).length
    · rw [(side_get hk).1, (side_get hk).1]
    · rw [List.getD_eq_getElem?_getD, List.getElem?_eq_none (by rw [side_len]; omega), List.getD_eq_getElem?_getD, List.getElem?_eq_none (by rw [side_len]; omega)]
  · have e : ∀ nb, (prs.map (sideOf nb)).getD p [] = [] := fun nb => by
      rw [List.getD_eq_getElem?_getD, List.getElem?_eq_none (by rw [List.length_map]; omega)]; rfl
    rw [e, e]
theorem allSt_same {sd sd' : List (List Int)} (h : lessAt sd = lessAt sd') (gs : List (List Nat)) (m : Nat) : allSt sd gs m = allSt sd' gs m := by
  have e : pieceSt sd = pieceSt sd' := by funext gsp p st k; unfold pieceSt; rw [h]
  have e2 : placeSt sd = placeSt sd' := by funext gs st p; unfold placeSt; rw [e]
  unfold allSt; rw [e2]
theorem steps_eq {goal nb : List Int} : (allSt (sdOf nb goal) (gsOf goal) (gsOf goal).length).2 = stepsG goal := by
  unfold stepsG
  exact congrArg Prod.snd (allSt_same (sd := sdOf nb goal) (sd' := sdOf n3 goal) (less_same (nb := nb) (nb' := n3) (prsOf goal)) (gsOf goal) (gsOf goal).length)
end Mine

namespace Mine
open PySem PySem.StrLaws

/-! ### the cells -/
theorem cells_ok (xs : List Int) : ∀ i, i ≤ xs.length → ∃ x b d : Nat, cellsOf xs i = [(x : Int), (b : Int), (d : Int)] ∧ 0 < x + b + d ∧ x + b + d ≤ 2000 + 1000000 * i
  | 0, _ => ⟨13, 993, 11, rfl, by omega, by omega⟩
  | i + 1, h => by
    obtain ⟨x, b, d, e, h1, h2⟩ := cells_ok xs i (by omega)
    have hx : xs[i]? = some xs[i] := List.getElem?_eq_getElem (by omega)
    have hm : 0 ≤ (xs[i]).fmod 1000000 ∧ (xs[i]).fmod 1000000 < 1000000 := ⟨Int.fmod_nonneg_of_pos _ (by decide), Int.fmod_lt_of_pos _ (by decide)⟩
    generalize hy : (xs[i]).fmod 1000000 = y at hm
    obtain ⟨m, rfl⟩ : ∃ m : Nat, y = (m : Int) := ⟨y.toNat, by omega⟩
    have hstep : cellsOf xs (i + 1) = cellStep (cellsOf xs i) (i, xs[i]) := cellsOf_succ hx
    rw [e] at hstep
    unfold cellStep at hstep
    simp only [hy] at hstep
    have : i % 3 = 0 ∨ i % 3 = 1 ∨ i % 3 = 2 := by omega
    rcases this with h3 | h3 | h3
    · rw [h3] at hstep
      exact ⟨x + m, b, d, by rw [hstep]; simp, by omega, by omega⟩
    · rw [h3] at hstep
      exact ⟨x, b + m, d, by rw [hstep]; simp, by omega, by omega⟩
    · rw [h3] at hstep
      exact ⟨x, b, d + m, by rw [hstep]; simp, by omega, by omega⟩

theorem gaps0_le (b : Nat) : ∀ g ∈ gaps0 b, g ≤ 2 := by
  intro g hg
  unfold gaps0 at hg
  have := of_decide_eq_true (List.mem_filter.mp hg).2
  omega
theorem mkL_in {k : Nat} (h : k < 4) : mkL k ∈ marksL := by
  have : k = 0 ∨ k = 1 ∨ k = 2 ∨ k = 3 := by omega
  rcases this with rfl | rfl | rfl | rfl <;> decide
theorem mkL_ne {j k : Nat} (hj : j < 4) (hk : k < 4) (h : j ≠ k) : mkL j ≠ mkL k := by
  have : ∀ j ∈ List.range 4, ∀ k ∈ List.range 4, j ≠ k → mkL j ≠ mkL k := by decide +kernel
  exact this j (List.mem_range.mpr hj) k (List.mem_range.mpr hk) h

theorem map_fst_get {l : List (Nat × Nat)} {k : Nat} (hk : k < l.length) : (l.map (·.1)).getD k 0 = (l.getD k (0, 0)).1 := by
  rw [List.getD_eq_getElem?_getD, List.getElem?_map, List.getD_eq_getElem?_getD, List.getElem?_eq_getElem hk]; rfl

section
variable {goal : List Int} {f wh co ci : Nat}
theorem prs_lt (goal : List Int) : ∀ l ∈ prsOf goal, ∀ q ∈ l, q.1 < 3 := by
  intro l hl
  unfold prsOf at hl
  obtain ⟨p, _, rfl⟩ := List.mem_map.mp hl
  exact pairs_lt
theorem gs_eq (hf : f < 46) : (sdOf (nbs f) goal).map (gapsOf (nbs f)) = gsOf goal := by
  unfold sdOf gsOf
  rw [List.map_map]
  exact List.map_congr_left fun l hl => gapsOf_side hf (prs_lt goal l hl)
theorem getD_of_mem {α : Type} {l : List α} {a d : α} (h : a ∈ l) : ∃ p, p < l.length ∧ l.getD p d = a := by
  obtain ⟨i, hi, e⟩ := List.mem_iff_getElem.mp h
  exact ⟨i, hi, by rw [List.getD_eq_getElem?_getD, List.getElem?_eq_getElem hi, e]; rfl⟩
theorem gs_ok (hg : goal ∈ perms24) : GsOk (gsOf goal) := by
  have S := s_of hg
  refine ⟨fun e => ?_, by simp only [gsOf, List.length_map]; exact S.n1.2, fun l hl => ?_⟩
  · have := congrArg List.length e
    simp only [gsOf, List.length_map, List.length_nil] at this
    have := S.n1.1
    omega
  · obtain ⟨r, hr, rfl⟩ := List.mem_map.mp hl
    obtain ⟨p, hp, e⟩ := getD_of_mem (d := ([] : List (Nat × Nat))) hr
    have := S.row p hp
    rw [e] at this
    refine ⟨by rw [List.length_map]; exact this.1, fun g hg => ?_⟩
    obtain ⟨q, hq, rfl⟩ := List.mem_map.mp hg
    exact (this.2.1 q hq).1
theorem gs_get (p : Nat) : (gsOf goal).getD p [] = ((prsOf goal).getD p []).map (·.1) := by
  unfold gsOf
  rw [List.getD_eq_getElem?_getD, List.getElem?_map, List.getD_eq_getElem?_getD]
  cases (prsOf goal)[p]? <;> rfl
theorem sd_mem {s : List Int} (hg : goal ∈ perms24) (h : s ∈ sdOf (nbs f) goal) : s.length ≤ 1000 ∧ ∀ v ∈ s, v < 256 → v ∈ nbs f := by
  unfold sdOf at h
  obtain ⟨l, hl, rfl⟩ := List.mem_map.mp h
  obtain ⟨p, hp, e⟩ := getD_of_mem (d := ([] : List (Nat × Nat))) hl
  have := (s_of hg).row p hp
  rw [e] at this
  refine ⟨by rw [side_len]; omega, fun v hv hlt => ?_⟩
  unfold sideOf at hv
  obtain ⟨q, hq, hv⟩ := List.mem_flatMap.mp hv
  rcases List.mem_cons.mp hv with rfl | hv
  · omega
  · rw [List.mem_singleton.mp hv]
    have h3 := (this.2.1 q hq).1
    exact getD_mem (by simpa [nbs] using h3)
theorem rules_len (hg : goal ∈ perms24) : (rulesOf (sdOf (nbs f) goal)).length ≤ 1000 := by
  rw [sd_sg (nb := nbs f), rulesOf_sg, List.length_map]
  exact (s_of hg).rules

noncomputable def lnsOf (wh f ci : Nat) (goal : List Int) : List Str := (gsOf goal).map fun l => tS ((lineL ci (nmL f) l).flatMap (phi wh))
theorem f19 (hg : goal ∈ perms24) (hf : f < 46) (hw : wh < 5) (ho : co ∈ marksL) (hi : ci ∈ marksL) (hne : co ≠ ci) :
    F19 (gsOf goal) (sdOf (nbs f) goal) (letL wh f) (lnsOf wh f ci goal) (tS ((textL co ci (nmL f) (gsOf goal)).flatMap (phi wh))) (tS (phi wh co)) (tS (phi wh ci)) := by
  have S := s_of hg
  have N := nm_ok hf
  have G := gs_ok hg
  have hgl : (gsOf goal).length = (prsOf goal).length := by simp [gsOf]
  have yo : ∀ c ∈ marksL, 1 ≤ (tS (phi wh c)).length := fun c hc => by
    rw [tS_len]
    have := (phi_kind hw c (marks_in c hc)).1.1
    cases h : phi wh c with
    | nil => exact absurd h this
    | cons _ _ => simp
  have lnget : ∀ p, p < (gsOf goal).length → (lnsOf wh f ci goal).getD p "" = tS ((lineL ci (nmL f) ((gsOf goal).getD p [])).flatMap (phi wh)) := fun p hp => by
    unfold lnsOf
    rw [List.getD_eq_getElem?_getD, List.getElem?_map, List.getD_eq_getElem?_getD, List.getElem?_eq_getElem hp]; rfl
  have lnlen : ∀ p, p < (gsOf goal).length → ((lnsOf wh f ci goal).getD p "").length ≤ 72 := fun p hp => by
    have hl := G.line _ (getD_mem (d := ([] : List Nat)) hp)
    rw [lnget p hp, tS_len]
    have h1 := flat_len (f := phi wh) (n := 6) (l := lineL ci (nmL f) ((gsOf goal).getD p [])) fun k hk => (phi_kind hw k (line_alpha N hi hl.2 k hk)).1.2
    have h2 := line_len (ci := ci) N hl
    omega
  refine ⟨split_text hw N G ho hi hne, splitOk_of (yo co ho) ?_, by simp [lnsOf], by have := G.len; omega, fun p hp => ?_, fun p hp => ?_, fun p hp => ?_, ?_, costs hw hf, by simp [sdOf, gsOf]⟩
  · rw [tS_len]
    have h1 := flat_len (f := phi wh) (n := 6) (l := textL co ci (nmL f) (gsOf goal)) fun k hk => (phi_kind hw k (text_alpha N G ho hi k hk)).1.2
    have h2 := text_len (co := co) (ci := ci) N G
    omega
  · rw [lnget p hp]
    exact split_line hw N hi (G.line _ (getD_mem hp))
  · refine ⟨splitOk_of (yo ci hi) (by have := lnlen p hp; omega), ?_⟩
    have := PyProof.Rows.split_le ((lnsOf wh f ci goal).getD p "") (tS (phi wh ci))
    have := lnlen p hp
    omega
  · have hp' : p < (prsOf goal).length := by omega
    obtain ⟨r1, r2, _⟩ := S.row p hp'
    rw [gs_get, List.length_map]
    refine ⟨by omega, fun k hk => ?_⟩
    have e := map_fst_get hk
    have hq := r2 _ (getD_mem (d := ((0, 0) : Nat × Nat)) hk)
    have es : (sdOf (nbs f) goal).getD p [] = sideOf (nbs f) ((prsOf goal).getD p []) := sd_get hp'
    rw [e, es, side_len, (side_get hk).1]
    exact ⟨hq.1, by omega, by omega⟩
  · refine ⟨let_len hf, fun s hs => (facts23 hw s hs).1⟩
end
end Mine

namespace Mine
open PySem PySem.StrLaws

theorem law_all {prog : Program} {w : World} {g₀ : Heap} {mg mb : Str → Option Value} (T : TopF g₀ mg mb) (X : ExOk prog w g₀ mg) (xs : List Int) (hx : xs.length ≤ 1000) (pm cd doc : Value) (N a : Addr) (fr : Fr0 (lenv pm cd doc N a)) :
    Rt prog w g₀ 2 (lenv pm cd doc N a) ({ script := .dat (.lst (nums xs)) } : LS).st (fnBody (stm 72)) (.bool true) := by
  obtain ⟨x, b, d, hc, hpos, hsum⟩ := cells_ok (xs.take 60) (xs.take 60).length (Nat.le_refl _)
  have h60 : (xs.take 60).length ≤ 60 := by rw [List.length_take]; omega
  have hsum' : x + b + d < 2 ^ 40 := by
    have : 1000000 * (xs.take 60).length ≤ 1000000 * 60 := Nat.mul_le_mul_left _ h60
    omega
  obtain ⟨f, hf⟩ : ∃ f, x % 46 = f := ⟨_, rfl⟩
  have hf46 : f < 46 := by rw [← hf]; exact Nat.mod_lt _ (by omega)
  obtain ⟨goal, hgoal⟩ : ∃ goal, made (gaps0 b) = goal := ⟨_, rfl⟩
  have hg : goal ∈ perms24 := by rw [← hgoal]; exact made_mem (gaps0_le b)
  obtain ⟨wh, hwh⟩ : ∃ wh, d % 5 = wh := ⟨_, rfl⟩
  have hw : wh < 5 := by rw [← hwh]; exact Nat.mod_lt _ (by omega)
  obtain ⟨co, hco⟩ : ∃ co, mkL (d / 5 % 4) = co := ⟨_, rfl⟩
  obtain ⟨ci, hci⟩ : ∃ ci, mkL ((d / 5 + 1 + d / 20 % 3) % 4) = ci := ⟨_, rfl⟩
  have ho : co ∈ marksL := by rw [← hco]; exact mkL_in (Nat.mod_lt _ (by omega))
  have hi : ci ∈ marksL := by rw [← hci]; exact mkL_in (Nat.mod_lt _ (by omega))
  have hne : co ≠ ci := by
    rw [← hco, ← hci]
    refine mkL_ne (Nat.mod_lt _ (by omega)) (Nat.mod_lt _ (by omega)) ?_
    have : d / 20 % 3 < 3 := Nat.mod_lt _ (by omega)
    omega
  have S := s_of hg
  have NM := nm_ok hf46
  have G := gs_ok hg
  have W := w_of hg hf46
  have hnm : (nm f).length = 3 := by rw [nm_eq, List.length_map, NM.len]
  obtain ⟨m1, m2, m3, m4⟩ := mOf_ok goal hg
  have hnb : ∀ g, g < 3 → (nbs f).getD g 0 ≠ 0 := fun g h => by rw [nbs_get h]; omega
  have hnb' : ∀ g, g < 3 → (nbs f).getD g 0 = ((f + 7 + g : Nat) : Int) := fun g h => by rw [nbs_get h]; omega
  have hsl : (sdOf (nbs f) goal).length = (prsOf goal).length := by simp [sdOf]
  have hgsl : (gsOf goal).length = (prsOf goal).length := by simp [gsOf]
  have hgram : FnOk prog w g₀ 2 (fv mg "_law_grammar") [.lst (nums goal), .lst (nums (nbs f))] (.lst (nums (rulesOf (sdOf (nbs f) goal)))) := by
    have := grammar_ok (prog := prog) (w := w) T goal (nbs f) (mOf goal) m4 rfl (fun i h => by rw [gram_fst (nb' := [])]; exact m2 i (List.mem_range.mpr h)) (by rw [gram_fst (nb' := [])]; exact m1) (by omega)
    rwa [rules_eq hg] at this
  have hst2 := steps_eq (goal := goal) (nb := nbs f)
  have hlines : ∀ p, p < (gsOf goal).length → ((gsOf goal).getD p []).length ≤ 100 := fun p hp => by
    have := (G.line _ (getD_mem (d := ([] : List Nat)) hp)).1
    omega
  have hinv := allSt_inv (sd := sdOf (nbs f) goal) hlines (gsOf goal).length (Nat.le_refl _)
  have hsp54 := sp_len hw hf46
  have hlone := lone_len (spL wh f)
  have hal := along_ok (prog := prog) (w := w) T (stepsG goal) (prsOf goal).length (f + 7) S.st3 ⟨S.n1.1, by have := S.n1.2; omega⟩ S.stp (by omega)
  rw [along_ways] at hal
  have hwo := worth_ok (prog := prog) (w := w) T (sdOf (nbs f) goal) (by have := S.n1.2; omega) (wgood_tab W (by omega) hnb')
  have hwt := wst_tab W hnb' (sdOf (nbs f) goal).length (by omega)
  have hwt' : wst (sdOf (nbs f) goal) (sdOf (nbs f) goal).length = _ := hwt
  rw [hwt', hsl] at hwo
  have htl := text_len (co := co) (ci := ci) NM G
  have hta := text_alpha NM G ho hi
  have hj2l : ∀ line ∈ gsOf goal, lineS (tS [ci]) (nm f) line = tS (lineL ci (nmL f) line) := fun line _ => by rw [nm_eq, lineS_eq]
  have h1 : (tS [co]).length = 1 := rfl
  have h1' : (tS [ci]).length = 1 := rfl
  refine law_rt T X fr xs goal (rulesOf (sdOf (nbs f) goal)) (rulesOf (sdOf (nbs f) goal) ++ extraOf (x + b + d)) x b d f (sdOf (nbs f) goal) (gsOf goal) (fv mg (handName wh)) (tblOf wh) (fun s => tS (s.cps.toList.flatMap (phi wh)))
    (tS [co]) (tS [ci]) (tS (textL co ci (nmL f) (gsOf goal))) (tS ((textL co ci (nmL f) (gsOf goal)).flatMap (phi wh))) (tS (spL wh f)) (letL wh f) (lnsOf wh f ci goal) (allSt (sdOf (nbs f) goal) (gsOf goal) (gsOf goal).length)
    (tab (prsOf goal).length (uOf goal f) (prsOf goal).length) (tab (prsOf goal).length (tsOf goal) (prsOf goal).length) (ofN (wsOf goal f))
    hx hc hf hf46 hgoal hgram hsum' ?hr ?hL (fresh_all hnb hpos) (split_all hnb hpos) ?hsd1 (fun s hs => sd_mem hg hs) (gs_eq hf46) ?hhand ?hout ?hinn ?hin ?hnm ?hgl ?hj1 ?hj2
    ?htx (hand_page T hw hta (by omega)) ?htxl (page_join _) ?hpgj ?hwr ?hlets ?F rfl hwo ?halong ?hmac ?hl23 (facts23 hw) ?hj24 (sp_eq wh f) ?hspl ?hl26 (facts26 hw).1 (facts26 hw).2 ?hl27
  case hr => have := rules_len (f := f) hg; omega
  case hL => unfold extraOf; rw [List.append_assoc]
  case hsd1 => have := S.n1.2; omega
  case hhand => rw [hwh]; exact hand_ok T wh hw
  case hout => rw [mk_eq, hco]
  case hinn => rw [mk_eq, hci]
  case hin => exact fun line hl => ⟨by have := (G.line line hl).1; omega, fun g hg' => by rw [hnm]; exact (G.line line hl).2 g hg'⟩
  case hnm => omega
  case hgl => have := G.len; omega
  case hj1 =>
    intro line hl
    refine joinOk_of (n := 3) (fun s hs => ?_) ?_
    · obtain ⟨g, hg', rfl⟩ := List.mem_map.mp hs
      rw [nm_eq, getD_tS, tS_len]
      exact (NM.ok _ (NM.get ((G.line line hl).2 g hg'))).1.2
    · rw [List.length_map, h1']
      have := (G.line line hl).1
      omega
  case hj2 =>
    refine joinOk_of (n := 12) (fun s hs => ?_) ?_
    · obtain ⟨line, hl, rfl⟩ := List.mem_map.mp hs
      rw [hj2l line hl, tS_len]
      exact line_len NM (G.line line hl)
    · rw [List.length_map, h1]
      have := G.len
      omega
  case htx => rw [nm_eq, textOf_eq]
  case htxl => rw [tS_len]; omega
  case hpgj =>
    refine joinOk_of (n := 6) (fun s hs => ?_) ?_
    · obtain ⟨s', hs', rfl⟩ := List.mem_map.mp hs
      unfold signStrs at hs'
      obtain ⟨k, hk, rfl⟩ := List.mem_map.mp hs'
      show (tg (tblOf wh) (tS [k])).length ≤ 6
      rw [phi_tS, tS_len]
      exact (phi_kind hw k (hta k hk)).1.2
    · rw [List.length_map]
      have : (signStrs (tS (textL co ci (nmL f) (gsOf goal)))).length = (textL co ci (nmL f) (gsOf goal)).length := by simp [signStrs, tS]
      rw [this, empty_tS, tS_len]
      simp only [List.length_nil]
      omega
  case hwr =>
    intro s hs
    rw [nm_eq] at hs
    obtain ⟨p, hp, rfl⟩ := List.mem_map.mp hs
    obtain ⟨⟨_, p3⟩, pa, _⟩ := NM.ok p hp
    exact hand_page T hw pa (by omega)
  case hlets => rw [nm_eq, List.map_map]; rfl
  case F => rw [phi_tS, phi_tS]; exact f19 hg hf46 hw ho hi hne
  case halong => rw [hst2, hsl]; exact hal
  case hmac =>
    intro p hp
    rw [hsl] at hp
    obtain ⟨_, u2, u3⟩ := uOf_get hg (f := f) hp
    refine ⟨_, _, (((wsOf goal f).getD p 0 : Nat) : Int), by rw [lk_tab (Nat.le_refl _), if_pos (by omega)], by rw [lk_tab (Nat.le_refl _), if_pos (by omega)], ?_, ?_, ?_⟩
    · unfold ofN; rw [List.getElem?_map, u2]; rfl
    · have := (S.row p hp).2.2.2.1
      omega
    · rw [u3]; exact Int.natCast_mul _ _
  case hl23 => 
    refine ⟨?_, by rw [let_len hf46]; omega⟩
    have := hinv.1
    have := G.len
    omega
  case hj24 =>
    refine joinOk_of (n := 18) (fun s hs => ?_) ?_
    · obtain ⟨p, hp, rfl⟩ := let_mem hs
      exact (case_chk hw p hp).1
    · rw [let_len hf46, empty_tS, tS_len]
      simp only [List.length_nil]
      omega
  case hspl => rw [tS_len]; omega
  case hl26 =>
    refine ⟨?_, by omega⟩
    rw [tl23_len, let_len hf46]
    have := hinv.1
    have := G.len
    omega
  case hl27 =>
    rw [tl26s_len, tl23_len, let_len hf46]
    have := hinv.1
    have := G.len
    have h54 : (loneOf (tS (spL wh f))).length ≤ 54 := by omega
    have : 3 * (loneOf (tS (spL wh f))).length * (loneOf (tS (spL wh f))).length ≤ 3 * 54 * 54 := Nat.mul_le_mul (Nat.mul_le_mul_left _ h54) h54
    omega
end Mine

namespace Mine
open PySem PySem.W PyProof.Rows

def fnPos : Stmt → Pos
  | .FunctionDef _ _ _ _ _ _ _ _ _ p => p
  | _ => ⟨0, 0, 0, 0⟩
noncomputable def fnrec (i : Nat) : DefRec := ⟨fnName (stm i), fnArgs (stm i), fnBody (stm i), fnScope (stm i), fnPos (stm i)⟩
/-- where the defs stand -/
def recAt : List (Nat × Nat) := [(52, 0), (53, 1), (54, 2), (58, 3), (61, 5), (62, 6), (63, 7), (64, 8), (65, 9), (67, 10), (68, 11), (69, 12), (70, 13), (71, 14)]
theorem recs_at : recAt.map (fun q => (recsOf viewQ)[q.2]?) = recAt.map fun q => some (fnrec q.1) := by kernel_rfl
theorem rec_mem {i : Nat} (h : ∃ k, (i, k) ∈ recAt) : fnrec i ∈ recsOf viewQ := by
  obtain ⟨k, hk⟩ := h
  have e := List.map_inj_left.mp recs_at (i, k) hk
  exact List.mem_of_getElem? e

theorem fn_of {loose : List Str} {mean : ExcName → Option Value} {mg mb : Str → Option Value} {h : Heap} (T : Top viewQ loose mean mg mb h) {i : Nat} {x : Str} (hi : fnrec i ∈ recsOf viewQ) (hx : fnName (stm i) = x) :
    ∃ a pm code doc, mg x = some (.ref a) ∧ FAt h (.ref a) i a pm code doc := by
  obtain ⟨a, o, pm, code, doc, e, ho, hd, hc⟩ := T.fn _ hi
  exact ⟨a, pm, code, doc, hx ▸ e, rfl, ⟨o, ho, hd⟩, hc⟩

theorem funs_at : ∀ p ∈ funs, fnName (stm p.2) = p.1 ∧ ∃ k ∈ List.range 15, (p.2, k) ∈ recAt := by decide +kernel
theorem nums_at : nums0.map (fun p => valOf viewQ p.1) = nums0.map fun p => some (.int p.2) := by kernel_rfl
theorem tys_at : tys.map (fun p => bootBuiltins p.1) = tys.map fun p => some p.2 := by kernel_rfl
theorem tys_free : ∀ p ∈ tys, p.1 ∉ startupNames ∧ p.1 ∉ looseW viewQ [("EXACT_TOKEN_TYPES" : Str)] ∧ p.1 ∉ (recsOf viewQ).map (·.name) ∧ p.1 ∉ (litsOf viewQ).map (·.1) ∧ p.1 ∉ (clssOf viewQ (looseW viewQ [("EXACT_TOKEN_TYPES" : Str)])).map (·.name) ∧ p.1 ≠ "__name__" := by
  rw [PySem.W.Fast.te821141287760084731, PySem.W.Fast.te3399658132070893891, PySem.W.Fast.te7409074990110511671, PySem.W.Fast.te13664370479719496447, PySem.W.Fast.te12749700546528644094]
  decide +kernel

theorem topF_of {mean : ExcName → Option Value} {mg mb : Str → Option Value} {h : Heap} (T : Top viewQ (looseW viewQ [("EXACT_TOKEN_TYPES" : Str)]) mean mg mb h) : TopF h mg mb := by
  refine ⟨⟨T.g, T.b, T.nolimit, ?_⟩, fun p hp => ?_, fun p hp => ?_, fun p hp => ?_⟩
  · obtain ⟨mm, ⟨o, _, _, e, _⟩, _⟩ := (T.seer (by decide +kernel)).mods
    exact ⟨o, e⟩
  · obtain ⟨h1, h2, h3, h4, h5, h6⟩ := tys_free p hp
    exact ⟨T.free _ h1 h2 h3 h4 h5, by rw [T.builtins _ h6]; exact List.map_inj_left.mp tys_at p hp⟩
  · obtain ⟨v, e, r⟩ := T.const _ _ (List.map_inj_left.mp nums_at p hp)
    cases r h with
    | int _ t => exact ⟨t, e⟩
  · obtain ⟨h1, k, _, h2⟩ := funs_at p hp
    exact fn_of T (rec_mem ⟨k, h2⟩) h1

theorem exact_nodup : (exactTab.map (·.1)).Nodup := by decide +kernel
theorem pairs_obs {prog : Program} {w : World} {h : Heap} : ∀ {es : List DictEntry} {l : List (Str × Int)}, es.map (fun e => (entB e, entS e)) = l.map (fun q => (true, q.1, q.2, hashStr w q.1)) →
    (∀ e ∈ es, ∃ k, (strKind prog w).is k e.key = true ∧ e.hash = (strKind prog w).hash k) ∧ ∃ kvs : List (Str × Value), Pairs (strKind prog w) es kvs ∧ kvs.map (·.1) = l.map (·.1) ∧ RdAll prog w [] h (kvs.map (·.2)) (l.map fun q => D.int q.2)
  | [], [], _ => ⟨(fun _ h => nomatch h), [], .nil, rfl, .nil⟩
  | [], _ :: _, e => by cases e
  | _ :: _, [], e => by cases e
  | d :: es, q :: l, e => by
    rw [List.map_cons, List.map_cons] at e
    injection e with e1 e2
    obtain ⟨h1, kvs, h2, h3, h4⟩ := pairs_obs (prog := prog) (h := h) e2
    obtain ⟨hs, ky, vl⟩ := d
    injection e1 with b1 b2
    cases ky with
    | str x t =>
      cases vl with
      | int v u =>
        simp only [entS, Prod.mk.injEq] at b2
        obtain ⟨c1, c2, c3⟩ := b2
        subst c1; subst c2
        refine ⟨fun e he => ?_, (q.1, .int q.2 u) :: kvs, .cons (strKind_is prog w _ _) rfl h2, by rw [List.map_cons, List.map_cons, h3], .cons (.int ..) h4⟩
        rcases List.mem_cons.mp he with rfl | he
        · exact ⟨q.1, strKind_is prog w _ _, c3⟩
        · exact h1 e he
      | _ => simp [entB] at b1
    | _ => simp [entB] at b1
theorem shape_of_dict {o : Obj} {L : List (Bool × Str × Int × Int)} (h : dShape o = some L) : o.ExactDict ∧ ∃ es ep, o.data = .dict es ep ∧ es.toList.map (fun e => (entB e, entS e)) = L := by
  unfold dShape at h
  split at h
  · rename_i t es ep sl
    split at h
    · rename_i hc
      rw [Bool.and_eq_true] at hc
      obtain ⟨h1, h2⟩ := hc
      have h1 := eq_of_beq h1
      have h2 : sl = #[] := by simpa using h2
      subst h1; subst h2
      exact ⟨⟨rfl, rfl, rfl⟩, es, ep, rfl, Option.some.inj h⟩
    · cases h
  · cases h
theorem exOk_of {prog : Program} {w : World} {mg : Str → Option Value} {h : Heap} (X : saysX w h) (G : h.Ns mainGlobals mg) : ExOk prog w h mg := by
  obtain ⟨o, o', h1, h2, h3, h4⟩ := X
  have hm : mg "EXACT_TOKEN_TYPES" = some (.ref 15) := mg_of (K := [(mainGlobals, o)]) (fun a oo e => by
    unfold List.lookup at e
    split at e
    · rename_i hb
      cases e
      rw [eq_of_beq hb]; exact h1
    · cases e) G h2
  obtain ⟨hx, es, ep, hd, he⟩ := shape_of_dict h4
  obtain ⟨k1, kvs, k2, k3, k4⟩ := pairs_obs (prog := prog) (h := h) he
  refine ⟨.ref 15, hm, .sdict (kvs := kvs) ⟨(fun h => nomatch h), by decide⟩ ⟨o', es, ep, h3, hx, hd, fun e hm => k1 e (Array.mem_toList_iff.mpr hm), k2, ?_⟩ ?_ ?_⟩
  · rw [k3]; exact exact_nodup
  · rw [k3, exactD, List.map_map]; rfl
  · rw [exactD, List.map_map]; exact k4
theorem rd_ints {prog : Program} {w : World} {Z : List Addr} {h : Heap} : ∀ {vs : List Value} {xs : List Int}, IntsAre vs xs → RdAll prog w Z h vs (nums xs) := by
  intro vs xs hi
  induction hi with
  | nil => exact .nil
  | cons m t _ ih => exact .cons (.int m t) ih
theorem plain_of {P : Params} {h : Heap} {l : Addr} {xs : List Int} (w : Well P h (.ref l) (ofPy (.list (xs.map .int)))) : ∃ vs : List Value, h.PlainList l vs.toArray := by
  unfold ofPy at w
  cases w with
  | list e _ => exact ⟨_, 0, e⟩
theorem plain_uniq {h : Heap} {l : Addr} {vs us : Array Value} (p : h.PlainList l vs) (q : h.IsList l us) : vs = us := by
  obtain ⟨n, e⟩ := p
  obtain ⟨o, e', _, m, d⟩ := q
  rw [e] at e'; cases e'
  injection d
theorem said_ok : (PySem.Challenge.rw_tc0019_01).wellSaid = true := by
  rw [PySem.W.Fast.te9446332074065402090]
  kernel_rfl
end Mine
open PySem PySem.W PyProof.Rows Mine
set_option maxHeartbeats 8000000 in
theorem PySem.Challenge.cw_tc0019_01_holds : PySem.Challenge.rw_tc0019_01.Holds := by
  refine holds_law said_ok fun said => ?_
  refine holds_open (q := viewQ) (loose := [("EXACT_TOKEN_TYPES" : Str)]) (Xt := fun s => xlAt viewQ [] s && recOk (RowW.records lawRow) s) (XP := XL viewQ []) (Yf := obsX) (Ya := valX) (YP := saysX) (d := fnrec 72) (kwd := []) (N := 4014)
    leftQ saysX_of saysX_keeps (fun s e => xl_of s (Bool.and_eq_true_iff.mp e).1) XL.keeps (by kernel_rfl) (by kernel_rfl) (by kernel_rfl) (fun s e => recFacts_of (Bool.and_eq_true_iff.mp e).2) (by kernel_rfl) said (by kernel_rfl) ⟨rfl, rfl, rfl, rfl, rfl, by decide +kernel⟩ ?hw ?hc
  case hw => w_on; w_witness2
  case hc =>
    w_on
    intro w s₀ s₁ mg mb G Y fa o pm cd doc dV kV ho hd' hcd hD hmg hg args vals as hpre hlay hrd hwl hlo
    refine Ground.open G ?_
    intro T B D TE TW
    try (refine guard_noD D (by decide +kernel) ?_; clear D)
    wrow_args hpre hlay hrd hwl hlo
    rename_i xs _ _ _ _ _ _ _ l vs _ hL ra w1 r0 hI hr hc1 hc2
    have TF := topF_of T
    have XF : ExOk Challenge.rw_tc0019_01.row.prog w s₁.heap mg := exOk_of Y T.g
    obtain ⟨_, rfl⟩ := hD.pos.resolve_right fun h => h.1 rfl
    obtain ⟨_, rfl⟩ := hD.kw.resolve_right fun h => h.1 rfl
    obtain ⟨us, pl⟩ := plain_of w1
    have eu := plain_uniq pl hL
    rw [eu] at pl
    have rv : RdAll Challenge.rw_tc0019_01.row.prog w [] s₁.heap vs.toArray.toList (nums xs) := by simpa using rd_ints hI
    show wpAny _ callerA (call (.ref fa) [.ref l] []) _ _ _
    refine wpAny_mono (law_call (xs := xs) (mg := mg) (mb := mb) TF ho hd' hcd pl rv ⟨rfl, by decide, by decide⟩ fun N fr => law_all TF XF xs (by omega) _ _ _ _ _ fr) (fun v s' q => ?_) fun _ _ e => e
    obtain ⟨k, rfl⟩ := q
    refine GoodW.toG ⟨.inl ⟨.bool true, .bool true, [], rfl, ?_, ?_, ?_, ?_⟩, k.up, ?_, ?_⟩
    · intro cls; rfl
    · exact .bool true
    · first | (with_unfolding_all rfl) | kernel_rfl
    · exact fun _ => ⟨.nil, fun _ h => nomatch h⟩
    · obtain ⟨⟨h', t', rfl, _⟩, _⟩ := k; rfl
    · obtain ⟨⟨h', t', rfl, _⟩, _⟩ := k; exact hg
