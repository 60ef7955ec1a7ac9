import PyProof.Rows.All
import Wide.All
import OpenK.AllK
import Wide.FinOn
import Lean
import PySem.Challenge.RW_ny0250_02
open PySem PySem.W PyProof.Rows PySem.SeqAt
set_option Elab.async false
set_option maxRecDepth 100000
set_option maxHeartbeats 4000000
set_option linter.unusedVariables false
namespace Mine

/-- the program, the frozen part of the heap -/
abbrev pg : Program := PySem.Challenge.pw_ny0250_02
abbrev Bs := Addr → Option Obj
def Le (B B' : Bs) : Prop := ∀ a o, B a = some o → B' a = some o
theorem Le.refl (B : Bs) : Le B B := fun _ _ e => e
theorem Le.trans {B B' B'' : Bs} (h : Le B B') (h' : Le B' B'') : Le B B'' := fun a o e => h' a o (h a o e)
def Bs.put (B : Bs) (a : Addr) (o : Obj) : Bs := fun b => if b = a then some o else B b
theorem Bs.put_self (B : Bs) (a : Addr) (o : Obj) : B.put a o a = some o := by simp [Bs.put]
theorem Le.put {B : Bs} {a : Addr} {o : Obj} (h : B a = none) : Le B (B.put a o) := by
  intro b o' e
  unfold Bs.put
  split
  · rename_i q; subst q; rw [h] at e; cases e
  · exact e

/-- data by value -/
inductive V where
  | none
  | bool (b : Bool)
  | int (i : Int)
  | bytes (b : Array UInt8)
  | list (xs : List V)
  | tuple (xs : List V)
  | dict (ks : List Int) (vs : List V)
  | exact (v : Value)

abbrev kI (w : World) : KeyKind pg w Int := intKind pg w
abbrev tupleOf (its : Array Value) (n : Nat) : Obj := { cls := .type "tuple", data := .seq its n }
def dictP (w : World) (kvs : List (Int × Value)) (o : Obj) : Prop :=
  ∃ es ep, o.ExactDict ∧ o.data = .dict es ep ∧ KeysOf (kI w) es ∧ Pairs (kI w) es.toList kvs ∧ (kvs.map (·.1)).Nodup

mutual
def den (w : World) (B : Bs) : V → Value → Prop
  | .none, r => r = .none
  | .bool b, r => r = .bool b
  | .int i, r => ∃ t, r = .int i t
  | .bytes b, r => ∃ t, r = .bytes b t
  | .list xs, r => ∃ a its n, r = .ref a ∧ B a = some (listOf its n) ∧ dens w B xs its.toList
  | .tuple xs, r => ∃ a its n, r = .ref a ∧ B a = some (tupleOf its n) ∧ dens w B xs its.toList
  | .dict ks vs, r => ∃ a o kvs, r = .ref a ∧ B a = some o ∧ dictP w kvs o ∧ kvs.map (·.1) = ks ∧ dens w B vs (kvs.map (·.2)) ∧ (a == sysModules) = false
  | .exact v, r => r = v
def dens (w : World) (B : Bs) : List V → List Value → Prop
  | [], l => l = []
  | x :: xs, l => ∃ r rs, l = r :: rs ∧ den w B x r ∧ dens w B xs rs
end

mutual
theorem den.mono {w : World} {B B' : Bs} (h : Le B B') : ∀ (x : V) {r : Value}, den w B x r → den w B' x r
  | .none, _, e => by simp only [den] at e ⊢; exact e
  | .bool _, _, e => by simp only [den] at e ⊢; exact e
  | .int _, _, e => by simp only [den] at e ⊢; exact e
  | .bytes _, _, e => by simp only [den] at e ⊢; exact e
  | .exact _, _, e => by simp only [den] at e ⊢; exact e
  | .list xs, _, e => by
    simp only [den] at e ⊢
    obtain ⟨a, its, n, q, b, d⟩ := e
    exact ⟨a, its, n, q, h _ _ b, dens.mono h xs d⟩
  | .tuple xs, _, e => by
    simp only [den] at e ⊢
    obtain ⟨a, its, n, q, b, d⟩ := e
    exact ⟨a, its, n, q, h _ _ b, dens.mono h xs d⟩
  | .dict ks vs, _, e => by
    simp only [den] at e ⊢
    obtain ⟨a, o, kvs, q, b, p, k, d, z⟩ := e
    exact ⟨a, o, kvs, q, h _ _ b, p, k, dens.mono h vs d, z⟩
theorem dens.mono {w : World} {B B' : Bs} (h : Le B B') : ∀ (xs : List V) {l : List Value}, dens w B xs l → dens w B' xs l
  | [], _, e => by simp only [dens] at e ⊢; exact e
  | x :: xs, _, e => by
    simp only [dens] at e ⊢
    obtain ⟨r, rs, q, d, ds⟩ := e
    exact ⟨r, rs, q, den.mono h x d, dens.mono h xs ds⟩
end

section
variable {w : World} {B : Bs}
theorem den_none {r : Value} : den w B .none r ↔ r = .none := by simp only [den]
theorem den_bool {b : Bool} {r : Value} : den w B (.bool b) r ↔ r = .bool b := by simp only [den]
theorem den_int {i : Int} {r : Value} : den w B (.int i) r ↔ ∃ t, r = .int i t := by simp only [den]
theorem den_bytes {i} {r : Value} : den w B (.bytes i) r ↔ ∃ t, r = .bytes i t := by simp only [den]
theorem den_exact {v r : Value} : den w B (.exact v) r ↔ r = v := by simp only [den]
theorem den_list {xs : List V} {r : Value} : den w B (.list xs) r ↔ ∃ a its n, r = .ref a ∧ B a = some (listOf its n) ∧ dens w B xs its.toList := by simp only [den]
theorem den_tuple {xs : List V} {r : Value} : den w B (.tuple xs) r ↔ ∃ a its n, r = .ref a ∧ B a = some (tupleOf its n) ∧ dens w B xs its.toList := by simp only [den]
theorem den_dict {ks : List Int} {vs : List V} {r : Value} : den w B (.dict ks vs) r ↔ ∃ a o kvs, r = .ref a ∧ B a = some o ∧ dictP w kvs o ∧ kvs.map (·.1) = ks ∧ dens w B vs (kvs.map (·.2)) ∧ (a == sysModules) = false := by simp only [den]
theorem dens_nil {l : List Value} : dens w B [] l ↔ l = [] := by simp only [dens]
theorem dens_cons {x : V} {xs : List V} {l : List Value} : dens w B (x :: xs) l ↔ ∃ r rs, l = r :: rs ∧ den w B x r ∧ dens w B xs rs := by simp only [dens]

theorem dens.length : ∀ {xs : List V} {l : List Value}, dens w B xs l → l.length = xs.length
  | [], _, e => by rw [dens_nil.mp e]; rfl
  | x :: xs, _, e => by
    obtain ⟨r, rs, rfl, _, ds⟩ := dens_cons.mp e
    simp [dens.length ds]
theorem dens.append : ∀ {xs ys : List V} {l l' : List Value}, dens w B xs l → dens w B ys l' → dens w B (xs ++ ys) (l ++ l')
  | [], _, _, _, e, e' => by rw [dens_nil.mp e]; exact e'
  | x :: xs, _, _, _, e, e' => by
    obtain ⟨r, rs, rfl, d, ds⟩ := dens_cons.mp e
    exact dens_cons.mpr ⟨r, _, rfl, d, dens.append ds e'⟩
theorem dens.get : ∀ {xs : List V} {l : List Value}, dens w B xs l → ∀ {i : Nat} {x : V}, xs[i]? = some x → ∃ r, l[i]? = some r ∧ den w B x r
  | [], _, _, _, _, q => by simp at q
  | x :: xs, _, e, 0, y, q => by
    obtain ⟨r, rs, rfl, d, ds⟩ := dens_cons.mp e
    simp at q; subst q; exact ⟨r, rfl, d⟩
  | x :: xs, _, e, i + 1, y, q => by
    obtain ⟨r, rs, rfl, d, ds⟩ := dens_cons.mp e
    simp at q ⊢; exact dens.get ds q
theorem dens.take : ∀ {xs : List V} {l : List Value}, dens w B xs l → ∀ n, dens w B (xs.take n) (l.take n)
  | _, _, _, 0 => by simp [dens_nil]
  | [], _, e, n + 1 => by rw [dens_nil.mp e]; simp [dens_nil]
  | x :: xs, _, e, n + 1 => by
    obtain ⟨r, rs, rfl, d, ds⟩ := dens_cons.mp e
    exact dens_cons.mpr ⟨r, _, rfl, d, dens.take ds n⟩
theorem dens.drop : ∀ {xs : List V} {l : List Value}, dens w B xs l → ∀ n, dens w B (xs.drop n) (l.drop n)
  | _, _, e, 0 => e
  | [], _, e, n + 1 => by rw [dens_nil.mp e]; simp [dens_nil]
  | x :: xs, _, e, n + 1 => by
    obtain ⟨r, rs, rfl, d, ds⟩ := dens_cons.mp e
    exact dens.drop ds n
theorem dens.reverse : ∀ {xs : List V} {l : List Value}, dens w B xs l → dens w B xs.reverse l.reverse
  | [], _, e => by rw [dens_nil.mp e]; simp [dens_nil]
  | x :: xs, _, e => by
    obtain ⟨r, rs, rfl, d, ds⟩ := dens_cons.mp e
    rw [List.reverse_cons, List.reverse_cons]
    exact dens.append ds.reverse (dens_cons.mpr ⟨r, [], rfl, d, dens_nil.mpr rfl⟩)
theorem dens.ints : ∀ {ns : List Int} {l : List Value}, dens w B (ns.map V.int) l ↔ IntsAre l ns
  | [], l => by
    constructor
    · intro e; rw [dens_nil.mp e]; exact .nil
    · intro e; cases e; exact dens_nil.mpr rfl
  | n :: ns, l => by
    constructor
    · intro e
      obtain ⟨r, rs, rfl, d, ds⟩ := dens_cons.mp e
      obtain ⟨t, rfl⟩ := den_int.mp d
      exact .cons _ _ (dens.ints.mp ds)
    · intro e
      cases e with
      | cons _ _ h => exact dens_cons.mpr ⟨_, _, rfl, den_int.mpr ⟨_, rfl⟩, dens.ints.mpr h⟩
end

/-- an object of the call's own: its address, what holds of it -/
structure Item where
  addr : Addr
  P : World → Bs → Obj → Prop
  mono : ∀ {w B B' o}, Le B B' → P w B o → P w B' o

structure Rep (w : World) (os : OsState) (B : Bs) (own : List Item) (s : Shared) : Prop where
  base : ∀ a o, B a = some o → s.heap.get? a = some o
  has : ∀ i ∈ own, ∃ o, s.heap.get? i.addr = some o ∧ i.P w B o
  off : ∀ i ∈ own, B i.addr = none
  apart : own.Pairwise fun i j => i.addr ≠ j.addr
  gens : s.gens = #[]
  os : s.os = os

section
variable {w : World} {os : OsState} {B : Bs} {own : List Item} {s : Shared}
/-- the heap has grown -/
theorem Rep.grow (R : Rep w os B own s) {h' : Heap} (tk : Nat) (hk : ∀ b o, s.heap.get? b = some o → h'.get? b = some o) : Rep w os B own { s with heap := h', toks := tk } :=
  ⟨fun a o e => hk _ _ (R.base a o e), fun i hi => let ⟨o, e, p⟩ := R.has i hi; ⟨o, hk _ _ e, p⟩, R.off, R.apart, R.gens, R.os⟩
theorem Rep.toks (R : Rep w os B own s) (tk : Nat) : Rep w os B own { s with toks := tk } := R.grow tk fun _ _ e => e
theorem Rep.fresh (R : Rep w os B own s) {a : Addr} (h : s.heap.get? a = none) : B a = none ∧ ∀ i ∈ own, a ≠ i.addr := by
  constructor
  · cases e : B a with
    | none => rfl
    | some o => rw [R.base a o e] at h; cases h
  · intro i hi e
    obtain ⟨o, q, _⟩ := R.has i hi
    rw [← e, h] at q; cases q
theorem get?_size (h : Heap) : h.get? h.objs.size = none := by
  cases e : h.get? h.objs.size with
  | none => rfl
  | some o => exact absurd (Heap.lt_size e) (Nat.lt_irrefl _)
/-- a new object, frozen at once -/
theorem Rep.freezeNew (R : Rep w os B own s) {h' : Heap} {a : Addr} {o : Obj} (tk : Nat) (hk : ∀ b o, s.heap.get? b = some o → h'.get? b = some o) (ha : s.heap.get? a = none) (ho : h'.get? a = some o) :
    Rep w os (B.put a o) own { s with heap := h', toks := tk } := by
  obtain ⟨f1, f2⟩ := R.fresh ha
  refine ⟨fun b o' e => ?_, fun i hi => ?_, fun i hi => ?_, R.apart, R.gens, R.os⟩
  · unfold Bs.put at e
    split at e
    · rename_i q; subst q; cases e; exact ho
    · exact hk _ _ (R.base b o' e)
  · obtain ⟨o', e, p⟩ := R.has i hi
    exact ⟨o', hk _ _ e, i.mono (Le.put f1) p⟩
  · unfold Bs.put
    rw [if_neg (Ne.symm (f2 i hi))]
    exact R.off i hi
/-- a new object of one's own -/
theorem Rep.new (R : Rep w os B own s) {h' : Heap} (i : Item) (tk : Nat) (hk : ∀ b o, s.heap.get? b = some o → h'.get? b = some o) (ha : s.heap.get? i.addr = none) {o : Obj} (ho : h'.get? i.addr = some o) (hp : i.P w B o) :
    Rep w os B (i :: own) { s with heap := h', toks := tk } := by
  obtain ⟨f1, f2⟩ := R.fresh ha
  refine ⟨fun b o' e => hk _ _ (R.base b o' e), fun j hj => ?_, fun j hj => ?_, List.pairwise_cons.mpr ⟨fun j hj => f2 j hj, R.apart⟩, R.gens, R.os⟩
  · rcases List.mem_cons.mp hj with rfl | hj
    · exact ⟨o, ho, hp⟩
    · obtain ⟨o', e, p⟩ := R.has j hj
      exact ⟨o', hk _ _ e, p⟩
  · rcases List.mem_cons.mp hj with rfl | hj
    · exact f1
    · exact R.off j hj
/-- an own object is written -/
theorem Rep.write {pre post : List Item} {i i' : Item} (R : Rep w os B (pre ++ i :: post) s) {h' : Heap} (tk : Nat) (hk : ∀ b o, b ≠ i.addr → s.heap.get? b = some o → h'.get? b = some o) (hi : i'.addr = i.addr) {o : Obj} (ho : h'.get? i.addr = some o) (hp : i'.P w B o) :
    Rep w os B (pre ++ i' :: post) { s with heap := h', toks := tk } := by
  have ap := R.apart
  have offi := R.off i (by simp)
  obtain ⟨p1, p2, p3⟩ := List.pairwise_append.mp ap
  obtain ⟨p4, p5⟩ := List.pairwise_cons.mp p2
  have ne : ∀ j, j ∈ pre ∨ j ∈ post → j.addr ≠ i.addr := by
    rintro j (hj | hj)
    · exact p3 j hj i (by simp)
    · exact (p4 j hj).symm
  refine ⟨fun b o' e => hk _ _ (fun q => by rw [q, offi] at e; cases e) (R.base b o' e), fun j hj => ?_, fun j hj => ?_, ?_, R.gens, R.os⟩
  · rcases List.mem_append.mp hj with h1 | h1
    · obtain ⟨o', e, p⟩ := R.has j (by simp [h1])
      exact ⟨o', hk _ _ (ne j (.inl h1)) e, p⟩
    · rcases List.mem_cons.mp h1 with rfl | h1
      · exact ⟨o, hi ▸ ho, hp⟩
      · obtain ⟨o', e, p⟩ := R.has j (by simp [h1])
        exact ⟨o', hk _ _ (ne j (.inr h1)) e, p⟩
  · rcases List.mem_append.mp hj with h1 | h1
    · exact R.off j (by simp [h1])
    · rcases List.mem_cons.mp h1 with rfl | h1
      · rw [hi]; exact offi
      · exact R.off j (by simp [h1])
  · refine List.pairwise_append.mpr ⟨p1, List.pairwise_cons.mpr ⟨fun j hj => by rw [hi]; exact p4 j hj, p5⟩, fun a ha b hb => ?_⟩
    rcases List.mem_cons.mp hb with rfl | hb
    · rw [hi]; exact p3 a ha i (by simp)
    · exact p3 a ha b (by simp [hb])
/-- less -/
theorem Rep.sub {own' : List Item} (R : Rep w os B own s) (h : own'.Sublist own) : Rep w os B own' s :=
  ⟨R.base, fun i hi => R.has i (h.subset hi), fun i hi => R.off i (h.subset hi), R.apart.sublist h, R.gens, R.os⟩
theorem Rep.perm {own' : List Item} (R : Rep w os B own s) (h : own.Perm own') : Rep w os B own' s :=
  ⟨R.base, fun i hi => R.has i (h.mem_iff.mpr hi), fun i hi => R.off i (h.mem_iff.mpr hi), (h.pairwise_iff (fun a => Ne.symm a)).mp R.apart, R.gens, R.os⟩
/-- an own object is frozen -/
theorem Rep.freeze {i : Item} (R : Rep w os B (i :: own) s) : ∃ o, s.heap.get? i.addr = some o ∧ i.P w B o ∧ Rep w os (B.put i.addr o) own s := by
  obtain ⟨o, e, p⟩ := R.has i (by simp)
  refine ⟨o, e, p, ?_⟩
  have hn := R.off i (by simp)
  obtain ⟨p4, p5⟩ := List.pairwise_cons.mp R.apart
  refine ⟨fun b o' q => ?_, fun j hj => ?_, fun j hj => ?_, p5, R.gens, R.os⟩
  · unfold Bs.put at q
    split at q
    · rename_i q'; subst q'; cases q; exact e
    · exact R.base b o' q
  · obtain ⟨o', e', p'⟩ := R.has j (by simp [hj])
    exact ⟨o', e', j.mono (Le.put hn) p'⟩
  · unfold Bs.put
    rw [if_neg (Ne.symm (p4 j hj))]
    exact R.off j (by simp [hj])
end
end Mine

namespace Mine

/-- a block of names -/
def nsItem (a : Addr) (m : Str → Option V) : Item where
  addr := a
  P := fun w B o => ∃ es ep, o.data = .dict es ep ∧ StrKeys es ∧ ∀ x v, m x = some v → ∃ r, nsFind es x = some r ∧ den w B v r
  mono := fun h ⟨es, ep, e, k, q⟩ => ⟨es, ep, e, k, fun x v hx => let ⟨r, e1, e2⟩ := q x v hx; ⟨r, e1, den.mono h v e2⟩⟩
def cellItem (a : Addr) (v : Option V) : Item where
  addr := a
  P := fun w B o => ∃ r, o.data = .cell r ∧ ∀ x, v = some x → ∃ y, r = some y ∧ den w B x y
  mono := fun h ⟨r, e, q⟩ => ⟨r, e, fun x hx => let ⟨y, e1, e2⟩ := q x hx; ⟨y, e1, den.mono h x e2⟩⟩

/-- a frame of the stack: its block is one of the call's own objects -/
structure FrameIn (own : List Item) (env : Env) : Prop where
  fn : env.scope.kind = .function
  atf : env.frame = some env.locals
  has : ∃ m, nsItem env.locals m ∈ own
/-- room for n more levels; the stack's frames are known -/
structure Rm (n : Nat) (A : Around) (own : List Item) : Prop where
  handled : A.handled = none
  dep : A.depth + n ≤ 900
  uni : A.units + 8 * n ≤ 9000
  frames : ∃ l, A.frames = some l ∧ ∀ e ∈ l, FrameIn own e
theorem Rm.le {n m : Nat} {A : Around} {own : List Item} (h : Rm m A own) (hn : n ≤ m) : Rm n A own := ⟨h.handled, by have := h.dep; omega, by have := h.uni; omega, h.frames⟩
theorem Rm.sub {n : Nat} {A : Around} {own own' : List Item} (h : Rm n A own) (hs : ∀ a m, nsItem a m ∈ own → ∃ m', nsItem a m' ∈ own') : Rm n A own' :=
  ⟨h.handled, h.dep, h.uni, let ⟨l, e, q⟩ := h.frames; ⟨l, e, fun x hx => let F := q x hx; ⟨F.fn, F.atf, let ⟨m, hm⟩ := F.has; hs _ m hm⟩⟩⟩
theorem Rm.more {n : Nat} {A : Around} {own own' : List Item} (h : Rm n A own) (hs : ∀ i ∈ own, i ∈ own') : Rm n A own' := h.sub fun a m hm => ⟨m, hs _ hm⟩
theorem Rm.depth {n : Nat} {A : Around} {own : List Item} (h : Rm n A own) : A.depth < recursionLimit := by have := h.dep; unfold recursionLimit; omega
theorem Rm.units {n : Nat} {A : Around} {own : List Item} (h : Rm n A own) : A.units < cLine := by have := h.uni; unfold cLine; omega

structure Sees (Ω own : List Item) (env : Env) (ρ : Str → Option V) : Prop where
  loc : ∀ x v, ρ x = some v → env.kindOf x = some .local → ∃ m, nsItem env.locals m ∈ own ∧ m x = some v
  cel : ∀ x v, ρ x = some v → env.kindOf x = some .cell → ∃ c, env.cells.lookup x = some c ∧ cellItem c (some v) ∈ own
  its : ∀ i ∈ Ω, i ∈ own
structure EnvOk (env : Env) (sc : Scope) : Prop where
  scope : env.scope = sc
  kind : sc.kind = .function
  globals : env.globals = mainGlobals
  builtins : env.builtins = builtinsNs

/-- the 64 signs -/
def abcd : List UInt8 := [65, 66, 67, 68, 69, 70, 71, 72, 73, 74, 75, 76, 77, 78, 79, 80, 81, 82, 83, 84, 85, 86, 87, 88, 89, 90, 97, 98, 99, 100, 101, 102, 103, 104, 105, 106, 107, 108, 109, 110, 111, 112, 113, 114, 115, 116, 117, 118, 119, 120, 121, 122, 48, 49, 50, 51, 52, 53, 54, 55, 56, 57, 43, 47]
/-- the names of the text's top -/
def gTab : List (Str × V) := [
  ("_NODE_OUT", .int (-1)), ("_NODE_DONE", .int (-2)), ("_NodeInfo", .exact (.ref 40)), ("CycleError", .exact (.ref 55)), ("TopologicalSorter", .exact (.ref 137)),
  ("_buffer", .exact (.ref 148)), ("_truth", .exact (.ref 155)), ("b2a_base64", .exact (.ref 163)), ("b64encode", .exact (.ref 171)),
  ("_deduplicate_unhashable", .exact (.ref 178)), ("_compare_args_orderless", .exact (.ref 185)), ("_law_run", .exact (.ref 192)), ("_law_once", .exact (.ref 197)),
  ("_law_kept", .exact (.ref 202)), ("_law_rounds", .exact (.ref 207)), ("_law_reached", .exact (.ref 212)), ("law", .exact (.ref 217)),
  ("_B64", .bytes abcd.toArray)]
def gNo : List Str := ["len", "range", "sorted", "sum", "bytes", "type", "tuple", "list", "set", "iter", "bool", "bytearray", "ValueError", "StopIteration", "int", "float", "complex", "str", "dict", "frozenset"]

def mkFd (q : Str) (ps : Arguments) (body : List Stmt) (sc : Scope) (df kd nm_doc pm cd ct : Value) (nm : Str) : FuncData :=
  { name := nm, qualname := q, params := ps, body := .stmts body, scope := sc, globals := mainGlobals, closure := [], defaults := df, kwdefaults := kd, doc := nm_doc, pyModule := pm, code := cd, closureTuple := ct, builtins := builtinsNs }
structure FnAt (B : Bs) (a : Addr) (fd : FuncData) : Prop where
  obj : B a = some { cls := .type "function", data := .func fd }
  code : ∃ c o vs t, fd.code = .ref c ∧ B c = some o ∧ o.data = .fields vs ∧ vs[1]? = some (.str fd.qualname t)

/-- the defs of the text -/
def fdef (i : Nat) : Stmt := pg.main.body.getD i (.Pass default)
def inClass (i : Nat) : Stmt → Stmt
  | .ClassDef _ _ _ b .. => b.getD i (.Pass default)
  | s => s
def bodyOf : Stmt → List Stmt
  | .FunctionDef _ _ b .. => b
  | _ => []
def psOf : Stmt → Arguments
  | .FunctionDef _ a .. => a
  | _ => default
def scOf : Stmt → Scope
  | .FunctionDef _ _ _ _ _ _ sc .. => sc
  | _ => default
structure FnRec where
  q : Str
  st : Stmt
  df : Value := .none
  kd : Value := .none
def fTab : List (Addr × FnRec) := [
  (148, ⟨"_buffer", fdef 8, .none, .none⟩), (155, ⟨"_truth", fdef 9, .none, .none⟩), (163, ⟨"b2a_base64", fdef 11, .none, .ref 156⟩), (171, ⟨"b64encode", fdef 13, .ref 164, .none⟩),
  (178, ⟨"_deduplicate_unhashable", fdef 15, .none, .none⟩), (185, ⟨"_compare_args_orderless", fdef 16, .none, .none⟩), (192, ⟨"_law_run", fdef 18, .none, .none⟩), (197, ⟨"_law_once", fdef 19, .none, .none⟩),
  (202, ⟨"_law_kept", fdef 20, .none, .none⟩), (207, ⟨"_law_rounds", fdef 21, .none, .none⟩), (212, ⟨"_law_reached", fdef 22, .none, .none⟩), (217, ⟨"law", fdef 23, .none, .none⟩),
  (36, ⟨"_NodeInfo.__init__", inClass 1 (fdef 4), .none, .none⟩), (73, ⟨"TopologicalSorter.__init__", inClass 0 (fdef 6), .ref 66, .none⟩), (80, ⟨"TopologicalSorter._get_nodeinfo", inClass 1 (fdef 6), .none, .none⟩),
  (87, ⟨"TopologicalSorter.add", inClass 2 (fdef 6), .none, .none⟩), (92, ⟨"TopologicalSorter.prepare", inClass 3 (fdef 6), .none, .none⟩), (99, ⟨"TopologicalSorter.get_ready", inClass 4 (fdef 6), .none, .none⟩),
  (106, ⟨"TopologicalSorter.is_active", inClass 5 (fdef 6), .none, .none⟩), (120, ⟨"TopologicalSorter.done", inClass 7 (fdef 6), .none, .none⟩), (127, ⟨"TopologicalSorter._find_cycle", inClass 8 (fdef 6), .none, .none⟩)]
/-- the class TopologicalSorter; _NodeInfo over a fragment; CycleError -/
def tsTab : List (Str × Value) := [("__init__", .ref 73), ("_get_nodeinfo", .ref 80), ("add", .ref 87), ("prepare", .ref 92), ("get_ready", .ref 99), ("is_active", .ref 106), ("done", .ref 120), ("_find_cycle", .ref 127)]
def tsNo : List Str := ["__getattribute__", "__getattr__", "__setattr__", "_node2info", "_ready_nodes", "_npassedout", "_nfinished"]
def veMro : List Value := [.type "ValueError", .type "Exception", .type "BaseException", .type "object"]
def NiSlot (K : Frag) (name : Str) (i : Nat) : Prop := ∃ p, (∀ od, findObj K 40 od name = some (.bind (.builtin "member_descriptor.__get__") (.ref p))) ∧ takerIn K 40 name = some (some (.ref p)) ∧ typeIn K (.ref p) = some (.type "member_descriptor") ∧ slotIn K p 40 = some i
structure NiFacts (K : Frag) : Prop where
  makes : makesIn K 40 = true
  init : findIn K (.ref 40) "__init__" = some (some (.ref 36))
  fn : typeIn K (.ref 36) = some (.type "function")
  ga : findIn K (.ref 40) "__getattribute__" = some (some (.builtin "object.__getattribute__"))
  gh : findIn K (.ref 40) "__getattr__" = some Option.none
  sa : findIn K (.ref 40) "__setattr__" = some (some (.builtin "object.__setattr__"))
  over : plainOver K 40 = true
  keep : keepIn K (.ref 40) = true
  node : NiSlot K "node" 0
  npred : NiSlot K "npredecessors" 1
  succ : NiSlot K "successors" 2
structure TopB (w : World) (B : Bs) : Prop where
  glo : ∃ o es ep, B mainGlobals = some o ∧ o.data = .dict es ep ∧ StrKeys es ∧ (∀ x v, gTab.lookup x = some v → ∃ r, nsFind es x = some r ∧ den w B v r) ∧ ∀ x, x ∈ gNo → nsFind es x = none
  blt : ∃ o es ep, B builtinsNs = some o ∧ o.data = .dict es ep ∧ StrKeys es ∧ ∀ x : Str, x ≠ "__name__" → nsFind es x = bootBuiltins x
  lim : ∃ o es ep, B cStatics = some o ∧ o.data = .dict es ep ∧ StrKeys es ∧ nsFind es "sys.recursionlimit" = none
  fns : ∀ a r, fTab.lookup a = some r → ∃ doc pm cd ct nm, FnAt B a (mkFd r.q (psOf r.st) (bodyOf r.st) (scOf r.st) r.df r.kd doc pm cd ct nm)
  dfl : ∀ a, a = 66 ∨ a = 164 → ∃ o k, B a = some o ∧ o.data = .seq #[.none] k
  ts : ∃ nm q bs sn sub col dd k0 k1 k2 k3 k5, B 137 = some (excClassObj nm q 137 136 bs [.type "object"] true sn sub false col dd k0 k1 k2 k3 k5 "object.__new__")
  tsNs : ∃ o es ep, B 136 = some o ∧ o.data = .dict es ep ∧ StrKeys es ∧ (∀ x v, tsTab.lookup x = some v → nsFind es x = some v) ∧ ∀ x, x ∈ tsNo → nsFind es x = none
  ce : ∃ nm q bs hd sn sub ab col dd k0 k1 k2 k3 k5, B 55 = some (excClassObj nm q 55 54 bs veMro hd sn sub ab col dd k0 k1 k2 k3 k5 "ValueError.__new__")
  ceNs : ∃ o es ep, B 54 = some o ∧ o.data = .dict es ep ∧ StrKeys es ∧ nsFind es "__init__" = none
  ni : ∃ K : Frag, (∀ a o, K.lookup a = some o → B a = some o) ∧ NiFacts K
  sys : ∃ o, B sysModules = some o
theorem TopB.mono {w : World} {B B' : Bs} (T : TopB w B) (h : Le B B') : TopB w B' where
  glo := let ⟨o, es, ep, a, b, c, d, e⟩ := T.glo; ⟨o, es, ep, h _ _ a, b, c, fun x v q => let ⟨r, e1, e2⟩ := d x v q; ⟨r, e1, den.mono h v e2⟩, e⟩
  blt := let ⟨o, es, ep, a, r⟩ := T.blt; ⟨o, es, ep, h _ _ a, r⟩
  lim := let ⟨o, es, ep, a, r⟩ := T.lim; ⟨o, es, ep, h _ _ a, r⟩
  fns := fun a r e => let ⟨doc, pm, cd, ct, nm, f1, ⟨c, o, vs, t, e1, e2, e3⟩⟩ := T.fns a r e; ⟨doc, pm, cd, ct, nm, h _ _ f1, c, o, vs, t, e1, h _ _ e2, e3⟩
  dfl := fun a ha => let ⟨o, k, e, d⟩ := T.dfl a ha; ⟨o, k, h _ _ e, d⟩
  ts := let ⟨a1, a2, a3, a4, a5, a6, a7, a8, a9, b1, b2, b3, e⟩ := T.ts; ⟨a1, a2, a3, a4, a5, a6, a7, a8, a9, b1, b2, b3, h _ _ e⟩
  tsNs := let ⟨o, es, ep, e, r⟩ := T.tsNs; ⟨o, es, ep, h _ _ e, r⟩
  ce := let ⟨a1, a2, a3, a4, a5, a6, a7, a8, a9, b1, b2, b3, b4, b5, e⟩ := T.ce; ⟨a1, a2, a3, a4, a5, a6, a7, a8, a9, b1, b2, b3, b4, b5, h _ _ e⟩
  ceNs := let ⟨o, es, ep, e, r⟩ := T.ceNs; ⟨o, es, ep, h _ _ e, r⟩
  ni := let ⟨K, e, r⟩ := T.ni; ⟨K, fun a o q => h _ _ (e a o q), r⟩
  sys := let ⟨o, e⟩ := T.sys; ⟨o, h _ _ e⟩
theorem TopB.noLimit {w : World} {os : OsState} {B : Bs} {own : List Item} {s : Shared} (T : TopB w B) (R : Rep w os B own s) : s.heap.NoLimit :=
  let ⟨o, es, ep, a, b, c, d⟩ := T.lim; ⟨nsFind es, ⟨o, es, ep, R.base _ _ a, b, c, fun _ => rfl⟩, d⟩

section
variable (w : World) (os : OsState) (n : Nat)
/-- what a step hands on: a value, nothing of one's own changed -/
def Post (B : Bs) (own : List Item) (v : V) (r : Value) (s' : Shared) : Prop := ∃ B', Le B B' ∧ Rep w os B' own s' ∧ den w B' v r
def PostB (B : Bs) (own : List Item) (b : Bool) (r : Bool) (s' : Shared) : Prop := ∃ B', Le B B' ∧ Rep w os B' own s' ∧ r = b
/-- a pure expression -/
def PE (Ω : List Item) (sc : Scope) (ρ : Str → Option V) (e : Expr) (v : V) : Prop :=
  ∀ A env B own s E, Rm n A own → TopB w B → EnvOk env sc → Sees Ω own env ρ → Rep w os B own s → wpAny (model pg w) A (eval e env) (Post w os B own v) E s
def PT (Ω : List Item) (sc : Scope) (ρ : Str → Option V) (e : Expr) (b : Bool) : Prop :=
  ∀ A env B own s E, Rm n A own → TopB w B → EnvOk env sc → Sees Ω own env ρ → Rep w os B own s → wpAny (model pg w) A (isTrue e env (eval e env)) (PostB w os B own b) E s
/-- steps on values -/
def Bin (op : Operator) (x y v : V) : Prop := ∀ A B own s r r' E, Rm n A own → TopB w B → Rep w os B own s → den w B x r → den w B y r' → wpAny (model pg w) A (binaryOp op r r') (Post w os B own v) E s
def Cmp (op : CmpOp) (x y v : V) : Prop := ∀ A B own s r r' E, Rm n A own → TopB w B → Rep w os B own s → den w B x r → den w B y r' → wpAny (model pg w) A (compareOp op r r') (Post w os B own v) E s
def Tru (x : V) (b : Bool) : Prop := ∀ A B own s r E, Rm n A own → TopB w B → Rep w os B own s → den w B x r → wpAny (model pg w) A (truthy r) (PostB w os B own b) E s
end

section
variable {w : World} {os : OsState} {n : Nat} {sc : Scope} {ρ : Str → Option V} {Ω : List Item}

theorem Post.trans {B B' : Bs} {own : List Item} {v : V} {r : Value} {s : Shared} (h : Le B B') (p : Post w os B' own v r s) : Post w os B own v r s :=
  let ⟨B'', a, b, c⟩ := p; ⟨B'', h.trans a, b, c⟩
theorem PostB.trans {B B' : Bs} {own : List Item} {v r : Bool} {s : Shared} (h : Le B B') (p : PostB w os B' own v r s) : PostB w os B own v r s :=
  let ⟨B'', a, b, c⟩ := p; ⟨B'', h.trans a, b, c⟩
theorem Post.now {B : Bs} {own : List Item} {v : V} {r : Value} {s : Shared} (R : Rep w os B own s) (d : den w B v r) : Post w os B own v r s := ⟨B, Le.refl B, R, d⟩

theorem PE.name {x : Str} {pos : Pos} {v : V} (hv : ρ x = some v) (hk : sc.names.lookup x = some .local ∨ sc.names.lookup x = some .cell) (hd : (x == ("__debug__" : Str)) = false := by decide) : PE w os n Ω sc ρ (.Name x pos) v := by
  intro A env B own s E hA T ek sees R
  refine wpAny_Name ?_ hd
  have kf : env.scope.kind = .function := by rw [ek.scope]; exact ek.kind
  have ke : env.kindOf x = sc.names.lookup x := by unfold Env.kindOf; rw [ek.scope]
  rcases hk with hk | hk
  · obtain ⟨m, hm, hx⟩ := sees.loc x v hv (ke.trans hk)
    obtain ⟨o, ho, es, ep, hd, hs, hp⟩ := R.has _ hm
    obtain ⟨r, hr, dr⟩ := hp x v hx
    exact wpAny_loadName_local kf (ke.trans hk) ⟨o, es, ep, ho, hd, hs, fun _ => rfl⟩ hr (.now R dr)
  · obtain ⟨c, hc, hm⟩ := sees.cel x v hv (ke.trans hk)
    obtain ⟨o, ho, r, hr, hq⟩ := R.has _ hm
    obtain ⟨y, rfl, dy⟩ := hq v rfl
    exact wpAny_loadName_cell kf (ke.trans hk) hc ⟨o, ho, hr⟩ (.now R dy)

theorem PE.glob {x : Str} {pos : Pos} {v : V} (hv : gTab.lookup x = some v) (hk : sc.names.lookup x = some .globalImplicit) (hd : (x == ("__debug__" : Str)) = false := by decide) : PE w os n Ω sc ρ (.Name x pos) v := by
  intro A env B own s E hA T ek sees R
  have kf : env.scope.kind = .function := by rw [ek.scope]; exact ek.kind
  have ke : env.kindOf x = sc.names.lookup x := by unfold Env.kindOf; rw [ek.scope]
  refine Calls.Name_function_global kf (ke.trans hk) ?_ hd
  obtain ⟨o, es, ep, a, b, c, d, _⟩ := T.glo
  obtain ⟨r, hr, dr⟩ := d x v hv
  unfold loadGlobal
  refine wpAny_bind (wpAny_nsGet (m := nsFind es) ⟨o, es, ep, by rw [ek.globals]; exact R.base _ _ a, b, c, fun _ => rfl⟩ ?_)
  rw [hr]
  exact wpAny_pure (.now R dr)

theorem PE.builtin {x : Str} {pos : Pos} {v : Value} (hn : x ∈ gNo) (hb : x ≠ "__name__") (hv : bootBuiltins x = some v) (hk : sc.names.lookup x = some .globalImplicit) (hd : (x == ("__debug__" : Str)) = false := by decide) : PE w os n Ω sc ρ (.Name x pos) (.exact v) := by
  intro A env B own s E hA T ek sees R
  have kf : env.scope.kind = .function := by rw [ek.scope]; exact ek.kind
  have ke : env.kindOf x = sc.names.lookup x := by unfold Env.kindOf; rw [ek.scope]
  refine Calls.Name_function_global kf (ke.trans hk) ?_ hd
  obtain ⟨o, es, ep, a, b, c, _, d⟩ := T.glo
  obtain ⟨o', es', ep', a', b', c', d'⟩ := T.blt
  unfold loadGlobal
  refine wpAny_bind (wpAny_nsGet (m := nsFind es) ⟨o, es, ep, by rw [ek.globals]; exact R.base _ _ a, b, c, fun _ => rfl⟩ ?_)
  rw [d x hn]
  refine wpAny_bind (wpAny_nsGet (m := nsFind es') ⟨o', es', ep', by rw [ek.builtins]; exact R.base _ _ a', b', c', fun _ => rfl⟩ ?_)
  rw [d' x hb, hv]
  exact wpAny_pure (.now R (den_exact.mpr rfl))

theorem PE.int {i : Int} {k : Nat} {pos : Pos} : PE w os n Ω sc ρ (.Constant (.int i) k pos) (.int i) :=
  fun _ _ _ _ _ _ _ _ _ _ R => wpAny_Constant_int (.now (R.toks _) (den_int.mpr ⟨_, rfl⟩))
theorem PE.bool {b : Bool} {k : Nat} {pos : Pos} : PE w os n Ω sc ρ (.Constant (.bool b) k pos) (.bool b) :=
  fun _ _ _ _ _ _ _ _ _ _ R => wpAny_Constant_bool (.now R (den_bool.mpr rfl))
theorem PE.none {k : Nat} {pos : Pos} : PE w os n Ω sc ρ (.Constant .none k pos) .none :=
  fun _ _ _ _ _ _ _ _ _ _ R => wpAny_Constant_none (.now R (den_none.mpr rfl))
theorem PE.bytes {b : List UInt8} {k : Nat} {pos : Pos} : PE w os n Ω sc ρ (.Constant (.bytes b) k pos) (.bytes b.toArray) := by
  intro A env B own s E hA T ek sees R
  intro Γ p hΓ
  exact Post.now (R.toks _) (den_bytes.mpr ⟨_, rfl⟩)

theorem PE.bin {l r : Expr} {op : Operator} {pos : Pos} {x y v : V} (hl : PE w os n Ω sc ρ l x) (hr : PE w os n Ω sc ρ r y) (hb : Bin w os n op x y v) : PE w os n Ω sc ρ (.BinOp l op r pos) v := by
  intro A env B own s E hA T ek sees R
  refine wpAny_BinOp (wpAny_mono (hl A env B own s E hA T ek sees R) (fun a s₁ p₁ => ?_) fun _ _ e => e)
  obtain ⟨B₁, l₁, R₁, d₁⟩ := p₁
  refine wpAny_mono (hr A env B₁ own s₁ E hA (T.mono l₁) ek sees R₁) (fun b s₂ p₂ => ?_) fun _ _ e => e
  obtain ⟨B₂, l₂, R₂, d₂⟩ := p₂
  exact wpAny_mono (hb A B₂ own s₂ a b E hA (T.mono (l₁.trans l₂)) R₂ (den.mono l₂ _ d₁) d₂) (fun _ _ p => p.trans (l₁.trans l₂)) fun _ _ e => e
theorem PE.cmp {l r : Expr} {op : CmpOp} {pos : Pos} {x y v : V} (hl : PE w os n Ω sc ρ l x) (hr : PE w os n Ω sc ρ r y) (hb : Cmp w os n op x y v) (hm : behindInMarks op r = false := by with_unfolding_all rfl) : PE w os n Ω sc ρ (.Compare l [op] [r] pos) v := by
  intro A env B own s E hA T ek sees R
  refine wpAny_Compare1 (wpAny_mono (hl A env B own s E hA T ek sees R) (fun a s₁ p₁ => ?_) fun _ _ e => e) hm
  obtain ⟨B₁, l₁, R₁, d₁⟩ := p₁
  refine wpAny_mono (hr A env B₁ own s₁ E hA (T.mono l₁) ek sees R₁) (fun b s₂ p₂ => ?_) fun _ _ e => e
  obtain ⟨B₂, l₂, R₂, d₂⟩ := p₂
  exact wpAny_mono (hb A B₂ own s₂ a b E hA (T.mono (l₁.trans l₂)) R₂ (den.mono l₂ _ d₁) d₂) (fun _ _ p => p.trans (l₁.trans l₂)) fun _ _ e => e
theorem PT.cmp {l r : Expr} {op : CmpOp} {pos : Pos} {x y : V} {b : Bool} (hl : PE w os n Ω sc ρ l x) (hr : PE w os n Ω sc ρ r y) (hb : Cmp w os n op x y (.bool b)) (hm : behindInMarks op r = false := by with_unfolding_all rfl) : PT w os n Ω sc ρ (.Compare l [op] [r] pos) b := by
  intro A env B own s E hA T ek sees R
  refine wpAny_isTrue_Compare1 (wpAny_mono (hl A env B own s E hA T ek sees R) (fun a s₁ p₁ => ?_) fun _ _ e => e) hm
  obtain ⟨B₁, l₁, R₁, d₁⟩ := p₁
  refine wpAny_mono (hr A env B₁ own s₁ E hA (T.mono l₁) ek sees R₁) (fun b s₂ p₂ => ?_) fun _ _ e => e
  obtain ⟨B₂, l₂, R₂, d₂⟩ := p₂
  refine wpAny_mono (hb A B₂ own s₂ a _ E hA (T.mono (l₁.trans l₂)) R₂ (den.mono l₂ _ d₁) d₂) (fun c s₃ p => ?_) fun _ _ e => e
  obtain ⟨B₃, l₃, R₃, d₃⟩ := p
  rw [den_bool.mp d₃]
  exact wpAny_truthy_bool ⟨B₃, (l₁.trans l₂).trans l₃, R₃, rfl⟩
theorem PT.val {e : Expr} {x : V} {b : Bool} (he : PE w os n Ω sc ρ e x) (hx : Tru w os n x b)
    (hi : ∀ env whole, isTrue e env whole = (do let v ← whole; standAt e.pos; holding [v] (truthy v)) := by intro _ _; rfl) : PT w os n Ω sc ρ e b := by
  intro A env B own s E hA T ek sees R
  refine wpAny_isTrue_value (wpAny_mono (he A env B own s E hA T ek sees R) (fun a s₁ p₁ => ?_) fun _ _ e => e) (hi _ _)
  obtain ⟨B₁, l₁, R₁, d₁⟩ := p₁
  exact wpAny_mono (hx A B₁ own s₁ a E hA (T.mono l₁) R₁ d₁) (fun _ _ p => p.trans l₁) fun _ _ e => e
theorem PT.not {e : Expr} {pos : Pos} {b : Bool} (he : PT w os n Ω sc ρ e b) : PT w os n Ω sc ρ (.UnaryOp .Not e pos) (!b) := by
  intro A env B own s E hA T ek sees R
  refine wpAny_isTrue_Not (wpAny_mono (he A env B own s E hA T ek sees R) (fun a s₁ p₁ => ?_) fun _ _ e => e)
  obtain ⟨B₁, l₁, R₁, rfl⟩ := p₁
  exact ⟨B₁, l₁, R₁, rfl⟩
/-- «x and y», «x or y» as a test -/
theorem PT.and {x y : Expr} {pos : Pos} {b c : Bool} (hx : PT w os n Ω sc ρ x b) (hy : b = true → PT w os n Ω sc ρ y c) : PT w os n Ω sc ρ (.BoolOp .And [x, y] pos) (b && c) := by
  intro A env B own s E hA T ek sees R
  refine wpAny_isTrue_BoolOp (wpAny_allTrue_And_cons (wpAny_mono (hx A env B own s E hA T ek sees R) (fun a s₁ p₁ => ?_) fun _ _ e => e))
  obtain ⟨B₁, l₁, R₁, rfl⟩ := p₁
  cases a with
  | false => exact ⟨B₁, l₁, R₁, rfl⟩
  | true =>
    refine wpAny_allTrue_And_cons (wpAny_mono (hy rfl A env B₁ own s₁ E hA (T.mono l₁) ek sees R₁) (fun a s₂ p₂ => ?_) fun _ _ e => e)
    obtain ⟨B₂, l₂, R₂, rfl⟩ := p₂
    cases a with
    | false => exact ⟨B₂, l₁.trans l₂, R₂, rfl⟩
    | true => exact wpAny_allTrue_And_nil ⟨B₂, l₁.trans l₂, R₂, rfl⟩
theorem PT.or {x y : Expr} {pos : Pos} {b c : Bool} (hx : PT w os n Ω sc ρ x b) (hy : b = false → PT w os n Ω sc ρ y c) : PT w os n Ω sc ρ (.BoolOp .Or [x, y] pos) (b || c) := by
  intro A env B own s E hA T ek sees R
  refine wpAny_isTrue_BoolOp (wpAny_allTrue_Or_cons (wpAny_mono (hx A env B own s E hA T ek sees R) (fun a s₁ p₁ => ?_) fun _ _ e => e))
  obtain ⟨B₁, l₁, R₁, rfl⟩ := p₁
  cases a with
  | true => exact ⟨B₁, l₁, R₁, rfl⟩
  | false =>
    refine wpAny_allTrue_Or_cons (wpAny_mono (hy rfl A env B₁ own s₁ E hA (T.mono l₁) ek sees R₁) (fun a s₂ p₂ => ?_) fun _ _ e => e)
    obtain ⟨B₂, l₂, R₂, rfl⟩ := p₂
    cases a with
    | true => exact ⟨B₂, l₁.trans l₂, R₂, rfl⟩
    | false => exact wpAny_allTrue_Or_nil ⟨B₂, l₁.trans l₂, R₂, rfl⟩
theorem PE.ite {t x y : Expr} {pos : Pos} {b : Bool} {v : V} (ht : PT w os n Ω sc ρ t b) (hx : b = true → PE w os n Ω sc ρ x v) (hy : b = false → PE w os n Ω sc ρ y v) : PE w os n Ω sc ρ (.IfExp t x y pos) v := by
  intro A env B own s E hA T ek sees R
  refine wpAny_IfExp (wpAny_mono (ht A env B own s E hA T ek sees R) (fun a s₁ p₁ => ?_) fun _ _ e => e)
  obtain ⟨B₁, l₁, R₁, rfl⟩ := p₁
  cases a with
  | true => exact wpAny_mono (hx rfl A env B₁ own s₁ E hA (T.mono l₁) ek sees R₁) (fun _ _ p => p.trans l₁) fun _ _ e => e
  | false => exact wpAny_mono (hy rfl A env B₁ own s₁ E hA (T.mono l₁) ek sees R₁) (fun _ _ p => p.trans l₁) fun _ _ e => e

-- ints
theorem Bin.add {a b : Int} : Bin w os n .Add (.int a) (.int b) (.int (a + b)) := by
  intro A B own s r r' E hA T R d d'
  obtain ⟨t, rfl⟩ := den_int.mp d; obtain ⟨u, rfl⟩ := den_int.mp d'
  exact P.add_int (.now (R.toks _) (den_int.mpr ⟨_, rfl⟩))
theorem Bin.sub {a b : Int} : Bin w os n .Sub (.int a) (.int b) (.int (a - b)) := by
  intro A B own s r r' E hA T R d d'
  obtain ⟨t, rfl⟩ := den_int.mp d; obtain ⟨u, rfl⟩ := den_int.mp d'
  exact P.sub_int (.now (R.toks _) (den_int.mpr ⟨_, rfl⟩))
end
end Mine

namespace Mine

/-- kinds of data that == compares part by part -/
inductive K where
  | int | bool | bytes
  | list (k : K) | tuple (k : K)
def K.depth : K → Nat
  | .int | .bool | .bytes => 1
  | .list k | .tuple k => k.depth + 1
def HasK : K → V → Prop
  | .int, x => ∃ i, x = .int i
  | .bool, x => ∃ i, x = .bool i
  | .bytes, x => ∃ i, x = .bytes i
  | .list k, x => ∃ xs, x = .list xs ∧ ∀ y ∈ xs, HasK k y
  | .tuple k, x => ∃ xs, x = .tuple xs ∧ ∀ y ∈ xs, HasK k y
mutual
def V.eqb : V → V → Bool
  | .int a, .int b => a == b
  | .bool a, .bool b => a == b
  | .bytes a, .bytes b => a == b
  | .list xs, .list ys => V.eqbs xs ys
  | .tuple xs, .tuple ys => V.eqbs xs ys
  | _, _ => false
def V.eqbs : List V → List V → Bool
  | [], [] => true
  | x :: xs, y :: ys => V.eqb x y && V.eqbs xs ys
  | _, _ => false
end
theorem eqbs_length : ∀ {xs ys : List V}, xs.length ≠ ys.length → V.eqbs xs ys = false
  | [], [], h => absurd rfl h
  | [], _ :: _, _ => by simp only [V.eqbs]
  | _ :: _, [], _ => by simp only [V.eqbs]
  | x :: xs, y :: ys, h => by
    simp only [V.eqbs]
    rw [eqbs_length (xs := xs) (ys := ys) (by simpa using h), Bool.and_false]
/-- items side by side -/
def eqAt' (xs ys : List V) (j : Nat) : Bool := match xs[j]?, ys[j]? with
  | some x, some y => V.eqb x y
  | _, _ => true
theorem eqbs_range : ∀ {xs ys : List V}, xs.length = ys.length → (List.range xs.length).all (eqAt' xs ys) = V.eqbs xs ys
  | [], [], _ => by simp [V.eqbs]
  | x :: xs, y :: ys, h => by
    have h' : xs.length = ys.length := by simpa using h
    have ih := eqbs_range h'
    simp only [V.eqbs, List.length_cons, List.range_succ_eq_map, List.all_cons, List.all_map]
    rw [← ih]
    rfl
theorem eqbs_min {xs ys : List V} : ((List.range (min xs.length ys.length)).all (eqAt' xs ys) && xs.length == ys.length) = V.eqbs xs ys := by
  by_cases h : xs.length = ys.length
  · have := eqbs_range h
    rw [h] at this ⊢
    simp [this]
  · rw [eqbs_length h]
    have : (xs.length == ys.length) = false := by simpa using h
    rw [this, Bool.and_false]
theorem hasK_eqb_refl : ∀ (k : K) (x y : V) {w : World} {B : Bs} {r : Value}, HasK k x → HasK k y → den w B x r → den w B y r → V.eqb x y = true
  | .int, x, y, w, B, r, hx, hy, d, d' => by
    obtain ⟨i, rfl⟩ := hx; obtain ⟨j, rfl⟩ := hy
    obtain ⟨t, rfl⟩ := den_int.mp d; obtain ⟨u, e⟩ := den_int.mp d'
    cases e; simp [V.eqb]
  | .bool, x, y, w, B, r, hx, hy, d, d' => by
    obtain ⟨i, rfl⟩ := hx; obtain ⟨j, rfl⟩ := hy
    have e1 := den_bool.mp d; have e2 := den_bool.mp d'
    rw [e1] at e2; cases e2; simp [V.eqb]
  | .bytes, x, y, w, B, r, hx, hy, d, d' => by
    obtain ⟨i, rfl⟩ := hx; obtain ⟨j, rfl⟩ := hy
    obtain ⟨t, rfl⟩ := den_bytes.mp d; obtain ⟨u, e⟩ := den_bytes.mp d'
    cases e; simp [V.eqb]
  | .list k, x, y, w, B, r, hx, hy, d, d' => by
    obtain ⟨xs, rfl, hxs⟩ := hx; obtain ⟨ys, rfl, hys⟩ := hy
    obtain ⟨a, its, n, rfl, b, ds⟩ := den_list.mp d; obtain ⟨a', its', n', e, b', ds'⟩ := den_list.mp d'
    cases e; rw [b] at b'; cases b'
    simp only [V.eqb]
    exact go k xs ys its.toList hxs hys ds ds'
  | .tuple k, x, y, w, B, r, hx, hy, d, d' => by
    obtain ⟨xs, rfl, hxs⟩ := hx; obtain ⟨ys, rfl, hys⟩ := hy
    obtain ⟨a, its, n, rfl, b, ds⟩ := den_tuple.mp d; obtain ⟨a', its', n', e, b', ds'⟩ := den_tuple.mp d'
    cases e; rw [b] at b'; cases b'
    simp only [V.eqb]
    exact go k xs ys its.toList hxs hys ds ds'
where
  go (k : K) {w : World} {B : Bs} : ∀ (xs ys : List V) (l : List Value), (∀ y ∈ xs, HasK k y) → (∀ y ∈ ys, HasK k y) → dens w B xs l → dens w B ys l → V.eqbs xs ys = true
    | [], [], _, _, _, _, _ => by simp only [V.eqbs]
    | [], y :: ys, l, _, _, d, d' => by
      rw [dens_nil.mp d] at d'
      obtain ⟨r, rs, e, _⟩ := dens_cons.mp d'; cases e
    | x :: xs, [], l, _, _, d, d' => by
      rw [dens_nil.mp d'] at d
      obtain ⟨r, rs, e, _⟩ := dens_cons.mp d; cases e
    | x :: xs, y :: ys, l, h, h', d, d' => by
      obtain ⟨r, rs, rfl, e1, e2⟩ := dens_cons.mp d
      obtain ⟨r', rs', e, e1', e2'⟩ := dens_cons.mp d'
      cases e
      simp only [V.eqbs]
      rw [hasK_eqb_refl k x y (h x (by simp)) (h' y (by simp)) e1 e1', go k xs ys rs (fun z hz => h z (by simp [hz])) (fun z hz => h' z (by simp [hz])) e2 e2']
      rfl
theorem dens.getA {w : World} {B : Bs} {xs : List V} {its : Array Value} (d : dens w B xs its.toList) {j : Nat} (hj : j < its.size) : ∃ x, xs[j]? = some x ∧ den w B x its[j] := by
  have hl : j < xs.length := by have := d.length; simp at this; omega
  obtain ⟨r, hr, dr⟩ := d.get (i := j) (x := xs[j]) (by simp [hl])
  refine ⟨xs[j], by simp [hl], ?_⟩
  have : its[j] = r := by
    have h2 : its.toList[j]? = some its[j] := by simp [hj]
    rw [h2] at hr; exact Option.some.inj hr
  rw [this]; exact dr
theorem dens.size {w : World} {B : Bs} {xs : List V} {its : Array Value} (d : dens w B xs its.toList) : its.size = xs.length := by have := d.length; simpa using this

open PySem.SeqAt in
theorem bytes_eqAt (A : Around) (s : Shared) (a b : Array UInt8) (t u : Tok) : EqAt A s (.bytes a t) (.bytes b u) (a == b) := by
  intro prog w E Q hq
  refine eqBool_bytes ?_
  have e : (a == b) = decide (a.toList = b.toList) := by
    rw [Bool.eq_iff_iff]
    simp
  rw [← e]
  exact hq
open PySem.SeqAt
theorem eqAt_den {w : World} {os : OsState} {B : Bs} {own : List Item} {s : Shared} (R : Rep w os B own s) : ∀ (k : K) (A : Around) (x y : V) (r r' : Value), HasK k x → HasK k y → den w B x r → den w B y r' → A.units + k.depth < cLine → EqAt A s r r' (V.eqb x y)
  | .int, A, x, y, r, r', hx, hy, d, d', _ => by
    obtain ⟨i, rfl⟩ := hx; obtain ⟨j, rfl⟩ := hy
    obtain ⟨t, rfl⟩ := den_int.mp d; obtain ⟨u, rfl⟩ := den_int.mp d'
    simp only [V.eqb]
    exact (MeetsSeq.EqGives.int i j t u).at A s
  | .bool, A, x, y, r, r', hx, hy, d, d', _ => by
    obtain ⟨i, rfl⟩ := hx; obtain ⟨j, rfl⟩ := hy
    rw [den_bool.mp d, den_bool.mp d']
    simp only [V.eqb]
    exact EqAt.bool_bool i j
  | .bytes, A, x, y, r, r', hx, hy, d, d', _ => by
    obtain ⟨i, rfl⟩ := hx; obtain ⟨j, rfl⟩ := hy
    obtain ⟨t, rfl⟩ := den_bytes.mp d; obtain ⟨u, rfl⟩ := den_bytes.mp d'
    simp only [V.eqb]
    exact bytes_eqAt A s i j t u
  | .list k, A, x, y, r, r', hx, hy, d, d', hu => by
    obtain ⟨xs, rfl, hxs⟩ := hx; obtain ⟨ys, rfl, hys⟩ := hy
    by_cases hrr : r = r'
    · subst hrr
      rw [hasK_eqb_refl (.list k) _ _ ⟨xs, rfl, hxs⟩ ⟨ys, rfl, hys⟩ d d']
      exact EqAt.same r
    · obtain ⟨a, its, n, rfl, b, ds⟩ := den_list.mp d; obtain ⟨a', its', n', rfl, b', ds'⟩ := den_list.mp d'
      refine EqAt.of_refs (fun e => hrr (by rw [e])) ?_
      have hl : s.heap.IsList a its := ⟨_, R.base _ _ b, rfl, n, rfl⟩
      have hl' : s.heap.IsList a' its' := ⟨_, R.base _ _ b', rfl, n', rfl⟩
      have hu1 : A.units < cLine := by omega
      simp only [V.eqb]
      by_cases hsz : its.size = its'.size
      · have e1 := ds.size; have e2 := ds'.size
        rw [← eqbs_range (by omega), ← e1]
        refine RcAt.lists hl hl' hsz hu1 fun j h1 h2 => ?_
        obtain ⟨x, gx, dx⟩ := ds.getA h1
        obtain ⟨y, gy, dy⟩ := ds'.getA h2
        have : eqAt' xs ys j = V.eqb x y := by unfold eqAt'; rw [gx, gy]
        rw [this]
        exact eqAt_den R k A.in1 x y _ _ (hxs x (List.mem_of_getElem? gx)) (hys y (List.mem_of_getElem? gy)) dx dy (by show A.units + 1 + k.depth < cLine; simp only [K.depth] at hu; omega)
      · rw [eqbs_length (by rw [← ds.size, ← ds'.size]; exact hsz)]
        exact RcAt.lists_lengths hl hl' (by simpa using hsz) hu1
  | .tuple k, A, x, y, r, r', hx, hy, d, d', hu => by
    obtain ⟨xs, rfl, hxs⟩ := hx; obtain ⟨ys, rfl, hys⟩ := hy
    by_cases hrr : r = r'
    · subst hrr
      rw [hasK_eqb_refl (.tuple k) _ _ ⟨xs, rfl, hxs⟩ ⟨ys, rfl, hys⟩ d d']
      exact EqAt.same r
    · obtain ⟨a, its, n, rfl, b, ds⟩ := den_tuple.mp d; obtain ⟨a', its', n', rfl, b', ds'⟩ := den_tuple.mp d'
      refine EqAt.of_refs (fun e => hrr (by rw [e])) ?_
      have hl : s.heap.IsTuple a its := ⟨_, R.base _ _ b, rfl, n, rfl⟩
      have hl' : s.heap.IsTuple a' its' := ⟨_, R.base _ _ b', rfl, n', rfl⟩
      have hu1 : A.units < cLine := by omega
      simp only [V.eqb]
      rw [← eqbs_min, ← ds.size, ← ds'.size]
      refine RcAt.tuples hl hl' hu1 fun j h1 h2 => ?_
      obtain ⟨x, gx, dx⟩ := ds.getA h1
      obtain ⟨y, gy, dy⟩ := ds'.getA h2
      have : eqAt' xs ys j = V.eqb x y := by unfold eqAt'; rw [gx, gy]
      rw [this]
      exact eqAt_den R k A.in1 x y _ _ (hxs x (List.mem_of_getElem? gx)) (hys y (List.mem_of_getElem? gy)) dx dy (by show A.units + 1 + k.depth < cLine; simp only [K.depth] at hu; omega)

section
variable {w : World} {os : OsState} {n : Nat} {sc : Scope} {ρ : Str → Option V} {Ω : List Item}
theorem units_of {A : Around} {own : List Item} (hA : Rm n A own) (k : K) (hk : k.depth ≤ 64) : A.units + k.depth < cLine := by have := hA.uni; unfold cLine; omega
theorem bool_of_eqb {a b : Bool} : V.eqb (.bool a) (.bool b) = (a == b) := by simp only [V.eqb]

/-- richCompare Eq of data -/
theorem rcAt_den {B : Bs} {own : List Item} {s : Shared} (R : Rep w os B own s) (k : K) (A : Around) (x y : V) (r r' : Value) (hx : HasK k x) (hy : HasK k y) (d : den w B x r) (d' : den w B y r') (hu : A.units + k.depth < cLine) : RcAt A s r r' (V.eqb x y) := by
  cases k with
  | int =>
    obtain ⟨i, rfl⟩ := hx; obtain ⟨j, rfl⟩ := hy
    obtain ⟨t, rfl⟩ := den_int.mp d; obtain ⟨u, rfl⟩ := den_int.mp d'
    simp only [V.eqb]
    intro prog w E Q h
    exact P.eq_int h
  | bool =>
    obtain ⟨i, rfl⟩ := hx; obtain ⟨j, rfl⟩ := hy
    rw [den_bool.mp d, den_bool.mp d']
    simp only [V.eqb]
    exact RcAt.bool_bool i j
  | bytes =>
    obtain ⟨i, rfl⟩ := hx; obtain ⟨j, rfl⟩ := hy
    obtain ⟨t, rfl⟩ := den_bytes.mp d; obtain ⟨u, rfl⟩ := den_bytes.mp d'
    simp only [V.eqb]
    intro prog w E Q h
    have e : (i == j) = (i.toList == j.toList) := by rw [Bool.eq_iff_iff]; simp
    rw [e] at h
    exact eq_bytes h
  | list k =>
    obtain ⟨xs, rfl, hxs⟩ := hx; obtain ⟨ys, rfl, hys⟩ := hy
    obtain ⟨a, its, n, rfl, b, ds⟩ := den_list.mp d; obtain ⟨a', its', n', rfl, b', ds'⟩ := den_list.mp d'
    have hl : s.heap.IsList a its := ⟨_, R.base _ _ b, rfl, n, rfl⟩
    have hl' : s.heap.IsList a' its' := ⟨_, R.base _ _ b', rfl, n', rfl⟩
    have hu1 : A.units < cLine := by omega
    simp only [V.eqb]
    by_cases hsz : its.size = its'.size
    · have e1 := ds.size; have e2 := ds'.size
      rw [← eqbs_range (by omega), ← e1]
      refine RcAt.lists hl hl' hsz hu1 fun j h1 h2 => ?_
      obtain ⟨x, gx, dx⟩ := ds.getA h1
      obtain ⟨y, gy, dy⟩ := ds'.getA h2
      have : eqAt' xs ys j = V.eqb x y := by unfold eqAt'; rw [gx, gy]
      rw [this]
      exact eqAt_den R k A.in1 x y _ _ (hxs x (List.mem_of_getElem? gx)) (hys y (List.mem_of_getElem? gy)) dx dy (by show A.units + 1 + k.depth < cLine; simp only [K.depth] at hu; omega)
    · rw [eqbs_length (by rw [← ds.size, ← ds'.size]; exact hsz)]
      exact RcAt.lists_lengths hl hl' (by simpa using hsz) hu1
  | tuple k =>
    obtain ⟨xs, rfl, hxs⟩ := hx; obtain ⟨ys, rfl, hys⟩ := hy
    obtain ⟨a, its, n, rfl, b, ds⟩ := den_tuple.mp d; obtain ⟨a', its', n', rfl, b', ds'⟩ := den_tuple.mp d'
    have hl : s.heap.IsTuple a its := ⟨_, R.base _ _ b, rfl, n, rfl⟩
    have hl' : s.heap.IsTuple a' its' := ⟨_, R.base _ _ b', rfl, n', rfl⟩
    have hu1 : A.units < cLine := by omega
    simp only [V.eqb]
    rw [← eqbs_min, ← ds.size, ← ds'.size]
    refine RcAt.tuples hl hl' hu1 fun j h1 h2 => ?_
    obtain ⟨x, gx, dx⟩ := ds.getA h1
    obtain ⟨y, gy, dy⟩ := ds'.getA h2
    have : eqAt' xs ys j = V.eqb x y := by unfold eqAt'; rw [gx, gy]
    rw [this]
    exact eqAt_den R k A.in1 x y _ _ (hxs x (List.mem_of_getElem? gx)) (hys y (List.mem_of_getElem? gy)) dx dy (by show A.units + 1 + k.depth < cLine; simp only [K.depth] at hu; omega)

theorem Cmp.eqK {x y : V} (k : K) (hx : HasK k x) (hy : HasK k y) (hk : k.depth ≤ 64 := by decide) : Cmp w os n .Eq x y (.bool (V.eqb x y)) := by
  intro A B own s r r' E hA T R d d'
  exact rcAt_den R k A x y r r' hx hy d d' (units_of hA k hk) pg w E _ (.now R (den_bool.mpr rfl))

theorem rcNeAt_den {B : Bs} {own : List Item} {s : Shared} (R : Rep w os B own s) (k : K) (A : Around) (x y : V) (r r' : Value) (hx : HasK k x) (hy : HasK k y) (d : den w B x r) (d' : den w B y r') (hu : A.units + k.depth < cLine) (hnb : k ≠ .bytes) : RcNeAt A s r r' (!V.eqb x y) := by
  cases k with
  | int =>
    obtain ⟨i, rfl⟩ := hx; obtain ⟨j, rfl⟩ := hy
    obtain ⟨t, rfl⟩ := den_int.mp d; obtain ⟨u, rfl⟩ := den_int.mp d'
    simp only [V.eqb]
    exact RcNeAt.int_int i t j u
  | bool =>
    obtain ⟨i, rfl⟩ := hx; obtain ⟨j, rfl⟩ := hy
    rw [den_bool.mp d, den_bool.mp d']
    simp only [V.eqb]
    exact RcNeAt.bool_bool i j
  | bytes => exact absurd rfl hnb
  | list k =>
    obtain ⟨xs, rfl, hxs⟩ := hx; obtain ⟨ys, rfl, hys⟩ := hy
    obtain ⟨a, its, n, rfl, b, ds⟩ := den_list.mp d; obtain ⟨a', its', n', rfl, b', ds'⟩ := den_list.mp d'
    have hl : s.heap.IsList a its := ⟨_, R.base _ _ b, rfl, n, rfl⟩
    have hl' : s.heap.IsList a' its' := ⟨_, R.base _ _ b', rfl, n', rfl⟩
    have hu1 : A.units < cLine := by omega
    simp only [V.eqb]
    by_cases hsz : its.size = its'.size
    · have e1 := ds.size; have e2 := ds'.size
      rw [← eqbs_range (by omega), ← e1]
      refine RcNeAt.lists hl hl' hsz hu1 fun j h1 h2 => ?_
      obtain ⟨x, gx, dx⟩ := ds.getA h1
      obtain ⟨y, gy, dy⟩ := ds'.getA h2
      have : eqAt' xs ys j = V.eqb x y := by unfold eqAt'; rw [gx, gy]
      rw [this]
      exact eqAt_den R k A.in1 x y _ _ (hxs x (List.mem_of_getElem? gx)) (hys y (List.mem_of_getElem? gy)) dx dy (by show A.units + 1 + k.depth < cLine; simp only [K.depth] at hu; omega)
    · rw [eqbs_length (by rw [← ds.size, ← ds'.size]; exact hsz)]
      exact RcNeAt.lists_lengths hl hl' (by simpa using hsz) hu1
  | tuple k =>
    obtain ⟨xs, rfl, hxs⟩ := hx; obtain ⟨ys, rfl, hys⟩ := hy
    obtain ⟨a, its, n, rfl, b, ds⟩ := den_tuple.mp d; obtain ⟨a', its', n', rfl, b', ds'⟩ := den_tuple.mp d'
    have hl : s.heap.IsTuple a its := ⟨_, R.base _ _ b, rfl, n, rfl⟩
    have hl' : s.heap.IsTuple a' its' := ⟨_, R.base _ _ b', rfl, n', rfl⟩
    have hu1 : A.units < cLine := by omega
    simp only [V.eqb]
    rw [← eqbs_min, ← ds.size, ← ds'.size]
    refine RcNeAt.tuples hl hl' hu1 fun j h1 h2 => ?_
    obtain ⟨x, gx, dx⟩ := ds.getA h1
    obtain ⟨y, gy, dy⟩ := ds'.getA h2
    have : eqAt' xs ys j = V.eqb x y := by unfold eqAt'; rw [gx, gy]
    rw [this]
    exact eqAt_den R k A.in1 x y _ _ (hxs x (List.mem_of_getElem? gx)) (hys y (List.mem_of_getElem? gy)) dx dy (by show A.units + 1 + k.depth < cLine; simp only [K.depth] at hu; omega)
theorem Cmp.neK {x y : V} (k : K) (hx : HasK k x) (hy : HasK k y) (hnb : k ≠ .bytes := by intro h; cases h) (hk : k.depth ≤ 64 := by decide) : Cmp w os n .NotEq x y (.bool (!V.eqb x y)) := by
  intro A B own s r r' E hA T R d d'
  exact rcNeAt_den R k A x y r r' hx hy d d' (units_of hA k hk) hnb pg w E _ (.now R (den_bool.mpr rfl))

-- ints
theorem Cmp.lt {a b : Int} : Cmp w os n .Lt (.int a) (.int b) (.bool (decide (a < b))) := by
  intro A B own s r r' E hA T R d d'
  obtain ⟨t, rfl⟩ := den_int.mp d; obtain ⟨u, rfl⟩ := den_int.mp d'
  exact P.lt_int (.now R (den_bool.mpr rfl))
theorem Cmp.ge {a b : Int} : Cmp w os n .GtE (.int a) (.int b) (.bool (decide (a ≥ b))) := by
  intro A B own s r r' E hA T R d d'
  obtain ⟨t, rfl⟩ := den_int.mp d; obtain ⟨u, rfl⟩ := den_int.mp d'
  exact P.ge_int (.now R (den_bool.mpr rfl))
theorem Cmp.eqI {a b : Int} : Cmp w os n .Eq (.int a) (.int b) (.bool (a == b)) := by
  intro A B own s r r' E hA T R d d'
  obtain ⟨t, rfl⟩ := den_int.mp d; obtain ⟨u, rfl⟩ := den_int.mp d'
  exact P.eq_int (.now R (den_bool.mpr rfl))
theorem Cmp.neI {a b : Int} : Cmp w os n .NotEq (.int a) (.int b) (.bool (a != b)) := by
  intro A B own s r r' E hA T R d d'
  obtain ⟨t, rfl⟩ := den_int.mp d; obtain ⟨u, rfl⟩ := den_int.mp d'
  exact P.ne_int (.now R (den_bool.mpr rfl))
theorem Bin.mod {a b : Int} (hb : b ≠ 0) : Bin w os n .Mod (.int a) (.int b) (.int (a.fmod b)) := by
  intro A B own s r r' E hA T R d d'
  obtain ⟨t, rfl⟩ := den_int.mp d; obtain ⟨u, rfl⟩ := den_int.mp d'
  exact mod_int' hb (.now (R.toks _) (den_int.mpr ⟨_, rfl⟩))
theorem Bin.div {a b : Int} (hb : b ≠ 0) (hs : b.natAbs < 1073741824) : Bin w os n .FloorDiv (.int a) (.int b) (.int (a.fdiv b)) := by
  intro A B own s r r' E hA T R d d'
  obtain ⟨t, rfl⟩ := den_int.mp d; obtain ⟨u, rfl⟩ := den_int.mp d'
  exact floordiv_int hb (.now (R.toks _) (den_int.mpr ⟨_, rfl⟩)) (Or.inl (PyProof.noPylong_small hs))
theorem Bin.pow2 {b : Int} (h0 : 0 ≤ b) (h1 : b ≤ 1000) : Bin w os n .Pow (.int 2) (.int b) (.int (2 ^ b.toNat)) := by
  intro A B own s r r' E hA T R d d'
  obtain ⟨t, rfl⟩ := den_int.mp d; obtain ⟨u, rfl⟩ := den_int.mp d'
  exact pow_int h0 (by have : Builtin.Int.intBits 2 = 2 := by decide +kernel
                       rw [this]; omega) (.now (R.toks _) (den_int.mpr ⟨_, rfl⟩))
theorem Bin.bor {a b : Int} : Bin w os n .BitOr (.int a) (.int b) (.int (Builtin.bitOr a b)) := by
  intro A B own s r r' E hA T R d d'
  obtain ⟨t, rfl⟩ := den_int.mp d; obtain ⟨u, rfl⟩ := den_int.mp d'
  exact or_int (.now (R.toks _) (den_int.mpr ⟨_, rfl⟩))
theorem Bin.band {a b : Int} : Bin w os n .BitAnd (.int a) (.int b) (.int (Builtin.bitAnd a b)) := by
  intro A B own s r r' E hA T R d d'
  obtain ⟨t, rfl⟩ := den_int.mp d; obtain ⟨u, rfl⟩ := den_int.mp d'
  exact and_int (.now (R.toks _) (den_int.mpr ⟨_, rfl⟩))

-- lists
abbrev IL (ns : List Int) : V := .list (ns.map V.int)
theorem listAt {B : Bs} {own : List Item} {s : Shared} (R : Rep w os B own s) {xs : List V} {r : Value} (d : den w B (.list xs) r) :
    ∃ a its m, r = .ref a ∧ s.heap.get? a = some (listOf its m) ∧ s.heap.IsList a its ∧ dens w B xs its.toList := by
  obtain ⟨a, its, m, rfl, b, ds⟩ := den_list.mp d
  exact ⟨a, its, m, rfl, R.base _ _ b, ⟨_, R.base _ _ b, rfl, m, rfl⟩, ds⟩
theorem Rep.newList {B : Bs} {own : List Item} {s : Shared} (R : Rep w os B own s) (tk : Nat) {xs : List V} {its : Array Value} (d : dens w B xs its.toList) :
    Post w os B own (.list xs) (.ref s.heap.objs.size) { s with heap := s.heap.push (listOf its 0), toks := tk } := by
  have f := R.fresh (get?_size s.heap)
  refine ⟨B.put s.heap.objs.size (listOf its 0), Le.put f.1, R.freezeNew tk (fun b o e => Heap.get?_push_of_some _ e) (get?_size _) (Heap.get?_push_size _ rfl), ?_⟩
  exact den_list.mpr ⟨_, its, 0, rfl, Bs.put_self .., dens.mono (Le.put f.1) xs d⟩
theorem Rep.newTuple {B : Bs} {own : List Item} {s : Shared} (R : Rep w os B own s) (tk : Nat) {xs : List V} {its : Array Value} (d : dens w B xs its.toList) :
    Post w os B own (.tuple xs) (.ref s.heap.objs.size) { s with heap := s.heap.push (tupleOf its 0), toks := tk } := by
  have f := R.fresh (get?_size s.heap)
  refine ⟨B.put s.heap.objs.size (tupleOf its 0), Le.put f.1, R.freezeNew tk (fun b o e => Heap.get?_push_of_some _ e) (get?_size _) (Heap.get?_push_size _ rfl), ?_⟩
  exact den_tuple.mpr ⟨_, its, 0, rfl, Bs.put_self .., dens.mono (Le.put f.1) xs d⟩

theorem Bin.addL {xs ys : List V} (hsz : xs.length + ys.length ≤ sizeLine) : Bin w os n .Add (.list xs) (.list ys) (.list (xs ++ ys)) := by
  intro A B own s r r' E hA T R d d'
  obtain ⟨a, its, m, rfl, g, hl, ds⟩ := listAt R d
  obtain ⟨a', its', m', rfl, g', hl', ds'⟩ := listAt R d'
  refine P.add_list g g' (R.newList _ ?_) (by rw [ds.size, ds'.size]; exact hsz)
  rw [Array.toList_append]
  exact ds.append ds'
theorem Cmp.inI {k : Int} {ns : List Int} : Cmp w os n .In (.int k) (IL ns) (.bool (ns.any (· == k))) := by
  intro A B own s r r' E hA T R d d'
  obtain ⟨t, rfl⟩ := den_int.mp d
  obtain ⟨a', its', m', rfl, g', hl', ds'⟩ := listAt R d'
  exact in_list_ints (vs := its'.toList) (by simpa using hl') (dens.ints.mp ds') (.now R (den_bool.mpr rfl))
theorem Cmp.notInI {k : Int} {ns : List Int} : Cmp w os n .NotIn (.int k) (IL ns) (.bool (!ns.any (· == k))) := by
  intro A B own s r r' E hA T R d d'
  obtain ⟨t, rfl⟩ := den_int.mp d
  obtain ⟨a', its', m', rfl, g', hl', ds'⟩ := listAt R d'
  exact notin_list_ints (vs := its'.toList) (by simpa using hl') (dens.ints.mp ds') (.now R (den_bool.mpr rfl))
theorem dens.bools {B : Bs} : ∀ {bs : List Bool} {l : List Value}, dens w B (bs.map V.bool) l → l = bs.map Value.bool
  | [], l, d => dens_nil.mp d
  | b :: bs, l, d => by
    obtain ⟨r, rs, rfl, d1, d2⟩ := dens_cons.mp d
    rw [den_bool.mp d1, dens.bools d2]; rfl
theorem Cmp.notInB {k : Bool} {bs : List Bool} : Cmp w os n .NotIn (.bool k) (.list (bs.map V.bool)) (.bool (!bs.any (· == k))) := by
  intro A B own s r r' E hA T R d d'
  rw [den_bool.mp d]
  obtain ⟨a', its', m', rfl, g', hl', ds'⟩ := listAt R d'
  have hb := dens.bools ds'
  refine notIn_listAt (fun v => match v with | .bool c => c == k | _ => false) hl' (fun y hy => ?_) ?_
  · have : y ∈ bs.map Value.bool := by rw [← hb]; simpa using hy
    obtain ⟨c, _, rfl⟩ := List.mem_map.mp this
    exact EqAt.bool_bool c k
  · have : its'.any (fun v => match v with | .bool c => c == k | _ => false) = bs.any (· == k) := by
      rw [← Array.any_toList, hb, List.any_map]; rfl
    rw [this]
    exact .now R (den_bool.mpr rfl)
theorem Tru.list {xs : List V} (hsz : xs.length ≤ sizeLine) : Tru w os n (.list xs) (!xs.isEmpty) := by
  intro A B own s r E hA T R d
  obtain ⟨a, its, m, rfl, g, hl, ds⟩ := listAt R d
  have e := ds.size
  refine wpAny_truthy_list hl (by rw [e]; unfold sizeLine at hsz; omega) ?_
  refine ⟨B, Le.refl B, ?_, ?_⟩
  · first | exact R.toks _ | exact R
  · cases xs with
    | nil => have : its = #[] := Array.eq_empty_of_size_eq_zero (by simpa using e)
             rw [this]; rfl
    | cons x xs =>
      have : its.isEmpty = false := by
        unfold Array.isEmpty
        rw [e]; simp
      rw [this]; rfl
end
end Mine

namespace Mine
section
variable {w : World} {os : OsState} {n : Nat} {sc : Scope} {ρ : Str → Option V} {Ω : List Item}

theorem PE.use {e : Expr} {v : V} (h : PE w os n Ω sc ρ e v) {A : Around} {env : Env} {B : Bs} {own : List Item} {s : Shared} {E : Value → Shared → Prop} {Q : Value → Shared → Prop}
    (hA : Rm n A own) (T : TopB w B) (ek : EnvOk env sc) (sees : Sees Ω own env ρ) (R : Rep w os B own s)
    (k : ∀ r s' B', Le B B' → TopB w B' → Rep w os B' own s' → den w B' v r → Q r s') : wpAny (model pg w) A (eval e env) Q E s :=
  wpAny_mono (h A env B own s E hA T ek sees R) (fun r s' ⟨B', l, R', d⟩ => k r s' B' l (T.mono l) R' d) fun _ _ e => e
theorem PT.use {e : Expr} {b : Bool} (h : PT w os n Ω sc ρ e b) {A : Around} {env : Env} {B : Bs} {own : List Item} {s : Shared} {E : Value → Shared → Prop} {Q : Bool → Shared → Prop}
    (hA : Rm n A own) (T : TopB w B) (ek : EnvOk env sc) (sees : Sees Ω own env ρ) (R : Rep w os B own s)
    (k : ∀ s' B', Le B B' → TopB w B' → Rep w os B' own s' → Q b s') : wpAny (model pg w) A (isTrue e env (eval e env)) Q E s :=
  wpAny_mono (h A env B own s E hA T ek sees R) (fun r s' ⟨B', l, R', d⟩ => d ▸ k s' B' l (T.mono l) R') fun _ _ e => e

/-- getItem on values -/
def Itm (w : World) (os : OsState) (n : Nat) (x i v : V) : Prop := ∀ A B own s r r' E, Rm n A own → TopB w B → Rep w os B own s → den w B x r → den w B i r' →
  ∃ T id, s.TypeIs r T ∧ typeLookup (.type T) "__getitem__" = pure (some (.builtin id)) ∧ wpAny (model pg w) A (getItem r r') (Post w os B own v) E s
theorem PE.item {value slice : Expr} {pos : Pos} {x i v : V} (hx : PE w os n Ω sc ρ value x) (hi : PE w os n Ω sc ρ slice i) (hv : Itm w os n x i v)
    (hs : ∀ o i, subscripted slice false o i = operate [o, i] (getItem o i) := by intro _ _; rfl) : PE w os n Ω sc ρ (.Subscript value slice pos) v := by
  intro A env B own s E hA T ek sees R
  refine Subscript_ (hx.use hA T ek sees R fun r s₁ B₁ l₁ T₁ R₁ d₁ => hi.use hA T₁ ek sees R₁ fun r' s₂ B₂ l₂ T₂ R₂ d₂ => ?_)
  obtain ⟨T, id, hT, hl, h⟩ := hv A B₂ own s₂ r r' E hA T₂ R₂ (den.mono l₂ _ d₁) d₂
  exact tail_any hT hl (wpAny_mono h (fun _ _ p => p.trans (l₁.trans l₂)) fun _ _ e => e) (hs _ _)
theorem Itm.list {xs : List V} {k : Int} {v : V} (h0 : 0 ≤ k) (hk : xs[k.toNat]? = some v) (hf : k < 2 ^ 63) : Itm w os n (.list xs) (.int k) v := by
  intro A B own s r r' E hA T R d d'
  obtain ⟨a, its, m, rfl, g, hl, ds⟩ := listAt R d
  obtain ⟨t, rfl⟩ := den_int.mp d'
  obtain ⟨r, hr, dr⟩ := ds.get hk
  exact ⟨_, _, hl.typeIs, list_getitem_lookup, wpAny_getItem_list hl h0 hf (by simpa using hr) (.now R dr)⟩
theorem Itm.listNeg {xs : List V} {k : Int} {v : V} (h0 : k < 0) (h1 : -(xs.length : Int) ≤ k) (hk : xs[(k + xs.length).toNat]? = some v) (hf : -(2 ^ 63) ≤ k) : Itm w os n (.list xs) (.int k) v := by
  intro A B own s r r' E hA T R d d'
  obtain ⟨a, its, m, rfl, g, hl, ds⟩ := listAt R d
  obtain ⟨t, rfl⟩ := den_int.mp d'
  obtain ⟨r, hr, dr⟩ := ds.get hk
  have e := ds.size
  exact ⟨_, _, hl.typeIs, list_getitem_lookup, wpAny_getItem_list_neg hl h0 (by rw [e]; exact h1) hf (by rw [e]; simpa using hr) (.now R dr)⟩
theorem Itm.bytes {b : List UInt8} {k : Int} (h0 : 0 ≤ k) (h1 : k < b.length) (hb : b.length ≤ 1099511627776) : Itm w os n (.bytes b.toArray) (.int k) (.int (b.getD k.toNat 0).toNat) := by
  intro A B own s r r' E hA T R d d'
  obtain ⟨t, rfl⟩ := den_bytes.mp d
  obtain ⟨u, rfl⟩ := den_int.mp d'
  exact ⟨_, _, typeIs_bytes s _ t, FB.slot_bytes_getitem.lookup, getItem_bytes hb h0 h1 (.now (R.toks _) (den_int.mpr ⟨_, rfl⟩))⟩

theorem valueAt_map {ks : List Int} : ∀ {kvs : List (Int × Value)} {vs : List V} {B : Bs}, kvs.map (·.1) = ks → dens w B vs (kvs.map (·.2)) → ∀ {k : Int} {v : V}, (ks.zip vs).lookup k = some v → ∃ r, valueAt kvs k = some r ∧ den w B v r := by
  induction ks with
  | nil => intro kvs vs B _ _ k v h; simp at h
  | cons k0 ks ih =>
    intro kvs vs B hk d k v h
    cases kvs with
    | nil => simp at hk
    | cons kv kvs =>
      obtain ⟨k1, r1⟩ := kv
      simp only [List.map_cons, List.cons.injEq] at hk
      obtain ⟨rfl, hk⟩ := hk
      cases vs with
      | nil => simp at h
      | cons v1 vs =>
        obtain ⟨r, rs, e, d1, d2⟩ := dens_cons.mp d
        simp only [List.map_cons, List.cons.injEq] at e
        obtain ⟨rfl, rfl⟩ := e
        rw [List.zip_cons_cons, List.lookup_cons] at h
        unfold valueAt
        rw [List.find?_cons]
        by_cases hkk : k = k1
        · subst hkk
          simp at h ⊢
          subst h; exact d1
        · have : (k == k1) = false := by simpa using hkk
          rw [this] at h
          have hne : ¬ k1 = k := fun e => hkk e.symm
          simp only [hne, decide_false]
          exact ih hk d2 h
theorem Itm.dict {ks : List Int} {vs : List V} {k : Int} {v : V} (hk : (ks.zip vs).lookup k = some v) : Itm w os n (.dict ks vs) (.int k) v := by
  intro A B own s r r' E hA T R d d'
  obtain ⟨a, o, kvs, rfl, b, ⟨es, ep, h1, h2, h3, h4, h5⟩, q, ds, _⟩ := den_dict.mp d
  obtain ⟨t, rfl⟩ := den_int.mp d'
  have hD : s.heap.DictOf (kI w) a kvs := ⟨o, es, ep, R.base _ _ b, h1, h2, h3, h4, h5⟩
  obtain ⟨r, hr, dr⟩ := valueAt_map q ds hk
  refine ⟨"dict", _, hD.typeIs, slot_dict_getitem.lookup, wpAny_getItem_of (knd := kI w) (k := k) (by show Value.isInt k (.int k t) = true; simp [Value.isInt]) hD.mapOf hr ?_⟩
  exact .now (R.toks _) dr

-- slices
theorem PE.sliceTo {value e : Expr} {p pos : Pos} {xs : List V} {k : Nat} (hx : PE w os n Ω sc ρ value (.list xs)) (hi : PE w os n Ω sc ρ e (.int k)) (hsz : xs.length ≤ sizeLine) : PE w os n Ω sc ρ (.Subscript value (.Slice Option.none (some e) Option.none p) pos) (.list (xs.take k)) := by
  intro A env B own s E hA T ek sees R
  refine Subscript_ (hx.use hA T ek sees R fun r s₁ B₁ l₁ T₁ R₁ d₁ => wpAny_Slice ?_)
  rw [evalPart_none]
  refine wpAny_pure ?_
  rw [evalPart_some]
  refine hi.use hA T₁ ek sees R₁ fun r' s₂ B₂ l₂ T₂ R₂ d₂ => ?_
  refine wpAny_pure ?_
  obtain ⟨t, rfl⟩ := den_int.mp d₂
  have R₃ := R₂.grow (h' := s₂.heap.push { cls := .type "slice", data := .fields #[.none, .int (k : Int) t, .none] }) s₂.toks (fun b o e => Heap.get?_push_of_some _ e)
  obtain ⟨a, its, m, rfl, g, hl, ds⟩ := listAt R₃ (den.mono l₂ _ d₁)
  refine tail_any (ops := [_, _]) hl.typeIs list_getitem_lookup (wpAny_getItem_list_slice hl (Heap.IsSliceOf.new ..) .none (.int _ _) .none (by simp) ?_ (by rw [ds.size]; exact hsz)) (by rfl)
  rw [slicePick_upto']
  exact (R₃.newList _ (by simpa using ds.take k)).trans (l₁.trans l₂)
theorem PE.sliceFrom {value e : Expr} {p pos : Pos} {xs : List V} {k : Nat} (hx : PE w os n Ω sc ρ value (.list xs)) (hi : PE w os n Ω sc ρ e (.int k)) (hsz : xs.length ≤ sizeLine) : PE w os n Ω sc ρ (.Subscript value (.Slice (some e) Option.none Option.none p) pos) (.list (xs.drop k)) := by
  intro A env B own s E hA T ek sees R
  refine Subscript_ (hx.use hA T ek sees R fun r s₁ B₁ l₁ T₁ R₁ d₁ => wpAny_Slice ?_)
  rw [evalPart_some]
  refine hi.use hA T₁ ek sees R₁ fun r' s₂ B₂ l₂ T₂ R₂ d₂ => ?_
  rw [evalPart_none]
  refine wpAny_pure ?_
  refine wpAny_pure ?_
  obtain ⟨t, rfl⟩ := den_int.mp d₂
  have R₃ := R₂.grow (h' := s₂.heap.push { cls := .type "slice", data := .fields #[.int (k : Int) t, .none, .none] }) s₂.toks (fun b o e => Heap.get?_push_of_some _ e)
  obtain ⟨a, its, m, rfl, g, hl, ds⟩ := listAt R₃ (den.mono l₂ _ d₁)
  refine tail_any (ops := [_, _]) hl.typeIs list_getitem_lookup (wpAny_getItem_list_slice hl (Heap.IsSliceOf.new ..) (.int _ _) .none .none (by simp) ?_ (by rw [ds.size]; exact hsz)) (by rfl)
  rw [slicePick_from']
  exact (R₃.newList _ (by simpa using ds.drop k)).trans (l₁.trans l₂)
theorem PE.sliceAll {value : Expr} {p pos : Pos} {xs : List V} (hx : PE w os n Ω sc ρ value (.list xs)) (hsz : xs.length ≤ sizeLine) : PE w os n Ω sc ρ (.Subscript value (.Slice Option.none Option.none Option.none p) pos) (.list xs) := by
  intro A env B own s E hA T ek sees R
  refine Subscript_ (hx.use hA T ek sees R fun r s₂ B₂ l₂ T₂ R₂ d₂ => wpAny_Slice ?_)
  rw [evalPart_none]
  refine wpAny_pure (wpAny_pure (wpAny_pure ?_))
  have R₃ := R₂.grow (h' := s₂.heap.push { cls := .type "slice", data := .fields #[.none, .none, .none] }) s₂.toks (fun b o e => Heap.get?_push_of_some _ e)
  obtain ⟨a, its, m, rfl, g, hl, ds⟩ := listAt R₃ d₂
  refine tail_any (ops := [_, _]) hl.typeIs list_getitem_lookup (wpAny_getItem_list_slice hl (Heap.IsSliceOf.new ..) .none .none .none (by simp) ?_ (by rw [ds.size]; exact hsz)) (by rfl)
  rw [slicePick_all]
  exact (R₃.newList _ ds).trans l₂
theorem PE.sliceRev {value e : Expr} {p pos : Pos} {xs : List V} (hx : PE w os n Ω sc ρ value (.list xs)) (hi : PE w os n Ω sc ρ e (.int (-1))) (hsz : xs.length ≤ sizeLine) : PE w os n Ω sc ρ (.Subscript value (.Slice Option.none Option.none (some e) p) pos) (.list xs.reverse) := by
  intro A env B own s E hA T ek sees R
  refine Subscript_ (hx.use hA T ek sees R fun r s₁ B₁ l₁ T₁ R₁ d₁ => wpAny_Slice ?_)
  rw [evalPart_none]
  refine wpAny_pure (wpAny_pure ?_)
  rw [evalPart_some]
  refine hi.use hA T₁ ek sees R₁ fun r' s₂ B₂ l₂ T₂ R₂ d₂ => ?_
  obtain ⟨t, rfl⟩ := den_int.mp d₂
  have R₃ := R₂.grow (h' := s₂.heap.push { cls := .type "slice", data := .fields #[.none, .none, .int (-1) t] }) s₂.toks (fun b o e => Heap.get?_push_of_some _ e)
  obtain ⟨a, its, m, rfl, g, hl, ds⟩ := listAt R₃ (den.mono l₂ _ d₁)
  refine tail_any (ops := [_, _]) hl.typeIs list_getitem_lookup (wpAny_getItem_list_slice hl (Heap.IsSliceOf.new ..) .none .none (.int _ _) (by simp) ?_ (by rw [ds.size]; exact hsz)) (by rfl)
  rw [krv_pick]
  exact (R₃.newList _ (by simpa using ds.reverse)).trans (l₁.trans l₂)
theorem PE.neg {e : Expr} {pos : Pos} {k : Int} (h : PE w os n Ω sc ρ e (.int k)) : PE w os n Ω sc ρ (.UnaryOp .USub e pos) (.int (-k)) := by
  intro A env B own s E hA T ek sees R
  refine wpAny_UnaryOp (h.use hA T ek sees R fun r s₁ B₁ l₁ T₁ R₁ d₁ => ?_)
  obtain ⟨t, rfl⟩ := den_int.mp d₁
  exact P.neg_int ⟨B₁, l₁, R₁.toks _, den_int.mpr ⟨_, rfl⟩⟩

-- lists of expressions
def PEs (w : World) (os : OsState) (n : Nat) (Ω : List Item) (sc : Scope) (ρ : Str → Option V) (es : List Expr) (vs : List V) : Prop :=
  ∀ A env B own s E pos, Rm n A own → TopB w B → EnvOk env sc → Sees Ω own env ρ → Rep w os B own s → wpAny (model pg w) A (spliced (backTo pos (starEach es env))) (fun rs s' => ∃ B', Le B B' ∧ Rep w os B' own s' ∧ dens w B' vs rs) E s
theorem PEs.nil : PEs w os n Ω sc ρ [] [] := fun A env B own s E pos hA T ek sees R => args_nil ⟨B, Le.refl B, R, dens_nil.mpr rfl⟩
theorem PEs.cons {e : Expr} {es : List Expr} {v : V} {vs : List V} (h : PE w os n Ω sc ρ e v) (hs : PEs w os n Ω sc ρ es vs)
    (he : ∀ env, starEach (e :: es) env = (false, eval e env) :: starEach es env := by intro _; rfl) : PEs w os n Ω sc ρ (e :: es) (v :: vs) := by
  intro A env B own s E pos hA T ek sees R
  refine args_cons (h.use hA T ek sees R fun r s₁ B₁ l₁ T₁ R₁ d₁ => ?_) (he env)
  refine wpAny_mono (hs A env B₁ own s₁ E pos hA T₁ ek sees R₁) (fun rs s₂ ⟨B₂, l₂, R₂, d₂⟩ => ?_) fun _ _ e => e
  exact ⟨B₂, l₁.trans l₂, R₂, dens_cons.mpr ⟨r, rs, rfl, den.mono l₂ _ d₁, d₂⟩⟩
theorem PE.list {es : List Expr} {pos : Pos} {vs : List V} (h : PEs w os n Ω sc ρ es vs) (hsz : vs.length ≤ sizeLine := by exact Nat.le_of_ble_eq_true rfl) : PE w os n Ω sc ρ (.List es pos) (.list vs) := by
  intro A env B own s E hA T ek sees R
  refine List_ (wpAny_mono (h A env B own s E pos hA T ek sees R) (fun rs s₁ ⟨B₁, l₁, R₁, d₁⟩ => ?_) fun _ _ e => e)
  exact wpAny_newObj_type ((R₁.newList _ (by simpa using d₁)).trans l₁) (by show rs.toArray.size ≤ sizeLine; rw [List.size_toArray, d₁.length]; exact hsz)
theorem PE.tuple {es : List Expr} {k : Nat} {pos : Pos} {vs : List V} (h : PEs w os n Ω sc ρ es vs) (hsz : vs.length ≤ sizeLine := by exact Nat.le_of_ble_eq_true rfl) : PE w os n Ω sc ρ (.Tuple es k pos) (.tuple vs) := by
  intro A env B own s E hA T ek sees R
  refine Tuple_ (wpAny_mono (h A env B own s E pos hA T ek sees R) (fun rs s₁ ⟨B₁, l₁, R₁, d₁⟩ => ?_) fun _ _ e => e)
  exact wpAny_newObj_type ((R₁.newTuple _ (by simpa using d₁)).trans l₁) (by show rs.toArray.size ≤ sizeLine; rw [List.size_toArray, d₁.length]; exact hsz)

/-- a call of f on values, nothing changed -/
def Fn (w : World) (os : OsState) (n : Nat) (f : Value) (args : List V) (v : V) : Prop :=
  ∀ A B own s rs E, Rm n A own → TopB w B → Rep w os B own s → dens w B args rs → wpAny (model pg w) A (call f rs) (Post w os B own v) E s
theorem PE.callD {x : Str} {p pos : Pos} {a : Addr} {e : Expr} {es : List Expr} {vs : List V} {v : V} (hf : gTab.lookup x = some (.exact (.ref a))) (hk : sc.names.lookup x = some .globalImplicit) (ha : (fTab.lookup a).isSome = true)
    (hs : PEs w os n Ω sc ρ (e :: es) vs) (h : Fn w os n (.ref a) vs v) (hd : (x == ("__debug__" : Str)) = false := by decide)
    (he : ∀ env, starEach (e :: es) env = (false, eval e env) :: starEach es env := by intro _; rfl) : PE w os n Ω sc ρ (.Call (.Name x p) (e :: es) [] pos) v := by
  intro A env B own s E hA T ek sees R
  refine wpAny_Call_NameR ((PE.glob (w := w) (os := os) (n := n) (ρ := ρ) hf hk hd).use hA T ek sees R fun r s₁ B₁ l₁ T₁ R₁ d₁ => ?_)
  rw [den_exact.mp d₁]
  obtain ⟨rec, hrec⟩ := Option.isSome_iff_exists.mp ha
  obtain ⟨doc, pm, cd, ct, nm, ⟨hfd, _⟩⟩ := T₁.fns a rec hrec
  refine callWith_def (o := { cls := .type "function", data := .func (mkFd rec.q (psOf rec.st) (bodyOf rec.st) (scOf rec.st) rec.df rec.kd doc pm cd ct nm) }) rfl (wpAny_mono (hs A env B₁ own s₁ E pos hA T₁ ek sees R₁) (fun rs s₂ ⟨B₂, l₂, R₂, d₂⟩ => ?_) fun _ _ e => e) (he env)
  exact ⟨R₂.base _ _ (l₂ _ _ hfd), wpAny_mono (h A B₂ own s₂ rs E hA (T₁.mono l₂) R₂ d₂) (fun _ _ p => p.trans (l₁.trans l₂)) fun _ _ e => e⟩
theorem PE.callB {x : Str} {p pos : Pos} {id : String} {e : Expr} {es : List Expr} {vs : List V} {v : V} (hf : PE w os n Ω sc ρ (.Name x p) (.exact (.builtin id)))
    (hs : PEs w os n Ω sc ρ (e :: es) vs) (h : Fn w os n (.builtin id) vs v)
    (he : ∀ env, starEach (e :: es) env = (false, eval e env) :: starEach es env := by intro _; rfl) (hp : ∀ env, (backTo pos (starEach es env)).any (·.1) = false := by intro _; rfl) : PE w os n Ω sc ρ (.Call (.Name x p) (e :: es) [] pos) v := by
  intro A env B own s E hA T ek sees R
  refine wpAny_Call_NameR (hf.use hA T ek sees R fun r s₁ B₁ l₁ T₁ R₁ d₁ => ?_)
  rw [den_exact.mp d₁]
  refine PyProof.Rows.callWith_builtin1 (wpAny_mono (hs A env B₁ own s₁ E pos hA T₁ ek sees R₁) (fun rs s₂ ⟨B₂, l₂, R₂, d₂⟩ => ?_) fun _ _ e => e) (he env) (hp env)
  exact wpAny_mono (h A B₂ own s₂ rs E hA (T₁.mono l₂) R₂ d₂) (fun _ _ p => p.trans (l₁.trans l₂)) fun _ _ e => e
theorem PE.callT {x : Str} {p pos : Pos} {id : String} {e : Expr} {es : List Expr} {vs : List V} {v : V} (hf : PE w os n Ω sc ρ (.Name x p) (.exact (.type id)))
    (hs : PEs w os n Ω sc ρ (e :: es) vs) (h : Fn w os n (.type id) vs v)
    (he : ∀ env, starEach (e :: es) env = (false, eval e env) :: starEach es env := by intro _; rfl) (hp : ∀ env, (backTo pos (starEach es env)).any (·.1) = false := by intro _; rfl) : PE w os n Ω sc ρ (.Call (.Name x p) (e :: es) [] pos) v := by
  intro A env B own s E hA T ek sees R
  refine wpAny_Call_NameR (hf.use hA T ek sees R fun r s₁ B₁ l₁ T₁ R₁ d₁ => ?_)
  rw [den_exact.mp d₁]
  refine PyProof.Rows.callWith_type1 (wpAny_mono (hs A env B₁ own s₁ E pos hA T₁ ek sees R₁) (fun rs s₂ ⟨B₂, l₂, R₂, d₂⟩ => ?_) fun _ _ e => e) (he env) (hp env)
  exact wpAny_mono (h A B₂ own s₂ rs E hA (T₁.mono l₂) R₂ d₂) (fun _ _ p => p.trans (l₁.trans l₂)) fun _ _ e => e
theorem Fn.len {xs : List V} (hsz : xs.length ≤ sizeLine) : Fn w os n (.builtin "len") [.list xs] (.int xs.length) := by
  intro A B own s rs E hA T R d
  obtain ⟨r, rs, rfl, d1, d2⟩ := dens_cons.mp d
  rw [dens_nil.mp d2]
  obtain ⟨a, its, m, rfl, g, hl, ds⟩ := listAt R d1
  refine Calls.call_len_list hl (by rw [ds.size]; unfold sizeLine at hsz; omega) ?_
  rw [ds.size]
  exact .now (R.toks _) (den_int.mpr ⟨_, rfl⟩)
end
end Mine

namespace Mine

/-- an object of which o holds, whatever is frozen -/
def satItem (a : Addr) (P : Obj → Prop) : Item := ⟨a, fun _ _ o => P o, fun _ p => p⟩

section
variable {w : World} {os : OsState} {B : Bs} {own : List Item} {s : Shared}
theorem Rep.get {i : Item} (R : Rep w os B own s) (h : i ∈ own) : ∃ o, s.heap.get? i.addr = some o ∧ i.P w B o := R.has i h
/-- the head object is written -/
theorem Rep.write0 {i i' : Item} (R : Rep w os B (i :: own) s) {h' : Heap} (tk : Nat) (hk : ∀ b o, b ≠ i.addr → s.heap.get? b = some o → h'.get? b = some o) (hi : i'.addr = i.addr) {o : Obj} (ho : h'.get? i.addr = some o) (hp : i'.P w B o) :
    Rep w os B (i' :: own) { s with heap := h', toks := tk } := Rep.write (pre := []) R tk hk hi ho hp
/-- the head object is let go -/
theorem Rep.drop0 {i : Item} (R : Rep w os B (i :: own) s) {h' : Heap} (tk : Nat) (hk : ∀ b o, b ≠ i.addr → s.heap.get? b = some o → h'.get? b = some o) : Rep w os B own { s with heap := h', toks := tk } := by
  have offi := R.off i (by simp)
  obtain ⟨p4, p5⟩ := List.pairwise_cons.mp R.apart
  refine ⟨fun b o' e => hk _ _ (fun q => by rw [q, offi] at e; cases e) (R.base b o' e), fun j hj => ?_, fun j hj => R.off j (by simp [hj]), p5, R.gens, R.os⟩
  obtain ⟨o', e, p⟩ := R.has j (by simp [hj])
  exact ⟨o', hk _ _ (p4 j hj).symm e, p⟩
theorem Rep.tail {i : Item} (R : Rep w os B (i :: own) s) : Rep w os B own s := R.sub (List.sublist_cons_self ..)
end

structure Iter (w : World) (os : OsState) (B₀ : Bs) (I : Addr) (its : List V) (J : Nat → Item) : Prop where
  addr : ∀ i, (J i).addr = I
  next : ∀ (i : Nat) (x : V) (A : Around) (B : Bs) (own : List Item) (s : Shared) (Q : Option Value → Shared → Prop) (E : Value → Shared → Prop), its[i]? = some x → A.handled = none → Le B₀ B → Rep w os B (J i :: own) s →
    (∀ r s', den w B x r → Rep w os B (J (i + 1) :: own) s' → Q (some r) s') → wpAny (model pg w) A (pyNext (.ref I)) Q E s
  done : ∀ (A : Around) (B : Bs) (own : List Item) (s : Shared) (Q : Option Value → Shared → Prop) (E : Value → Shared → Prop), A.handled = none → Le B₀ B → Rep w os B (J its.length :: own) s →
    (∀ s', Rep w os B own s' → Q Option.none s') → wpAny (model pg w) A (pyNext (.ref I)) Q E s
  self : ∀ (i : Nat) (A : Around) (B : Bs) (own : List Item) (s : Shared) (Q : Value → Shared → Prop) (E : Value → Shared → Prop), Rep w os B (J i :: own) s → Q (.ref I) s → wpAny (model pg w) A (pyIter (.ref I)) Q E s
  quiet : ∀ (i : Nat) (A : Around) (B : Bs) (own : List Item) (s : Shared) (Q : Unit → Shared → Prop) (E : Value → Shared → Prop) (es : List Expr) (k : Nat) (p : Pos) (v : Value), Rep w os B (J i :: own) s → Q () s →
    wpAny (model pg w) A (letOwnedTupleGo (.Tuple es k p) (.ref I) v) Q E s

theorem quiet_of {w : World} {A : Around} {s : Shared} {I : Addr} {o : Obj} {T : String} {vs : Array Value} (ho : s.heap.get? I = some o) (hc : o.cls = .type T) (hd : o.data = .fields vs)
    (hT : ["enumerate", "zip", "dict_itemiterator", "dict_reverseitemiterator", "odict_iterator", "itertools.zip_longest", "itertools.pairwise"].contains T = false)
    {Q : Unit → Shared → Prop} {E : Value → Shared → Prop} (es : List Expr) (k : Nat) (p : Pos) (v : Value) (h : Q () s) : wpAny (model pg w) A (letOwnedTupleGo (.Tuple es k p) (.ref I) v) Q E s := by
  unfold letOwnedTupleGo
  cases v <;> first | exact wpAny_pure h | skip
  refine wpAny_bind (wpAny_load ho ?_)
  rw [hc, hd]
  dsimp only
  rw [hT]
  simp only [Bool.false_and, Bool.false_eq_true, if_false]
  exact wpAny_pure h

section
variable {w : World} {os : OsState} {n : Nat} {sc : Scope} {ρ : Str → Option V} {Ω : List Item}
def listIt (I ax : Addr) (i : Nat) : Item := satItem I fun o => o.cls = .type "list_iterator" ∧ o.data = .fields #[.ref ax, .int i 0]
def tupIt (I ax : Addr) (i : Nat) : Item := satItem I fun o => o.cls = .type "tuple_iterator" ∧ o.data = .fields #[.ref ax, .int i 0]
def rangeIt (I : Addr) (x left : Int) : Item := satItem I fun o => o = { cls := .type "range_iterator", data := .fields #[rawInt x, rawInt left, rawInt 1] }

theorem Iter.list {B : Bs} {I ax : Addr} {its : Array Value} {m : Nat} {xs : List V} (hb : B ax = some (listOf its m)) (ds : dens w B xs its.toList) : Iter w os B I xs (listIt I ax) where
  addr := fun _ => rfl
  next := by
    intro i x A B' own s Q E hx hh le R k
    obtain ⟨o, ho, hc, hd⟩ := R.has (listIt I ax i) (by simp)
    have hl : s.heap.IsList ax its := ⟨_, R.base _ _ (le _ _ hb), rfl, m, rfl⟩
    obtain ⟨r, hr, dr⟩ := (dens.mono le xs ds).get hx
    refine wpAny_pyNext_list_item ⟨o, ho, hc, hd⟩ hl (by simpa using hr) fun h' hit hs => k r _ dr ?_
    obtain ⟨o', ho', hc', hd'⟩ := hit
    exact R.write0 s.toks (fun b o hb e => hs.extBut b o hb e) rfl ho' ⟨hc', hd'⟩
  done := by
    intro A B' own s Q E hh le R k
    obtain ⟨o, ho, hc, hd⟩ := R.has (listIt I ax xs.length) (by simp)
    have hl : s.heap.IsList ax its := ⟨_, R.base _ _ (le _ _ hb), rfl, m, rfl⟩
    refine wpAny_pyNext_list_end hh ⟨o, ho, hc, hd⟩ hl (by rw [Array.getElem?_eq_none]; rw [ds.size]; exact Nat.le_refl _) fun h' he => k _ ?_
    exact R.drop0 s.toks (fun b o hb e => he b o hb e)
  self := by
    intro i A B' own s Q E R h
    obtain ⟨o, ho, hc, hd⟩ := R.has (listIt I ax i) (by simp)
    exact wpAny_pyIter_listiter ⟨o, ho, hc, hd⟩ h
  quiet := by
    intro i A B' own s Q E es k p v R h
    obtain ⟨o, ho, hc, hd⟩ := R.has (listIt I ax i) (by simp)
    exact quiet_of ho hc hd (by decide) es k p v h
theorem Iter.tuple {B : Bs} {I ax : Addr} {its : Array Value} {m : Nat} {xs : List V} (hb : B ax = some (tupleOf its m)) (ds : dens w B xs its.toList) : Iter w os B I xs (tupIt I ax) where
  addr := fun _ => rfl
  next := by
    intro i x A B' own s Q E hx hh le R k
    obtain ⟨o, ho, hc, hd⟩ := R.has (tupIt I ax i) (by simp)
    have hl : s.heap.IsTuple ax its := ⟨_, R.base _ _ (le _ _ hb), rfl, m, rfl⟩
    obtain ⟨r, hr, dr⟩ := (dens.mono le xs ds).get hx
    refine wpAny_pyNext_tuple_item ⟨o, ho, hc, hd⟩ hl (by simpa using hr) fun h' hit hs => k r _ dr ?_
    obtain ⟨o', ho', hc', hd'⟩ := hit
    exact R.write0 s.toks (fun b o hb e => hs.extBut b o hb e) rfl ho' ⟨hc', hd'⟩
  done := by
    intro A B' own s Q E hh le R k
    obtain ⟨o, ho, hc, hd⟩ := R.has (tupIt I ax xs.length) (by simp)
    have hl : s.heap.IsTuple ax its := ⟨_, R.base _ _ (le _ _ hb), rfl, m, rfl⟩
    refine wpAny_pyNext_tuple_end hh ⟨o, ho, hc, hd⟩ hl (by rw [Array.getElem?_eq_none]; rw [ds.size]; exact Nat.le_refl _) fun h' he => k _ ?_
    exact R.drop0 s.toks (fun b o hb e => he b o hb e)
  self := by
    intro i A B' own s Q E R h
    obtain ⟨o, ho, hc, hd⟩ := R.has (tupIt I ax i) (by simp)
    exact wpAny_pyIter_tupleiter ⟨o, ho, hc, hd⟩ h
  quiet := by
    intro i A B' own s Q E es k p v R h
    obtain ⟨o, ho, hc, hd⟩ := R.has (tupIt I ax i) (by simp)
    exact quiet_of ho hc hd (by decide) es k p v h
theorem Iter.range {B : Bs} {I : Addr} {N : Nat} : Iter w os B I ((List.range N).map fun i : Nat => V.int (i : Int)) (fun i => rangeIt I (i : Nat) ((N : Int) - (i : Nat))) where
  addr := fun _ => rfl
  next := by
    intro i x A B' own s Q E hx hh le R k
    obtain ⟨o, ho, rfl⟩ := R.has (rangeIt I (i : Nat) ((N : Int) - (i : Nat))) (by simp)
    have hi : i < N := by
      have := (List.getElem?_eq_some_iff.mp hx).1
      simpa using this
    have hx' : x = .int (i : Int) := by
      simp [List.getElem?_map, List.getElem?_range, hi] at hx
      exact hx.symm
    subst hx'
    refine wpAny_pyNext_range_item ho (by omega) fun h' hit hs => k _ _ (den_int.mpr ⟨_, rfl⟩) ?_
    refine R.write0 _ (fun b o hb e => hs.extBut b o hb e) rfl hit ?_
    show _ = _
    have : (N : Int) - (i : Int) - 1 = (N : Int) - ((i + 1 : Nat) : Int) := by omega
    rw [this]
    rfl
  done := by
    intro A B' own s Q E hh le R k
    simp only [List.length_map, List.length_range] at R
    obtain ⟨o, ho, rfl⟩ := R.has (rangeIt I (N : Nat) ((N : Int) - (N : Nat))) (by simp)
    refine wpAny_pyNext_range_end hh ho (by omega) fun h' he => k _ ?_
    exact R.drop0 s.toks (fun b o hb e => he b o hb e)
  self := by
    intro i A B' own s Q E R h
    obtain ⟨o, ho, rfl⟩ := R.has (rangeIt I (i : Nat) ((N : Int) - (i : Nat))) (by simp)
    exact wpAny_pyIter_rangeiter ho h
  quiet := by
    intro i A B' own s Q E es k p v R h
    obtain ⟨o, ho, rfl⟩ := R.has (rangeIt I (i : Nat) ((N : Int) - (i : Nat))) (by simp)
    exact quiet_of ho rfl rfl (by decide) es k p v h

abbrev RL (N : Nat) : List V := (List.range N).map fun i : Nat => V.int (i : Int)
/-- an expression to loop over -/
def PI (w : World) (os : OsState) (n : Nat) (Ω : List Item) (sc : Scope) (ρ : Str → Option V) (e : Expr) (its : List V) : Prop :=
  ∀ A env B own s E Q, Rm n A own → TopB w B → EnvOk env sc → Sees Ω own env ρ → Rep w os B own s →
    (∀ s' B' I J, Le B B' → Iter w os B' I its J → Rep w os B' (J 0 :: own) s' → Q (.ref I) s') → wpAny (model pg w) A (eval e env) (fun x s₁ => wpAny (model pg w) A (pyIter x) Q E s₁) E s
theorem PI.list {e : Expr} {xs : List V} (h : PE w os n Ω sc ρ e (.list xs)) : PI w os n Ω sc ρ e xs := by
  intro A env B own s E Q hA T ek sees R k
  refine h.use hA T ek sees R fun r s₁ B₁ l₁ T₁ R₁ d₁ => ?_
  obtain ⟨a, its, m, rfl, hb, ds⟩ := den_list.mp d₁
  refine wpAny_pyIter_list ⟨_, R₁.base _ _ hb, rfl, m, rfl⟩ (k _ B₁ _ (listIt _ a) l₁ (Iter.list hb ds) ?_)
  exact R₁.new (listIt s₁.heap.objs.size a 0) s₁.toks (fun b o e => Heap.get?_push_of_some _ e) (get?_size _) (Heap.get?_push_size _ rfl) ⟨rfl, rfl⟩
theorem PI.tuple {e : Expr} {xs : List V} (h : PE w os n Ω sc ρ e (.tuple xs)) : PI w os n Ω sc ρ e xs := by
  intro A env B own s E Q hA T ek sees R k
  refine h.use hA T ek sees R fun r s₁ B₁ l₁ T₁ R₁ d₁ => ?_
  obtain ⟨a, its, m, rfl, hb, ds⟩ := den_tuple.mp d₁
  refine wpAny_pyIter_tuple ⟨_, R₁.base _ _ hb, rfl, m, rfl⟩ (k _ B₁ _ (tupIt _ a) l₁ (Iter.tuple hb ds) ?_)
  exact R₁.new (tupIt s₁.heap.objs.size a 0) s₁.toks (fun b o e => Heap.get?_push_of_some _ e) (get?_size _) (Heap.get?_push_size _ rfl) ⟨rfl, rfl⟩
theorem PI.range {x : Str} {p pos : Pos} {e : Expr} {N : Nat} (hf : PE w os n Ω sc ρ (.Name x p) (.exact (.type "range"))) (he : PE w os n Ω sc ρ e (.int N)) (hN : N ≤ sizeLine)
    (hs : ∀ env, starEach [e] env = (false, eval e env) :: starEach [] env := by intro _; rfl) : PI w os n Ω sc ρ (.Call (.Name x p) [e] [] pos) (RL N) := by
  intro A env B own s E Q hA T ek sees R k
  refine wpAny_Call_NameR (hf.use hA T ek sees R fun r s₁ B₁ l₁ T₁ R₁ d₁ => ?_)
  rw [den_exact.mp d₁]
  refine PyProof.Rows.callWith_type1 (args_cons (he.use hA T₁ ek sees R₁ fun r s₂ B₂ l₂ T₂ R₂ d₂ => args_nil ?_) (hs env)) (hs env) rfl
  obtain ⟨t, rfl⟩ := den_int.mp d₂
  refine call_range_1 ?_
  have R₃ := R₂.grow (h' := s₂.heap.push { cls := .type "range", data := .fields #[.int 0 s₂.toks, .int N t, .int 1 (s₂.toks + 1)] }) (s₂.toks + 1 + 1) (fun b o e => Heap.get?_push_of_some _ e)
  have hrs : Builtin.Range.rangeSize 0 N 1 = (N : Int) := by
    rw [rangeSize_one]; split <;> omega
  have hsm : Builtin.Range.small 0 N 1 = true := by
    unfold Builtin.Range.small
    rw [hrs]
    unfold Builtin.Range.rangeFitsLong
    unfold sizeLine at hN
    have h1 : (N : Int) ≤ 2 ^ 24 := by omega
    simp
    omega
  refine wpAny_pyIter_range (IsRange.new ..) hsm ?_
  rw [hrs]
  refine k _ B₂ _ (fun i => rangeIt _ (i : Nat) ((N : Int) - (i : Nat))) (l₁.trans l₂) Iter.range ?_
  refine R₃.new (rangeIt _ (0 : Nat) ((N : Int) - (0 : Nat))) _ (fun b o e => Heap.get?_push_of_some _ e) (get?_size _) (Heap.get?_push_size _ rfl) ?_
  show _ = _
  simp
end
end Mine

namespace Mine

def upd (ρ : Str → Option V) (x : Str) (v : V) : Str → Option V := fun y => if y = x then some v else ρ y
/-- a frame: its block of names, its own cells -/
def locOf (env : Env) (ρ : Str → Option V) : Str → Option V := fun x => if env.kindOf x = some .local then ρ x else Option.none
def cellsI (cs : List (Str × Addr)) (ρ : Str → Option V) : List Item := cs.map fun x => cellItem x.2 (ρ x.1)
def frameI (env : Env) (cs : List (Str × Addr)) (ρ : Str → Option V) : List Item := nsItem env.locals (locOf env ρ) :: cellsI cs ρ
structure FrOk (env : Env) (cs : List (Str × Addr)) : Prop where
  fn : env.scope.kind = .function
  kinds : ∀ x ∈ cs, env.kindOf x.1 = some .cell
  look : ∀ x ∈ cs, env.cells.lookup x.1 = some x.2

section
variable {w : World} {os : OsState} {B : Bs} {s : Shared} {M : Model} {A : Around} {E : Value → Shared → Prop}
theorem Rep.app {own R : List Item} (h : Rep w os B (own ++ R) s) : Rep w os B R s := h.sub (List.sublist_append_right ..)
/-- an own object anywhere is written -/
theorem Rep.writeAt {own : List Item} {i i' : Item} (R : Rep w os B own s) {pre post : List Item} (e : own = pre ++ i :: post) {h' : Heap} (tk : Nat) (hk : ∀ b o, b ≠ i.addr → s.heap.get? b = some o → h'.get? b = some o) (hi : i'.addr = i.addr) {o : Obj} (ho : h'.get? i.addr = some o) (hp : i'.P w B o) :
    Rep w os B (pre ++ i' :: post) { s with heap := h', toks := tk } := by
  subst e; exact Rep.write R tk hk hi ho hp
theorem nsItem_ns {a : Addr} {m : Str → Option V} {own : List Item} (R : Rep w os B own s) (h : nsItem a m ∈ own) : ∃ es, s.heap.Ns a (nsFind es) ∧ ∀ x v, m x = some v → ∃ r, nsFind es x = some r ∧ den w B v r := by
  obtain ⟨o, ho, es, ep, hd, hk, hq⟩ := R.has _ h
  exact ⟨es, ⟨o, es, ep, ho, hd, hk, fun _ => rfl⟩, hq⟩

theorem cells_upd_local {env : Env} {cs : List (Str × Addr)} {ρ : Str → Option V} {x : Str} {v : V} (F : FrOk env cs) (hx : env.kindOf x = some .local) : cellsI cs (upd ρ x v) = cellsI cs ρ := by
  unfold cellsI
  refine List.map_congr_left fun y hy => ?_
  have : y.1 ≠ x := by
    intro e
    have := F.kinds y hy
    rw [e, hx] at this; cases this
  simp [upd, this]
/-- a name of the frame is bound -/
theorem store_rep {env : Env} {cs : List (Str × Addr)} {ρ : Str → Option V} {x : Str} {v : V} {r : Value} {pre R : List Item} {Q : Unit → Shared → Prop} (F : FrOk env cs) (hx : env.kindOf x = some .local ∨ x ∈ cs.map (·.1))
    (h : Rep w os B (pre ++ frameI env cs ρ ++ R) s) (d : den w B v r) (k : ∀ s', Rep w os B (pre ++ frameI env cs (upd ρ x v) ++ R) s' → Q () s') : wpAny M A (storeName env x r) Q E s := by
  have fin : nsItem env.locals (locOf env ρ) ∈ pre ++ frameI env cs ρ ++ R := by simp [frameI]
  by_cases hl : env.kindOf x = some .local
  · obtain ⟨es, hns, hq⟩ := nsItem_ns h fin
    refine wpAny_storeName_local hl hns (fun h' hn hs => k _ ?_) (by rw [F.fn]; rfl)
    obtain ⟨o, es', ep, ho, hd, hk, hm⟩ := hn
    have e1 : pre ++ frameI env cs ρ ++ R = pre ++ nsItem env.locals (locOf env ρ) :: (cellsI cs ρ ++ R) := by simp [frameI]
    have e2 : pre ++ frameI env cs (upd ρ x v) ++ R = pre ++ nsItem env.locals (locOf env (upd ρ x v)) :: (cellsI cs ρ ++ R) := by simp [frameI, cells_upd_local F hl]
    rw [e2]
    refine h.writeAt e1 _ (fun b o hb e => hs.extBut b o hb e) rfl ho ⟨es', ep, hd, hk, fun y u hy => ?_⟩
    rw [hm]
    unfold locOf upd at hy
    by_cases hyx : y = x
    · subst hyx
      simp [hl] at hy
      subst hy
      exact ⟨r, by simp, d⟩
    · simp only [hyx, if_false] at hy ⊢
      exact hq y u hy
  · have hm := hx.resolve_left hl
    obtain ⟨⟨x', c⟩, hc, rfl⟩ := List.mem_map.mp hm
    have hk := F.kinds _ hc
    have hlk := F.look _ hc
    obtain ⟨p1, p2, e⟩ := List.append_of_mem hc
    have e1 : pre ++ frameI env cs ρ ++ R = (pre ++ nsItem env.locals (locOf env ρ) :: cellsI p1 ρ) ++ cellItem c (ρ x') :: (cellsI p2 ρ ++ R) := by simp [frameI, cellsI, e]
    have hrep := h
    rw [e1] at hrep
    obtain ⟨o, ho, y, hy, _⟩ := hrep.has (cellItem c (ρ x')) (by simp)
    refine wpAny_storeName_cell F.fn hk hlk ⟨o, ho, hy⟩ fun h' hc' hs => k _ ?_
    obtain ⟨o', ho', hd'⟩ := hc'
    have ap := hrep.apart
    -- other cells bear other names
    have other : ∀ q, q ∈ p1 ∨ q ∈ p2 → q.1 ≠ x' := by
      intro q hq e'
      have hqc : q ∈ cs := by rw [e]; rcases hq with hq | hq <;> simp [hq]
      have h2 := F.look q hqc
      rw [e', hlk] at h2
      have hqa : q.2 = c := (Option.some.inj h2).symm
      obtain ⟨a1, a2, a3⟩ := List.pairwise_append.mp ap
      obtain ⟨a4, a5⟩ := List.pairwise_cons.mp a2
      rcases hq with hq | hq
      · exact a3 (cellItem q.2 (ρ q.1)) (by simp only [List.mem_append, List.mem_cons]; right; right; exact List.mem_map.mpr ⟨q, hq, rfl⟩) (cellItem c (ρ x')) (by simp) hqa
      · exact a4 (cellItem q.2 (ρ q.1)) (by simp only [List.mem_append]; left; exact List.mem_map.mpr ⟨q, hq, rfl⟩) hqa.symm
    have c1 : cellsI p1 (upd ρ x' v) = cellsI p1 ρ := List.map_congr_left fun q hq => by simp [upd, other q (.inl hq)]
    have c2 : cellsI p2 (upd ρ x' v) = cellsI p2 ρ := List.map_congr_left fun q hq => by simp [upd, other q (.inr hq)]
    have nl : locOf env (upd ρ x' v) = locOf env ρ := by
      funext y
      unfold locOf upd
      by_cases hy : y = x'
      · subst hy
        have : ¬ env.kindOf y = some .local := hl
        simp [this]
      · simp [hy]
    have e2 : pre ++ frameI env cs (upd ρ x' v) ++ R = (pre ++ nsItem env.locals (locOf env ρ) :: cellsI p1 ρ) ++ cellItem c (some v) :: (cellsI p2 ρ ++ R) := by
      have u : (upd ρ x' v) x' = some v := by simp [upd]
      simp only [frameI, nl]
      rw [e]
      have : cellsI (p1 ++ (x', c) :: p2) (upd ρ x' v) = cellsI p1 ρ ++ cellItem c (some v) :: cellsI p2 ρ := by
        rw [← c1, ← c2]
        simp [cellsI, u]
      rw [this]
      simp
    rw [e2]
    exact hrep.write s.toks (fun b o hb e => hs.extBut b o hb e) rfl ho' ⟨some r, hd', fun x hx => by cases hx; exact ⟨r, rfl, d⟩⟩
theorem assign_rep {env : Env} {cs : List (Str × Addr)} {ρ : Str → Option V} {x : Str} {p : Pos} {v : V} {r : Value} {pre R : List Item} {Q : Unit → Shared → Prop} (F : FrOk env cs) (hx : env.kindOf x = some .local ∨ x ∈ cs.map (·.1))
    (h : Rep w os B (pre ++ frameI env cs ρ ++ R) s) (d : den w B v r) (k : ∀ s', Rep w os B (pre ++ frameI env cs (upd ρ x v) ++ R) s' → Q () s') : wpAny M A (assign (.Name x p) env r) Q E s :=
  wpAny_assign_Name (store_rep F hx h d k)

/-- what a frame sees -/
theorem frame_sees {env : Env} {cs : List (Str × Addr)} {ρ : Str → Option V} {Ω pre R : List Item} (hΩ : ∀ i ∈ Ω, i ∈ R) (hc : ∀ x c, env.cells.lookup x = some c → (x, c) ∈ cs) (hall : ∀ x v, ρ x = some v → env.kindOf x = some .cell → (env.cells.lookup x).isSome = true) : Sees Ω (pre ++ frameI env cs ρ ++ R) env ρ where
  its := fun i hi => List.mem_append_right _ (hΩ i hi)
  loc := fun x v hv hk => ⟨locOf env ρ, by simp [frameI], by simp [locOf, hk, hv]⟩
  cel := fun x v hv hk => by
    obtain ⟨c, hc'⟩ := Option.isSome_iff_exists.mp (hall x v hv hk)
    refine ⟨c, hc', ?_⟩
    have := hc x c hc'
    rw [← hv]
    simp only [frameI, List.mem_append, List.mem_cons]
    left; right; right
    exact List.mem_map.mpr ⟨(x, c), this, rfl⟩
end

-- closures
def clGo (cells : List (Str × Addr)) : List (Str × NameKind) → List (Str × Addr) → List (Str × Addr)
  | [], cs => cs
  | (n, k) :: r, cs => if k == .free then clGo cells r ((n, (cells.lookup n).getD 0) :: cs) else clGo cells r cs
theorem closure_is {scope : Scope} {env : Env} (h : ∀ n, (n, NameKind.free) ∈ scope.names → (env.cells.lookup n).isSome = true) : closureFor scope env = pure (clGo env.cells scope.names []) := by
  unfold closureFor
  generalize scope.names = names at h
  have key : ∀ (names : List (Str × NameKind)) (cs : List (Str × Addr)), (∀ n, (n, NameKind.free) ∈ names → (env.cells.lookup n).isSome = true) →
      (forIn names cs fun x r => (match x with | (name, kind) => if (kind == NameKind.free) = true then do let c ← cellOf env name; pure (ForInStep.yield ((name, c) :: r)) else pure (ForInStep.yield r) : Sem (ForInStep (List (Str × Addr))))) = pure (clGo env.cells names cs) := by
    intro names
    induction names with
    | nil => intro cs _; rfl
    | cons x r ih =>
      intro cs h
      obtain ⟨n, k⟩ := x
      rw [List.forIn_cons]
      unfold clGo
      by_cases hk : (k == NameKind.free) = true
      · have hkk : k = .free := by simpa using hk
        subst hkk
        obtain ⟨c, hc⟩ := Option.isSome_iff_exists.mp (h n (by simp))
        have : cellOf env n = pure c := by unfold cellOf; rw [hc]
        simp only [hk, if_true, this, hc, Option.getD_some, pure_bind]
        exact ih _ fun m hm => h m (by simp [hm])
      · simp only [hk, Bool.false_eq_true, if_false, pure_bind]
        exact ih _ fun m hm => h m (by simp [hm])
  have := key names [] h
  first
    | (rw [this]; rfl)
    | (simp only [bind_pure]; exact this)
    | exact this
theorem clGo_mem {cells : List (Str × Addr)} : ∀ {names : List (Str × NameKind)} {cs : List (Str × Addr)} {p : Str × Addr}, p ∈ clGo cells names cs → p ∈ cs ∨ p.2 = (cells.lookup p.1).getD 0
  | [], _, _, h => .inl h
  | (n, k) :: r, cs, p, h => by
    unfold clGo at h
    split at h
    · rcases clGo_mem h with h1 | h1
      · rcases List.mem_cons.mp h1 with rfl | h2
        · exact .inr rfl
        · exact .inl h2
      · exact .inr h1
    · exact clGo_mem h
theorem clGo_key {cells : List (Str × Addr)} {n : Str} : ∀ {names : List (Str × NameKind)} {cs : List (Str × Addr)}, ((n, NameKind.free) ∈ names ∨ n ∈ cs.map (·.1)) → n ∈ (clGo cells names cs).map (·.1)
  | [], _, h => by rcases h with h | h; · cases h
                   · exact h
  | (m, k) :: r, cs, h => by
    unfold clGo
    split
    · refine clGo_key ?_
      rcases h with h | h
      · rcases List.mem_cons.mp h with e | h
        · cases e; right; simp
        · exact .inl h
      · right; simp [h]
    · rename_i hk
      refine clGo_key ?_
      rcases h with h | h
      · rcases List.mem_cons.mp h with e | h
        · cases e; exact absurd rfl hk
        · exact .inl h
      · exact .inr h
theorem lookup_of_key : ∀ {l : List (Str × Addr)} {n : Str}, n ∈ l.map (·.1) → ∃ c, l.lookup n = some c
  | (k, v) :: l, n, h => by
    rw [List.lookup_cons]
    cases e : n == k with
    | true => exact ⟨v, rfl⟩
    | false =>
      have : n ≠ k := by simpa using e
      exact lookup_of_key (by simpa [this] using h)
theorem clGo_lookup {cells : List (Str × Addr)} {names : List (Str × NameKind)} {n : Str} {c : Addr} (h : (n, NameKind.free) ∈ names) (hc : cells.lookup n = some c) : (clGo cells names []).lookup n = some c := by
  obtain ⟨d, hd⟩ := lookup_of_key (clGo_key (cells := cells) (cs := []) (.inl h))
  have := clGo_mem (mem_of_lookup hd)
  rcases this with h1 | h1
  · cases h1
  · have h2 : d = (cells.lookup n).getD 0 := h1
    rw [hd, h2, hc]; rfl

theorem cellsFrom_app : ∀ (names : List (Str × NameKind)) (n : Nat) (acc : List (Str × Addr)), cellsFrom n names acc = cellsFrom n names [] ++ acc
  | [], n, acc => by simp [cellsFrom]
  | (x, k) :: r, n, acc => by
    unfold cellsFrom
    split
    · rw [cellsFrom_app r (n + 1) ((x, n) :: acc), cellsFrom_app r (n + 1) [(x, n)]]
      simp
    · exact cellsFrom_app r n acc
theorem cellsFrom_names : ∀ (names : List (Str × NameKind)) (n : Nat) (acc : List (Str × Addr)) (p : Str × Addr), p ∈ cellsFrom n names acc → p ∈ acc ∨ (p.1, NameKind.cell) ∈ names
  | [], n, acc, p, h => .inl h
  | (x, k) :: r, n, acc, p, h => by
    unfold cellsFrom at h
    split at h
    · rename_i hk
      have : k = .cell := by simpa using hk
      subst this
      rcases cellsFrom_names r _ _ p h with h1 | h1
      · rcases List.mem_cons.mp h1 with rfl | h2
        · exact .inr (by simp)
        · exact .inl h2
      · exact .inr (by simp [h1])
    · rcases cellsFrom_names r _ _ p h with h1 | h1
      · exact .inl h1
      · exact .inr (by simp [h1])
theorem cellsFrom_has : ∀ (names : List (Str × NameKind)) (n : Nat) (acc : List (Str × Addr)) (x : Str), ((x, NameKind.cell) ∈ names ∨ x ∈ acc.map (·.1)) → x ∈ (cellsFrom n names acc).map (·.1)
  | [], n, acc, x, h => by rcases h with h | h; · cases h
                           · exact h
  | (y, k) :: r, n, acc, x, h => by
    unfold cellsFrom
    split
    · refine cellsFrom_has r _ _ x ?_
      rcases h with h | h
      · rcases List.mem_cons.mp h with e | h
        · cases e; right; simp
        · exact .inl h
      · right; simp [h]
    · rename_i hk
      refine cellsFrom_has r _ _ x ?_
      rcases h with h | h
      · rcases List.mem_cons.mp h with e | h
        · cases e; exact absurd rfl hk
        · exact .inl h
      · exact .inr h
end Mine

namespace Mine

/-- a list in the making -/
def lstItem (a : Addr) (ys : List V) : Item where
  addr := a
  P := fun w B o => ∃ its n, o = listOf its n ∧ dens w B ys its.toList
  mono := fun h ⟨its, n, e, d⟩ => ⟨its, n, e, dens.mono h _ d⟩

def relabelS (scope sc : Scope) : Scope :=
  { scope with names := scope.names.map fun (n, k) => if (k == .free && sc.kind == .function && sc.names.lookup n == some .cell) then (n, .cell) else (n, k) }
theorem relabel_is {scope sc : Scope} {env : Env} (h : env.scope = sc) : relabel scope env = relabelS scope sc := by
  unfold relabel relabelS Env.kindOf; rw [h]
/-- all is well with the names of a comprehension's block -/
def compOk (scope sc : Scope) (ρ : Str → Option V) : Bool :=
  scope.kind == .function && scope.names.all (fun x => x.2 != .free || (sc.names.lookup x.1 == some .cell && (ρ x.1).isSome)) && decide ((scope.names.map (·.1)).Nodup)
/-- what is seen inside -/
def seen (scope : Scope) (ρ ρ' : Str → Option V) : Str → Option V := fun x => match ρ' x with
  | some v => some v
  | Option.none => if scope.names.lookup x = some .free then ρ x else Option.none

theorem lookup_map_kind {g : Str × NameKind → NameKind} : ∀ {l : List (Str × NameKind)} {x : Str} {k : NameKind}, (l.map fun p => (p.1, g p)).lookup x = some k → ∃ k', l.lookup x = some k' ∧ g (x, k') = k
  | (n, k0) :: l, x, k, h => by
    rw [List.map_cons, List.lookup_cons] at h
    rw [List.lookup_cons]
    cases e : x == n with
    | true =>
      rw [e] at h
      have : x = n := by simpa using e
      subst this
      exact ⟨k0, rfl, Option.some.inj h⟩
    | false =>
      rw [e] at h
      exact lookup_map_kind h
theorem lookup_map_kind' {g : Str × NameKind → NameKind} : ∀ {l : List (Str × NameKind)} {x : Str} {k' : NameKind}, l.lookup x = some k' → (l.map fun p => (p.1, g p)).lookup x = some (g (x, k'))
  | (n, k0) :: l, x, k', h => by
    rw [List.lookup_cons] at h
    rw [List.map_cons, List.lookup_cons]
    cases e : x == n with
    | true =>
      rw [e] at h
      have : x = n := by simpa using e
      subst this
      cases h; rfl
    | false =>
      rw [e] at h
      exact lookup_map_kind' h
def reKind (sc : Scope) (p : Str × NameKind) : NameKind := if (p.2 == .free && sc.kind == .function && sc.names.lookup p.1 == some .cell) then .cell else p.2
theorem relabelS_names (scope sc : Scope) : (relabelS scope sc).names = scope.names.map fun p => (p.1, reKind sc p) := by
  unfold relabelS reKind
  refine List.map_congr_left fun p _ => ?_
  obtain ⟨n, k⟩ := p
  dsimp only
  split <;> rfl

theorem cellsFrom_nodup : ∀ (names : List (Str × NameKind)) (n : Nat) (acc : List (Str × Addr)), (names.map (·.1)).Nodup → (acc.map (·.1)).Nodup → (∀ x ∈ names.map (·.1), x ∉ acc.map (·.1)) → ((cellsFrom n names acc).map (·.1)).Nodup
  | [], n, acc, _, h, _ => h
  | (x, k) :: r, n, acc, h1, h2, h3 => by
    rw [List.map_cons, List.nodup_cons] at h1
    unfold cellsFrom
    split
    · refine cellsFrom_nodup r _ _ h1.2 ?_ fun y hy => ?_
      · rw [List.map_cons, List.nodup_cons]
        exact ⟨h3 x (by simp), h2⟩
      · rw [List.map_cons, List.mem_cons]
        rintro (e | e)
        · exact h1.1 (by rw [show x = y from e.symm]; exact hy)
        · exact h3 y (by simp at hy ⊢; exact .inr hy) e
    · exact cellsFrom_nodup r _ _ h1.2 h2 fun y hy => h3 y (by simp at hy ⊢; exact .inr hy)
theorem lookup_nodup : ∀ {l : List (Str × Addr)} {p : Str × Addr}, (l.map (·.1)).Nodup → p ∈ l → l.lookup p.1 = some p.2
  | (k, v) :: l, p, h, hp => by
    rw [List.map_cons, List.nodup_cons] at h
    rw [List.lookup_cons]
    rcases List.mem_cons.mp hp with rfl | hp
    · simp
    · have : p.1 ≠ k := fun e => h.1 (by rw [show k = p.1 from e.symm]; exact List.mem_map.mpr ⟨p, hp, rfl⟩)
      have : (p.1 == k) = false := by simpa using this
      rw [this]
      exact lookup_nodup h.2 hp
theorem lookup_none : ∀ {l : List (Str × Addr)} {x : Str}, x ∉ l.map (·.1) → l.lookup x = Option.none
  | [], _, _ => rfl
  | (k, v) :: l, x, h => by
    rw [List.lookup_cons]
    have : x ≠ k := fun e => h (by simp [e])
    have e : (x == k) = false := by simpa using this
    rw [e]
    exact lookup_none fun hm => h (by simp [hm])
theorem lookup_kinds : ∀ {l : List (Str × NameKind)} {p : Str × NameKind}, (l.map (·.1)).Nodup → p ∈ l → l.lookup p.1 = some p.2
  | (k, v) :: l, p, h, hp => by
    rw [List.map_cons, List.nodup_cons] at h
    rw [List.lookup_cons]
    rcases List.mem_cons.mp hp with rfl | hp
    · simp
    · have : p.1 ≠ k := fun e => h.1 (by rw [show k = p.1 from e.symm]; exact List.mem_map.mpr ⟨p, hp, rfl⟩)
      have : (p.1 == k) = false := by simpa using this
      rw [this]
      exact lookup_kinds h.2 hp
theorem mem_of_kinds : ∀ {l : List (Str × NameKind)} {x : Str} {k : NameKind}, l.lookup x = some k → (x, k) ∈ l
  | (n, k0) :: l, x, k, h => by
    rw [List.lookup_cons] at h
    cases e : x == n with
    | true =>
      rw [e] at h
      have : x = n := by simpa using e
      cases h; subst this; simp
    | false => rw [e] at h; exact List.mem_cons_of_mem _ (mem_of_kinds h)

section
variable {w : World} {os : OsState} {n : Nat} {sc : Scope} {ρ : Str → Option V} {Ω : List Item}
/-- many new objects at once -/
theorem Rep.many {B : Bs} {own : List Item} {s : Shared} (R : Rep w os B own s) (new : List Item) {h' : Heap} (tk : Nat) (hk : ∀ b o, s.heap.get? b = some o → h'.get? b = some o) (ha : ∀ i ∈ new, s.heap.get? i.addr = Option.none)
    (ho : ∀ i ∈ new, ∃ o, h'.get? i.addr = some o ∧ i.P w B o) (hp : new.Pairwise fun i j => i.addr ≠ j.addr) : Rep w os B (new ++ own) { s with heap := h', toks := tk } := by
  refine ⟨fun a o e => hk _ _ (R.base a o e), fun i hi => ?_, fun i hi => ?_, List.pairwise_append.mpr ⟨hp, R.apart, fun i hi j hj => (R.fresh (ha i hi)).2 j hj⟩, R.gens, R.os⟩
  · rcases List.mem_append.mp hi with hi | hi
    · exact ho i hi
    · obtain ⟨o, e, p⟩ := R.has i hi
      exact ⟨o, hk _ _ e, p⟩
  · rcases List.mem_append.mp hi with hi | hi
    · exact (R.fresh (ha i hi)).1
    · exact R.off i hi

/-- the block of a comprehension is made -/
theorem newEnv_rep {M : Model} {A : Around} {E : Value → Shared → Prop} {B : Bs} {own : List Item} {s : Shared} {scope : Scope} {g : Addr} {cl : List (Str × Addr)} {q : Str} {env : Env} {Q : Env → Shared → Prop} (R : Rep w os B own s) (hn : (scope.names.map (·.1)).Nodup)
    (k : ∀ L cs s', (∀ p ∈ cs, (p.1, NameKind.cell) ∈ scope.names) → (∀ x, (x, NameKind.cell) ∈ scope.names → x ∈ cs.map (·.1)) → (cs.map (·.1)).Nodup →
      Rep w os B ((nsItem L (fun _ => Option.none) :: cellsI cs (fun _ => Option.none)) ++ own) s' → Q (newEnv scope L g (cs ++ cl) q Option.none .none (some env) builtinsNs) s') :
    wpAny M A (newFunctionEnv scope g cl [] q Option.none .none (some env)) Q E s := by
  simp only [newFunctionEnv, Option.isSome_some, if_true]
  refine wpAny_bind (wpAny_alloc ?_)
  refine wpAny_bind (wpAny_layCells _ (fun name kind cells => by cases hkc : kind == NameKind.cell <;> simp [hkc]) _ _ _ _ ?_)
  rw [show ({ s with heap := s.heap.push { cls := .type "dict", data := .dict #[] } } : Shared).heap.objs.size = s.heap.objs.size + 1 from Heap.size_push ..]
  rw [cellsFrom_app]
  have ok := cellsFrom_ok scope.names (s.heap.push { cls := .type "dict", data := .dict #[] }) (s.heap.objs.size + 1) [] ⟨fun _ _ hm => (nomatch hm), List.Pairwise.nil⟩ (by rw [Heap.size_push]; exact Nat.le_refl _)
  rw [Heap.size_push] at ok
  have fresh : ∀ a, s.heap.objs.size ≤ a → s.heap.get? a = Option.none := fun a ha => by
    cases e : s.heap.get? a with
    | none => rfl
    | some o => exact absurd (Heap.lt_size e) (Nat.not_lt.mpr ha)
  have keep : ∀ b o, s.heap.get? b = some o → (pushCells (s.heap.push { cls := .type "dict", data := .dict #[] }) scope.names).get? b = some o := fun b o e => pushCells_keeps _ _ _ _ (Heap.get?_push_of_some _ e)
  refine wpAny_bind (wpAny_pure (wpAny_pure ?_))
  refine k s.heap.objs.size (cellsFrom (s.heap.objs.size + 1) scope.names []) _ (fun p hp => ?_) (fun x hx => cellsFrom_has _ _ _ _ (.inl hx)) (cellsFrom_nodup _ _ [] hn List.nodup_nil (fun _ _ h => nomatch h)) ?_
  · rcases cellsFrom_names _ _ _ _ hp with h | h
    · cases h
    · exact h
  · refine R.many _ s.toks keep (fun i hi => ?_) (fun i hi => ?_) ?_
    · rcases List.mem_cons.mp hi with rfl | hi
      · exact fresh _ (Nat.le_refl _)
      · obtain ⟨p, hp, rfl⟩ := List.mem_map.mp hi
        exact fresh _ (by have := (ok.empty p.1 p.2 hp).2; show s.heap.objs.size ≤ p.2; omega)
    · rcases List.mem_cons.mp hi with rfl | hi
      · exact ⟨_, pushCells_keeps _ _ _ _ (Heap.get?_push_size _ rfl), #[], 0, rfl, (fun e he => by simp at he), fun x v h => nomatch h⟩
      · obtain ⟨p, hp, rfl⟩ := List.mem_map.mp hi
        obtain ⟨o, ho, hd⟩ := (ok.empty p.1 p.2 hp).1
        exact ⟨o, ho, Option.none, hd, fun x h => nomatch h⟩
    · refine List.pairwise_cons.mpr ⟨fun i hi => ?_, ?_⟩
      · obtain ⟨p, hp, rfl⟩ := List.mem_map.mp hi
        have := (ok.empty p.1 p.2 hp).2
        show s.heap.objs.size ≠ p.2
        omega
      · exact List.pairwise_map.mpr ok.apart

/-- the tests of a clause -/
def PTs (w : World) (os : OsState) (n : Nat) (Ω : List Item) (sc : Scope) (ρ : Str → Option V) (ifs : List Expr) (b : Bool) : Prop :=
  ∀ A env B own s E, Rm n A own → TopB w B → EnvOk env sc → Sees Ω own env ρ → Rep w os B own s →
    wpAny (model pg w) A (forIn ifs true fun c r => if r = true then do let ok ← isTrue c env (eval c env); pure (ForInStep.yield ok) else pure (ForInStep.yield r)) (PostB w os B own b) E s
theorem PTs.nil : PTs w os n Ω sc ρ [] true := fun A env B own s E hA T ek sees R => wpAny_tests_nil ⟨B, Le.refl B, R, rfl⟩
theorem PTs.one {c : Expr} {b : Bool} (h : PT w os n Ω sc ρ c b) : PTs w os n Ω sc ρ [c] b := fun A env B own s E hA T ek sees R => wpAny_tests_one (h A env B own s E hA T ek sees R)

/-- the block of a comprehension, its scope laid anew -/
def compEnv (scope : Scope) (env : Env) (L : Addr) (cells : List (Str × Addr)) : Env :=
  { newEnv scope L env.globals cells env.qual Option.none .none (some env) builtinsNs with scope := relabel scope env }
structure CompIn (scope sc : Scope) (env : Env) (cs cl : List (Str × Addr)) : Prop where
  own : ∀ p ∈ cs, (p.1, NameKind.cell) ∈ scope.names
  all : ∀ x, (x, NameKind.cell) ∈ scope.names → x ∈ cs.map (·.1)
  nodup : (cs.map (·.1)).Nodup
  names : (scope.names.map (·.1)).Nodup
  fn : scope.kind = .function
  esc : env.scope = sc
  cl : ∀ x c, (x, NameKind.free) ∈ scope.names → env.cells.lookup x = some c → cl.lookup x = some c
  free : ∀ x, (x, NameKind.free) ∈ scope.names → sc.names.lookup x = some .cell
theorem compEnv_kind {scope : Scope} {env : Env} {L : Addr} {cells : List (Str × Addr)} (h : env.scope = sc) (x : Str) : (compEnv scope env L cells).kindOf x = (relabelS scope sc).names.lookup x := by
  show (relabel scope env).names.lookup x = _
  rw [relabel_is h]
theorem CompIn.frOk {scope : Scope} {env : Env} {cs cl : List (Str × Addr)} (C : CompIn scope sc env cs cl) (L : Addr) : FrOk (compEnv scope env L (cs ++ cl)) cs where
  fn := by show (relabel scope env).kind = _; exact C.fn
  kinds := fun p hp => by
    rw [compEnv_kind C.esc, relabelS_names]
    have := lookup_kinds C.names (C.own p hp)
    rw [lookup_map_kind' this]
    rfl
  look := fun p hp => by
    show (cs ++ cl).lookup p.1 = _
    rw [List.lookup_append, lookup_nodup C.nodup hp]; rfl
theorem CompIn.sees {scope : Scope} {env : Env} {cs cl : List (Str × Addr)} (C : CompIn scope sc env cs cl) (L : Addr) {own pre : List Item} {ρ' : Str → Option V} (S : Sees Ω own env ρ) (hd : ∀ x, scope.names.lookup x = some .free → ρ' x = Option.none) :
    Sees Ω (pre ++ frameI (compEnv scope env L (cs ++ cl)) cs ρ' ++ own) (compEnv scope env L (cs ++ cl)) (seen scope ρ ρ') where
  its := fun i hi => List.mem_append_right _ (S.its i hi)
  loc := fun x v hv hk => by
    have hk' := hk
    rw [compEnv_kind C.esc, relabelS_names] at hk'
    obtain ⟨k', h1, h2⟩ := lookup_map_kind hk'
    have hkl : k' = .local := by
      unfold reKind at h2
      split at h2
      · cases h2
      · exact h2
    subst hkl
    refine ⟨locOf (compEnv scope env L (cs ++ cl)) ρ', by simp [frameI], ?_⟩
    unfold locOf
    rw [if_pos hk]
    unfold seen at hv
    cases e : ρ' x with
    | some u => rw [e] at hv; exact hv
    | none => rw [e, h1] at hv; simp at hv
  cel := fun x v hv hk => by
    rw [compEnv_kind C.esc, relabelS_names] at hk
    obtain ⟨k', h1, h2⟩ := lookup_map_kind hk
    by_cases hf : k' = .free
    · subst hf
      have hm := mem_of_kinds h1
      unfold seen at hv
      rw [hd x h1, h1] at hv
      simp at hv
      obtain ⟨c, hc, hi⟩ := S.cel x v hv (by unfold Env.kindOf; rw [C.esc]; exact C.free x hm)
      refine ⟨c, ?_, by simp [hi]⟩
      show (cs ++ cl).lookup x = _
      have : x ∉ cs.map (·.1) := by
        intro hx
        obtain ⟨p, hp, rfl⟩ := List.mem_map.mp hx
        have := lookup_kinds C.names (C.own p hp)
        rw [h1] at this; cases this
      rw [List.lookup_append, lookup_none this]
      exact C.cl x c hm hc
    · have hkc : k' = .cell := by
        unfold reKind at h2
        have : (k' == NameKind.free) = false := by simpa using hf
        simpa [this] using h2
      subst hkc
      have hm := mem_of_kinds h1
      obtain ⟨p, hp, rfl⟩ := List.mem_map.mp (C.all x hm)
      refine ⟨p.2, ?_, ?_⟩
      · show (cs ++ cl).lookup p.1 = _
        rw [List.lookup_append, lookup_nodup C.nodup hp]; rfl
      · unfold seen at hv
        cases e : ρ' p.1 with
        | some u =>
          rw [e] at hv
          have : u = v := Option.some.inj hv
          subst this
          have : cellItem p.2 (some u) ∈ cellsI cs ρ' := List.mem_map.mpr ⟨p, hp, by rw [e]⟩
          simp [frameI, this]
        | none => rw [e, h1] at hv; simp at hv
theorem CompIn.envOk {scope : Scope} {env : Env} {cs cl : List (Str × Addr)} (C : CompIn scope sc env cs cl) (ek : EnvOk env sc) (L : Addr) : EnvOk (compEnv scope env L (cs ++ cl)) (relabelS scope sc) where
  scope := relabel_is C.esc
  kind := C.fn
  globals := ek.globals
  builtins := ek.builtins
end
end Mine

namespace Mine
section
variable {w : World} {os : OsState} {n : Nat} {sc : Scope} {ρ : Str → Option V} {Ω : List Item}

def noV : Str → Option V := fun _ => Option.none
def only (t : Str) (v : V) : Str → Option V := upd noV t v
theorem upd_only {t : Str} {v v' : V} : upd (only t v') t v = only t v := by
  funext y; unfold only upd; split <;> rfl

/-- a target binds its names -/
def Binds {α : Type} (w : World) (os : OsState) (scope sc : Scope) (tgt : Expr) (emb : α → V) (nm : α → Str → Option V) : Prop :=
  ∀ (x : α) (A : Around) (env : Env) (B : Bs) (own pre : List Item) (s : Shared) (cs cl : List (Str × Addr)) (L : Addr) (ρ' : Str → Option V) (r : Value) (Q : Unit → Shared → Prop) (E : Value → Shared → Prop), A.handled = none → CompIn scope sc env cs cl → (ρ' = noV ∨ ∃ y, ρ' = nm y) →
    Rep w os B (pre ++ frameI (compEnv scope env L (cs ++ cl)) cs ρ' ++ own) s → den w B (emb x) r → (∀ s', Rep w os B (pre ++ frameI (compEnv scope env L (cs ++ cl)) cs (nm x) ++ own) s' → Q () s') →
      wpAny (model pg w) A (assign tgt (compEnv scope env L (cs ++ cl)) r) Q E s
inductive isTup : Expr → Prop
  | name (t : Str) (p : Pos) : isTup (.Name t p)
  | tup (es : List Expr) (k : Nat) (p : Pos) : isTup (.Tuple es k p)
theorem CompIn.var {scope : Scope} {env : Env} {cs cl : List (Str × Addr)} (C : CompIn scope sc env cs cl) (L : Addr) {t : Str} (ht : scope.names.lookup t = some .local ∨ scope.names.lookup t = some .cell) : (compEnv scope env L (cs ++ cl)).kindOf t = some .local ∨ t ∈ cs.map (·.1) := by
  rcases ht with ht | ht
  · left
    rw [compEnv_kind C.esc, relabelS_names, lookup_map_kind' ht]; rfl
  · right; exact C.all t (mem_of_kinds ht)
theorem Binds.name {α : Type} {scope : Scope} {t : Str} {px : Pos} {emb : α → V} (ht : scope.names.lookup t = some .local ∨ scope.names.lookup t = some .cell) : Binds w os scope sc (.Name t px) emb (fun x => only t (emb x)) := by
  intro x A env B own pre s cs cl L ρ' r Q E hh C hρ R d k
  have hupd : upd ρ' t (emb x) = only t (emb x) := by
    rcases hρ with rfl | ⟨v, rfl⟩
    · rfl
    · exact upd_only
  exact assign_rep (C.frOk L) (C.var L ht) R d fun s' R' => k s' (by rw [hupd] at R'; exact R')
theorem only_dom {scope : Scope} {t : Str} (ht : scope.names.lookup t = some .local ∨ scope.names.lookup t = some .cell) (v : V) : ∀ x, scope.names.lookup x = some .free → only t v x = Option.none := by
  intro x hx
  unfold only upd
  split
  · rename_i e; subst e
    rcases ht with ht | ht <;> rw [ht] at hx <;> cases hx
  · rfl
/-- the loop of a list comprehension of one clause, any target -/
theorem any_loop {elt target iter : Expr} {ifs : List Expr} {scope : Scope} {pos : Pos} {it acc : Value} {env : Env} {A : Around} {s : Shared} {R : Result → Shared → Prop} (I : Nat → Shared → Prop)
    (turn : ∀ n s (E : Value → Shared → Prop), I n s → wpAny (model pg w) A (pyNext it) (fun r s₁ => match r with
      | none => R (.ok .next) s₁
      | some v => wpAny (model pg w) A (letOwnedTupleGo target it v) (fun _ s₁' => wpAny (model pg w) A (assign target env v) (fun _ s₂ =>
          wpAny (model pg w) A (forIn ifs true fun c r => if r = true then do let ok ← isTrue c env (eval c env); pure (ForInStep.yield ok) else pure (ForInStep.yield r)) (fun ok s₃ =>
            if ok = true then wpAny (model pg w) A (eval elt env) (fun x s₄ => wpAny (model pg w) A (call (.builtin "list.append") [acc, x]) (fun _ s₅ => ∃ m, m < n ∧ I m s₅) E s₄) E s₃
            else ∃ m, m < n ∧ I m s₃) E s₂) E s₁') E s₁) E s)
    (n : Nat) (h : I n s) : codeAny (model pg w) A (.compLoop (.ListComp elt [⟨target, iter, ifs, 0⟩] scope pos) 0 it acc env) R s := by
  refine codeAny_loop rfl I (fun n s hI => ?_) n h
  show wpAny _ A ((compTurn (.ListComp elt [⟨target, iter, ifs, 0⟩] scope pos) 0 it acc env).onRaise (fun x => do noteFrame x env; theTreesLotGoes x)) _ _ s
  refine wpAny_noted ?_
  rw [compTurn_list]
  refine wpAny_bind (wpAny_standAt (wpAny_bind (wpAny_mono (turn n s _ hI) (fun r s₁ h₁ => ?_) fun _ _ h' => h')))
  cases r with
  | none => exact wpAny_pure h₁
  | some v =>
    refine wpAny_bind (wpAny_mono h₁ (fun _ s₁' h₁' => ?_) fun _ _ h' => h')
    refine wpAny_bind (wpAny_mono h₁' (fun _ s₂ h₂ => wpAny_bind (wpAny_mono h₂ (fun ok s₃ h₃ => ?_) fun _ _ h' => h')) fun _ _ h' => h')
    cases ok with
    | false => exact wpAny_pure ⟨rfl, h₃⟩
    | true => exact wpAny_bind (wpAny_bind (wpAny_mono h₃ (fun x s₄ h₄ => wpAny_bind (wpAny_mono h₄ (fun _ s₅ h₅ => wpAny_pure (wpAny_pure ⟨rfl, h₅⟩)) fun _ _ h' => h')) fun _ _ h' => h'))
/-- the turns of a list comprehension of one clause -/
theorem comp_loop {α : Type} {elt iter tgt : Expr} {ifs : List Expr} {scope : Scope} {pos : Pos} (xs : List α) (emb : α → V) (nm : α → Str → Option V) (p : α → Bool) (g : α → V)
    (hp : ∀ x ∈ xs, PTs w os n Ω (relabelS scope sc) (seen scope ρ (nm x)) ifs (p x))
    (hg : ∀ x ∈ xs, p x = true → PE w os n Ω (relabelS scope sc) (seen scope ρ (nm x)) elt (g x))
    (hb : Binds w os scope sc tgt emb nm) (hdom : ∀ x y, scope.names.lookup y = some .free → nm x y = Option.none) (ht : isTup tgt) (hsz : xs.length ≤ sizeLine)
    {A : Around} {env : Env} {B : Bs} {own : List Item} {s : Shared} {R : Result → Shared → Prop} {cs cl : List (Str × Addr)} {L I D : Addr} {J : Nat → Item}
    (hA : Rm n A own) (T : TopB w B) (ek : EnvOk env sc) (sees : Sees Ω own env ρ) (C : CompIn scope sc env cs cl) (W : Iter w os B I (xs.map emb) J)
    (hR : Rep w os B (J 0 :: lstItem D [] :: (frameI (compEnv scope env L (cs ++ cl)) cs noV ++ own)) s)
    (k : ∀ s' B' ρ', Le B B' → Rep w os B' (lstItem D ((xs.filter p).map g) :: (frameI (compEnv scope env L (cs ++ cl)) cs ρ' ++ own)) s' → R (.ok .next) s') :
    codeAny (model pg w) A (.compLoop (.ListComp elt [⟨tgt, iter, ifs, 0⟩] scope pos) 0 (.ref I) (.ref D) (compEnv scope env L (cs ++ cl))) R s := by
  refine any_loop (fun m s' => ∃ i B' ρ', m = xs.length + 1 - i ∧ i ≤ xs.length ∧ Le B B' ∧ (ρ' = noV ∨ ∃ v, ρ' = nm v) ∧
      Rep w os B' (J i :: lstItem D (((xs.take i).filter p).map g) :: (frameI (compEnv scope env L (cs ++ cl)) cs ρ' ++ own)) s') ?_ (xs.length + 1)
    ⟨0, B, noV, rfl, Nat.zero_le _, Le.refl B, .inl rfl, by simpa using hR⟩
  rintro m s' E ⟨i, B', ρ', rfl, hi, le, hρ, R'⟩
  rcases Nat.lt_or_ge i xs.length with hlt | hge
  · have hx : (xs.map emb)[i]? = some (emb xs[i]) := by simp [hlt]
    have hmem : xs[i] ∈ xs := List.getElem_mem _
    have htake : (xs.take (i + 1)).filter p = (xs.take i).filter p ++ (if p xs[i] then [xs[i]] else []) := take_succ_filter p xs i xs[i] (by simp [hlt])
    refine W.next i _ A B' _ s' _ _ hx hA.handled le R' fun r s₁ d R₁ => ?_
    have hq : ∀ (Q : Unit → Shared → Prop), Q () s₁ → wpAny (model pg w) A (letOwnedTupleGo tgt (.ref I) r) Q E s₁ := fun Q h => by
      cases ht with
      | name => exact wpAny_pure h
      | tup => exact W.quiet (i + 1) A B' _ s₁ _ _ _ _ _ _ R₁ h
    refine hq _ (hb xs[i] A env B' own [J (i + 1), lstItem D (((xs.take i).filter p).map g)] s₁ cs cl L ρ' r _ _ hA.handled C hρ (by simpa using R₁) d fun s₂ R₂ => ?_)
    have S₂ := C.sees (ρ := ρ) L (pre := [J (i + 1), lstItem D (((xs.take i).filter p).map g)]) sees (hdom xs[i])
    refine wpAny_mono (hp xs[i] hmem A _ B' _ s₂ _ (hA.more fun i hi => by simp [hi]) (T.mono le) (C.envOk ek L) S₂ R₂) (fun ok s₃ ⟨B₃, l₃, R₃, e⟩ => ?_) fun _ _ e => e
    subst e
    cases hpx : p xs[i] with
    | false =>
      simp only [Bool.false_eq_true, if_false]
      refine ⟨xs.length + 1 - (i + 1), by omega, i + 1, B₃, nm xs[i], rfl, hlt, le.trans l₃, .inr ⟨xs[i], rfl⟩, ?_⟩
      rw [htake, hpx]
      simpa using R₃
    | true =>
      simp only [if_true]
      refine (hg xs[i] hmem hpx).use (hA.more fun i hi => by simp [hi]) (T.mono (le.trans l₃)) (C.envOk ek L) S₂ R₃ fun r' s₄ B₄ l₄ T₄ R₄ d₄ => ?_
      obtain ⟨o, ho, its, m, rfl, ds⟩ := R₄.has (lstItem D (((xs.take i).filter p).map g)) (by simp)
      have hlen : its.size ≤ sizeLine := by
        rw [ds.size, List.length_map]
        have h1 := List.length_filter_le p (xs.take i)
        have h2 : (xs.take i).length ≤ xs.length := by rw [List.length_take]; omega
        omega
      refine append_at ho (fun h' hs ho' => ?_) hlen
      refine ⟨xs.length + 1 - (i + 1), by omega, i + 1, B₄, nm xs[i], rfl, hlt, (le.trans l₃).trans l₄, .inr ⟨xs[i], rfl⟩, ?_⟩
      have e1 : [J (i + 1), lstItem D (((xs.take i).filter p).map g)] ++ frameI (compEnv scope env L (cs ++ cl)) cs (nm xs[i]) ++ own = [J (i + 1)] ++ lstItem D (((xs.take i).filter p).map g) :: (frameI (compEnv scope env L (cs ++ cl)) cs (nm xs[i]) ++ own) := by simp
      refine (R₄.writeAt e1 (i' := lstItem D (((xs.take (i + 1)).filter p).map g)) s₄.toks (fun b o hb e => hs.extBut b o hb e) rfl ho' ⟨_, _, rfl, ?_⟩)
      rw [htake, hpx]
      simp only [if_true, List.map_append, List.map_cons, List.map_nil, Array.toList_push]
      exact ds.append (dens_cons.mpr ⟨r', [], rfl, d₄, dens_nil.mpr rfl⟩)
  · have hi' : i = xs.length := by omega
    subst hi'
    rw [List.take_length] at R'
    refine W.done A B' _ s' _ _ hA.handled le (by simpa using R') fun s₁ R₁ => ?_
    exact k s₁ B' ρ' le R₁

theorem compOk_parts {scope : Scope} (h : compOk scope sc ρ = true) : scope.kind = .function ∧ (∀ x, (x, NameKind.free) ∈ scope.names → sc.names.lookup x = some .cell ∧ (ρ x).isSome = true) ∧ (scope.names.map (·.1)).Nodup := by
  unfold compOk at h
  simp only [Bool.and_eq_true, decide_eq_true_eq, List.all_eq_true] at h
  refine ⟨by simpa using h.1.1, fun x hx => ?_, h.2⟩
  have := h.1.2 (x, .free) hx
  simpa using this
theorem cells_of_sees {own : List Item} {env : Env} (sees : Sees Ω own env ρ) (ek : env.scope = sc) {x : Str} (h1 : sc.names.lookup x = some .cell) (h2 : (ρ x).isSome = true) : (env.cells.lookup x).isSome = true := by
  obtain ⟨v, hv⟩ := Option.isSome_iff_exists.mp h2
  obtain ⟨c, hc, _⟩ := sees.cel x v hv (by unfold Env.kindOf; rw [ek]; exact h1)
  rw [hc]; rfl
theorem frame_new {L : Addr} {env : Env} {cs : List (Str × Addr)} : frameI env cs noV = nsItem env.locals (fun _ => Option.none) :: cellsI cs (fun _ => Option.none) := by
  unfold frameI
  have : locOf env noV = fun _ => Option.none := by funext x; unfold locOf noV; split <;> rfl
  rw [this]; rfl
/-- up to the end of the turns -/
theorem comp_core {α : Type} {elt iter tgt : Expr} {ifs : List Expr} {scope : Scope} {pos : Pos} (xs : List α) (emb : α → V) (nm : α → Str → Option V) (p : α → Bool) (g : α → V)
    (hp : ∀ x ∈ xs, PTs w os n Ω (relabelS scope sc) (seen scope ρ (nm x)) ifs (p x))
    (hg : ∀ x ∈ xs, p x = true → PE w os n Ω (relabelS scope sc) (seen scope ρ (nm x)) elt (g x))
    (hb : Binds w os scope sc tgt emb nm) (hdom : ∀ x y, scope.names.lookup y = some .free → nm x y = Option.none) (ht : isTup tgt) (hsz : xs.length ≤ sizeLine) (hok : compOk scope sc ρ = true)
    (hi : PI w os n Ω sc ρ iter (xs.map emb))
    {A : Around} {env : Env} {B : Bs} {own : List Item} {s : Shared} {E : Value → Shared → Prop} {RR : Value → Addr → Result → Shared → Prop} {cl : List (Str × Addr)} (hcl : cl = clGo env.cells scope.names [])
    (hA : Rm n A own) (T : TopB w B) (ek : EnvOk env sc) (sees : Sees Ω own env ρ) (R : Rep w os B own s)
    (k : ∀ s' B' D L m (rest : List Item), Le B B' → Rep w os B' (lstItem D ((xs.filter p).map g) :: nsItem L m :: (rest ++ own)) s' → RR (.ref D) L (.ok .next) s') :
    wpAny (model pg w) A (eval iter env) (fun x s₁ => wpAny (model pg w) A (pyIter x) (fun it s₂ => wpAny (model pg w) A (newList []) (fun acc s₃ =>
      wpAny (model pg w) A (newFunctionEnv scope env.globals cl [] env.qual Option.none .none (some env)) (fun cenv s₄ =>
        codeAny (model pg w) A (.compStart (.ListComp elt [⟨tgt, iter, ifs, 0⟩] scope pos) 0 it acc { cenv with scope := relabel scope env }) (RR acc cenv.locals) s₄) E s₃) E s₂) E s₁) E s := by
  obtain ⟨o1, o2, o3⟩ := compOk_parts hok
  refine hi A env B own s E _ hA T ek sees R fun s₂ B₂ I J l₂ W R₂ => ?_
  refine wpAny_newObj_type ?_
  have R₃ := R₂.new (lstItem s₂.heap.objs.size []) s₂.toks (fun b o e => Heap.get?_push_of_some _ e) (get?_size _) (Heap.get?_push_size _ rfl) (o := listOf ([] : List Value).toArray 0) ⟨_, _, rfl, dens_nil.mpr rfl⟩
  refine newEnv_rep R₃ o3 fun L cs s₄ c1 c2 c3 R₄ => ?_
  have C : CompIn scope sc env cs cl := ⟨c1, c2, c3, o3, o1, ek.scope, fun x c hx hc => by rw [hcl]; exact clGo_lookup hx hc, fun x hx => (o2 x hx).1⟩
  have R₅ : Rep w os B₂ (J 0 :: lstItem s₂.heap.objs.size [] :: (frameI (compEnv scope env L (cs ++ cl)) cs noV ++ own)) s₄ := by
    refine R₄.perm ?_
    rw [frame_new (L := L)]
    simp only [List.cons_append]
    show (nsItem L _ :: (cellsI cs _ ++ lstItem _ [] :: J 0 :: own)).Perm (J 0 :: lstItem _ [] :: nsItem L _ :: (cellsI cs _ ++ own))
    refine List.Perm.trans (List.Perm.cons _ (List.perm_middle.trans (List.Perm.cons _ List.perm_middle))) ?_
    refine (List.Perm.swap _ _ _).trans ?_
    refine (List.Perm.cons _ (List.Perm.swap _ _ _)).trans ?_
    exact List.Perm.swap _ _ _
  have fin : codeAny (model pg w) A (.compLoop (.ListComp elt [⟨tgt, iter, ifs, 0⟩] scope pos) 0 (.ref I) (.ref s₂.heap.objs.size) (compEnv scope env L (cs ++ cl))) (RR (.ref s₂.heap.objs.size) L) s₄ := by
    refine comp_loop xs emb nm p g hp hg hb hdom ht hsz hA (T.mono l₂) ek (cs := cs) (cl := cl) (L := L) sees C W R₅ fun s' B' ρ' l' R' => ?_
    exact k s' B' _ L _ (cellsI cs ρ') (l₂.trans l') R'
  exact codeAny_compStart_list fin (W.self 0 A B₂ _ s₄ _ _ R₅ fin)

/-- the names of the block go; the list is frozen -/
theorem comp_end {B : Bs} {own rest : List Item} {s : Shared} {D L : Addr} {m : Str → Option V} {ys : List V} (R : Rep w os B (lstItem D ys :: nsItem L m :: (rest ++ own)) s) :
    ∃ m', s.heap.Ns L m' ∧ ∀ h', Heap.SameBut L s.heap h' → Post w os B own (.list ys) (.ref D) { s with heap := h' } := by
  obtain ⟨es, hns, _⟩ := nsItem_ns R (a := L) (m := m) (by simp)
  refine ⟨_, hns, fun h' hs => ?_⟩
  have R1 : Rep w os B (nsItem L m :: lstItem D ys :: (rest ++ own)) s := R.perm (List.Perm.swap _ _ _)
  have R2 := R1.drop0 (h' := h') s.toks (fun b o hb e => hs.extBut b o hb e)
  have R3 : Rep w os B (lstItem D ys :: own) { s with heap := h' } := R2.sub (List.Sublist.cons_cons _ (List.sublist_append_right ..))
  obtain ⟨o, ho, ⟨its, k, rfl, ds⟩, R4⟩ := R3.freeze
  have hn := R3.off (lstItem D ys) (by simp)
  exact ⟨_, Le.put hn, R4, den_list.mpr ⟨D, its, k, rfl, Bs.put_self .., dens.mono (Le.put hn) _ ds⟩⟩
theorem hnames_of {scope : Scope} (h : (scope.names.map (·.1)).Nodup) : ∀ y ∈ scope.names, y.2 = .local → scope.names.lookup y.1 = some .local := fun y hy e => by rw [lookup_kinds h hy, e]
/-- a list comprehension of one clause, any target -/
theorem PE.compG {α : Type} {elt iter tgt : Expr} {ifs : List Expr} {scope : Scope} {pos : Pos} (xs : List α) (emb : α → V) (nm : α → Str → Option V) (p : α → Bool) (g : α → V)
    (hi : PI w os n Ω sc ρ iter (xs.map emb))
    (hp : ∀ x ∈ xs, PTs w os n Ω (relabelS scope sc) (seen scope ρ (nm x)) ifs (p x))
    (hg : ∀ x ∈ xs, p x = true → PE w os n Ω (relabelS scope sc) (seen scope ρ (nm x)) elt (g x))
    (hb : Binds w os scope sc tgt emb nm) (hdom : ∀ x y, scope.names.lookup y = some .free → nm x y = Option.none) (ht : isTup tgt) (hsz : xs.length ≤ sizeLine) (hok : compOk scope sc ρ = true)
    (hs : ∀ env x, foldedSetIterable iter env x = pure x) : PE w os n Ω sc ρ (.ListComp elt [⟨tgt, iter, ifs, 0⟩] scope pos) (.list ((xs.filter p).map g)) := by
  intro A env B own s E hA T ek sees R
  obtain ⟨o1, o2, o3⟩ := compOk_parts hok
  rw [eval_ListComp]
  refine wpAny_comprehension_free (use := Option.none) (cl := clGo env.cells scope.names []) rfl (hs env) (closure_is fun x hx => cells_of_sees sees ek.scope (o2 x hx).1 (o2 x hx).2) o1 (hnames_of o3) ?_
  refine comp_core xs emb nm p g hp hg hb hdom ht hsz hok hi (RR := fun acc C => compPost (model pg w) A E Option.none (Post w os B own (.list ((xs.filter p).map g))) acc C) rfl hA T ek sees R fun s' B' D L m rest l' R' => ?_
  obtain ⟨m', hns, h⟩ := comp_end R'
  exact ⟨m', hns, fun h' hs => (h h' hs).trans l'⟩
/-- a list comprehension of one clause -/
theorem PE.comp {α : Type} {elt iter : Expr} {t : Str} {px : Pos} {ifs : List Expr} {scope : Scope} {pos : Pos} (xs : List α) (emb : α → V) (p : α → Bool) (g : α → V)
    (hi : PI w os n Ω sc ρ iter (xs.map emb))
    (hp : ∀ x ∈ xs, PTs w os n Ω (relabelS scope sc) (seen scope ρ (only t (emb x))) ifs (p x))
    (hg : ∀ x ∈ xs, p x = true → PE w os n Ω (relabelS scope sc) (seen scope ρ (only t (emb x))) elt (g x))
    (hsz : xs.length ≤ sizeLine) (ht : scope.names.lookup t = some .local ∨ scope.names.lookup t = some .cell) (hok : compOk scope sc ρ = true)
    (hs : ∀ env x, foldedSetIterable iter env x = pure x := by intro _ _; rfl) : PE w os n Ω sc ρ (.ListComp elt [⟨.Name t px, iter, ifs, 0⟩] scope pos) (.list ((xs.filter p).map g)) :=
  PE.compG xs emb (fun x => only t (emb x)) p g hi hp hg (Binds.name ht) (fun x => only_dom ht (emb x)) (.name _ _) hsz hok hs
end
end Mine

namespace Mine

/-- what the def's own frame knows of itself -/
structure FnEnv (env : Env) (sc : Scope) : Prop where
  ok : EnvOk env sc
  fr : FrOk env env.cells
  all : ∀ x, sc.names.lookup x = some .cell → (env.cells.lookup x).isSome = true
theorem FnEnv.seesΩ {env : Env} {sc : Scope} (F : FnEnv env sc) {ρ : Str → Option V} {Ω pre R : List Item} (hΩ : ∀ i ∈ Ω, i ∈ R) : Sees Ω (pre ++ frameI env env.cells ρ ++ R) env ρ :=
  frame_sees hΩ (fun x c h => mem_of_lookup h) fun x v _ hk => F.all x (by unfold Env.kindOf at hk; rw [F.ok.scope] at hk; exact hk)
theorem FnEnv.sees0 {env : Env} {sc : Scope} (F : FnEnv env sc) {ρ : Str → Option V} {R : List Item} : Sees [] (frameI env env.cells ρ ++ R) env ρ := F.seesΩ (pre := []) fun _ h => nomatch h
theorem FnEnv.sees1 {env : Env} {sc : Scope} (F : FnEnv env sc) {ρ : Str → Option V} {Ω R : List Item} (hΩ : ∀ i ∈ Ω, i ∈ R) : Sees Ω (frameI env env.cells ρ ++ R) env ρ := F.seesΩ (pre := []) hΩ
theorem FnEnv.kind {env : Env} {sc : Scope} (F : FnEnv env sc) (x : Str) : env.kindOf x = sc.names.lookup x := by unfold Env.kindOf; rw [F.ok.scope]
theorem FnEnv.var {env : Env} {sc : Scope} (F : FnEnv env sc) {x : Str} (h : sc.names.lookup x = some .local ∨ sc.names.lookup x = some .cell) : env.kindOf x = some .local ∨ x ∈ env.cells.map (·.1) := by
  rcases h with h | h
  · left; rw [F.kind]; exact h
  · right
    obtain ⟨c, hc⟩ := Option.isSome_iff_exists.mp (F.all x h)
    exact List.mem_map.mpr ⟨(x, c), mem_of_lookup hc, rfl⟩

/-- room in a def's own frame, whatever its names hold -/
def RmE (n : Nat) (A : Around) (env : Env) (R : List Item) : Prop := ∀ ρ, Rm n A (frameI env env.cells ρ ++ R)
theorem RmE.add {n : Nat} {A : Around} {env : Env} {R : List Item} {i : Item} (h : RmE n A env R) : RmE n A env (i :: R) := fun ρ => (h ρ).more fun j hj => by
  rcases List.mem_append.mp hj with h | h
  · exact List.mem_append_left _ h
  · exact List.mem_append_right _ (List.mem_cons_of_mem _ h)
theorem RmE.app {n : Nat} {A : Around} {env : Env} {R X : List Item} (h : RmE n A env R) : RmE n A env (X ++ R) := fun ρ => (h ρ).more fun j hj => by
  rcases List.mem_append.mp hj with h | h
  · exact List.mem_append_left _ h
  · exact List.mem_append_right _ (List.mem_append_right _ h)
theorem Rm.deep {n : Nat} {A : Around} {own : List Item} {env : Env} {sc : Scope} (h : Rm (n + 1) A own) (F : FnEnv env sc) (hf : env.frame = some env.locals) : RmE n (A.deeper env) env own := fun ρ => by
  obtain ⟨l, e, q⟩ := h.frames
  refine ⟨h.handled, by have := h.dep; show A.depth + 1 + n ≤ 900; omega, by have := h.uni; show A.units + 3 + 8 * n ≤ 9000; omega, env :: l, by show A.frames.map (env :: ·) = _; rw [e]; rfl, fun x hx => ?_⟩
  rcases List.mem_cons.mp hx with rfl | hx
  · exact ⟨F.fr.fn, hf, _, List.mem_append_left _ (List.mem_cons_self ..)⟩
  · exact ⟨(q x hx).fn, (q x hx).atf, let ⟨m, hm⟩ := (q x hx).has; ⟨m, List.mem_append_right _ hm⟩⟩
/-- the parameters' values -/
def parV (ps : List Str) (vs : List V) : Str → Option V := fun x => (ps.zip vs).lookup x
def parR (ps : List Str) (rs : List Value) : List (Str × Value) := ps.zip rs

theorem bindL_other {kind : Str → Option NameKind} {x : Str} : ∀ {l : List (Str × Value)} {m : Str → Option Value}, x ∉ l.map (·.1) → bindL kind l m x = m x
  | [], m, _ => rfl
  | (n, v) :: r, m, h => by
    unfold bindL
    rw [bindL_other (fun hm => h (by simp [hm]))]
    have : x ≠ n := fun e => h (by simp [e])
    split <;> simp [this]
theorem bindC_other {kind : Str → Option NameKind} {x : Str} : ∀ {l : List (Str × Value)} {m : Str → Option Value}, x ∉ l.map (·.1) → bindC kind l m x = m x
  | [], m, _ => rfl
  | (n, v) :: r, m, h => by
    unfold bindC
    rw [bindC_other (fun hm => h (by simp [hm]))]
    have : x ≠ n := fun e => h (by simp [e])
    split <;> simp [this]
theorem zip_names {ps : List Str} {rs : List Value} {x : Str} (h : x ∈ (ps.zip rs).map (·.1)) : x ∈ ps := by
  obtain ⟨p, hp, rfl⟩ := List.mem_map.mp h
  exact (List.of_mem_zip hp).1
theorem bindL_den {w : World} {B : Bs} {kind : Str → Option NameKind} : ∀ {ps : List Str} {vs : List V} {rs : List Value} {m : Str → Option Value}, ps.Nodup → dens w B vs rs → ∀ {x : Str} {v : V}, (ps.zip vs).lookup x = some v → kind x = some .local → ∃ r, bindL kind (ps.zip rs) m x = some r ∧ den w B v r
  | [], vs, rs, m, _, _, x, v, h, _ => by simp at h
  | p :: ps, [], rs, m, _, _, x, v, h, _ => by simp at h
  | p :: ps, v0 :: vs, rs, m, hn, d, x, v, h, hk => by
    obtain ⟨r, rs', rfl, d1, d2⟩ := dens_cons.mp d
    rw [List.nodup_cons] at hn
    rw [List.zip_cons_cons, List.lookup_cons] at h
    rw [List.zip_cons_cons]
    unfold bindL
    by_cases e : x = p
    · subst e
      simp at h
      subst h
      rw [if_pos hk, bindL_other (fun hm => hn.1 (zip_names hm))]
      exact ⟨r, by simp, d1⟩
    · have : (x == p) = false := by simpa using e
      rw [this] at h
      exact bindL_den hn.2 d2 h hk
theorem bindC_den {w : World} {B : Bs} {kind : Str → Option NameKind} : ∀ {ps : List Str} {vs : List V} {rs : List Value} {m : Str → Option Value}, ps.Nodup → dens w B vs rs → ∀ {x : Str} {v : V}, (ps.zip vs).lookup x = some v → ¬ kind x = some .local → ∃ r, bindC kind (ps.zip rs) m x = some r ∧ den w B v r
  | [], vs, rs, m, _, _, x, v, h, _ => by simp at h
  | p :: ps, [], rs, m, _, _, x, v, h, _ => by simp at h
  | p :: ps, v0 :: vs, rs, m, hn, d, x, v, h, hk => by
    obtain ⟨r, rs', rfl, d1, d2⟩ := dens_cons.mp d
    rw [List.nodup_cons] at hn
    rw [List.zip_cons_cons, List.lookup_cons] at h
    rw [List.zip_cons_cons]
    unfold bindC
    by_cases e : x = p
    · subst e
      simp at h
      subst h
      rw [if_neg hk, bindC_other (fun hm => hn.1 (zip_names hm))]
      exact ⟨r, by simp, d1⟩
    · have : (x == p) = false := by simpa using e
      rw [this] at h
      exact bindC_den hn.2 d2 h hk

def retOf (f : Flow) : Value := match f with | .ret v => v | _ => .none

section
variable {w : World} {os : OsState} {n : Nat}
/-- the frame of a call, laid by the caller -/
theorem call_frame {B : Bs} {own : List Item} {s s₁ : Shared} {fd : FuncData} {a : Addr} {ps : List Str} {vs : List V} {rs : List Value} (R : Rep w os B own s) (hps : ps.Nodup) (d : dens w B vs rs) (hg : fd.globals = mainGlobals) (hb : fd.builtins = builtinsNs) (hk : fd.scope.kind = .function) (hn : (fd.scope.names.map (·.1)).Nodup)
    (X : InCallC s (callEnvC fd s.heap.objs.size a).locals (bindL (callEnvC fd s.heap.objs.size a).kindOf (ps.zip rs) fun _ => Option.none) (callEnvC fd s.heap.objs.size a).cells (bindC (callEnvC fd s.heap.objs.size a).kindOf (ps.zip rs) fun _ => Option.none) s₁) :
    FnEnv (callEnvC fd s.heap.objs.size a) fd.scope ∧ Rep w os B (frameI (callEnvC fd s.heap.objs.size a) (callEnvC fd s.heap.objs.size a).cells (parV ps vs) ++ own) s₁ := by
  generalize henv : callEnvC fd s.heap.objs.size a = env at X ⊢
  have hcells : env.cells = cellsFrom (s.heap.objs.size + 1) fd.scope.names [] := by rw [← henv]; rfl
  have hloc : env.locals = s.heap.objs.size := by rw [← henv]; rfl
  have hsc : env.scope = fd.scope := by rw [← henv]; rfl
  have hnd : (env.cells.map (·.1)).Nodup := by rw [hcells]; exact cellsFrom_nodup _ _ [] hn List.nodup_nil (fun _ _ h => nomatch h)
  have hkind : ∀ x, env.kindOf x = fd.scope.names.lookup x := fun x => by unfold Env.kindOf; rw [hsc]
  have hin : ∀ p ∈ env.cells, (p.1, NameKind.cell) ∈ fd.scope.names := fun p hp => by
    rw [hcells] at hp
    rcases cellsFrom_names _ _ _ _ hp with h | h
    · cases h
    · exact h
  have F : FnEnv env fd.scope := by
    refine ⟨⟨hsc, hk, by rw [← henv]; exact hg, by rw [← henv]; exact hb⟩, ⟨by rw [hsc]; exact hk, fun p hp => ?_, fun p hp => lookup_nodup hnd hp⟩, fun x hx => ?_⟩
    · rw [hkind]; exact lookup_kinds hn (hin p hp)
    · have := cellsFrom_has fd.scope.names (s.heap.objs.size + 1) [] x (.inl (mem_of_kinds hx))
      obtain ⟨c, hc⟩ := lookup_of_key this
      rw [hcells, hc]; rfl
  refine ⟨F, ?_⟩
  obtain ⟨h₁, tk, rfl, keep⟩ := X.done
  have fresh : ∀ b, s.heap.objs.size ≤ b → s.heap.get? b = Option.none := fun b hb => by
    cases e : s.heap.get? b with
    | none => rfl
    | some o => exact absurd (Heap.lt_size e) (Nat.not_lt.mpr hb)
  refine R.many (frameI env env.cells (parV ps vs)) tk keep (fun i hi => ?_) (fun i hi => ?_) ?_
  · rcases List.mem_cons.mp hi with rfl | hi
    · exact fresh _ (by show s.heap.objs.size ≤ env.locals; rw [hloc]; exact Nat.le_refl _)
    · obtain ⟨p, hp, rfl⟩ := List.mem_map.mp hi
      have := X.above p.1 p.2 hp
      exact fresh _ (by rw [hloc] at this; exact Nat.le_of_lt this)
  · rcases List.mem_cons.mp hi with rfl | hi
    · obtain ⟨o, es, ep, ho, hd, hk', hm⟩ := X.toInCall.ns
      refine ⟨o, ho, es, ep, hd, hk', fun x v hx => ?_⟩
      unfold locOf at hx
      split at hx
      · rename_i hl
        rw [hm]
        exact bindL_den hps d hx hl
      · cases hx
    · obtain ⟨p, hp, rfl⟩ := List.mem_map.mp hi
      obtain ⟨o, ho, hd⟩ := X.cell p.1 p.2 (lookup_nodup hnd hp)
      refine ⟨o, ho, _, hd, fun x hx => ?_⟩
      have hnl : ¬ env.kindOf p.1 = some .local := by rw [F.fr.kinds p hp]; intro h; cases h
      exact bindC_den hps d hx hnl
  · refine List.pairwise_cons.mpr ⟨fun i hi => ?_, ?_⟩
    · obtain ⟨p, hp, rfl⟩ := List.mem_map.mp hi
      have := X.above p.1 p.2 hp
      exact Nat.ne_of_lt this
    · exact List.pairwise_map.mpr X.apart

/-- a call of a def of the text: plain parameters -/
theorem call_def {a : Addr} {r : FnRec} (hr : fTab.lookup a = some r) (ps : List Str) (vs : List V) {A : Around} {B : Bs} {own : List Item} {s : Shared} {rs : List Value} {E : Value → Shared → Prop} {Q : Value → Shared → Prop}
    (hA : Rm (n + 1) A own) (T : TopB w B) (R : Rep w os B own s) (d : dens w B vs rs) (hps : ps.Nodup)
    (hbind : ∀ doc pm cd ct nm, bindArgs (mkFd r.q (psOf r.st) (bodyOf r.st) (scOf r.st) r.df r.kd doc pm cd ct nm) ⟨rs, []⟩ = pure (ps.zip rs))
    (hvar : ∀ x ∈ ps, (scOf r.st).names.lookup x = some .local ∨ (scOf r.st).names.lookup x = some .cell) (hn : ((scOf r.st).names.map (·.1)).Nodup)
    (hk : (scOf r.st).kind = .function) (hco : (scOf r.st).isCoroutine = false) (hgen : (scOf r.st).isGenerator = false)
    (body : ∀ env s₁ E', FnEnv env (scOf r.st) → RmE n (A.deeper env) env own → Rep w os B (frameI env env.cells (parV ps vs) ++ own) s₁ → wpAny (model pg w) (A.deeper env) (execs (bodyOf r.st) env) (fun f s' => Q (retOf f) s') E' s₁) :
    wpAny (model pg w) A (call (.ref a) rs) Q E s := by
  obtain ⟨doc, pm, cd, ct, nm, ⟨ho, c, o, xs, t, e1, e2, e3, e4⟩⟩ := T.fns a r hr
  refine wpAny_call (codeAny_call_cells (fd := mkFd r.q (psOf r.st) (bodyOf r.st) (scOf r.st) r.df r.kd doc pm cd ct nm) hA.depth (R.base _ _ ho) rfl (T.noLimit R) ⟨c, o, xs, t, e1, R.base _ _ e2, e3, e4⟩ rfl (hbind doc pm cd ct nm) rfl (fun x hx => ?_) (fun s₁ X => ?_) hco hgen hk)
  · have hx1 : x.1 ∈ ps := zip_names (List.mem_map.mpr ⟨x, hx, rfl⟩)
    rcases hvar x.1 hx1 with h | h
    · exact .inl h
    · refine .inr ⟨h, ?_⟩
      have := cellsFrom_has (scOf r.st).names (s.heap.objs.size + 1) [] x.1 (.inl (mem_of_kinds h))
      obtain ⟨c, hc⟩ := lookup_of_key this
      show ((cellsFrom (s.heap.objs.size + 1) (scOf r.st).names []).lookup x.1).isSome = true
      rw [hc]; rfl
  · obtain ⟨F, R₁⟩ := call_frame R hps d rfl rfl hk hn X
    exact body _ s₁ _ F (hA.deep F rfl) R₁
end

-- short forms
def isVar (sc : Scope) (x : Str) : Bool := match sc.names.lookup x with
  | some .local => true
  | some .cell => true
  | _ => false
theorem isVar_or {sc : Scope} {x : Str} (h : isVar sc x = true) : sc.names.lookup x = some .local ∨ sc.names.lookup x = some .cell := by
  unfold isVar at h
  split at h
  · rename_i e; exact .inl e
  · rename_i e; exact .inr e
  · cases h
section
variable {w : World} {os : OsState} {n : Nat} {sc : Scope} {ρ : Str → Option V} {Ω : List Item}
theorem PE.var {x : Str} {pos : Pos} {v : V} (hv : ρ x = some v := by rfl) (hk : isVar sc x = true := by rfl) (hd : (x == ("__debug__" : Str)) = false := by decide) : PE w os n Ω sc ρ (.Name x pos) v :=
  PE.name hv (isVar_or hk) hd
theorem PE.blt {x : Str} {pos : Pos} {v : Value} (hv : bootBuiltins x = some v := by decide +kernel) (hn : x ∈ gNo := by decide) (hb : x ≠ "__name__" := by decide) (hk : sc.names.lookup x = some .globalImplicit := by rfl) (hd : (x == ("__debug__" : Str)) = false := by decide) : PE w os n Ω sc ρ (.Name x pos) (.exact v) :=
  PE.builtin hn hb hv hk hd
theorem PE.lenI {p pos : Pos} {e : Expr} {ns : List Int} (h : PE w os n Ω sc ρ e (IL ns)) (hsz : ns.length ≤ sizeLine) (hk : sc.names.lookup (Str.ofString "len") = some NameKind.globalImplicit := by rfl)
    (he : ∀ env, starEach [e] env = (false, eval e env) :: starEach [] env := by intro _; rfl) : PE w os n Ω sc ρ (.Call (.Name (Str.ofString "len") p) [e] [] pos) (.int ns.length) := by
  have := PE.callB (PE.blt (w := w) (os := os) (n := n) (sc := sc) (ρ := ρ) (x := Str.ofString "len") (pos := p) (v := .builtin "len") (hk := hk)) (PEs.cons h PEs.nil he) (Fn.len (w := w) (os := os) (n := n) (xs := ns.map V.int) (by simpa using hsz)) he (by intro _; rfl) (pos := pos)
  simpa using this
theorem PE.itemI {value slice : Expr} {pos : Pos} {ns : List Int} {i : Nat} (hx : PE w os n Ω sc ρ value (IL ns)) (hi : PE w os n Ω sc ρ slice (.int (i : Int))) (hl : i < ns.length) (hsz : ns.length ≤ sizeLine)
    (hs : ∀ o i, subscripted slice false o i = operate [o, i] (getItem o i) := by intro _ _; rfl) : PE w os n Ω sc ρ (.Subscript value slice pos) (.int (ns.getD i 0)) := by
  refine PE.item hx hi (Itm.list (by omega) ?_ (by unfold sizeLine at hsz; omega)) hs
  simp [hl]
theorem PE.sliceToI {value e : Expr} {p pos : Pos} {ns : List Int} {k : Nat} (hx : PE w os n Ω sc ρ value (IL ns)) (hi : PE w os n Ω sc ρ e (.int k)) (hsz : ns.length ≤ sizeLine) : PE w os n Ω sc ρ (.Subscript value (.Slice Option.none (some e) Option.none p) pos) (IL (ns.take k)) := by
  have := PE.sliceTo (p := p) (pos := pos) hx hi (by simpa using hsz)
  rw [← List.map_take] at this
  exact this
end
end Mine

namespace Mine
section
variable {w : World} {os : OsState} {n : Nat} {sc : Scope} {ρ : Str → Option V} {A : Around} {env : Env} {B : Bs} {R : List Item} {s : Shared} {E : Value → Shared → Prop} {Q : Flow → Shared → Prop}

/-- x = e -/
theorem st_assignW (Ω : List Item) {x : Str} {p pos : Pos} {e : Expr} {v : V} (hΩ : ∀ i ∈ Ω, i ∈ R) (F : FnEnv env sc) (hA : RmE n A env R) (T : TopB w B) (h : Rep w os B (frameI env env.cells ρ ++ R) s) (he : PE w os n Ω sc ρ e v) (hx : isVar sc x = true)
    (k : ∀ s' B', Le B B' → TopB w B' → Rep w os B' (frameI env env.cells (upd ρ x v) ++ R) s' → Q .next s')
    (hs : swapsWith e (some (.Name x p)) pos.line env = pure false := by rfl) : wpAny (model pg w) A (exec (.Assign [.Name x p] e pos) env) Q E s := by
  refine wpAny_Assign_Name (he.use (hA ρ) T F.ok (F.sees1 hΩ) h fun r s₁ B₁ l₁ T₁ R₁ d₁ => ?_) hs
  exact store_rep (pre := []) F.fr (F.var (isVar_or hx)) (by simpa using R₁) d₁ fun s₂ R₂ => k s₂ B₁ l₁ T₁ (by simpa using R₂)
theorem swaps_cell {x : Str} {p : Pos} {e : Expr} {line : Nat} (F : FnEnv env sc) (h : sc.names.lookup x = some .cell) : swapsWith e (some (.Name x p)) line env = pure false := by
  unfold swapsWith
  have : (env.kindOf x == some NameKind.local) = false := by rw [F.kind, h]; rfl
  cases e <;> first | rfl | (simp only [this, Bool.and_false, Bool.false_and])

/-- x = [.. for ..], the name bound while the block still stands -/
theorem st_assignCompG {α : Type} {elt iter tgt : Expr} {x : Str} {p pos spos : Pos} {ifs : List Expr} {scope : Scope} (xs : List α) (emb : α → V) (nm : α → Str → Option V) (pr : α → Bool) (g : α → V)
    (F : FnEnv env sc) (hA : RmE n A env R) (T : TopB w B) (h : Rep w os B (frameI env env.cells ρ ++ R) s)
    (hi : PI w os n [] sc ρ iter (xs.map emb))
    (hp : ∀ x ∈ xs, PTs w os n [] (relabelS scope sc) (seen scope ρ (nm x)) ifs (pr x))
    (hg : ∀ x ∈ xs, pr x = true → PE w os n [] (relabelS scope sc) (seen scope ρ (nm x)) elt (g x))
    (hb : Binds w os scope sc tgt emb nm) (hdom : ∀ x y, scope.names.lookup y = some .free → nm x y = Option.none) (ht : isTup tgt)
    (hsz : xs.length ≤ sizeLine) (hx : sc.names.lookup x = some .local) (hsw : (p.line == (Expr.ListComp elt [⟨tgt, iter, ifs, 0⟩] scope pos).pos.line && !(scope.names.any fun (n, k) => n == x && (k == .local || k == .cell))) = true) (hok : compOk scope sc ρ = true)
    (k : ∀ s' B', Le B B' → TopB w B' → Rep w os B' (frameI env env.cells (upd ρ x (.list ((xs.filter pr).map g))) ++ R) s' → Q .next s')
    (hs : ∀ env x, foldedSetIterable iter env x = pure x) :
    wpAny (model pg w) A (exec (.Assign [.Name x p] (.ListComp elt [⟨tgt, iter, ifs, 0⟩] scope pos) spos) env) Q E s := by
  obtain ⟨o1, o2, o3⟩ := compOk_parts hok
  have hsw' : swapsWith (.ListComp elt [⟨tgt, iter, ifs, 0⟩] scope pos) (some (.Name x p)) spos.line env = pure true := by
    unfold swapsWith
    have k1 : (env.kindOf x == some NameKind.local) = true := by rw [F.kind, hx]; rfl
    have k2 : (env.blockKind == ScopeKind.function) = true := by
      unfold Env.blockKind
      rw [F.ok.scope, F.ok.kind]; rfl
    simp only [Bool.and_eq_true] at hsw
    simp only [k1, k2, hsw.1, hsw.2, Bool.and_true, Bool.true_and]
  rw [exec_Assign_Name_used _ _ _ _ hsw']
  refine wpAny_bind (wpAny_standAt (wpAny_bind ?_))
  show wpAny _ A (do let _ ← comprehension (.ListComp elt [⟨tgt, iter, ifs, 0⟩] scope pos) scope env _ (newList []) false (eval iter env) (some (assign (.Name x p) env))) _ _ s
  refine wpAny_bind (wpAny_mono (wpAny_comprehension_free (use := some (assign (.Name x p) env)) (Q := fun _ s' => Q .next s') (cl := clGo env.cells scope.names []) rfl (hs env) (closure_is fun x hx => cells_of_sees (F.sees0 (ρ := ρ) (R := R)) F.ok.scope (o2 x hx).1 (o2 x hx).2) o1 (hnames_of o3)
    ?_) (fun _ s' hq => wpAny_pure (wpAny_pure hq)) fun _ _ e => e)
  refine comp_core xs emb nm pr g hp hg hb hdom ht hsz hok hi (RR := fun acc C => compPost (model pg w) A E (some (assign (.Name x p) env)) (fun _ s' => Q .next s') acc C) rfl (hA ρ) T F.ok F.sees0 h fun s' B' D L m rest l' R' => ?_
  show wpAny (model pg w) A (assign (.Name x p) env (.ref D)) _ E s'
  obtain ⟨o, ho, ⟨its, kk, rfl, ds⟩, R1⟩ := R'.freeze
  have hn := R'.off (lstItem D ((xs.filter pr).map g)) (by simp)
  have d : den w (B'.put D (listOf its kk)) (.list ((xs.filter pr).map g)) (.ref D) := den_list.mpr ⟨D, its, kk, rfl, Bs.put_self .., dens.mono (Le.put hn) _ ds⟩
  have e1 : nsItem L m :: (rest ++ (frameI env env.cells ρ ++ R)) = (nsItem L m :: rest) ++ frameI env env.cells ρ ++ R := by simp
  refine assign_rep (pre := nsItem L m :: rest) F.fr (F.var (.inl hx)) (by rw [← e1]; exact R1) d fun s₂ R₂ => ?_
  obtain ⟨es, hns, _⟩ := nsItem_ns R₂ (a := L) (m := m) (by simp)
  refine ⟨_, hns, fun h' hs => ?_⟩
  have R3 : Rep w os (B'.put D (listOf its kk)) (nsItem L m :: (rest ++ (frameI env env.cells (upd ρ x (.list ((xs.filter pr).map g))) ++ R))) s₂ := by simpa using R₂
  have R4 := R3.drop0 (h' := h') s₂.toks (fun b o hb e => hs.extBut b o hb e)
  exact k _ _ (l'.trans (Le.put hn)) (T.mono (l'.trans (Le.put hn))) R4.app
theorem st_assignComp {α : Type} {elt iter : Expr} {t x : Str} {px p pos spos : Pos} {ifs : List Expr} {scope : Scope} (xs : List α) (emb : α → V) (pr : α → Bool) (g : α → V)
    (F : FnEnv env sc) (hA : RmE n A env R) (T : TopB w B) (h : Rep w os B (frameI env env.cells ρ ++ R) s)
    (hi : PI w os n [] sc ρ iter (xs.map emb))
    (hp : ∀ x ∈ xs, PTs w os n [] (relabelS scope sc) (seen scope ρ (only t (emb x))) ifs (pr x))
    (hg : ∀ x ∈ xs, pr x = true → PE w os n [] (relabelS scope sc) (seen scope ρ (only t (emb x))) elt (g x))
    (hsz : xs.length ≤ sizeLine) (hx : sc.names.lookup x = some .local) (hsw : (p.line == (Expr.ListComp elt [⟨.Name t px, iter, ifs, 0⟩] scope pos).pos.line && !(scope.names.any fun (n, k) => n == x && (k == .local || k == .cell))) = true) (ht : scope.names.lookup t = some .local ∨ scope.names.lookup t = some .cell) (hok : compOk scope sc ρ = true)
    (k : ∀ s' B', Le B B' → TopB w B' → Rep w os B' (frameI env env.cells (upd ρ x (.list ((xs.filter pr).map g))) ++ R) s' → Q .next s')
    (hs : ∀ env x, foldedSetIterable iter env x = pure x := by intro _ _; rfl) :
    wpAny (model pg w) A (exec (.Assign [.Name x p] (.ListComp elt [⟨.Name t px, iter, ifs, 0⟩] scope pos) spos) env) Q E s :=
  st_assignCompG xs emb (fun x => only t (emb x)) pr g F hA T h hi hp hg (Binds.name ht) (fun x => only_dom ht (emb x)) (.name _ _) hsz hx hsw hok k hs

/-- for x in ..: .. -/
theorem st_forW (Ω : List Item) {α : Type} {t : Str} {p pos : Pos} {iter : Expr} {body : List Stmt} (xs : List α) (emb : α → V) (inv : Nat → Bs → (Str → Option V) → List Item → Prop)
    (hΩ : ∀ i ∈ Ω, i ∈ R) (F : FnEnv env sc) (hA : RmE n A env R) (T : TopB w B) (h : Rep w os B (frameI env env.cells ρ ++ R) s) (hi : PI w os n Ω sc ρ iter (xs.map emb)) (hx : isVar sc t = true)
    (start : ∀ B', Le B B' → inv 0 B' ρ R)
    (turn : ∀ i x B' ρ' R' J s' E', E' = notedBy (model pg w) A env (cameBackBy (model pg w) A env E) → xs[i]? = some x → Le B B' → TopB w B' → inv i B' ρ' R' → Rep w os B' (frameI env env.cells (upd ρ' t (emb x)) ++ J :: R') s' →
      wpAny (model pg w) A (execs body env) (fun f s'' => match f with
        | .next | .cont => ∃ B'' ρ'' R'', Le B' B'' ∧ inv (i + 1) B'' ρ'' R'' ∧ Rep w os B'' (frameI env env.cells ρ'' ++ J :: R'') s''
        | .brk => Q .next s''
        | .ret v => Q (.ret v) s'') E' s')
    (done : ∀ B' ρ' R' s', Le B B' → TopB w B' → inv xs.length B' ρ' R' → Rep w os B' (frameI env env.cells ρ' ++ R') s' → Q .next s')
    (hs : ∀ env x, foldedSetIterable iter env x = pure x := by intro _ _; rfl) : wpAny (model pg w) A (exec (.For (.Name t p) iter body [] pos) env) Q E s := by
  refine wpAny_For (hi A env B _ s E _ (hA ρ) T F.ok (F.sees1 hΩ) h fun s₂ B₂ I J l₂ W R₂ => ?_) (hs env)
  refine codeAny_forLoop (fun m s' => ∃ i B' ρ' R', m = xs.length + 1 - i ∧ i ≤ xs.length ∧ Le B₂ B' ∧ inv i B' ρ' R' ∧ Rep w os B' (J i :: (frameI env env.cells ρ' ++ R')) s') ?_ (xs.length + 1) ⟨0, B₂, ρ, R, rfl, Nat.zero_le _, Le.refl _, start B₂ l₂, R₂⟩
  rintro m s' ⟨i, B', ρ', R', rfl, hile, le, hinv, hR⟩
  rcases Nat.lt_or_ge i xs.length with hlt | hge
  · have hx' : (xs.map emb)[i]? = some (emb xs[i]) := by simp [hlt]
    refine W.next i _ A B' _ s' _ _ hx' (hA ρ).handled le hR fun r s₁ d R₁ => ?_
    refine assign_rep (pre := [J (i + 1)]) F.fr (F.var (isVar_or hx)) (by simpa using R₁) d fun s₃ R₃ => ?_
    have R₄ : Rep w os B' (frameI env env.cells (upd ρ' t (emb xs[i])) ++ J (i + 1) :: R') s₃ := R₃.perm (by simpa using List.perm_middle.symm)
    refine wpAny_mono (turn i xs[i] B' ρ' R' (J (i + 1)) s₃ _ rfl (by simp [hlt]) (l₂.trans le) (T.mono (l₂.trans le)) hinv R₄) (fun f s₅ h₅ => ?_) fun _ _ e => e
    have key : (∃ B'' ρ'' R'', Le B' B'' ∧ inv (i + 1) B'' ρ'' R'' ∧ Rep w os B'' (frameI env env.cells ρ'' ++ J (i + 1) :: R'') s₅) → ∃ m', m' < xs.length + 1 - i ∧ ∃ i B' ρ' R', m' = xs.length + 1 - i ∧ i ≤ xs.length ∧ Le B₂ B' ∧ inv i B' ρ' R' ∧ Rep w os B' (J i :: (frameI env env.cells ρ' ++ R')) s₅ := by
      rintro ⟨B'', ρ'', R'', l'', hinv', R₅⟩
      exact ⟨xs.length + 1 - (i + 1), by omega, i + 1, B'', ρ'', R'', rfl, hlt, le.trans l'', hinv', R₅.perm List.perm_middle⟩
    cases f with
    | next => exact key h₅
    | cont => exact key h₅
    | brk => exact h₅
    | ret v => exact h₅
  · have hi' : i = xs.length := by omega
    subst hi'
    refine W.done A B' _ s' _ _ (hA ρ).handled le (by simpa using hR) fun s₁ R₁ => ?_
    exact wpAny_execs_nil (done B' ρ' R' s₁ (l₂.trans le) (T.mono (l₂.trans le)) hinv R₁)

/-- while ..: .. -/
theorem st_while {test : Expr} {body orelse : List Stmt} {pos : Pos} (inv : Nat → Bs → (Str → Option V) → List Item → Prop) (m : Nat) (T : TopB w B)
    (h : Rep w os B (frameI env env.cells ρ ++ R) s) (start : inv m B ρ R)
    (turn : ∀ m B' ρ' R' s' E', Le B B' → TopB w B' → inv m B' ρ' R' → Rep w os B' (frameI env env.cells ρ' ++ R') s' →
      wpAny (model pg w) A (isTrue test env (eval test env)) (fun b s₂ => if b then wpAny (model pg w) A (execs body env) (fun f s'' => match f with
        | .next | .cont => ∃ m' B'' ρ'' R'', m' < m ∧ Le B B'' ∧ inv m' B'' ρ'' R'' ∧ Rep w os B'' (frameI env env.cells ρ'' ++ R'') s''
        | .brk => Q .next s''
        | .ret v => Q (.ret v) s'') E' s₂
        else wpAny (model pg w) A (execs orelse env) Q E' s₂) E' s') :
    wpAny (model pg w) A (exec (.While test body orelse pos) env) Q E s := by
  refine wpAny_While (codeAny_whileLoop (fun m s' => ∃ B' ρ' R', Le B B' ∧ inv m B' ρ' R' ∧ Rep w os B' (frameI env env.cells ρ' ++ R') s') ?_ m ⟨B, ρ, R, Le.refl B, start, h⟩)
  rintro m s' ⟨B', ρ', R', le, hinv, hR⟩
  refine wpAny_mono (turn m B' ρ' R' s' _ le (T.mono le) hinv hR) (fun b s₂ h₂ => ?_) fun _ _ e => e
  cases b with
  | false => exact h₂
  | true =>
    refine wpAny_mono h₂ (fun f s₃ h₃ => ?_) fun _ _ e => e
    have key : (∃ m' B'' ρ'' R'', m' < m ∧ Le B B'' ∧ inv m' B'' ρ'' R'' ∧ Rep w os B'' (frameI env env.cells ρ'' ++ R'') s₃) → ∃ m', m' < m ∧ ∃ B' ρ' R', Le B B' ∧ inv m' B' ρ' R' ∧ Rep w os B' (frameI env env.cells ρ' ++ R') s₃ :=
      fun ⟨m', B'', ρ'', R'', h1, h2, h3, h4⟩ => ⟨m', h1, B'', ρ'', R'', h2, h3, h4⟩
    cases f with
    | next => exact key h₃
    | cont => exact key h₃
    | brk => exact h₃
    | ret v => exact h₃
/-- if -/
theorem st_ifW (Ω : List Item) {test : Expr} {body orelse : List Stmt} {pos : Pos} {b : Bool} (hΩ : ∀ i ∈ Ω, i ∈ R) (F : FnEnv env sc) (hA : RmE n A env R) (T : TopB w B) (h : Rep w os B (frameI env env.cells ρ ++ R) s) (ht : PT w os n Ω sc ρ test b)
    (k : ∀ s' B', Le B B' → TopB w B' → Rep w os B' (frameI env env.cells ρ ++ R) s' → wpAny (model pg w) A (execs (if b then body else orelse) env) Q E s') : wpAny (model pg w) A (exec (.If test body orelse pos) env) Q E s := by
  refine wpAny_If (ht.use (hA ρ) T F.ok (F.sees1 hΩ) h fun s₁ B₁ l₁ T₁ R₁ => ?_)
  have := k s₁ B₁ l₁ T₁ R₁
  cases b <;> exact this
/-- return e -/
theorem st_returnW (Ω : List Item) {e : Expr} {pos : Pos} {v : V} (hΩ : ∀ i ∈ Ω, i ∈ R) (F : FnEnv env sc) (hA : RmE n A env R) (T : TopB w B) (h : Rep w os B (frameI env env.cells ρ ++ R) s) (he : PE w os n Ω sc ρ e v)
    (k : ∀ r s' B', Le B B' → TopB w B' → Rep w os B' (frameI env env.cells ρ ++ R) s' → den w B' v r → Q (.ret r) s') : wpAny (model pg w) A (exec (.Return (some e) pos) env) Q E s :=
  wpAny_Return_some (he.use (hA ρ) T F.ok (F.sees1 hΩ) h fun r s₁ B₁ l₁ T₁ R₁ d₁ => k r s₁ B₁ l₁ T₁ R₁ d₁)
theorem st_assign {x : Str} {p pos : Pos} {e : Expr} {v : V} (F : FnEnv env sc) (hA : RmE n A env R) (T : TopB w B) (h : Rep w os B (frameI env env.cells ρ ++ R) s) (he : PE w os n [] sc ρ e v) (hx : isVar sc x = true)
    (k : ∀ s' B', Le B B' → TopB w B' → Rep w os B' (frameI env env.cells (upd ρ x v) ++ R) s' → Q .next s')
    (hs : swapsWith e (some (.Name x p)) pos.line env = pure false := by rfl) : wpAny (model pg w) A (exec (.Assign [.Name x p] e pos) env) Q E s :=
  st_assignW [] (fun _ h => nomatch h) F hA T h he hx k hs
theorem st_for {α : Type} {t : Str} {p pos : Pos} {iter : Expr} {body : List Stmt} (xs : List α) (emb : α → V) (inv : Nat → Bs → (Str → Option V) → List Item → Prop)
    (F : FnEnv env sc) (hA : RmE n A env R) (T : TopB w B) (h : Rep w os B (frameI env env.cells ρ ++ R) s) (hi : PI w os n [] sc ρ iter (xs.map emb)) (hx : isVar sc t = true)
    (start : ∀ B', Le B B' → inv 0 B' ρ R)
    (turn : ∀ i x B' ρ' R' J s' E', E' = notedBy (model pg w) A env (cameBackBy (model pg w) A env E) → xs[i]? = some x → Le B B' → TopB w B' → inv i B' ρ' R' → Rep w os B' (frameI env env.cells (upd ρ' t (emb x)) ++ J :: R') s' →
      wpAny (model pg w) A (execs body env) (fun f s'' => match f with
        | .next | .cont => ∃ B'' ρ'' R'', Le B' B'' ∧ inv (i + 1) B'' ρ'' R'' ∧ Rep w os B'' (frameI env env.cells ρ'' ++ J :: R'') s''
        | .brk => Q .next s''
        | .ret v => Q (.ret v) s'') E' s')
    (done : ∀ B' ρ' R' s', Le B B' → TopB w B' → inv xs.length B' ρ' R' → Rep w os B' (frameI env env.cells ρ' ++ R') s' → Q .next s')
    (hs : ∀ env x, foldedSetIterable iter env x = pure x := by intro _ _; rfl) : wpAny (model pg w) A (exec (.For (.Name t p) iter body [] pos) env) Q E s :=
  st_forW [] xs emb inv (fun _ h => nomatch h) F hA T h hi hx start turn done hs
theorem st_if {test : Expr} {body orelse : List Stmt} {pos : Pos} {b : Bool} (F : FnEnv env sc) (hA : RmE n A env R) (T : TopB w B) (h : Rep w os B (frameI env env.cells ρ ++ R) s) (ht : PT w os n [] sc ρ test b)
    (k : ∀ s' B', Le B B' → TopB w B' → Rep w os B' (frameI env env.cells ρ ++ R) s' → wpAny (model pg w) A (execs (if b then body else orelse) env) Q E s') : wpAny (model pg w) A (exec (.If test body orelse pos) env) Q E s :=
  st_ifW [] (fun _ h => nomatch h) F hA T h ht k
theorem st_return {e : Expr} {pos : Pos} {v : V} (F : FnEnv env sc) (hA : RmE n A env R) (T : TopB w B) (h : Rep w os B (frameI env env.cells ρ ++ R) s) (he : PE w os n [] sc ρ e v)
    (k : ∀ r s' B', Le B B' → TopB w B' → Rep w os B' (frameI env env.cells ρ ++ R) s' → den w B' v r → Q (.ret r) s') : wpAny (model pg w) A (exec (.Return (some e) pos) env) Q E s :=
  st_returnW [] (fun _ h => nomatch h) F hA T h he k
end
end Mine

namespace Mine
section
variable {w : World} {os : OsState} {n : Nat}
def onceL (row : List Int) : List Int := ((List.range row.length).filter fun i => !(row.take i).any (· == row.getD i 0)).map fun i => row.getD i 0

theorem dens_one {B : Bs} {v : V} {rs : List Value} (d : dens w B [v] rs) : ∃ r, rs = [r] ∧ den w B v r := by
  obtain ⟨r, rs', rfl, d1, d2⟩ := dens_cons.mp d
  exact ⟨r, by rw [dens_nil.mp d2], d1⟩

theorem once_fn (row : List Int) (hsz : row.length ≤ sizeLine) : Fn w os (n + 1) (.ref 197) [IL row] (IL (onceL row)) := by
  intro A B own s rs E hA T R d
  obtain ⟨r, rfl, d0⟩ := dens_one d
  refine call_def (r := ⟨"_law_once", fdef 19, .none, .none⟩) rfl ["row"] [IL row] hA T R d (by decide) (fun doc pm cd ct nm => by rfl) (by decide) (by decide) rfl rfl rfl ?_
  intro env s₁ E' F hA' R₁
  refine wpAny_execs_cons (wpAny_Return_some ?_)
  refine PE.use (v := IL (onceL row)) ?_ (hA' _) T F.ok F.sees0 R₁ fun r s' B' l' T' R' d' => ⟨B', l', R'.app, d'⟩
  have e : IL (onceL row) = .list (((List.range row.length).filter fun i => !(row.take i).any (· == row.getD i 0)).map fun i => V.int (row.getD i 0)) := by
    unfold onceL IL; rw [List.map_map]; rfl
  rw [e]
  refine PE.comp (List.range row.length) (fun i : Nat => V.int (i : Int)) _ _ (PI.range (N := row.length) ?_ ?_ hsz) (fun i hi => PTs.one ?_) (fun i hi hp => ?_) (by simpa using hsz) (by decide) (by rfl)
  · exact PE.blt
  · exact PE.lenI PE.var hsz
  · have hi' : i < row.length := by simpa using hi
    exact PT.cmp (PE.itemI PE.var PE.var hi' hsz) (PE.sliceToI PE.var PE.var hsz) Cmp.notInI
  · have hi' : i < row.length := by simpa using hi
    exact PE.itemI PE.var PE.var hi' hsz
end
end Mine

namespace Mine

/-- less is known of the same objects -/
inductive Weak (w : World) : List Item → List Item → Prop
  | nil : Weak w [] []
  | cons {i j : Item} {l l' : List Item} : j.addr = i.addr → (∀ B o, i.P w B o → j.P w B o) → Weak w l l' → Weak w (i :: l) (j :: l')
theorem Weak.refl {w : World} : ∀ l : List Item, Weak w l l
  | [] => .nil
  | i :: l => .cons rfl (fun _ _ h => h) (Weak.refl l)
theorem Weak.append {w : World} {a b c d : List Item} (h : Weak w a b) (h' : Weak w c d) : Weak w (a ++ c) (b ++ d) := by
  induction h with
  | nil => exact h'
  | cons h1 h2 _ ih => exact .cons h1 h2 ih
theorem Weak.mem {w : World} {l l' : List Item} (h : Weak w l l') : ∀ j ∈ l', ∃ i ∈ l, j.addr = i.addr ∧ ∀ B o, i.P w B o → j.P w B o := by
  induction h with
  | nil => intro j hj; cases hj
  | cons h1 h2 _ ih =>
    intro j hj
    rcases List.mem_cons.mp hj with rfl | hj
    · exact ⟨_, by simp, h1, h2⟩
    · obtain ⟨i, hi, r⟩ := ih j hj
      exact ⟨i, by simp [hi], r⟩
theorem Weak.addrs {w : World} {l l' : List Item} (h : Weak w l l') : l'.map Item.addr = l.map Item.addr := by
  induction h with
  | nil => rfl
  | cons h1 _ _ ih => rw [List.map_cons, List.map_cons, h1, ih]
theorem Rep.weak {w : World} {os : OsState} {B : Bs} {s : Shared} {own own' : List Item} (R : Rep w os B own s) (h : Weak w own own') : Rep w os B own' s := by
  refine ⟨R.base, fun j hj => ?_, fun j hj => ?_, ?_, R.gens, R.os⟩
  · obtain ⟨i, hi, e, p⟩ := h.mem j hj
    obtain ⟨o, ho, q⟩ := R.has i hi
    exact ⟨o, by rw [e]; exact ho, p B o q⟩
  · obtain ⟨i, hi, e, p⟩ := h.mem j hj
    rw [e]; exact R.off i hi
  · have h1 : (own.map Item.addr).Pairwise (· ≠ ·) := List.pairwise_map.mpr R.apart
    rw [← h.addrs] at h1
    exact List.pairwise_map.mp h1
theorem frame_weak {w : World} {env : Env} {cs : List (Str × Addr)} {ρ ρ' : Str → Option V} (h : ∀ x v, ρ' x = some v → ρ x = some v) : Weak w (frameI env cs ρ) (frameI env cs ρ') := by
  refine .cons rfl (fun B o => ?_) ?_
  · rintro ⟨es, ep, e1, e2, e3⟩
    refine ⟨es, ep, e1, e2, fun x v hx => e3 x v ?_⟩
    unfold locOf at hx ⊢
    split at hx
    · rename_i hk; rw [if_pos hk]; exact h x v hx
    · cases hx
  · unfold cellsI
    induction cs with
    | nil => exact .nil
    | cons c cs ih =>
      refine .cons rfl (fun B o => ?_) ih
      rintro ⟨r, e1, e2⟩
      exact ⟨r, e1, fun x hx => e2 x (h _ _ hx)⟩
theorem Rep.forget {w : World} {os : OsState} {B : Bs} {s : Shared} {env : Env} {cs : List (Str × Addr)} {ρ ρ' : Str → Option V} {R : List Item} (h : Rep w os B (frameI env cs ρ ++ R) s) (hρ : ∀ x v, ρ' x = some v → ρ x = some v) : Rep w os B (frameI env cs ρ' ++ R) s :=
  h.weak ((frame_weak hρ).append (Weak.refl R))
theorem sub_upd {ρ : Str → Option V} {t : Str} {u : V} (h : ρ t = Option.none) : ∀ x v, ρ x = some v → upd ρ t u x = some v := by
  intro x v hx
  unfold upd
  split
  · rename_i e; rw [e, h] at hx; cases hx
  · exact hx

section
variable {w : World} {os : OsState} {n : Nat} {sc : Scope} {ρ : Str → Option V} {A : Around} {env : Env} {B : Bs} {R : List Item} {s : Shared} {E : Value → Shared → Prop} {Q : Flow → Shared → Prop}
/-- x = [], a list of one's own -/
theorem st_newList {x : Str} {p p' pos : Pos} (F : FnEnv env sc) (h : Rep w os B (frameI env env.cells ρ ++ R) s) (hx : isVar sc x = true)
    (k : ∀ s' D, Rep w os B (frameI env env.cells (upd ρ x (.exact (.ref D))) ++ lstItem D [] :: R) s' → Q .next s') : wpAny (model pg w) A (exec (.Assign [.Name x p] (.List [] p') pos) env) Q E s := by
  refine wpAny_Assign_Name (List_ (args_nil (wpAny_newObj_type ?_))) rfl
  have R1 := h.new (lstItem s.heap.objs.size []) s.toks (fun b o e => Heap.get?_push_of_some _ e) (get?_size _) (Heap.get?_push_size _ rfl) (o := listOf ([] : List Value).toArray 0) ⟨_, _, rfl, dens_nil.mpr rfl⟩
  exact store_rep (pre := [lstItem s.heap.objs.size []]) F.fr (F.var (isVar_or hx)) (by simpa using R1) (den_exact.mpr rfl) fun s₂ R₂ => k s₂ _ (R₂.perm (by simpa using List.perm_middle.symm))
/-- x.append(e) -/
theorem st_append {x : Str} {p apos pos pos' : Pos} {e : Expr} {D : Addr} {ys : List V} {v : V} {pre post : List Item} (F : FnEnv env sc) (hA : RmE n A env R) (T : TopB w B) (h : Rep w os B (frameI env env.cells ρ ++ R) s) (hR : R = pre ++ lstItem D ys :: post)
    (hv : ρ x = some (.exact (.ref D))) (hk : isVar sc x = true) (he : PE w os n [] sc ρ e v) (hsz : ys.length ≤ sizeLine)
    (k : ∀ s' B', Le B B' → TopB w B' → Rep w os B' (frameI env env.cells ρ ++ (pre ++ lstItem D (ys ++ [v]) :: post)) s' → Q .next s')
    (hd : (x == ("__debug__" : Str)) = false := by decide) (hline : (apos.endLine == pos.line) = true := by rfl) (hsc : sc.kind = .function := by rfl)
    (ht : ∀ env, backTo pos (starEach [e] env) = [(false, eval e env)] := by intro _; rfl) :
    wpAny (model pg w) A (exec (.Expr (.Call (.Attribute (.Name x p) "append" apos) [e] [] pos) pos') env) Q E s := by
  refine wpAny_Expr_any ?_ (by unfold interactive; rw [F.ok.scope, hsc]; rfl)
  refine wpAny_Call_append rfl (by rw [ht]; rfl) hline (ht env) ?_
  refine (PE.name hv (isVar_or hk) hd).use (hA ρ) T F.ok F.sees0 h fun r s₁ B₁ l₁ T₁ R₁ d₁ => ?_
  rw [den_exact.mp d₁]
  have mem : lstItem D ys ∈ frameI env env.cells ρ ++ R := by rw [hR]; simp
  obtain ⟨o, ho, its, m, rfl, ds⟩ := R₁.has _ mem
  refine ⟨D, its, rfl, ⟨_, m, ho, rfl, rfl, rfl⟩, he.use (hA ρ) T₁ F.ok F.sees0 R₁ fun r' s₂ B₂ l₂ T₂ R₂ d₂ => ?_⟩
  obtain ⟨o, ho, its, m, rfl, ds⟩ := R₂.has _ mem
  refine append_at ho (fun h' hs ho' => k _ B₂ (l₁.trans l₂) T₂ ?_) (by rw [ds.size]; exact hsz)
  have e1 : frameI env env.cells ρ ++ R = (frameI env env.cells ρ ++ pre) ++ lstItem D ys :: post := by rw [hR]; simp
  have R3 := R₂.writeAt e1 (i' := lstItem D (ys ++ [v])) s₂.toks (fun b o hb e => hs.extBut b o hb e) rfl ho' ⟨_, _, rfl, by
    rw [Array.toList_push]; exact ds.append (dens_cons.mpr ⟨r', [], rfl, d₂, dens_nil.mpr rfl⟩)⟩
  simpa using R3
/-- e not in x, x a list of ints of one's own -/
theorem pt_notIn {x : Str} {p pos : Pos} {e : Expr} {D : Addr} {ns : List Int} {a : Int} {Q : Bool → Shared → Prop} (F : FnEnv env sc) (hA : RmE n A env R) (T : TopB w B) (h : Rep w os B (frameI env env.cells ρ ++ R) s) (hR : lstItem D (ns.map V.int) ∈ R)
    (hv : ρ x = some (.exact (.ref D))) (hk : isVar sc x = true) (he : PE w os n [] sc ρ e (.int a))
    (k : ∀ s' B', Le B B' → TopB w B' → Rep w os B' (frameI env env.cells ρ ++ R) s' → Q (!ns.any (· == a)) s')
    (hd : (x == ("__debug__" : Str)) = false := by decide) : wpAny (model pg w) A (isTrue (.Compare e [.NotIn] [.Name x p] pos) env (eval (.Compare e [.NotIn] [.Name x p] pos) env)) Q E s := by
  refine wpAny_isTrue_Compare1 (he.use (hA ρ) T F.ok F.sees0 h fun r s₁ B₁ l₁ T₁ R₁ d₁ => (PE.name hv (isVar_or hk) hd).use (hA ρ) T₁ F.ok F.sees0 R₁ fun r' s₂ B₂ l₂ T₂ R₂ d₂ => ?_)
  rw [den_exact.mp d₂]
  obtain ⟨t, rfl⟩ := den_int.mp d₁
  obtain ⟨o, ho, its, m, rfl, ds⟩ := R₂.has (lstItem D (ns.map V.int)) (by simp [hR])
  exact notin_list_ints (vs := its.toList) (ns := ns) (by have : s₂.heap.IsList D its := ⟨_, ho, rfl, m, rfl⟩; simpa using this) (dens.ints.mp ds) (wpAny_truthy_bool (k s₂ B₂ (l₁.trans l₂) T₂ R₂))

def dedupL (ns : List Int) : List Int := ns.foldl (fun acc t => if acc.any (· == t) then acc else acc ++ [t]) []
theorem dedupL_snoc (ns : List Int) (t : Int) : dedupL (ns ++ [t]) = if (dedupL ns).any (· == t) then dedupL ns else dedupL ns ++ [t] := by
  unfold dedupL; rw [List.foldl_append]; rfl
theorem dedupL_length (ns : List Int) : (dedupL ns).length ≤ ns.length := by
  have key : ∀ (ns acc : List Int), (ns.foldl (fun acc t => if acc.any (· == t) then acc else acc ++ [t]) acc).length ≤ acc.length + ns.length := by
    intro ns
    induction ns with
    | nil => intro acc; simp
    | cons a ns ih =>
      intro acc
      rw [List.foldl_cons]
      refine Nat.le_trans (ih _) ?_
      split <;> simp <;> omega
  have := key ns []
  rw [List.length_nil, Nat.zero_add] at this
  exact this

theorem dedup_fn (ns : List Int) (hsz : ns.length ≤ sizeLine) : Fn w os (n + 1) (.ref 178) [IL ns] (IL (dedupL ns)) := by
  intro A B own s rs E hA T R d
  obtain ⟨r, rfl⟩ : ∃ r, rs = [r] := by
    obtain ⟨r, rs', rfl, d1, d2⟩ := dens_cons.mp d
    exact ⟨r, by rw [dens_nil.mp d2]⟩
  refine call_def (r := ⟨"_deduplicate_unhashable", fdef 15, .none, .none⟩) rfl ["unhashable_params"] [IL ns] hA T R d (by decide) (fun doc pm cd ct nm => by rfl) (by decide) (by decide) rfl rfl rfl ?_
  intro env s₁ E' F hA' R₁
  refine wpAny_execs_cons (st_newList F R₁ (by rfl) fun s₂ D R₂ => ?_)
  refine wpAny_execs_cons (st_for ns V.int (fun i B' ρ' R' => ρ' = upd (parV ["unhashable_params"] [IL ns]) "new_unhashable" (.exact (.ref D)) ∧ R' = lstItem D ((dedupL (ns.take i)).map V.int) :: own) F hA'.add T R₂ (PI.list PE.var) (by rfl)
    (fun B' _ => ⟨rfl, rfl⟩) ?_ ?_)
  · rintro i x B' ρ' R' J s' E'' hE hx le T' ⟨rfl, rfl⟩ hR
    have htk : ns.take (i + 1) = ns.take i ++ [x] := by rw [List.take_add_one, hx]; rfl
    refine wpAny_execs_cons (wpAny_If (pt_notIn (D := D) (ns := dedupL (ns.take i)) (a := x) F hA'.add.add T' hR (by simp) (by rfl) (by rfl) PE.var fun s₃ B₃ l₃ T₃ R₃ => ?_))
    cases hany : (dedupL (ns.take i)).any (· == x) with
    | true =>
      refine wpAny_execs_nil (wpAny_execs_nil ⟨B₃, _, _, l₃, ⟨rfl, rfl⟩, ?_⟩)
      rw [htk, dedupL_snoc, hany, if_pos rfl]
      exact R₃.forget (sub_upd rfl)
    | false =>
      refine wpAny_execs_cons (st_append (D := D) (ys := (dedupL (ns.take i)).map V.int) (v := .int x) (pre := [J]) (post := own) F hA'.add.add T₃ R₃ (by simp) (by rfl) (by rfl) PE.var (by
        have h1 := dedupL_length (ns.take i)
        have h2 : (ns.take i).length ≤ ns.length := by rw [List.length_take]; omega
        rw [List.length_map]; omega) fun s₄ B₄ l₄ T₄ R₄ => ?_)
      refine wpAny_execs_nil (wpAny_execs_nil ⟨B₄, _, _, l₃.trans l₄, ⟨rfl, rfl⟩, ?_⟩)
      rw [htk, dedupL_snoc, hany]
      have := R₄.forget (ρ' := upd (parV ["unhashable_params"] [IL ns]) "new_unhashable" (.exact (.ref D))) (sub_upd rfl)
      simpa using this
  · rintro B' ρ' R' s' le T' ⟨rfl, rfl⟩ hR
    refine wpAny_execs_cons (wpAny_Return_some ?_)
    have hR' : Rep w os B' (frameI env env.cells (upd (parV ["unhashable_params"] [IL ns]) "new_unhashable" (.exact (.ref D))) ++ lstItem D ((dedupL ns).map V.int) :: own) s' := by simpa using hR
    refine PE.use (v := .exact (.ref D)) PE.var (hA'.add _) T' F.ok F.sees0 hR' fun r s'' B'' l'' T'' R'' d'' => ?_
    rw [den_exact.mp d'']
    obtain ⟨o, ho, ⟨its, m, rfl, ds⟩, R3⟩ := (R''.app).freeze
    have hn := R''.app.off (lstItem D ((dedupL ns).map V.int)) (by simp)
    exact ⟨_, (le.trans l'').trans (Le.put hn), R3, den_list.mpr ⟨D, its, m, rfl, Bs.put_self .., dens.mono (Le.put hn) _ ds⟩⟩
end
end Mine

namespace Mine

/-- the frame on top -/
def Hd (A : Around) (env : Env) : Prop := ∃ outer, A.frames = some (env :: outer)
theorem Rm.head {n : Nat} {A : Around} {own : List Item} {env : Env} (h : Rm n A own) : Hd (A.deeper env) env := by
  obtain ⟨l, e, _⟩ := h.frames
  exact ⟨l, Around.frames_deeper e⟩
theorem same_item {own : List Item} (ap : own.Pairwise fun i j => i.addr ≠ j.addr) {i j : Item} (hi : i ∈ own) (hj : j ∈ own) (e : i.addr = j.addr) : i = j := by
  induction own with
  | nil => cases hi
  | cons x l ih =>
    obtain ⟨p, q⟩ := List.pairwise_cons.mp ap
    rcases List.mem_cons.mp hi with rfl | hi
    · rcases List.mem_cons.mp hj with rfl | hj
      · rfl
      · exact absurd e (p j hj)
    · rcases List.mem_cons.mp hj with rfl | hj
      · exact absurd e.symm (p i (by assumption))
      · exact ih q (by assumption) hj
section
variable {w : World} {os : OsState} {n : Nat} {B : Bs} {own : List Item} {s : Shared}
theorem Rep.slots {S : List Addr} {h' : Heap} (R : Rep w os B own s) (hs : Heap.SlotsOnly S s.heap h') (hS : ∀ b ∈ S, ∃ m, nsItem b m ∈ own) : Rep w os B own { s with heap := h' } := by
  refine ⟨fun a o e => ?_, fun i hi => ?_, R.off, R.apart, R.gens, R.os⟩
  · refine (hs.2.1 a fun ha => ?_).trans (R.base a o e)
    obtain ⟨m, hm⟩ := hS a ha
    have := R.off _ hm
    rw [show (nsItem a m).addr = a from rfl, e] at this; cases this
  · obtain ⟨o, ho, hp⟩ := R.has i hi
    by_cases hm : i.addr ∈ S
    · obtain ⟨m, hm⟩ := hS _ hm
      have e := same_item R.apart hi hm rfl
      obtain ⟨sl, h2⟩ := hs.2.2 _ o ho
      refine ⟨_, h2, ?_⟩
      rw [e] at hp ⊢
      exact hp
    · exact ⟨o, (hs.2.1 _ hm).trans ho, hp⟩
theorem frames_fun {l : List Env} (R : Rep w os B own s) (h : ∀ e ∈ l, FrameIn own e) : s.heap.FunFrames {} l := by
  induction l with
  | nil => trivial
  | cons x l ih =>
    have F := h x (by simp)
    obtain ⟨m, hm⟩ := F.has
    obtain ⟨o, ho, es, ep, hd, _⟩ := R.has _ hm
    exact ⟨(by rw [F.fn]; exact fun h => nomatch h), ⟨x.locals, o, F.atf, by rfl, ho, fun vs q => by rw [hd] at q; cases q⟩, ih fun e he => h e (by simp [he])⟩

def exItem (e : Addr) (cls tb : Value) : Item := satItem e fun o => o.cls = cls ∧ ∃ vs, o.data = .fields vs ∧ vs[1]? = some tb
def tbItem (T : Addr) : Item := satItem T fun o => ∃ ts, o.data = .fields ts ∧ 3 < ts.size
/-- an exception on its way: new; with an entry -/
def FlyN (w : World) (os : OsState) (B : Bs) (own : List Item) (cls x : Value) (s : Shared) : Prop := ∃ e, x = .ref e ∧ Rep w os B (exItem e cls .none :: own) s
def FlyT (w : World) (os : OsState) (B : Bs) (own : List Item) (cls x : Value) (s : Shared) : Prop := ∃ e T, x = .ref e ∧ Rep w os B (exItem e cls (.ref T) :: tbItem T :: own) s
theorem FlyT.rep {cls x : Value} (h : FlyT w os B own cls x s) : Rep w os B own s := let ⟨_, _, _, R⟩ := h; R.tail.tail
theorem FlyT.sub {cls x : Value} {own' : List Item} (h : FlyT w os B own cls x s) (hs : own'.Sublist own) : FlyT w os B own' cls x s := let ⟨e, T, a, R⟩ := h; ⟨e, T, a, R.sub ((hs.cons_cons _).cons_cons _)⟩
theorem FlyN.new {cls : String} {h' : Heap} {e : Addr} (tk : Nat) (R : Rep w os B own s) (hx : Heap.NewExc s.heap h' e cls) : FlyN w os B own (.type cls) (.ref e) { s with heap := h', toks := tk } := by
  obtain ⟨ob, t, h1, h2, h3⟩ := hx.there
  exact ⟨e, rfl, R.new (exItem e (.type cls) .none) tk hx.keeps hx.new h1 ⟨h2, _, h3, rfl⟩⟩

variable {M : Model} {A : Around} {E : Value → Shared → Prop} {env : Env}
theorem entry_new {e L : Addr} {cls tb head : Value} {had : Bool} {Q : Unit → Shared → Prop} {outer : List Env} (hfr : A.frames = some (env :: outer)) (hin : ∀ x ∈ env :: outer, FrameIn own x) (hf : env.frame = some L)
    (R : Rep w os B (exItem e cls tb :: own) s) (k : ∀ s' T, Rep w os B (exItem e cls (.ref T) :: tbItem T :: own) s' → Q () s') :
    wpAny M A (do let a ← frameOf env; let pl ← entryPlaceOf L had; let b ← EntryCells.newEntry head a .none (rawInt L) .none pl; setField (.ref e) 1 b) Q E s := by
  have hin' : ∀ x ∈ env :: outer, FrameIn (exItem e cls tb :: own) x := fun x hx => ⟨(hin x hx).fn, (hin x hx).atf, let ⟨m, hm⟩ := (hin x hx).has; ⟨m, by simp [hm]⟩⟩
  refine wpAny_bind (wpAny_frameOf_fun hfr (frames_fun R hin') hf fun h₁ hs₁ => ?_)
  have R₁ := R.slots hs₁ (fun b hb => by
    obtain ⟨x, hx, e⟩ := List.mem_filterMap.mp hb
    have F := hin' x hx
    rw [F.atf] at e; cases e
    exact F.has)
  refine wpAny_bind (wpAny_entryPlaceOf fun pl hpl => ?_)
  unfold EntryCells.newEntry newFields
  refine wpAny_bind (wpAny_newObj_type ?_ (hpl.sizeOk5 _ _ _ _ _))
  have R₂ := R₁.new (tbItem h₁.objs.size) s.toks (fun b o e => Heap.get?_push_of_some _ e) (get?_size h₁) (Heap.get?_push_size _ rfl) (o := { cls := .type "traceback", dict := Option.none, data := .fields ([head, .ref L, .none, rawInt L, .none] ++ (if pl.isEmpty then List.replicate 6 Value.none else pl)).toArray })
    ⟨_, rfl, by simp only [List.size_toArray, List.length_append, List.length_cons, List.length_nil]; omega⟩
  have R₃ := R₂.perm (List.Perm.swap _ _ _)
  obtain ⟨o, ho, hc, vs, hd, h1⟩ := R₃.has (exItem e cls tb) (by simp)
  have hsz : 1 < vs.size := (Array.getElem?_eq_some_iff.mp h1).1
  refine wpAny_setField ho hd hsz (k _ h₁.objs.size ?_)
  have hd₃ := Obj.data_mapFields hd (·.setIfInBounds 1 (Value.ref h₁.objs.size))
  exact R₃.write0 s.toks (fun b o' hb e' => (Heap.get?_update_other _ _ (Ne.symm hb)).trans e') rfl (Heap.get?_update_self _ ho (Obj.isFreed_of_fields hd₃)) ⟨by rw [Obj.cls_mapFields]; exact hc, _, hd₃, by simp [hsz]⟩

theorem fly_note {cls x : Value} {Q : Unit → Shared → Prop} (hA : Rm n A own) (hd : Hd A env) (h : FlyN w os B own cls x s ∨ FlyT w os B own cls x s)
    (k : ∀ s', FlyT w os B own cls x s' → Q () s') : wpAny M A (noteFrame x env) Q E s := by
  obtain ⟨outer, hfr⟩ := hd
  obtain ⟨l, e1, hin⟩ := hA.frames
  rw [hfr] at e1; cases e1
  have hf := (hin env (by simp)).atf
  rcases h with ⟨e, rfl, R⟩ | ⟨e, T, rfl, R⟩
  · obtain ⟨o, ho, hc, vs, hd, h1⟩ := R.has (exItem e cls .none) (by simp)
    unfold noteFrame
    simp only [hf]
    refine wpAny_bind (wpAny_field ho hd h1 ?_)
    rw [if_neg (by decide)]
    exact entry_new hfr hin hf R fun s' T R' => k s' ⟨e, T, rfl, R'⟩
  · obtain ⟨o, ho, hc, vs, hd, h1⟩ := R.has (exItem e cls (.ref T)) (by simp)
    obtain ⟨ot, hot, ts, hdt, h3⟩ := R.has (tbItem T) (by simp)
    unfold noteFrame
    simp only [hf]
    refine wpAny_bind (wpAny_field ho hd h1 ?_)
    rw [if_pos (show (Value.ref T != Value.none) = true from by simp)]
    refine wpAny_bind (wpAny_field hot hdt (Array.getElem?_eq_getElem h3) ?_)
    split
    · exact wpAny_pure (k s ⟨e, T, rfl, R⟩)
    · refine wpAny_bind (wpAny_setField hot hdt h3 ?_)
      have hd₃ := Obj.data_mapFields hdt (·.setIfInBounds 3 Value.none)
      have R₁ := (R.perm (List.Perm.swap _ _ _)).write0 (i' := tbItem T) s.toks (fun b o' hb e' => (Heap.get?_update_other s.heap (Obj.mapFields (·.setIfInBounds 3 Value.none)) (Ne.symm hb)).trans e') rfl (Heap.get?_update_self _ hot (Obj.isFreed_of_fields hd₃)) ⟨_, hd₃, by simpa using h3⟩
      have R₂ := R₁.tail
      exact entry_new hfr hin hf R₂ fun s' T R' => k s' ⟨e, T, rfl, R'⟩
theorem fly_set {cls x : Value} {f : Option Addr} {Q : Unit → Shared → Prop} (h : FlyT w os B own cls x s) (k : ∀ s', FlyT w os B own cls x s' → Q () s') : wpAny M A (setFlight x f) Q E s := by
  obtain ⟨e, T, rfl, R⟩ := h
  obtain ⟨o, ho, hc, vs, hd, h1⟩ := R.has (exItem e cls (.ref T)) (by simp)
  obtain ⟨ot, hot, ts, hdt, h3⟩ := R.has (tbItem T) (by simp)
  unfold setFlight
  refine wpAny_bind (wpAny_field ho hd h1 ?_)
  rw [if_pos (show (Value.ref T != Value.none) = true from by simp)]
  refine wpAny_setField hot hdt h3 (k _ ⟨e, T, rfl, ?_⟩)
  have hd₃ := Obj.data_mapFields hdt (·.setIfInBounds 3 (f.elim Value.none fun f => rawInt f))
  exact Rep.write (pre := [exItem e cls (.ref T)]) (i' := tbItem T) R s.toks (fun b o' hb e' => (Heap.get?_update_other s.heap (Obj.mapFields (·.setIfInBounds 3 (f.elim Value.none fun f => rawInt f))) (Ne.symm hb)).trans e') rfl (Heap.get?_update_self _ hot (Obj.isFreed_of_fields hd₃)) ⟨_, hd₃, by simpa using h3⟩
theorem fly_came {cls x : Value} (h : FlyT w os B own cls x s) (k : ∀ s', FlyT w os B own cls x s' → E x s') : cameBackBy M A env E x s := by
  have h' := h
  obtain ⟨e, T, rfl, R⟩ := h'
  obtain ⟨o, ho, hc, vs, hd, h1⟩ := R.has (exItem e cls (.ref T)) (by simp)
  unfold cameBackBy
  refine wpAny_bind (wpAny_field ho hd h1 ?_)
  rw [if_neg (by simp)]
  first
    | exact fly_set h k
    | exact wpAny_bind (wpAny_pure (fly_set h k))
theorem fly_noted {cls x : Value} (hA : Rm n A own) (hd : Hd A env) (h : FlyN w os B own cls x s ∨ FlyT w os B own cls x s) (k : ∀ s', FlyT w os B own cls x s' → E x s') : notedBy M A env E x s :=
  fly_note hA hd h k
theorem fly_leaving {cls x : Value} {Q : Unit → Shared → Prop} (hA : Rm n A own) (hd : Hd A env) (h : FlyN w os B own cls x s ∨ FlyT w os B own cls x s)
    (k : ∀ s', FlyT w os B own cls x s' → Q () s') : wpAny M A (leaving env x) Q E s := by
  unfold leaving
  exact wpAny_bind (fly_note hA hd h fun s' h' => fly_set h' k)
end
end Mine

namespace Mine
section
variable {w : World} {os : OsState} {n : Nat} {sc : Scope} {ρ : Str → Option V} {Ω : List Item} {A : Around} {env : Env} {B : Bs} {own R : List Item} {s : Shared} {E : Value → Shared → Prop}

/-- names, whatever is being handled -/
theorem load_builtin {x : Str} {pos : Pos} {v : Value} {Q : Value → Shared → Prop} (ek : EnvOk env sc) (T : TopB w B) (R : Rep w os B own s) (k : Q v s) (hv : bootBuiltins x = some v := by decide +kernel) (hn : x ∈ gNo := by decide) (hb : x ≠ "__name__" := by decide) (hk : sc.names.lookup x = some .globalImplicit := by rfl) (hd : (x == ("__debug__" : Str)) = false := by decide) : wpAny (model pg w) A (eval (.Name x pos) env) Q E s := by
  have kf : env.scope.kind = .function := by rw [ek.scope]; exact ek.kind
  have ke : env.kindOf x = sc.names.lookup x := by unfold Env.kindOf; rw [ek.scope]
  refine Calls.Name_function_global kf (ke.trans hk) ?_ hd
  obtain ⟨o, es, ep, a, b, c, _, d⟩ := T.glo
  obtain ⟨o', es', ep', a', b', c', d'⟩ := T.blt
  unfold loadGlobal
  refine wpAny_bind (wpAny_nsGet (m := nsFind es) ⟨o, es, ep, by rw [ek.globals]; exact R.base _ _ a, b, c, fun _ => rfl⟩ ?_)
  rw [d x hn]
  refine wpAny_bind (wpAny_nsGet (m := nsFind es') ⟨o', es', ep', by rw [ek.builtins]; exact R.base _ _ a', b', c', fun _ => rfl⟩ ?_)
  rw [d' x hb, hv]
  exact wpAny_pure k
theorem load_glob {x : Str} {pos : Pos} {v : V} {Q : Value → Shared → Prop} (ek : EnvOk env sc) (T : TopB w B) (R : Rep w os B own s) (hv : gTab.lookup x = some v) (k : ∀ r, den w B v r → Q r s) (hk : sc.names.lookup x = some .globalImplicit := by rfl) (hd : (x == ("__debug__" : Str)) = false := by decide) : wpAny (model pg w) A (eval (.Name x pos) env) Q E s := by
  have kf : env.scope.kind = .function := by rw [ek.scope]; exact ek.kind
  have ke : env.kindOf x = sc.names.lookup x := by unfold Env.kindOf; rw [ek.scope]
  refine Calls.Name_function_global kf (ke.trans hk) ?_ hd
  obtain ⟨o, es, ep, a, b, c, d, _⟩ := T.glo
  obtain ⟨r, hr, dr⟩ := d x v hv
  unfold loadGlobal
  refine wpAny_bind (wpAny_nsGet (m := nsFind es) ⟨o, es, ep, by rw [ek.globals]; exact R.base _ _ a, b, c, fun _ => rfl⟩ ?_)
  rw [hr]
  exact wpAny_pure (k r dr)
theorem load_var {x : Str} {pos : Pos} {v : V} {Q : Value → Shared → Prop} (ek : EnvOk env sc) (sees : Sees Ω own env ρ) (R : Rep w os B own s) (hv : ρ x = some v) (hk : isVar sc x = true) (k : ∀ r, den w B v r → Q r s) (hd : (x == ("__debug__" : Str)) = false := by decide) : wpAny (model pg w) A (eval (.Name x pos) env) Q E s := by
  refine wpAny_Name ?_ hd
  have kf : env.scope.kind = .function := by rw [ek.scope]; exact ek.kind
  have ke : env.kindOf x = sc.names.lookup x := by unfold Env.kindOf; rw [ek.scope]
  rcases isVar_or hk with hk | hk
  · obtain ⟨m, hm, hx⟩ := sees.loc x v hv (ke.trans hk)
    obtain ⟨o, ho, es, ep, hd, hs, hp⟩ := R.has _ hm
    obtain ⟨r, hr, dr⟩ := hp x v hx
    exact wpAny_loadName_local kf (ke.trans hk) ⟨o, es, ep, ho, hd, hs, fun _ => rfl⟩ hr (k r dr)
  · obtain ⟨c, hc, hm⟩ := sees.cel x v hv (ke.trans hk)
    obtain ⟨o, ho, r, hr, hq⟩ := R.has _ hm
    obtain ⟨y, rfl, dy⟩ := hq v rfl
    exact wpAny_loadName_cell kf (ke.trans hk) hc ⟨o, ho, hr⟩ (k y dy)

/-- try .. except C: .., the exception caught -/
theorem st_try {body : List Stmt} {t : Expr} {b₀ : Stmt} {suite : List Stmt} {pos hpos : Pos} {cls c : Value} {Q : Flow → Shared → Prop} (hd : Hd A env)
    (hc : ∀ A' B' own' s₂ (Q' : Value → Shared → Prop) E', TopB w B' → Rep w os B' own' s₂ → Q' c s₂ → wpAny (model pg w) A' (eval t env) Q' E' s₂)
    (hm : ∀ A' B' own' e tb s₂ (Q' : Bool → Shared → Prop) E', TopB w B' → Rep w os B' (exItem e cls tb :: own') s₂ → Q' true s₂ → wpAny (model pg w) A' (excMatches (.ref e) c) Q' E' s₂)
    (hbody : wpAny (model pg w) A (execs body env) Q (fun x s₁ => ∃ B' own', Rm n A own' ∧ TopB w B' ∧ (FlyN w os B' own' cls x s₁ ∨ FlyT w os B' own' cls x s₁) ∧
      ∀ e s₂ E', Rep w os B' own' s₂ → wpAny (model pg w) (A.mark (some (.ref e))) (execs (b₀ :: suite) env) Q E' s₂) s) :
    wpAny (model pg w) A (exec (.Try body [.ExceptHandler (some t) Option.none (b₀ :: suite) hpos] [] [] pos) env) Q E s := by
  refine wpAny_Try_except (wpAny_mono hbody (fun f s₁ h => ?_) fun x s₁ h => ?_)
  · cases f <;> first | exact wpAny_execs_nil h | exact h
  · obtain ⟨B', own', hA, T, hfl, hsuite⟩ := h
    refine fly_note hA hd hfl fun s₂ h₂ => fly_set h₂ fun s₃ h₃ => ?_
    have h₃' := h₃
    obtain ⟨e, tb, rfl, R₃⟩ := h₃'
    refine wpAny_handleBy_cons (codeAny_handlers_test (hc _ B' _ s₃ _ _ T R₃ ?_)) (by intro q; cases q)
    refine hm _ B' _ e _ s₃ _ _ T R₃ ?_
    exact codeAny_handlers_suite (fly_set h₃ fun s₄ h₄ => hsuite e s₄ _ h₄.rep)
theorem catch_type {X T : String} (hexc : isSubtype (.type T) (.type "BaseException") = pure true) (hnt : isSubtype (.type ((Manifest.find? T).elim "type" fun x => x.metatype)) (.type "tuple") = pure false)
    (hsub : isSubtype (.type X) (.type T) = pure true) : ∀ A' B' own' e tb s₂ (Q' : Bool → Shared → Prop) E', TopB w B' → Rep w os B' (exItem e (.type X) tb :: own') s₂ → Q' true s₂ → wpAny (model pg w) A' (excMatches (.ref e) (.type T)) Q' E' s₂ := by
  intro A' B' own' e tb s₂ Q' E' T R h
  obtain ⟨o, ho, hc, _⟩ := R.has _ (List.mem_cons_self ..)
  exact wpAny_excMatches_type ⟨o, ho, hc⟩ hexc hnt hsub h
end
end Mine

namespace Mine
section
variable {w : World} {os : OsState} {n : Nat} {sc : Scope} {ρ : Str → Option V} {A : Around} {env : Env} {B : Bs} {own R : List Item} {s : Shared} {E : Value → Shared → Prop} {Q : Flow → Shared → Prop}

theorem dens.eraseIdx : ∀ {xs : List V} {l : List Value}, dens w B xs l → ∀ j, dens w B (xs.eraseIdx j) (l.eraseIdx j)
  | [], _, e, j => by rw [dens_nil.mp e]; simp [dens_nil]
  | x :: xs, _, e, 0 => by obtain ⟨r, rs, rfl, d, ds⟩ := dens_cons.mp e; exact ds
  | x :: xs, _, e, j + 1 => by
    obtain ⟨r, rs, rfl, d, ds⟩ := dens_cons.mp e
    exact dens_cons.mpr ⟨r, _, rfl, d, dens.eraseIdx ds j⟩
theorem map_eraseIdx' {α β : Type} (f : α → β) : ∀ (l : List α) (j : Nat), (l.map f).eraseIdx j = (l.eraseIdx j).map f
  | [], _ => rfl
  | _ :: _, 0 => rfl
  | a :: l, j + 1 => by simp [map_eraseIdx' f l j]
def isI (a : Int) : Value → Bool
  | .int b _ => b == a
  | _ => false
theorem isI_get {ns : List Int} {l : List Value} (d : dens w B (ns.map V.int) l) {m : Nat} (h : m < l.length) : ∃ h' : m < ns.length, ∀ a, isI a l[m] = (ns[m] == a) := by
  have hl := d.length
  rw [List.length_map] at hl
  have h' : m < ns.length := by omega
  refine ⟨h', fun a => ?_⟩
  obtain ⟨r, hr, dr⟩ := d.get (i := m) (x := V.int ns[m]) (by simp [h'])
  obtain ⟨t, rfl⟩ := den_int.mp dr
  have : l[m] = .int ns[m] t := (List.getElem?_eq_some_iff.mp hr).2
  rw [this]; rfl
theorem isI_eq {ns : List Int} {its : Array Value} (d : dens w B (ns.map V.int) its.toList) {a : Int} {t : Tok} : ∀ y ∈ its, MeetsSeq.EqGives y (.int a t) (isI a y) := by
  intro y hy
  obtain ⟨m, hm, rfl⟩ := List.getElem_of_mem (Array.mem_toList_iff.mpr hy)
  have hl := d.length
  rw [List.length_map] at hl
  obtain ⟨r, hr, dr⟩ := d.get (i := m) (x := V.int (ns[m]'(by omega))) (by simp)
  obtain ⟨u, rfl⟩ := den_int.mp dr
  rw [(List.getElem?_eq_some_iff.mp hr).2]
  exact MeetsSeq.EqGives.int _ _ _ _
/-- x.remove(e), x a list of ints of one's own -/
theorem st_remove {x : Str} {p apos pos pos' : Pos} {e : Expr} {D : Addr} {ns : List Int} {a : Int} {pre post : List Item} (F : FnEnv env sc) (hA : RmE n A env R) (T : TopB w B) (h : Rep w os B (frameI env env.cells ρ ++ R) s) (hR : R = pre ++ lstItem D (ns.map V.int) :: post)
    (hv : ρ x = some (.exact (.ref D))) (hk : isVar sc x = true) (he : PE w os n [] sc ρ e (.int a)) (hsz : ns.length ≤ sizeLine)
    (k : ∀ s' B', Le B B' → TopB w B' → ns.any (· == a) = true → Rep w os B' (frameI env env.cells ρ ++ (pre ++ lstItem D ((ns.erase a).map V.int) :: post)) s' → Q .next s')
    (kx : ∀ s' x B', Le B B' → TopB w B' → ns.any (· == a) = false → FlyN w os B' (frameI env env.cells ρ ++ R) (.type "ValueError") x s' → E x s')
    (hd : (x == ("__debug__" : Str)) = false := by decide) (hline : (apos.endLine == pos.line) = true := by rfl) (hsc : sc.kind = .function := by rfl)
    (ht : ∀ env, starEach [e] env = [(false, eval e env)] := by intro _; rfl) :
    wpAny (model pg w) A (exec (.Expr (.Call (.Attribute (.Name x p) "remove" apos) [e] [] pos) pos') env) Q E s := by
  refine wpAny_Expr_any ?_ (by unfold interactive; rw [F.ok.scope, hsc]; rfl)
  refine Call_method1 rfl (ht env) hline ?_
  refine (PE.name hv (isVar_or hk) hd).use (hA ρ) T F.ok F.sees0 h fun r s₁ B₁ l₁ T₁ R₁ d₁ => ?_
  rw [den_exact.mp d₁]
  have mem : lstItem D (ns.map V.int) ∈ frameI env env.cells ρ ++ R := by rw [hR]; simp
  obtain ⟨o, ho, its, m, rfl, ds⟩ := R₁.has _ mem
  refine ⟨"list", "list.remove", PySem.F.plainAttrs_list, PySem.F.slot_list_remove, PySem.F.type_list_remove, ⟨_, ho, rfl⟩, fun a e => by cases e; exact ⟨_, ho, rfl⟩, ?_⟩
  refine seqMethod1_meets PySem.F.slot_list_remove PySem.F.entry_list_remove (he.use (hA ρ) T₁ F.ok F.sees0 R₁ fun r' s₂ B₂ l₂ T₂ R₂ d₂ => ?_)
  obtain ⟨t, rfl⟩ := den_int.mp d₂
  obtain ⟨o, ho, its, m, rfl, ds⟩ := R₂.has _ mem
  refine ⟨⟨_, ho, rfl⟩, PySem.F.args_list_remove_2 _ _, ?_⟩
  have hlen := ds.length
  rw [List.length_map] at hlen
  have hsize : its.size = ns.length := by rw [← Array.length_toList]; exact hlen
  cases hany : ns.any (· == a) with
  | true =>
    have hmem : a ∈ ns := by
      obtain ⟨b, hb, e⟩ := List.any_eq_true.mp hany
      have : b = a := by simpa using e
      exact this ▸ hb
    have hj := List.idxOf_lt_length_iff.mpr hmem
    refine ⟨_, MeetsSeq.list_remove D its m (.int a t) (isI a) (isI_eq ds) (ns.idxOf a) (by omega) ?_ ?_ (by omega), ho, ?_⟩
    · obtain ⟨h', q⟩ := isI_get ds (m := ns.idxOf a) (by rw [hlen]; exact hj)
      have := q a
      rw [List.getElem_idxOf] at this
      simpa using this
    · intro i hi hlt
      obtain ⟨h', q⟩ := isI_get ds (m := i) (by rw [hlen]; omega)
      have := q a
      rw [List.not_of_lt_findIdx (p := (· == a)) (xs := ns) (i := i) hlt] at this
      simpa using this
    · have e1 : frameI env env.cells ρ ++ R = (frameI env env.cells ρ ++ pre) ++ lstItem D (ns.map V.int) :: post := by rw [hR]; simp
      have ho' := IsL.update ho fun xs => xs.eraseIdxIfInBounds (ns.idxOf a)
      have R3 := R₂.writeAt e1 (i' := lstItem D ((ns.erase a).map V.int)) s₂.toks (fun b o hb e => (Heap.get?_update_other s₂.heap (Obj.mapSeq fun xs => xs.eraseIdxIfInBounds (ns.idxOf a)) (Ne.symm hb)).trans e) rfl ho' ⟨_, _, rfl, by
        rw [Array.toList_eraseIdxIfInBounds, List.erase_eq_eraseIdx_of_idxOf rfl, ← map_eraseIdx']
        exact ds.eraseIdx _⟩
      rw [List.append_assoc] at R3
      exact k _ B₂ (l₁.trans l₂) T₂ hany R3
  | false =>
    refine ⟨_, MeetsSeq.list_remove_none D its m (.int a t) (isI a) (isI_eq ds) (fun i hi => ?_), ho, (hA ρ).handled, fun h' tk e hx => ?_⟩
    · obtain ⟨h', q⟩ := isI_get ds (m := i) (by rw [hlen]; omega)
      have := q a
      rw [Bool.eq_false_iff.mpr (fun hb => List.any_eq_false.mp hany _ (List.getElem_mem h') hb)] at this
      simpa using this
    · exact kx _ _ B₂ (l₁.trans l₂) T₂ hany (FlyN.new tk R₂ hx)
/-- x = list(e): a list of one's own -/
theorem st_listOf {x nm : Str} {p q pos' pos : Pos} {e : Expr} {ys : List V} (F : FnEnv env sc) (hA : RmE n A env R) (T : TopB w B) (h : Rep w os B (frameI env env.cells ρ ++ R) s) (hx : isVar sc x = true) (hnm : nm = "list") (hk : sc.names.lookup nm = some .globalImplicit)
    (he : PE w os n [] sc ρ e (.list ys)) (hsz : ys.length ≤ sizeLine)
    (k : ∀ s' B' D, Le B B' → TopB w B' → Rep w os B' (frameI env env.cells (upd ρ x (.exact (.ref D))) ++ lstItem D ys :: R) s' → Q .next s')
    (ht : ∀ env, starEach [e] env = (false, eval e env) :: starEach [] env := by intro _; rfl) : wpAny (model pg w) A (exec (.Assign [.Name x p] (.Call (.Name nm q) [e] [] pos') pos) env) Q E s := by
  subst hnm
  refine wpAny_Assign_Name ?_ rfl
  refine wpAny_Call_NameR (PE.use (v := .exact (.type "list")) (PE.blt (hk := hk)) (hA ρ) T F.ok F.sees0 h fun r s₁ B₁ l₁ T₁ R₁ d₁ => ?_)
  rw [den_exact.mp d₁]
  refine PyProof.Rows.callWith_type1 (args_cons (he.use (hA ρ) T₁ F.ok F.sees0 R₁ fun r s₂ B₂ l₂ T₂ R₂ d₂ => args_nil ?_) (ht env)) (ht env) rfl
  obtain ⟨a, its, m, rfl, g, hl, ds⟩ := listAt R₂ d₂
  refine call_list_seq a (.inl rfl) g rfl rfl (fun h' c' hk' hn => ?_) (by rw [ds.size]; exact hsz)
  have R3 := R₂.new (lstItem s₂.heap.objs.size ys) s₂.toks hk' (get?_size _) hn ⟨_, _, rfl, ds⟩
  exact store_rep (pre := [lstItem s₂.heap.objs.size ys]) F.fr (F.var (isVar_or hx)) (by simpa using R3) (den_exact.mpr rfl) fun s₃ R₄ => k s₃ B₂ _ (l₁.trans l₂) T₂ (R₄.perm (by simpa using List.perm_middle.symm))

def rem1 (t : List Int) (e : Int) : Option (List Int) := if t.any (· == e) then some (t.erase e) else Option.none
def compareB (xs ys : List Int) : Bool := match (dedupL xs).foldlM rem1 (dedupL ys) with
  | some t => t.isEmpty
  | Option.none => false
theorem foldlM_len : ∀ {es t u : List Int}, es.foldlM rem1 t = some u → u.length ≤ t.length
  | [], t, u, h => by simp at h; rw [h]; exact Nat.le_refl _
  | e :: es, t, u, h => by
    rw [List.foldlM_cons] at h
    unfold rem1 at h
    split at h
    · have := foldlM_len (es := es) h
      have h2 : (t.erase e).length ≤ t.length := List.length_erase_le ..
      omega
    · cases h

theorem compare_fn (xs ys : List Int) (h1 : xs.length ≤ sizeLine) (h2 : ys.length ≤ sizeLine) : Fn w os (n + 2) (.ref 185) [IL xs, IL ys] (.bool (compareB xs ys)) := by
  intro A B own s rs E hA T R d
  obtain ⟨r, r', rfl⟩ : ∃ r r', rs = [r, r'] := by
    obtain ⟨r, rs', rfl, d1, d2⟩ := dens_cons.mp d
    obtain ⟨r', rfl, d3⟩ := dens_one d2
    exact ⟨r, r', rfl⟩
  refine call_def (n := n + 1) (r := ⟨"_compare_args_orderless", fdef 16, .none, .none⟩) rfl ["first_args", "second_args"] [IL xs, IL ys] hA T R d (by decide) (fun doc pm cd ct nm => by rfl) (by decide) (by decide) rfl rfl rfl ?_
  intro env s₁ E' F hA' R₁
  have hd : Hd (A.deeper env) env := hA.head
  have l1 : (dedupL xs).length ≤ sizeLine := Nat.le_trans (dedupL_length xs) h1
  have l2 : (dedupL ys).length ≤ sizeLine := Nat.le_trans (dedupL_length ys) h2
  refine wpAny_execs_cons (st_assign (v := IL (dedupL xs)) F hA' T R₁ (PE.callD (a := 178) rfl rfl rfl (PEs.cons PE.var PEs.nil) (dedup_fn xs h1)) (by rfl) fun s₂ B₂ le₂ T₂ R₂ => ?_)
  refine wpAny_execs_cons (st_assign (v := IL (dedupL ys)) F hA' T₂ R₂ (PE.callD (a := 178) rfl rfl rfl (PEs.cons PE.var PEs.nil) (dedup_fn ys h2)) (by rfl) fun s₃ B₃ le₃ T₃ R₃ => ?_)
  refine wpAny_execs_cons (st_listOf F hA' T₃ R₃ (by rfl) rfl (by rfl) (PE.var (v := IL (dedupL ys))) (by simpa using l2) fun s₄ B₄ D le₄ T₄ R₄ => ?_)
  generalize hρ : upd (upd (upd (parV ["first_args", "second_args"] [IL xs, IL ys]) "first_unhashable" (IL (dedupL xs))) "second_unhashable" (IL (dedupL ys))) "t" (.exact (.ref D)) = ρ at R₄
  have hρ1 : ρ "first_unhashable" = some (IL (dedupL xs)) := by rw [← hρ]; rfl
  have hρt : ρ "t" = some (.exact (.ref D)) := by rw [← hρ]; rfl
  have hρe : ρ "elem" = Option.none := by rw [← hρ]; rfl
  have le4 : Le B B₄ := (le₂.trans le₃).trans le₄
  refine wpAny_execs_cons (st_try (os := os) (n := n + 1) (cls := .type "ValueError") (c := .type "ValueError") hd
    (fun A' B' own' s₂ Q' E' T' R' h => load_builtin F.ok T' R' h)
    (fun A' B' own' e tb s₂ Q' E' T' R' h => catch_type PySem.F.isExc_ValueError PySem.F.notTuple_ValueError PySem.F.self_ValueError A' B' own' e tb s₂ Q' E' T' R' h) ?_)
  refine wpAny_execs_cons (st_for (dedupL xs) V.int (fun i B' ρ' R' => ρ' = ρ ∧ ∃ t, ((dedupL xs).take i).foldlM rem1 (dedupL ys) = some t ∧ R' = lstItem D (t.map V.int) :: own) F hA'.add T₄ R₄ (PI.list (PE.var (hv := hρ1))) (by rfl)
    (fun B' _ => ⟨rfl, dedupL ys, rfl, rfl⟩) ?_ ?_)
  · rintro i x B' ρ' R' J s' E'' hE hx le T' ⟨rfl, t, ht, rfl⟩ hR
    have htk : (dedupL xs).take (i + 1) = (dedupL xs).take i ++ [x] := by rw [List.take_add_one, hx]; rfl
    have hstep : ((dedupL xs).take (i + 1)).foldlM rem1 (dedupL ys) = rem1 t x := by
      rw [htk, List.foldlM_append, ht]
      show Option.bind (rem1 t x) some = _
      cases rem1 t x <;> rfl
    refine wpAny_execs_cons (st_remove (D := D) (ns := t) (a := x) (pre := [J]) (post := own) F hA'.add.add T' hR (by simp) (by rw [show upd ρ' "elem" (V.int x) "t" = ρ' "t" from rfl]; exact hρt) (by rfl) PE.var (Nat.le_trans (foldlM_len ht) l2) (fun s₅ B₅ l₅ T₅ hany R₅ => ?_) (fun s₅ x' B₅ l₅ T₅ hany hfly => ?_))
    · refine wpAny_execs_nil ⟨B₅, ρ', _, l₅, ⟨rfl, t.erase x, ?_, rfl⟩, ?_⟩
      · rw [hstep]; unfold rem1; rw [hany]; rfl
      · have := R₅.forget (ρ' := ρ') (sub_upd hρe)
        simpa using this
    · subst hE
      refine fly_noted (hA'.add.add _) hd (.inl hfly) fun s₆ h₆ => fly_came h₆ fun s₇ h₇ => ?_
      refine ⟨B₅, _, hA'.add.add _, T₅, .inr h₇, fun e s₈ E₈ R₈ => ?_⟩
      refine wpAny_execs_cons (wpAny_Return_some (wpAny_Constant_bool ?_))
      refine ⟨B₅, (le4.trans le).trans l₅, R₈.app.tail.tail, den_bool.mpr ?_⟩
      have : compareB xs ys = false := by
        unfold compareB
        have hall : (dedupL xs).foldlM rem1 (dedupL ys) = Option.none := by
          rw [← List.take_append_drop (i + 1) (dedupL xs), List.foldlM_append, hstep]
          unfold rem1
          rw [hany]; rfl
        rw [hall]
      rw [this]; rfl
  · rintro B' ρ' R' s' le T' ⟨rfl, t, ht, rfl⟩ hR
    refine wpAny_execs_nil ?_
    refine wpAny_execs_cons (wpAny_Return_some ?_)
    rw [List.take_length] at ht
    refine wpAny_UnaryOp (PE.use (v := .exact (.ref D)) (PE.var (hv := hρt)) (hA'.add _) T' F.ok F.sees0 hR fun r s'' B'' l'' T'' R'' d'' => ?_)
    rw [den_exact.mp d'']
    obtain ⟨o, ho, its, m, rfl, ds⟩ := R''.has (lstItem D (t.map V.int)) (by simp)
    have hl : s''.heap.IsList D its := ⟨_, ho, rfl, m, rfl⟩
    have hlen := ds.size
    rw [List.length_map] at hlen
    have hfold := foldlM_len ht
    unfold unaryOp
    refine wpAny_holding (wpAny_bind (wpAny_truthy_list hl (by unfold sizeLine at l2; omega) (wpAny_pure ?_)))
    refine ⟨B'', (le4.trans le).trans l'', R''.app.tail.toks _, den_bool.mpr ?_⟩
    unfold compareB
    rw [ht]
    cases t with
    | nil => have : its = #[] := Array.eq_empty_of_size_eq_zero (by simpa using hlen)
             rw [this]; rfl
    | cons x xs =>
      have : its.isEmpty = false := by unfold Array.isEmpty; rw [hlen]; simp
      rw [this]; rfl
end
end Mine

namespace Mine
section
variable {w : World} {os : OsState} {n : Nat} {sc : Scope} {ρ : Str → Option V} {A : Around} {env : Env} {B : Bs} {own R : List Item} {s : Shared} {E : Value → Shared → Prop}

theorem Rep.ext {h' : Heap} (R : Rep w os B own s) (he : Heap.ExtBut s.heap.objs.size s.heap h') : Rep w os B own { s with heap := h' } :=
  R.grow s.toks fun b o e => he b o (Nat.ne_of_lt (Heap.lt_size e)) e
/-- what a tuple or a list of values yields -/
theorem items_of {vs : List V} {r : Value} {Q : List Value → Shared → Prop} (hh : A.handled = none) (R : Rep w os B own s) (d : den w B (.tuple vs) r ∨ den w B (.list vs) r)
    (k : ∀ rs s', Rep w os B own s' → dens w B vs rs → Q rs s') : wpAny (model pg w) A (unpackItems r vs.length Option.none) Q E s := by
  rcases d with d | d
  · obtain ⟨a, its, m, rfl, b, ds⟩ := den_tuple.mp d
    have hl : s.heap.IsTuple a its := ⟨_, R.base _ _ b, rfl, m, rfl⟩
    have e := ds.size
    rw [← e]
    exact wpAny_unpackItems_tuple hh hl fun h' he => k _ _ (R.ext he) ds
  · obtain ⟨a, its, m, rfl, b, ds⟩ := den_list.mp d
    have hl : s.heap.IsList a its := ⟨_, R.base _ _ b, rfl, m, rfl⟩
    have e := ds.size
    rw [← e]
    exact kun_itemsOf hh hl fun h' he => k _ _ (R.ext he) ds
theorem assign2 {t1 t2 : Expr} {kk : Nat} {p : Pos} {v1 v2 : V} {r : Value} {Q : Unit → Shared → Prop} (hh : A.handled = none) (R : Rep w os B own s) (d : den w B (.tuple [v1, v2]) r ∨ den w B (.list [v1, v2]) r)
    (k : ∀ r1 r2 s', Rep w os B own s' → den w B v1 r1 → den w B v2 r2 → wpAny (model pg w) A (assign t1 env r1) (fun _ s₂ => wpAny (model pg w) A (assign t2 env r2) Q E s₂) E s')
    (he : assignEach [t1, t2] env = [(false, assign t1 env), (false, assign t2 env)] := by rfl) : wpAny (model pg w) A (assign (.Tuple [t1, t2] kk p) env r) Q E s := by
  rw [assign_Tuple]
  refine wpAny_bind (wpAny_standAt ?_)
  unfold unpack
  rw [he]
  refine wpAny_bind (wpAny_holding (items_of (vs := [v1, v2]) hh R d fun rs s' R' ds => ?_))
  obtain ⟨r1, rs, rfl, d1, d2⟩ := dens_cons.mp ds
  obtain ⟨r2, rfl, d3⟩ := dens_one d2
  refine assignInOrder_cons (wpAny_mono (k r1 r2 s' R' d1 d3) (fun _ s₂ h₂ => ?_) fun _ _ e => e)
  exact assignInOrder_cons (wpAny_mono h₂ (fun _ s₃ h₃ => assignInOrder_nil h₃) fun _ _ e => e)
/-- x, y = e -/
theorem st_assign2 {x y : Str} {kk : Nat} {p1 p2 p pos : Pos} {e : Expr} {v1 v2 v : V} {Q : Flow → Shared → Prop} (F : FnEnv env sc) (hA : RmE n A env R) (T : TopB w B) (h : Rep w os B (frameI env env.cells ρ ++ R) s) (he : PE w os n [] sc ρ e v) (hv : v = .tuple [v1, v2] ∨ v = .list [v1, v2])
    (hx : isVar sc x = true) (hy : isVar sc y = true)
    (k : ∀ s' B', Le B B' → TopB w B' → Rep w os B' (frameI env env.cells (upd (upd ρ x v1) y v2) ++ R) s' → Q .next s')
    (hs : ∀ env, swapsWithSole [.Tuple [.Name x p1, .Name y p2] kk p] e pos.line env = pure false := by intro _; rfl)
    (hw : ∀ g : Env, swappedStores [.Tuple [.Name x p1, .Name y p2] kk p] e { g with scope := sc } = pure Option.none := by intro _; rfl) :
    wpAny (model pg w) A (exec (.Assign [.Tuple [.Name x p1, .Name y p2] kk p] e pos) env) Q E s := by
  have hw' : swappedStores [.Tuple [.Name x p1, .Name y p2] kk p] e env = pure Option.none := by
    have := hw env
    rw [← F.ok.scope] at this
    exact this
  refine Assign_Tuple (he.use (hA ρ) T F.ok F.sees0 h fun r s₁ B₁ l₁ T₁ R₁ d₁ => ?_) (hs env) hw'
  refine assign2 (v1 := v1) (v2 := v2) (hA ρ).handled R₁ (by rcases hv with rfl | rfl <;> simp [d₁]) fun r1 r2 s₂ R₂ d1 d2 => ?_
  refine assign_rep (pre := []) F.fr (F.var (isVar_or hx)) (by simpa using R₂) d1 fun s₃ R₃ => ?_
  exact assign_rep (pre := []) F.fr (F.var (isVar_or hy)) R₃ d2 fun s₄ R₄ => k s₄ B₁ l₁ T₁ (by simpa using R₄)

/-- names as a table -/
def tab (l : List (Str × V)) : Str → Option V := fun x => l.lookup x
def tabOk (ρ : Str → Option V) : List (Str × V) → Prop
  | [] => True
  | (x, v) :: l => ρ x = some v ∧ tabOk ρ l
theorem tabOk_sub {ρ : Str → Option V} : ∀ {l : List (Str × V)}, tabOk ρ l → ∀ x v, tab l x = some v → ρ x = some v
  | [], _, x, v, h => by simp [tab] at h
  | (y, u) :: l, ⟨h1, h2⟩, x, v, h => by
    unfold tab at h
    rw [List.lookup_cons] at h
    by_cases e : x = y
    · subst e; simp at h; rw [h1, h]
    · have : (x == y) = false := by simpa using e
      rw [this] at h
      exact tabOk_sub h2 x v h
theorem Rep.keep {cs : List (Str × Addr)} (h : Rep w os B (frameI env cs ρ ++ R) s) (l : List (Str × V)) (hl : tabOk ρ l) : Rep w os B (frameI env cs (tab l) ++ R) s := h.forget (tabOk_sub hl)
end
end Mine

namespace Mine
abbrev LL (ns : List (List Int)) : V := .list (ns.map fun x => IL x)
/-- eight things, each with needs among the eight -/
structure Eight (needs : List (List Int)) : Prop where
  len : needs.length = 8
  few : ∀ r ∈ needs, r.length ≤ 8
  small : ∀ r ∈ needs, ∀ x ∈ r, 0 ≤ x ∧ x < 8
  nodup : ∀ r ∈ needs, r.Nodup
def has (l : List Int) (x : Int) : Bool := l.any (· == x)
theorem has_iff {l : List Int} {x : Int} : has l x = true ↔ x ∈ l := by
  unfold has; rw [List.any_eq_true]
  constructor
  · rintro ⟨y, hy, e⟩; have : y = x := by simpa using e
    exact this ▸ hy
  · intro h; exact ⟨x, h, by simp⟩
def nd (needs : List (List Int)) (k : Nat) : List Int := needs.getD k []
def groupOf (needs : List (List Int)) (come : List Int) : List Int :=
  ((List.range 8).filter fun k : Nat => !has come (k : Int) && ((nd needs k).filter fun x => !has come x).isEmpty).map fun k => ((k : Nat) : Int)
def roundsGo (needs : List (List Int)) : Nat → List (List Int) → List Int → List (List Int)
  | 0, rounds, _ => rounds
  | f + 1, rounds, come => if (groupOf needs come).isEmpty then rounds else roundsGo needs f (rounds ++ [groupOf needs come]) (come ++ groupOf needs come)
def roundsL (needs : List (List Int)) : List (List Int) := roundsGo needs 9 [] []
def missing (come : List Int) : Nat := (List.range 8).countP fun k : Nat => !has come (k : Int)
theorem countP_less {α : Type} {p q : α → Bool} : ∀ {l : List α}, (∀ x ∈ l, p x = true → q x = true) → (∃ x ∈ l, q x = true ∧ p x = false) → l.countP p < l.countP q
  | [], _, h => by obtain ⟨x, hx, _⟩ := h; cases hx
  | a :: l, h, hx => by
    have h' : ∀ x ∈ l, p x = true → q x = true := fun x hx => h x (by simp [hx])
    have hle := List.countP_mono_left h'
    rw [List.countP_cons, List.countP_cons]
    obtain ⟨x, hx, hq, hp⟩ := hx
    rcases List.mem_cons.mp hx with rfl | hx
    · rw [hq, hp]; simp; omega
    · have ih := countP_less h' ⟨x, hx, hq, hp⟩
      cases hpa : p a with
      | false => simp; omega
      | true => rw [h a (by simp) hpa]; simp; omega
theorem missing_less {needs : List (List Int)} {come : List Int} (h : (groupOf needs come).isEmpty = false) : missing (come ++ groupOf needs come) < missing come := by
  obtain ⟨a, ha⟩ : ∃ a, a ∈ groupOf needs come := by
    cases e : groupOf needs come with
    | nil => rw [e] at h; cases h
    | cons a g => exact ⟨a, by simp⟩
  have ha' := ha
  unfold groupOf at ha
  obtain ⟨k, hk, rfl⟩ := List.mem_map.mp ha
  obtain ⟨hk8, hp⟩ := List.mem_filter.mp hk
  simp only [Bool.and_eq_true] at hp
  refine countP_less (fun x hx hn => ?_) ⟨k, hk8, hp.1, ?_⟩
  · simp only [Bool.not_eq_true'] at hn ⊢
    cases hc : has come (x : Int) with
    | false => rfl
    | true =>
      have := has_iff.mpr (List.mem_append_left (groupOf needs come) (has_iff.mp hc))
      rw [this] at hn; cases hn
  · have := has_iff.mpr (List.mem_append_right come ha')
    rw [this]; rfl
section
variable {w : World} {os : OsState} {n : Nat} {sc : Scope} {ρ : Str → Option V} {Ω : List Item}
theorem eqb_nil (l : List V) : V.eqb (.list l) (.list []) = l.isEmpty := by cases l <;> simp [V.eqb, V.eqbs]
theorem hasK_IL (ns : List Int) : HasK (.list .int) (IL ns) := ⟨_, rfl, fun y hy => by obtain ⟨i, _, rfl⟩ := List.mem_map.mp hy; exact ⟨i, rfl⟩⟩
theorem hasK_LL (ns : List (List Int)) : HasK (.list (.list .int)) (LL ns) := ⟨_, rfl, fun y hy => by obtain ⟨i, _, rfl⟩ := List.mem_map.mp hy; exact hasK_IL i⟩
/-- x == [] of ints -/
theorem PT.isNil {e : Expr} {p pos : Pos} {ns : List Int} (he : PE w os n Ω sc ρ e (IL ns)) : PT w os n Ω sc ρ (.Compare e [.Eq] [.List [] p] pos) ns.isEmpty := by
  have := PT.cmp (pos := pos) he (PE.list (pos := p) PEs.nil) (Cmp.eqK (.list .int) (hasK_IL ns) (hasK_IL []))
  rw [eqb_nil] at this
  cases ns <;> exact this
theorem PE.itemLL {value slice : Expr} {pos : Pos} {ns : List (List Int)} {i : Nat} (hx : PE w os n Ω sc ρ value (LL ns)) (hi : PE w os n Ω sc ρ slice (.int (i : Int))) (hl : i < ns.length) (hsz : ns.length ≤ 1000)
    (hs : ∀ o i, subscripted slice false o i = operate [o, i] (getItem o i) := by intro _ _; rfl) : PE w os n Ω sc ρ (.Subscript value slice pos) (IL (ns.getD i [])) := by
  refine PE.item hx hi (Itm.list (by omega) ?_ (by omega)) hs
  simp [hl]
theorem filterMap_IL (ns : List Int) (p : Int → Bool) : V.list ((ns.filter p).map V.int) = IL (ns.filter p) := rfl
theorem nd_few {needs : List (List Int)} (h8 : Eight needs) (k : Nat) : (nd needs k).length ≤ 8 := by
  unfold nd
  rw [List.getD_eq_getElem?_getD]
  cases e : needs[k]? with
  | none => simp
  | some r => simp; exact h8.few r (List.mem_of_getElem? e)
theorem groupOf_length (needs : List (List Int)) (come : List Int) : (groupOf needs come).length ≤ 8 := by
  unfold groupOf
  rw [List.length_map]
  have := List.length_filter_le (fun k : Nat => !has come (k : Int) && ((nd needs k).filter fun x => !has come x).isEmpty) (List.range 8)
  simpa using this
theorem rounds_fn (needs : List (List Int)) (h8 : Eight needs) : Fn w os (n + 1) (.ref 207) [LL needs] (LL (roundsL needs)) := by
  intro A B own s rs E hA T R d
  obtain ⟨r, rfl, d0⟩ := dens_one d
  refine call_def (r := ⟨"_law_rounds", fdef 21, .none, .none⟩) rfl ["needs"] [LL needs] hA T R d (by decide) (fun doc pm cd ct nm => by rfl) (by decide) (by decide) rfl rfl rfl ?_
  intro env s₁ E' F hA' R₁
  refine wpAny_execs_cons (st_assign2 (v1 := .list []) (v2 := .list []) F hA' T R₁ (PE.tuple (PEs.cons (PE.list PEs.nil) (PEs.cons (PE.list PEs.nil) PEs.nil))) (.inl rfl) (by rfl) (by rfl) fun s₂ B₂ le₂ T₂ R₂ => ?_)
  refine wpAny_execs_cons (st_while (fun m B' ρ' R' => R' = own ∧ ∃ rounds come, roundsGo needs m rounds come = roundsL needs ∧ missing come < m ∧ m ≤ 9 ∧ rounds.length + m = 9 ∧ come.length ≤ 8 * rounds.length ∧
    ρ' = tab [("rounds", LL rounds), ("come", IL come), ("needs", LL needs)]) 9 T₂ (R₂.keep [("rounds", LL []), ("come", IL []), ("needs", LL needs)] ⟨rfl, rfl, rfl, trivial⟩) ⟨rfl, [], [], rfl, by decide +kernel, by decide, rfl, by simp, rfl⟩ ?_)
  rintro m B₃ ρ₃ R₃ s₃ E₃ le₃ T₃ ⟨rfl, rounds, come, hgo, hmiss, hm9, hrl, hcl, rfl⟩ hR₃
  refine wpAny_isTrue_value (wpAny_Constant_bool (wpAny_truthy_bool ?_)) rfl
  rw [if_pos rfl]
  obtain ⟨f, rfl⟩ : ∃ f, m = f + 1 := ⟨m - 1, by omega⟩
  refine wpAny_execs_cons (st_assignComp (List.range 8) (fun i : Nat => V.int (i : Int)) (fun k => !has come (k : Int) && ((nd needs k).filter fun x => !has come x).isEmpty) (fun i : Nat => V.int (i : Int)) F hA' T₃ hR₃
    (PI.range (N := 8) PE.blt PE.int (by decide)) (fun k hk => PTs.one ?_) (fun k hk _ => PE.var) (by decide) (by rfl) (by rfl) (by decide) (by rfl) fun s₄ B₄ le₄ T₄ R₄ => ?_)
  · have hk' : k < needs.length := by rw [h8.len]; simpa using hk
    refine PT.and (PT.cmp PE.var (PE.var (v := IL come)) Cmp.notInI) fun _ => PT.isNil ?_
    rw [← filterMap_IL]
    refine PE.comp (nd needs k) V.int _ _ (PI.list (PE.itemLL PE.var PE.var hk' (by rw [h8.len]; decide))) (fun x hx => PTs.one ?_) (fun x hx _ => PE.var) (Nat.le_trans (nd_few h8 k) (by decide)) (by decide) (by rfl)
    exact PT.cmp PE.var (PE.var (v := IL come)) Cmp.notInI
  · have R₅ := R₄.keep [("rounds", LL rounds), ("come", IL come), ("needs", LL needs), ("group", IL (groupOf needs come))] ⟨rfl, rfl, rfl, by
      show some _ = some _
      unfold groupOf IL; rw [List.map_map]; rfl, trivial⟩
    refine wpAny_execs_cons (st_if F hA' T₄ R₅ (PT.isNil (ns := groupOf needs come) PE.var) fun s₅ B₅ le₅ T₅ R₅ => ?_)
    have hgo' := hgo
    unfold roundsGo at hgo'
    cases hg : (groupOf needs come).isEmpty with
    | true =>
      rw [hg, if_pos rfl] at hgo'
      refine wpAny_execs_cons (st_return (v := LL rounds) F hA' T₅ R₅ PE.var fun r s₆ B₆ le₆ T₆ R₆ d₆ => ?_)
      rw [← hgo']
      exact ⟨B₆, (((le₂.trans le₃).trans le₄).trans le₅).trans le₆, R₆.app, d₆⟩
    | false =>
      rw [hg, if_neg (by decide)] at hgo'
      have hgl := groupOf_length needs come
      refine wpAny_execs_nil (wpAny_execs_cons (st_assign2 (v1 := LL (rounds ++ [groupOf needs come])) (v2 := IL (come ++ groupOf needs come)) F hA' T₅ R₅ (PE.tuple (PEs.cons ?_ (PEs.cons ?_ PEs.nil))) (.inl rfl) (by rfl) (by rfl) fun s₆ B₆ le₆ T₆ R₆ => ?_))
      · rw [show LL (rounds ++ [groupOf needs come]) = .list ((rounds.map fun x => IL x) ++ [IL (groupOf needs come)]) by simp]
        exact PE.bin PE.var (PE.list (PEs.cons PE.var PEs.nil)) (Bin.addL (by simp; unfold sizeLine; omega))
      · rw [show IL (come ++ groupOf needs come) = .list (come.map V.int ++ (groupOf needs come).map V.int) by simp]
        exact PE.bin PE.var PE.var (Bin.addL (by simp; unfold sizeLine; omega))
      · refine wpAny_execs_nil ⟨f, B₆, _, _, Nat.lt_succ_self f, ((le₃.trans le₄).trans le₅).trans le₆, ⟨rfl, _, _, hgo', ?_, by omega, ?_, ?_, rfl⟩, R₆.keep [("rounds", LL (rounds ++ [groupOf needs come])), ("come", IL (come ++ groupOf needs come)), ("needs", LL needs)] ⟨rfl, rfl, rfl, trivial⟩⟩
        · have := missing_less hg; omega
        · simp; omega
        · simp; omega
end
end Mine

namespace Mine
abbrev In8 (x : Int) : Prop := 0 ≤ x ∧ x < 8
theorem missing_one {r : List Int} {x : Int} (hx : x ∉ r) (h8 : In8 x) : missing (r ++ [x]) + 1 ≤ missing r := by
  refine countP_less (fun y hy hn => ?_) ⟨x.toNat, by simp; have := h8; omega, ?_, ?_⟩
  · simp only [Bool.not_eq_true'] at hn ⊢
    cases hc : has r (y : Int) with
    | false => rfl
    | true =>
      have := has_iff.mpr (List.mem_append_left [x] (has_iff.mp hc))
      rw [this] at hn; cases hn
  · have : ((x.toNat : Nat) : Int) = x := by have := h8; omega
    rw [this]
    cases hc : has r x with
    | false => rfl
    | true => exact absurd (has_iff.mp hc) hx
  · have : ((x.toNat : Nat) : Int) = x := by have := h8; omega
    rw [this, has_iff.mpr (by simp)]; rfl
theorem missing_many : ∀ {l r : List Int}, l.Nodup → (∀ x ∈ l, x ∉ r) → (∀ x ∈ l, In8 x) → missing (r ++ l) + l.length ≤ missing r
  | [], r, _, _, _ => by simp
  | x :: l, r, h1, h2, h3 => by
    rw [List.nodup_cons] at h1
    have ih := missing_many (l := l) (r := r ++ [x]) h1.2 (fun y hy hm => by
      rcases List.mem_append.mp hm with h | h
      · exact h2 y (by simp [hy]) h
      · have : y = x := by simpa using h
        exact h1.1 (this ▸ hy)) fun y hy => h3 y (by simp [hy])
    have h4 := missing_one (h2 x (by simp)) (h3 x (by simp))
    have e : r ++ x :: l = r ++ [x] ++ l := by simp
    rw [e, List.length_cons]
    omega
theorem few8 {l : List Int} (h1 : l.Nodup) (h2 : ∀ x ∈ l, In8 x) : l.length ≤ 8 := by
  have := missing_many (r := []) h1 (fun _ _ => by simp) h2
  have e : missing [] = 8 := by decide +kernel
  omega

def sortI (ns : List Int) : List Int := ns.mergeSort fun a b => decide (a ≤ b)
theorem sortI_eq {ns ns' : List Int} (hp : ns'.Perm ns) (hs : ns'.Pairwise (· ≤ ·)) : sortI ns = ns' := by
  have h1 : (sortI ns).Pairwise fun a b : Int => decide (a ≤ b) = true := List.pairwise_mergeSort (fun a b c h1 h2 => by simp at *; omega) (fun a b => by simp; omega) ns
  refine List.Perm.eq_of_pairwise (le := fun a b : Int => a ≤ b) (fun a b _ _ h1 h2 => by omega) (h1.imp fun h => by simpa using h) hs ?_
  exact (List.mergeSort_perm ns _).trans hp.symm

def furtherOf (needs : List (List Int)) (reached further : List Int) : List Int :=
  ((List.range 8).filter fun j : Nat => !has reached (j : Int) && !(further.filter fun one => has (nd needs one.toNat) (j : Int)).isEmpty).map fun j => ((j : Nat) : Int)
def reachedGo (needs : List (List Int)) : Nat → List Int → List Int → List Int
  | 0, r, _ => r
  | f + 1, r, fu => if fu.isEmpty then r else reachedGo needs f (r ++ fu) (furtherOf needs (r ++ fu) fu)
def reachedL (needs : List (List Int)) (k : Nat) : List Int := reachedGo needs 9 [] (nd needs k)
theorem furtherOf_mem {needs : List (List Int)} {reached further : List Int} {x : Int} (h : x ∈ furtherOf needs reached further) : In8 x ∧ x ∉ reached := by
  unfold furtherOf at h
  obtain ⟨k, hk, rfl⟩ := List.mem_map.mp h
  obtain ⟨hk8, hp⟩ := List.mem_filter.mp hk
  simp only [Bool.and_eq_true] at hp
  refine ⟨by simp at hk8; exact ⟨by omega, by omega⟩, fun hm => ?_⟩
  have := has_iff.mpr hm
  rw [this] at hp; simp at hp
theorem furtherOf_nodup (needs : List (List Int)) (reached further : List Int) : (furtherOf needs reached further).Nodup := by
  unfold furtherOf
  refine List.pairwise_map.mpr (List.Pairwise.imp (fun h e => h (by omega)) ((List.nodup_range).filter _))

section
variable {w : World} {os : OsState} {n : Nat} {sc : Scope} {ρ : Str → Option V} {Ω : List Item}
theorem Rep.freezeAt {B : Bs} {own : List Item} {s : Shared} {h' : Heap} {a : Addr} {its : Array Value} {k : Nat} {xs : List V} (R : Rep w os B own s) (tk : Nat) (hk : ∀ b o, s.heap.get? b = some o → h'.get? b = some o) (ha : s.heap.get? a = Option.none) (ho : h'.get? a = some (listOf its k)) (d : dens w B xs its.toList) :
    Post w os B own (.list xs) (.ref a) { s with heap := h', toks := tk } := by
  have f := R.fresh ha
  exact ⟨_, Le.put f.1, R.freezeNew tk hk ha ho, den_list.mpr ⟨a, its, k, rfl, Bs.put_self .., dens.mono (Le.put f.1) xs d⟩⟩
theorem Fn.sorted {ns : List Int} {v : V} (hv : v = IL ns ∨ v = .tuple (ns.map V.int)) (h64 : ns.length < 64) : Fn w os n (.builtin "sorted") [v] (IL (sortI ns)) := by
  intro A B own s rs E hA T R d
  obtain ⟨r, rfl, d1⟩ := dens_one d
  obtain ⟨a, its, m, T', rfl, hb, hT, ds⟩ : ∃ a its m T', r = .ref a ∧ s.heap.get? a = some { cls := .type T', data := .seq its m } ∧ (T' = "list" ∨ T' = "tuple") ∧ dens w B (ns.map V.int) its.toList := by
    rcases hv with rfl | rfl
    · obtain ⟨a, its, m, rfl, b, ds⟩ := den_list.mp d1
      exact ⟨a, its, m, "list", rfl, R.base _ _ b, .inl rfl, ds⟩
    · obtain ⟨a, its, m, rfl, b, ds⟩ := den_tuple.mp d1
      exact ⟨a, its, m, "tuple", rfl, R.base _ _ b, .inr rfl, ds⟩
  have hlen := ds.size
  rw [List.length_map] at hlen
  refine Calls.call_function_entry kind_sorted plain_sorted entry_sorted (args_sorted1 _) ?_
  unfold Builtin.«sorted»
  refine wpAny_bind (m := checkCount "sorted" 1 1 _) (wpAny_pure ?_)
  refine wpAny_bind (wpAny_collect_seq a hT hb rfl rfl (fun h₁ hk₁ => ?_) (by rw [hlen]; unfold sizeLine; omega))
  refine wpAny_bind (wpAny_newList ?_ (by rw [Array.length_toList, hlen]; unfold sizeLine; omega))
  have hoL : (h₁.push (seqObj "list" its.toList.toArray 0)).get? h₁.objs.size = some (seqObj "list" its.toList.toArray 0) := Heap.get?_push_size _ rfl
  refine wpAny_bind (wpAny_holding (wpAny_call_entry slot_list_sort ⟨_, hoL, rfl⟩ entry_list_sort (list_sort_tree (ns := ns) hoL (dens.ints.mp ds) (by rw [Array.length_toList, hlen]; exact h64) fun out ns' a1 a2 a3 => ⟨_, rfl, ?_⟩) (args_list_sort _)))
  refine wpAny_pure ⟨_, rfl, ?_⟩
  rw [sortI_eq a2 a3]
  have hold : s.heap.get? h₁.objs.size = Option.none := by
    cases e : s.heap.get? h₁.objs.size with
    | none => rfl
    | some o => exact absurd (Heap.lt_size (hk₁ _ _ e)) (Nat.lt_irrefl _)
  obtain ⟨e, he⟩ := sortedHeap_at (vs := its.toList) (out := out) hoL
  refine R.freezeAt s.toks (fun b o hb' => ?_) hold he (dens.ints.mpr a1)
  have hb1 := hk₁ _ _ hb'
  have hlt : b < h₁.objs.size := Heap.lt_size hb1
  have := sortedHeap_old (h := h₁.push (seqObj "list" its.toList.toArray 0)) (a := h₁.objs.size) (b := b) (vs := its.toList) (out := out) (Nat.ne_of_lt hlt) (by rw [Heap.size_push]; exact Nat.lt_succ_of_lt hlt)
  exact this.trans (Heap.get?_push_of_some _ hb1)

theorem eqb_ne {l : List V} : (!V.eqb (.list l) (.list [])) = !l.isEmpty := by rw [eqb_nil]
theorem PT.isCons {e : Expr} {p pos : Pos} {ns : List Int} (he : PE w os n Ω sc ρ e (IL ns)) : PT w os n Ω sc ρ (.Compare e [.NotEq] [.List [] p] pos) (!ns.isEmpty) := by
  have := PT.cmp (pos := pos) he (PE.list (pos := p) PEs.nil) (Cmp.neK (.list .int) (hasK_IL ns) (hasK_IL []))
  rw [eqb_ne] at this
  cases ns <;> exact this
theorem nd_mem {needs : List (List Int)} {k : Nat} (hk : k < needs.length) : nd needs k ∈ needs := by
  unfold nd; simp [hk]
theorem furtherOf_length (needs : List (List Int)) (reached further : List Int) : (furtherOf needs reached further).length ≤ 8 :=
  few8 (furtherOf_nodup ..) fun _ h => (furtherOf_mem h).1
theorem PE.itemLL' {value slice : Expr} {pos : Pos} {ns : List (List Int)} {i : Int} (hx : PE w os n Ω sc ρ value (LL ns)) (hi : PE w os n Ω sc ρ slice (.int i)) (h0 : 0 ≤ i) (hl : i.toNat < ns.length) (hsz : ns.length ≤ 1000)
    (hs : ∀ o i, subscripted slice false o i = operate [o, i] (getItem o i) := by intro _ _; rfl) : PE w os n Ω sc ρ (.Subscript value slice pos) (IL (nd ns i.toNat)) := by
  refine PE.item hx hi (Itm.list h0 ?_ (by omega)) hs
  unfold nd
  simp [hl]
theorem reached_fn (needs : List (List Int)) (h8 : Eight needs) (k : Nat) (hk : k < 8) : Fn w os (n + 1) (.ref 212) [LL needs, .int k] (IL (sortI (reachedL needs k))) := by
  intro A B own s rs E hA T R d
  obtain ⟨r, r', rfl⟩ : ∃ r r', rs = [r, r'] := by
    obtain ⟨r, rs', rfl, d1, d2⟩ := dens_cons.mp d
    obtain ⟨r', rfl, d3⟩ := dens_one d2
    exact ⟨r, r', rfl⟩
  refine call_def (r := ⟨"_law_reached", fdef 22, .none, .none⟩) rfl ["needs", "k"] [LL needs, .int k] hA T R d (by decide) (fun doc pm cd ct nm => by rfl) (by decide) (by decide) rfl rfl rfl ?_
  intro env s₁ E' F hA' R₁
  have hkl : k < needs.length := by rw [h8.len]; exact hk
  refine wpAny_execs_cons (st_assign2 (v1 := .list []) (v2 := IL (nd needs k)) F hA' T R₁ (PE.tuple (PEs.cons (PE.list PEs.nil) (PEs.cons (PE.itemLL PE.var PE.var hkl (by rw [h8.len]; decide)) PEs.nil))) (.inl rfl) (by rfl) (by rfl) fun s₂ B₂ le₂ T₂ R₂ => ?_)
  refine wpAny_execs_cons (st_while (fun m B' ρ' R' => R' = own ∧ ∃ reached further, reachedGo needs m reached further = reachedL needs k ∧ missing reached < m ∧ reached.length + missing reached ≤ 8 ∧ further.Nodup ∧ (∀ x ∈ further, In8 x) ∧ (∀ x ∈ further, x ∉ reached) ∧
    ρ' = tab [("reached", IL reached), ("further", IL further), ("needs", LL needs)]) 9 T₂ (R₂.keep [("reached", IL []), ("further", IL (nd needs k)), ("needs", LL needs)] ⟨rfl, rfl, rfl, trivial⟩)
    ⟨rfl, [], nd needs k, rfl, by decide +kernel, by decide +kernel, h8.nodup _ (nd_mem hkl), h8.small _ (nd_mem hkl), by simp, rfl⟩ ?_)
  rintro m B₃ ρ₃ R₃ s₃ E₃ le₃ T₃ ⟨rfl, reached, further, hgo, hmiss, hlen, hnd, hin, hnot, rfl⟩ hR₃
  have hfl : further.length ≤ 8 := few8 hnd hin
  refine (PT.isCons (ns := further) PE.var).use (hA' _) T₃ F.ok F.sees0 hR₃ fun s₄ B₄ le₄ T₄ R₄ => ?_
  obtain ⟨f, rfl⟩ : ∃ f, m = f + 1 := ⟨m - 1, by omega⟩
  have hgo' := hgo
  unfold reachedGo at hgo'
  cases hfe : further.isEmpty with
  | true =>
    rw [hfe, if_pos rfl] at hgo'
    simp only [Bool.not_true, Bool.false_eq_true, if_false]
    refine wpAny_execs_nil (wpAny_execs_cons (wpAny_Return_some ?_))
    refine PE.use (v := IL (sortI (reachedL needs k))) (PE.callB (id := "sorted") PE.blt (PEs.cons (PE.var (v := IL reached)) PEs.nil) (by rw [← hgo']; exact Fn.sorted (.inl rfl) (by omega))) (hA' _) T₄ F.ok F.sees0 R₄ fun r s' B' l' T' R' d' => ?_
    exact ⟨B', ((le₂.trans le₃).trans le₄).trans l', R'.app, d'⟩
  | false =>
    rw [hfe, if_neg (by decide)] at hgo'
    simp only [Bool.not_false, if_true]
    have hmm := missing_many hnd hnot hin
    have hpos : 0 < further.length := by cases further with
      | nil => cases hfe
      | cons a l => simp
    refine wpAny_execs_cons (st_assign (v := IL (reached ++ further)) F hA' T₄ R₄ ?_ (by rfl) fun s₅ B₅ le₅ T₅ R₅ => ?_)
    · rw [show IL (reached ++ further) = .list (reached.map V.int ++ further.map V.int) by simp]
      exact PE.bin PE.var PE.var (Bin.addL (by simp; unfold sizeLine; omega))
    have R₆ := R₅.keep [("reached", IL (reached ++ further)), ("further", IL further), ("needs", LL needs)] ⟨rfl, rfl, rfl, trivial⟩
    refine wpAny_execs_cons (st_assign (v := IL (furtherOf needs (reached ++ further) further)) F hA' T₅ R₆ ?_ (by rfl) (fun s₆ B₆ le₆ T₆ R₆ => ?_) (swaps_cell F (by rfl)))
    · have e : IL (furtherOf needs (reached ++ further) further) = .list (((List.range 8).filter fun j : Nat => !has (reached ++ further) (j : Int) && !(further.filter fun one => has (nd needs one.toNat) (j : Int)).isEmpty).map fun j : Nat => V.int (j : Int)) := by
        unfold furtherOf IL; rw [List.map_map]; rfl
      rw [e]
      refine PE.comp (List.range 8) (fun i : Nat => V.int (i : Int)) _ _ (PI.range (N := 8) PE.blt PE.int (by decide)) (fun j hj => PTs.one ?_) (fun j hj _ => PE.var) (by decide) (by decide) (by rfl)
      refine PT.and (PT.cmp PE.var (PE.var (v := IL (reached ++ further))) Cmp.notInI) fun _ => PT.isCons ?_
      rw [← filterMap_IL]
      refine PE.comp further V.int _ _ (PI.list PE.var) (fun x hx => PTs.one ?_) (fun x hx _ => PE.var) (Nat.le_trans hfl (by decide)) (by decide) (by rfl)
      have h8x := hin x hx
      exact PT.cmp PE.var (PE.itemLL' PE.var PE.var h8x.1 (by rw [h8.len]; omega) (by rw [h8.len]; decide)) Cmp.inI
    · refine wpAny_execs_nil ⟨f, B₆, _, _, Nat.lt_succ_self f, ((le₃.trans le₄).trans le₅).trans le₆, ⟨rfl, _, _, hgo', ?_, ?_, furtherOf_nodup .., fun x hx => (furtherOf_mem hx).1, fun x hx => (furtherOf_mem hx).2, rfl⟩, R₆.keep [("reached", IL (reached ++ further)), ("further", IL (furtherOf needs (reached ++ further) further)), ("needs", LL needs)] ⟨rfl, rfl, rfl, trivial⟩⟩
      · omega
      · rw [List.length_append]; omega
end
end Mine

namespace Mine
section
variable {w : World} {os : OsState} {n : Nat}
/-- a call of a def: any way of binding, exceptions too -/
theorem code_gen {a : Addr} {r : FnRec} (hr : fTab.lookup a = some r) (ps : List Str) (vs : List V) {A : Around} {B : Bs} {own : List Item} {s : Shared} {pos : List Value} {kw : List (Str × Value)} {RR : Result → Shared → Prop}
    (hA : Rm (n + 1) A own) (T : TopB w B) (R : Rep w os B own s) (hps : ps.Nodup)
    (hbind : ∀ doc pm cd ct nm (E' : Value → Shared → Prop) (Q' : List (Str × Value) → Shared → Prop), (∀ s' B' rs, Le B B' → Rep w os B' own s' → dens w B' vs rs → Q' (ps.zip rs) s') →
      wpAny (model pg w) A.in1 (bindArgs (mkFd r.q (psOf r.st) (bodyOf r.st) (scOf r.st) r.df r.kd doc pm cd ct nm) ⟨pos, kw⟩) Q' E' s)
    (hvar : ∀ x ∈ ps, (scOf r.st).names.lookup x = some .local ∨ (scOf r.st).names.lookup x = some .cell) (hn : ((scOf r.st).names.map (·.1)).Nodup)
    (hk : (scOf r.st).kind = .function) (hco : (scOf r.st).isCoroutine = false) (hgen : (scOf r.st).isGenerator = false)
    (body : ∀ env s₁ B₁ E', E' = (fun e s' => wpAny (model pg w) (A.deeper env) (leaving env e) (fun _ s'' => RR (.error e) s'') (fun e' s'' => RR (.error e') s'') s') → Le B B₁ → TopB w B₁ → FnEnv env (scOf r.st) → RmE n (A.deeper env) env own → Rep w os B₁ (frameI env env.cells (parV ps vs) ++ own) s₁ →
      wpAny (model pg w) (A.deeper env) (execs (bodyOf r.st) env) (fun f s' => RR (.ok (.ret (retOf f))) s') E' s₁) :
    codeAny (model pg w) A (.call (.ref a) ⟨pos, kw⟩) RR s := by
  obtain ⟨doc, pm, cd, ct, nm, ⟨ho, c, o, xs, t, e1, e2, e3, e4⟩⟩ := T.fns a r hr
  refine codeAny_call_function (fd := mkFd r.q (psOf r.st) (bodyOf r.st) (scOf r.st) r.df r.kd doc pm cd ct nm) hA.depth (R.base _ _ ho) rfl hco hgen rfl ⟨c, o, xs, t, e1, R.base _ _ e2, e3, e4⟩ ?_
  refine hbind doc pm cd ct nm _ _ fun s' B' rs le R' d => ?_
  refine wpAny_newFunctionEnv_cells hk (fun x hx => ?_) fun env he s₁ X => ?_
  · have hx1 : x.1 ∈ ps := zip_names (List.mem_map.mpr ⟨x, hx, rfl⟩)
    rcases hvar x.1 hx1 with h | h
    · exact .inl h
    · refine .inr ⟨h, ?_⟩
      have := cellsFrom_has (scOf r.st).names (s'.heap.objs.size + 1) [] x.1 (.inl (mem_of_kinds h))
      obtain ⟨c, hc⟩ := lookup_of_key this
      show ((cellsFrom (s'.heap.objs.size + 1) (scOf r.st).names []).lookup x.1).isSome = true
      rw [hc]; rfl
  · subst he
    obtain ⟨F, R₁⟩ := call_frame (fd := mkFd r.q (psOf r.st) (bodyOf r.st) (scOf r.st) r.df r.kd doc pm cd ct nm) (a := a) R' hps d rfl rfl hk hn X
    exact ⟨((T.mono le).noLimit R').keeps X.toInCall.keep, codeAny_func (body _ s₁ B' _ rfl le (T.mono le) F (hA.deep F rfl) R₁)⟩
/-- a call of a def: any way of binding, exceptions too -/
theorem call_gen {a : Addr} {r : FnRec} (hr : fTab.lookup a = some r) (ps : List Str) (vs : List V) {A : Around} {B : Bs} {own : List Item} {s : Shared} {pos : List Value} {kw : List (Str × Value)} {E : Value → Shared → Prop} {Q : Value → Shared → Prop}
    (hA : Rm (n + 1) A own) (T : TopB w B) (R : Rep w os B own s) (hps : ps.Nodup)
    (hbind : ∀ doc pm cd ct nm (E' : Value → Shared → Prop) (Q' : List (Str × Value) → Shared → Prop), (∀ s' B' rs, Le B B' → Rep w os B' own s' → dens w B' vs rs → Q' (ps.zip rs) s') →
      wpAny (model pg w) A.in1 (bindArgs (mkFd r.q (psOf r.st) (bodyOf r.st) (scOf r.st) r.df r.kd doc pm cd ct nm) ⟨pos, kw⟩) Q' E' s)
    (hvar : ∀ x ∈ ps, (scOf r.st).names.lookup x = some .local ∨ (scOf r.st).names.lookup x = some .cell) (hn : ((scOf r.st).names.map (·.1)).Nodup)
    (hk : (scOf r.st).kind = .function) (hco : (scOf r.st).isCoroutine = false) (hgen : (scOf r.st).isGenerator = false)
    (body : ∀ env s₁ B₁ E', E' = (fun e s' => wpAny (model pg w) (A.deeper env) (leaving env e) (fun _ s'' => E e s'') E s') → Le B B₁ → TopB w B₁ → FnEnv env (scOf r.st) → RmE n (A.deeper env) env own → Rep w os B₁ (frameI env env.cells (parV ps vs) ++ own) s₁ →
      wpAny (model pg w) (A.deeper env) (execs (bodyOf r.st) env) (fun f s' => Q (retOf f) s') E' s₁) :
    wpAny (model pg w) A (call (.ref a) pos kw) Q E s :=
  wpAny_call (code_gen hr ps vs hA T R hps hbind hvar hn hk hco hgen body)
end
end Mine

namespace Mine
section
variable {w : World} {os : OsState} {n : Nat} {sc : Scope} {ρ : Str → Option V} {Ω : List Item} {A : Around} {env : Env} {B : Bs} {own R : List Item} {s : Shared} {E : Value → Shared → Prop}

theorem Tru.bool {b : Bool} : Tru w os n (.bool b) b := by
  intro A B own s r E hA T R d
  rw [den_bool.mp d]
  exact wpAny_truthy_bool ⟨B, Le.refl B, R, rfl⟩
theorem Fn.type {v : V} {T' : String} (h : ∀ B s r, (∀ own, Rep w os B own s → den w B v r → s.TypeIs r T')) (hnb : (Value.type T' == Value.type "builtin_function_or_method") = false) : Fn w os n (.type "type") [v] (.exact (.type T')) := by
  intro A B own s rs E hA T R d
  obtain ⟨r, rfl, d1⟩ := dens_one d
  exact call_type_of (h B s r own R d1) hnb (.now R (den_exact.mpr rfl))
theorem Cmp.isP {x y : Value} (hp : plainIs x y = true) : Cmp w os n .Is (.exact x) (.exact y) (.bool (x == y)) := by
  intro A B own s r r' E hA T R d d'
  rw [den_exact.mp d, den_exact.mp d']
  exact wpAny_is_plain hp (.now R (den_bool.mpr rfl))
theorem Bin.shl {a b : Int} (h0 : 0 ≤ b) (hs : (Builtin.Int.intBits a : Int) + b ≤ 2 ^ 27) : Bin w os n .LShift (.int a) (.int b) (.int (a * 2 ^ b.toNat)) := by
  intro A B own s r r' E hA T R d d'
  obtain ⟨t, rfl⟩ := den_int.mp d; obtain ⟨u, rfl⟩ := den_int.mp d'
  exact lshift_int h0 hs (.now (R.toks _) (den_int.mpr ⟨_, rfl⟩))
theorem Bin.shr {a b : Int} (h0 : 0 ≤ b) : Bin w os n .RShift (.int a) (.int b) (.int (a.fdiv (2 ^ b.toNat))) := by
  intro A B own s r r' E hA T R d d'
  obtain ⟨t, rfl⟩ := den_int.mp d; obtain ⟨u, rfl⟩ := den_int.mp d'
  exact rshift_int h0 (.now (R.toks _) (den_int.mpr ⟨_, rfl⟩))

theorem buffer_fn (b : Array UInt8) : Fn w os (n + 1) (.ref 148) [.bytes b] (.bytes b) := by
  intro A B own s rs E hA T R d
  obtain ⟨r, rfl, d1⟩ := dens_one d
  refine call_def (r := ⟨"_buffer", fdef 8, .none, .none⟩) rfl ["data"] [.bytes b] hA T R d (by decide) (fun doc pm cd ct nm => by rfl) (by decide) (by decide) rfl rfl rfl ?_
  intro env s₁ E' F hA' R₁
  refine wpAny_execs_cons (st_assign (v := .exact (.type "bytes")) F hA' T R₁ (PE.callT (id := "type") PE.blt (PEs.cons PE.var PEs.nil) (Fn.type (v := .bytes b) (T' := "bytes") (fun B s r own R d => by obtain ⟨t, rfl⟩ := den_bytes.mp d; exact typeIs_bytes s b t) (by decide))) (by rfl) fun s₂ B₂ le₂ T₂ R₂ => ?_)
  refine wpAny_execs_cons (st_if (b := true) F hA' T₂ R₂ (PT.cmp PE.var (PE.blt (v := .type "bytes")) (Cmp.isP rfl)) fun s₃ B₃ le₃ T₃ R₃ => ?_)
  refine wpAny_execs_cons (st_return (v := .bytes b) F hA' T₃ R₃ PE.var fun r s₄ B₄ le₄ T₄ R₄ d₄ => ?_)
  exact ⟨B₄, (le₂.trans le₃).trans le₄, R₄.app, d₄⟩
theorem PT.or2 {x y : Expr} {rest : List Expr} {pos : Pos} (hx : PT w os n Ω sc ρ x false) (hy : PT w os n Ω sc ρ y true) : PT w os n Ω sc ρ (.BoolOp .Or (x :: y :: rest) pos) true := by
  intro A env B own s E hA T ek sees R
  refine wpAny_isTrue_BoolOp (wpAny_allTrue_Or_cons (hx.use hA T ek sees R fun s₁ B₁ l₁ T₁ R₁ => ?_))
  exact wpAny_allTrue_Or_cons (hy.use hA T₁ ek sees R₁ fun s₂ B₂ l₂ T₂ R₂ => ⟨B₂, l₁.trans l₂, R₂, rfl⟩)
theorem truth_fn : Fn w os (n + 1) (.ref 155) [.bool false] (.bool false) := by
  intro A B own s rs E hA T R d
  obtain ⟨r, rfl, d1⟩ := dens_one d
  refine call_def (r := ⟨"_truth", fdef 9, .none, .none⟩) rfl ["x"] [.bool false] hA T R d (by decide) (fun doc pm cd ct nm => by rfl) (by decide) (by decide) rfl rfl rfl ?_
  intro env s₁ E' F hA' R₁
  refine wpAny_execs_cons (st_assign (v := .exact (.type "bool")) F hA' T R₁ (PE.callT (id := "type") PE.blt (PEs.cons PE.var PEs.nil) (Fn.type (v := .bool false) (T' := "bool") (fun B s r own R d => by rw [den_bool.mp d]; rfl) (by decide))) (by rfl) fun s₂ B₂ le₂ T₂ R₂ => ?_)
  refine wpAny_execs_cons (st_if (b := true) F hA' T₂ R₂ (PT.or2 (PT.cmp (x := .bool false) (y := .none) PE.var PE.none ?_) (PT.cmp PE.var (PE.blt (v := .type "bool")) (Cmp.isP rfl))) fun s₃ B₃ le₃ T₃ R₃ => ?_)
  · intro A B own s r r' E hA T R d d'
    rw [den_bool.mp d, den_none.mp d']
    exact wpAny_is_plain rfl (.now R (den_bool.mpr rfl))
  · refine wpAny_execs_cons (st_return (v := .bool false) F hA' T₃ R₃ (PE.ite (b := false) (PT.val PE.var Tru.bool) (fun h => nomatch h) fun _ => PE.bool) fun r s₄ B₄ le₄ T₄ R₄ d₄ => ?_)
    exact ⟨B₄, (le₂.trans le₃).trans le₄, R₄.app, d₄⟩

-- bytes as a thing to loop over
def bytIt (I : Addr) (b : Array UInt8) (t : Tok) (i : Nat) : Item := satItem I fun o => o.cls = .type "bytes_iterator" ∧ o.data = .fields #[.bytes b t, .int i 0]
theorem Iter.bytes {B : Bs} {I : Addr} {b : Array UInt8} {t : Tok} : Iter w os B I (b.toList.map fun c => V.int (c.toNat : Int)) (bytIt I b t) where
  addr := fun _ => rfl
  next := by
    intro i x A B' own s Q E hx hh le R k
    obtain ⟨o, ho, hc, hd⟩ := R.has (bytIt I b t i) (by simp)
    obtain ⟨c, hc', rfl⟩ : ∃ c, b[i]? = some c ∧ x = V.int (c.toNat : Int) := by
      rw [List.getElem?_map] at hx
      cases e : b.toList[i]? with
      | none => rw [e] at hx; cases hx
      | some c => rw [e] at hx; exact ⟨c, by simpa using e, (Option.some.inj hx).symm⟩
    refine KBw.next_item ⟨o, ho, hc, hd⟩ hc' fun h' hit hs => k _ _ (den_int.mpr ⟨_, rfl⟩) ?_
    obtain ⟨o', ho', hc2, hd2⟩ := hit
    exact R.write0 _ (fun b o hb e => hs.extBut b o hb e) rfl ho' ⟨hc2, hd2⟩
  done := by
    intro A B' own s Q E hh le R k
    obtain ⟨o, ho, hc, hd⟩ := R.has (bytIt I b t (b.toList.map fun c => V.int (c.toNat : Int)).length) (by simp)
    refine KBw.next_end hh ⟨o, ho, hc, hd⟩ (by simp) fun h' he => k _ ?_
    exact R.drop0 s.toks (fun b o hb e => he b o hb e)
  self := by
    intro i A B' own s Q E R h
    obtain ⟨o, ho, hc, hd⟩ := R.has (bytIt I b t i) (by simp)
    exact KBw.pyIter_self ⟨o, ho, hc, hd⟩ h
  quiet := by
    intro i A B' own s Q E es k p v R h
    obtain ⟨o, ho, hc, hd⟩ := R.has (bytIt I b t i) (by simp)
    exact quiet_of ho hc hd (by decide) es k p v h
theorem PI.bytes {e : Expr} {b : Array UInt8} (h : PE w os n Ω sc ρ e (.bytes b)) : PI w os n Ω sc ρ e (b.toList.map fun c => V.int (c.toNat : Int)) := by
  intro A env B own s E Q hA T ek sees R k
  refine h.use hA T ek sees R fun r s₁ B₁ l₁ T₁ R₁ d₁ => ?_
  obtain ⟨t, rfl⟩ := den_bytes.mp d₁
  refine KBw.pyIter_bytes (k _ B₁ _ (bytIt _ b t) l₁ Iter.bytes ?_)
  exact R₁.new (bytIt s₁.heap.objs.size b t 0) s₁.toks (fun b o e => Heap.get?_push_of_some _ e) (get?_size _) (Heap.get?_push_size _ rfl) ⟨rfl, rfl⟩
end
end Mine

namespace Mine
def sign (i : Int) : Int := ((abcd.getD i.toNat 0).toNat : Int)
def b64 (o : Int) : V := .bytes (byteArr [sign (o.fdiv 4), sign (o.fmod 4 * 16), 61, 61])
theorem sign_in (k : Fin 64) : 0 ≤ sign k ∧ sign k < 256 := by
  have := (abcd.getD ((k : Nat) : Int).toNat 0).toNat_lt
  unfold sign; omega
theorem ops1 : ∀ k : Fin 256, Builtin.bitAnd (Builtin.bitOr (0 * 2 ^ (8 : Int).toNat) (k : Nat)) 65535 = ((k : Nat) : Int) := by decide +kernel
theorem ops2 : ∀ k : Fin 256, Builtin.bitAnd (((k : Nat) : Int).fdiv (2 ^ (8 - 6 : Int).toNat)) 63 = ((k : Nat) : Int).fdiv 4 := by decide +kernel
theorem ops3 : ∀ k : Fin 256, Builtin.bitAnd ((k : Nat) : Int) 3 = ((k : Nat) : Int).fmod 4 := by decide +kernel
theorem ops4 : ∀ k : Fin 256, (0 ≤ ((k : Nat) : Int).fdiv 4 ∧ ((k : Nat) : Int).fdiv 4 < 64) ∧ (0 ≤ ((k : Nat) : Int).fmod 4 ∧ ((k : Nat) : Int).fmod 4 < 4) := by decide +kernel
theorem ops5 : ∀ k : Fin 4, (Builtin.Int.intBits ((k : Nat) : Int) : Int) + 4 ≤ 2 ^ 27 := by decide +kernel
section
variable {w : World} {os : OsState} {n : Nat} {sc : Scope} {ρ : Str → Option V} {Ω : List Item} {A : Around} {env : Env} {B : Bs} {own R : List Item} {s : Shared} {E : Value → Shared → Prop}
theorem PE.sign {e : Expr} {p pos : Pos} {i : Int} (hi : PE w os n Ω sc ρ e (.int i)) (h0 : 0 ≤ i) (h1 : i < 64) (hk : sc.names.lookup (Str.ofString "_B64") = some .globalImplicit := by rfl)
    (hs : ∀ o i, subscripted e false o i = operate [o, i] (getItem o i) := by intro _ _; rfl) : PE w os n Ω sc ρ (.Subscript (.Name (Str.ofString "_B64") p) e pos) (.int (sign i)) :=
  PE.item (PE.glob (v := .bytes abcd.toArray) rfl hk) hi (Itm.bytes h0 (by have : abcd.length = 64 := by decide
                                                                           omega) (by decide)) hs
theorem PE.cast {e : Expr} {v v' : V} (h : PE w os n Ω sc ρ e v) (e' : v = v') : PE w os n Ω sc ρ e v' := e' ▸ h
theorem PI.cast {e : Expr} {v v' : List V} (h : PI w os n Ω sc ρ e v) (e' : v = v') : PI w os n Ω sc ρ e v' := e' ▸ h
abbrev bTab (o : Int) (D : Addr) (bits char : Int) : List (Str × V) := [("bin_data", .bytes (byteArr [o])), ("newline", .bool false), ("out", .exact (.ref D)), ("leftbits", .int bits), ("leftchar", .int char)]
theorem byteArr_one {k : Fin 256} : (byteArr [((k : Nat) : Int)]).toList.map (fun c => V.int (c.toNat : Int)) = [V.int ((k : Nat) : Int)] := by
  unfold byteArr
  simp
theorem b2a_call (k : Fin 256) {A : Around} {B : Bs} {own : List Item} {s : Shared} {r : Value} {E : Value → Shared → Prop} (hA : Rm (n + 2) A own) (T : TopB w B) (R : Rep w os B own s) (d : den w B (.bytes (byteArr [((k : Nat) : Int)])) r) :
    wpAny (model pg w) A (call (.ref 163) [r] [("newline", .bool false)]) (Post w os B own (b64 (k : Nat))) E s := by
  refine call_gen (n := n + 1) (r := ⟨"b2a_base64", fdef 11, .none, .ref 156⟩) rfl ["data", "newline"] [.bytes (byteArr [((k : Nat) : Int)]), .bool false] hA T R (by decide) (fun doc pm cd ct nm E' Q' hq => ?_) (by decide) (by decide) rfl rfl rfl ?_
  · have : bindArgs (mkFd "b2a_base64" (psOf (fdef 11)) (bodyOf (fdef 11)) (scOf (fdef 11)) .none (.ref 156) doc pm cd ct nm) ⟨[r], [("newline", .bool false)]⟩ = pure ([(("data" : Str), r), ("newline", .bool false)]) := by rfl
    refine wpAny_of_eq this (hq s B [r, .bool false] (Le.refl B) R (dens_cons.mpr ⟨_, _, rfl, d, dens_cons.mpr ⟨_, _, rfl, den_bool.mpr rfl, dens_nil.mpr rfl⟩⟩))
  intro env s₁ B₁ E' hE le₁ T₁ F hA' R₁
  refine wpAny_execs_cons (st_assign (v := .bytes (byteArr [((k : Nat) : Int)])) F hA' T₁ R₁ (PE.callD (a := 148) rfl rfl rfl (PEs.cons PE.var PEs.nil) (buffer_fn _)) (by rfl) fun s₂ B₂ le₂ T₂ R₂ => ?_)
  refine wpAny_execs_cons (st_assign (v := .bool false) F hA' T₂ R₂ (PE.callD (a := 155) rfl rfl rfl (PEs.cons PE.var PEs.nil) truth_fn) (by rfl) fun s₃ B₃ le₃ T₃ R₃ => ?_)
  refine wpAny_execs_cons (st_newList F R₃ (by rfl) fun s₄ D R₄ => ?_)
  refine wpAny_execs_cons (st_assign (v := .int 0) F hA'.add T₃ R₄ PE.int (by rfl) fun s₅ B₅ le₅ T₅ R₅ => ?_)
  refine wpAny_execs_cons (st_assign (v := .int 0) F hA'.add T₅ R₅ PE.int (by rfl) fun s₆ B₆ le₆ T₆ R₆ => ?_)
  have R₇ := R₆.keep (bTab (k : Nat) D 0 0) ⟨rfl, rfl, rfl, rfl, rfl, trivial⟩
  have le6 : Le B B₆ := (((le₁.trans le₂).trans le₃).trans le₅).trans le₆
  obtain ⟨⟨q1, q2⟩, q3, q4⟩ := ops4 k
  refine wpAny_execs_cons (st_for [((k : Nat) : Int)] V.int (fun i B' ρ' R' => if i = 0 then ρ' = tab (bTab (k : Nat) D 0 0) ∧ R' = lstItem D [] :: own else ρ' = tab (bTab (k : Nat) D 2 (k : Nat)) ∧ R' = lstItem D [.int (sign (((k : Nat) : Int).fdiv 4))] :: own) F hA'.add T₆ R₇
    (PI.cast (PI.bytes (b := byteArr [((k : Nat) : Int)]) PE.var) byteArr_one) (by rfl) (fun B' _ => ⟨rfl, rfl⟩) ?_ ?_)
  · rintro i x B' ρ' R' J s' E'' hE hx le T' hinv hR
    obtain rfl : i = 0 := by
      cases i with
      | zero => rfl
      | succ i => simp at hx
    obtain rfl : x = ((k : Nat) : Int) := by simp at hx; exact hx.symm
    rw [if_pos rfl] at hinv
    obtain ⟨rfl, rfl⟩ := hinv
    refine wpAny_execs_cons (st_assign (v := .int (k : Nat)) F hA'.add.add T' hR (PE.cast (PE.bin (PE.bin (PE.bin PE.var PE.int (Bin.shl (by decide) (by decide +kernel))) PE.var Bin.bor) PE.int Bin.band) (by rw [ops1])) (by rfl) fun s₇ B₇ le₇ T₇ R₇ => ?_)
    refine wpAny_execs_cons (st_assign (v := .int 8) F hA'.add.add T₇ R₇ (PE.bin PE.var PE.int Bin.add) (by rfl) fun s₈ B₈ le₈ T₈ R₈ => ?_)
    refine wpAny_execs_cons (st_while (fun m B' ρ' R' => if m = 1 then ρ' = tab (bTab (k : Nat) D 8 (k : Nat)) ∧ R' = J :: lstItem D [] :: own else m = 0 ∧ ρ' = tab (bTab (k : Nat) D 2 (k : Nat)) ∧ R' = J :: lstItem D [.int (sign (((k : Nat) : Int).fdiv 4))] :: own) 1 T₈ (R₈.keep (bTab (k : Nat) D 8 (k : Nat)) ⟨rfl, rfl, rfl, rfl, rfl, trivial⟩) ⟨rfl, rfl⟩ ?_)
    rintro m B₉ ρ₉ R₉ s₉ E₉ le₉ T₉ hinv hR₉
    by_cases hm : m = 1
    · subst hm
      rw [if_pos rfl] at hinv
      obtain ⟨rfl, rfl⟩ := hinv
      refine (PT.cmp (b := true) (PE.var (v := .int 8)) PE.int Cmp.ge).use (hA'.add.add _) T₉ F.ok F.sees0 hR₉ fun s₁₀ B₁₀ le₁₀ T₁₀ R₁₀ => ?_
      rw [if_pos rfl]
      refine wpAny_execs_cons (st_append (D := D) (ys := []) (v := .int (sign (((k : Nat) : Int).fdiv 4))) (pre := [J]) (post := own) F hA'.add.add T₁₀ R₁₀ (by rfl) (by rfl) (by rfl)
        (PE.sign (PE.cast (PE.bin (PE.bin PE.var (PE.bin PE.var PE.int Bin.sub) (Bin.shr (by decide))) PE.int Bin.band) (by rw [ops2])) q1 q2) (by decide) fun s₁₁ B₁₁ le₁₁ T₁₁ R₁₁ => ?_)
      refine wpAny_execs_cons (st_assign (v := .int 2) F hA'.add.add T₁₁ R₁₁ (PE.bin PE.var PE.int Bin.sub) (by rfl) fun s₁₂ B₁₂ le₁₂ T₁₂ R₁₂ => ?_)
      refine wpAny_execs_nil ⟨0, B₁₂, _, _, by decide, ((le₉.trans le₁₀).trans le₁₁).trans le₁₂, ⟨rfl, rfl, rfl⟩, R₁₂.keep (bTab (k : Nat) D 2 (k : Nat)) ⟨rfl, rfl, rfl, rfl, rfl, trivial⟩⟩
    · rw [if_neg hm] at hinv
      obtain ⟨rfl, rfl, rfl⟩ := hinv
      refine (PT.cmp (b := false) (PE.var (v := .int 2)) PE.int Cmp.ge).use (hA'.add.add _) T₉ F.ok F.sees0 hR₉ fun s₁₀ B₁₀ le₁₀ T₁₀ R₁₀ => ?_
      rw [if_neg (by decide)]
      exact wpAny_execs_nil (wpAny_execs_nil ⟨B₁₀, _, _, ((le₇.trans le₈).trans le₉).trans le₁₀, ⟨rfl, rfl⟩, R₁₀⟩)
  · rintro B' ρ' R' s' le T' hinv hR
    rw [if_neg (by simp)] at hinv
    obtain ⟨rfl, rfl⟩ := hinv
    refine wpAny_execs_cons (st_if (b := true) F hA'.add T' hR (PT.cmp (PE.var (v := .int 2)) PE.int Cmp.eqI) fun s₇ B₇ le₇ T₇ R₇ => ?_)
    refine wpAny_execs_cons (st_append (D := D) (ys := [_]) (v := .int (sign (((k : Nat) : Int).fmod 4 * 16))) (pre := []) (post := own) F hA'.add T₇ R₇ (by rfl) (by rfl) (by rfl)
      (PE.sign (PE.cast (PE.bin (PE.bin PE.var PE.int Bin.band) PE.int (Bin.shl (by decide) (by
        rw [ops3]
        have := ops5 ⟨(((k : Nat) : Int).fmod 4).toNat, by omega⟩
        rw [show ((((⟨(((k : Nat) : Int).fmod 4).toNat, by omega⟩ : Fin 4) : Nat)) : Int) = ((k : Nat) : Int).fmod 4 by show (((((k : Nat) : Int).fmod 4).toNat : Nat) : Int) = _; omega] at this
        exact this))) (by rw [ops3]; rfl)) (by omega) (by omega)) (Nat.le_of_ble_eq_true rfl) fun s₈ B₈ le₈ T₈ R₈ => ?_)
    refine wpAny_execs_cons (st_append (D := D) (ys := [_, _]) (v := .int 61) (pre := []) (post := own) F hA'.add T₈ R₈ (by rfl) (by rfl) (by rfl) PE.int (Nat.le_of_ble_eq_true rfl) fun s₉ B₉ le₉ T₉ R₉ => ?_)
    refine wpAny_execs_cons (st_append (D := D) (ys := [_, _, _]) (v := .int 61) (pre := []) (post := own) F hA'.add T₉ R₉ (by rfl) (by rfl) (by rfl) PE.int (Nat.le_of_ble_eq_true rfl) fun s₁₀ B₁₀ le₁₀ T₁₀ R₁₀ => ?_)
    refine wpAny_execs_nil (wpAny_execs_cons (st_if (b := false) F hA'.add T₁₀ R₁₀ (PT.val PE.var Tru.bool) fun s₁₁ B₁₁ le₁₁ T₁₁ R₁₁ => ?_))
    refine wpAny_execs_nil (wpAny_execs_cons (wpAny_Return_some ?_))
    refine wpAny_Call_NameR (PE.use (v := .exact (.type "bytes")) PE.blt (hA'.add _) T₁₁ F.ok F.sees0 R₁₁ fun r s₁₂ B₁₂ le₁₂ T₁₂ R₁₂ d₁₂ => ?_)
    rw [den_exact.mp d₁₂]
    refine PyProof.Rows.callWith_type1 (args_cons (PE.use (v := .exact (.ref D)) PE.var (hA'.add _) T₁₂ F.ok F.sees0 R₁₂ fun r s₁₃ B₁₃ le₁₃ T₁₃ R₁₃ d₁₃ => args_nil ?_) rfl) rfl rfl
    rw [den_exact.mp d₁₃]
    obtain ⟨o, ho, its, m, rfl, ds⟩ := R₁₃.has (lstItem D ([.int (sign (((k : Nat) : Int).fdiv 4)), .int (sign (((k : Nat) : Int).fmod 4 * 16)), .int 61, .int 61])) (by simp)
    refine call_bytes_ints (vs := its.toList) (ns := [sign (((k : Nat) : Int).fdiv 4), sign (((k : Nat) : Int).fmod 4 * 16), 61, 61]) ⟨_, ho, rfl, m, rfl⟩ (dens.ints.mp ds) ?_ (by rw [ds.length]; exact Nat.le_of_ble_eq_true rfl) (hA' noV).handled fun h' t kk hk => ?_
    · intro x hx
      simp only [List.mem_cons, List.not_mem_nil, or_false] at hx
      have s1 := sign_in ⟨(((k : Nat) : Int).fdiv 4).toNat, by omega⟩
      have s2 := sign_in ⟨(((k : Nat) : Int).fmod 4 * 16).toNat, by omega⟩
      rw [show ((((⟨(((k : Nat) : Int).fdiv 4).toNat, by omega⟩ : Fin 64) : Nat)) : Int) = ((k : Nat) : Int).fdiv 4 by show (((((k : Nat) : Int).fdiv 4).toNat : Nat) : Int) = _; omega] at s1
      rw [show ((((⟨(((k : Nat) : Int).fmod 4 * 16).toNat, by omega⟩ : Fin 64) : Nat)) : Int) = ((k : Nat) : Int).fmod 4 * 16 by show (((((k : Nat) : Int).fmod 4 * 16).toNat : Nat) : Int) = _; omega] at s2
      rcases hx with rfl | rfl | rfl | rfl
      · exact s1
      · exact s2
      · decide
      · decide
    · exact ⟨B₁₃, ((((((le6.trans le).trans le₇).trans le₈).trans le₉).trans le₁₀).trans le₁₁).trans (le₁₂.trans le₁₃), (R₁₃.app.tail).grow kk hk, den_bytes.mpr ⟨_, rfl⟩⟩

theorem b64_fn (k : Fin 256) : Fn w os (n + 3) (.ref 171) [.bytes (byteArr [((k : Nat) : Int)])] (b64 (k : Nat)) := by
  intro A B own s rs E hA T R d
  obtain ⟨r, rfl, d1⟩ := dens_one d
  refine call_gen (n := n + 2) (r := ⟨"b64encode", fdef 13, .ref 164, .none⟩) rfl ["s", "altchars"] [.bytes (byteArr [((k : Nat) : Int)]), .none] hA T R (by decide) (fun doc pm cd ct nm E' Q' hq => ?_) (by decide) (by decide) rfl rfl rfl ?_
  · obtain ⟨o, kk, ho, hd⟩ := T.dfl 164 (.inr rfl)
    refine BindsTo.of_defaults (binds := [(("s" : Str), r), ("altchars", .none)]) (T := 164) rfl (R.base _ _ ho) hd rfl rfl _ _ _ _ ?_
    exact hq s B [r, .none] (Le.refl B) R (dens_cons.mpr ⟨_, _, rfl, d1, dens_cons.mpr ⟨_, _, rfl, den_none.mpr rfl, dens_nil.mpr rfl⟩⟩)
  intro env s₁ B₁ E' hE le₁ T₁ F hA' R₁
  have hcall : PE w os (n + 2) [] (scOf (fdef 13)) (parV ["s", "altchars"] [.bytes (byteArr [((k : Nat) : Int)]), .none]) (match (bodyOf (fdef 13)) with | .Assign _ e _ :: _ => e | _ => default) (b64 (k : Nat)) := by
    intro A env B own s E hA T ek sees R
    refine wpAny_Call_Name_kw (PE.use (v := .exact (.ref 163)) (PE.glob rfl rfl) hA T ek sees R fun f s₁ B₁ l₁ T₁ R₁ d₁ => ?_)
    rw [den_exact.mp d₁]
    obtain ⟨doc, pm, cd, ct, nm, ⟨hfd, _⟩⟩ := T₁.fns 163 ⟨"b2a_base64", fdef 11, .none, .ref 156⟩ rfl
    refine callWith_function_kw (o := { cls := .type "function", data := .func (mkFd "b2a_base64" (psOf (fdef 11)) (bodyOf (fdef 11)) (scOf (fdef 11)) .none (.ref 156) doc pm cd ct nm) }) (fd := mkFd "b2a_base64" (psOf (fdef 11)) (bodyOf (fdef 11)) (scOf (fdef 11)) .none (.ref 156) doc pm cd ct nm) (evalArgs_kw rfl (args_cons (PE.use (v := .bytes (byteArr [((k : Nat) : Int)])) PE.var hA T₁ ek sees R₁ fun r s₂ B₂ l₂ T₂ R₂ d₂ => args_nil ?_) rfl))
    refine wpAny_evalAll_cons (wpAny_bind (wpAny_Constant_bool (wpAny_bind (wpAny_standAt (wpAny_pure (wpAny_evalAll_nil ?_))))))
    refine ⟨⟨R₂.base _ _ (l₂ _ _ hfd), rfl⟩, ?_⟩
    exact wpAny_mono (b2a_call k hA T₂ R₂ d₂) (fun _ _ p => p.trans (l₁.trans l₂)) fun _ _ e => e
  refine wpAny_execs_cons (st_assign (v := b64 (k : Nat)) F hA' T₁ R₁ hcall (by rfl) fun s₂ B₂ le₂ T₂ R₂ => ?_)
  refine wpAny_execs_cons (st_if (b := false) F hA' T₂ R₂ (PT.cmp (x := .none) (y := .none) PE.var PE.none ?_) fun s₃ B₃ le₃ T₃ R₃ => ?_)
  · intro A B own s r r' E hA T R d d'
    rw [den_none.mp d, den_none.mp d']
    exact wpAny_isNot_plain rfl (.now R (den_bool.mpr rfl))
  · refine wpAny_execs_nil (wpAny_execs_cons (st_return (v := b64 (k : Nat)) F hA' T₃ R₃ PE.var fun r s₄ B₄ le₄ T₄ R₄ d₄ => ?_))
    exact ⟨B₄, ((le₁.trans le₂).trans le₃).trans le₄, R₄.app, d₄⟩
end
end Mine

namespace Mine
/-- a table with one name set -/
def setL : List (Str × V) → Str → V → List (Str × V)
  | [], x, v => [(x, v)]
  | (y, u) :: l, x, v => if y = x then (x, v) :: l else (y, u) :: setL l x v
theorem lookup_setL : ∀ {l : List (Str × V)} {x y : Str} {v : V}, (setL l x v).lookup y = if y = x then some v else l.lookup y
  | [], x, y, v => by
    unfold setL
    rw [List.lookup_cons]
    by_cases e : y = x
    · subst e; simp
    · have : (y == x) = false := by simpa using e
      rw [this, if_neg e]
  | (z, u) :: l, x, y, v => by
    unfold setL
    by_cases hz : z = x
    · subst hz
      rw [if_pos rfl, List.lookup_cons, List.lookup_cons]
      by_cases e : y = z
      · subst e; simp
      · have : (y == z) = false := by simpa using e
        rw [this, if_neg e]
    · rw [if_neg hz, List.lookup_cons, List.lookup_cons]
      by_cases e : y = z
      · subst e
        rw [if_neg hz]; simp
      · have : (y == z) = false := by simpa using e
        rw [this, lookup_setL]
def V.shown : V → Bool
  | .exact (.builtin _) => false
  | _ => true
theorem handed {w : World} {B : Bs} {v : V} {r : Value} (h : v.shown = true) (d : den w B v r) : handedOut r = pure r := by
  cases v with
  | none => rw [den_none.mp d]; rfl
  | bool b => rw [den_bool.mp d]; rfl
  | int i => obtain ⟨t, rfl⟩ := den_int.mp d; rfl
  | bytes b => obtain ⟨t, rfl⟩ := den_bytes.mp d; rfl
  | list xs => obtain ⟨a, _, _, rfl, _⟩ := den_list.mp d; rfl
  | tuple xs => obtain ⟨a, _, _, rfl, _⟩ := den_tuple.mp d; rfl
  | dict ks vs => obtain ⟨a, _, _, rfl, _⟩ := den_dict.mp d; rfl
  | exact v =>
    rw [den_exact.mp d]
    cases v <;> first | rfl | cases h

/-- a sorter: the object; its own names -/
def soItem (x dx : Addr) : Item := satItem x fun o => o.cls = .ref 137 ∧ o.dict = some dx ∧ ∀ c, o.data ≠ .cls c
def adItem (dx : Addr) (l : List (Str × V)) : Item where
  addr := dx
  P := fun w B o => o.cls = .type "dict" ∧ o.dict = Option.none ∧ ∃ es ep, o.data = .dict es ep ∧ StrKeys es ∧ UniqKeys es ∧ (∀ x v, l.lookup x = some v → ∃ r, nsFind es x = some r ∧ den w B v r) ∧ ∀ x, l.lookup x = Option.none → nsFind es x = Option.none
  mono := fun h ⟨a, b, es, ep, c, d, e, f, g⟩ => ⟨a, b, es, ep, c, d, e, fun x v hx => let ⟨r, e1, e2⟩ := f x v hx; ⟨r, e1, den.mono h v e2⟩, g⟩
section
variable {w : World} {os : OsState} {n : Nat} {sc : Scope} {ρ : Str → Option V} {Ω : List Item} {A : Around} {env : Env} {B : Bs} {own R : List Item} {s : Shared} {E : Value → Shared → Prop}

theorem so_inst {x dx : Addr} {l : List (Str × V)} (R : Rep w os B own s) (h1 : soItem x dx ∈ own) (h2 : adItem dx l ∈ own) :
    ∃ mA, s.heap.InstFk x 137 mA ∧ dx ≠ x ∧ (∀ y v, l.lookup y = some v → ∃ r, mA y = some r ∧ den w B v r) ∧ ∀ y, l.lookup y = Option.none → mA y = Option.none := by
  obtain ⟨o, ho, c1, c2, c3⟩ := R.has _ h1
  obtain ⟨o', ho', d1, d2, es, ep, d3, d4, d5, d6, d7⟩ := R.has _ h2
  have hne : dx ≠ x := by
    intro e
    have e1 : s.heap.get? x = some o := ho
    have e2 : s.heap.get? dx = some o' := ho'
    rw [e, e1] at e2
    cases e2
    rw [c1] at d1; cases d1
  exact ⟨nsFind es, ⟨o, ho, c1, c3, .inr ⟨dx, c2, hne, ⟨o', es, ep, ho', d3, d4, d5, fun _ => rfl⟩, ⟨o', ho', d1, d2⟩⟩⟩, hne, d6, d7⟩
theorem ts_ns (T : TopB w B) (R : Rep w os B own s) : ∃ mN, s.heap.Ns 136 mN ∧ (∀ x v, tsTab.lookup x = some v → mN x = some v) ∧ ∀ x, x ∈ tsNo → mN x = Option.none := by
  obtain ⟨o, es, ep, e, d, k, f, g⟩ := T.tsNs
  exact ⟨nsFind es, ⟨o, es, ep, R.base _ _ e, d, k, fun _ => rfl⟩, f, g⟩

/-- self.name -/
theorem so_get {x dx : Addr} {l : List (Str × V)} {name : Str} {v : V} {expr : Bool} {Q : Value → Shared → Prop} (T : TopB w B) (R : Rep w os B own s) (h1 : soItem x dx ∈ own) (h2 : adItem dx l ∈ own) (hl : l.lookup name = some v) (hs : v.shown = true) (hno : name ∈ tsNo)
    (hB : typeLookup (.type "object") name = pure Option.none) (k : ∀ r s', Rep w os B own s' → den w B v r → Q r s') : wpAny (model pg w) A (getAttr (.ref x) name expr) Q E s := by
  obtain ⟨mA, I, _, f, _⟩ := so_inst R h1 h2
  obtain ⟨mN, hn, _, g⟩ := ts_ns T R
  obtain ⟨a1, a2, a3, a4, a5, a6, a7, a8, a9, b1, b2, b3, e⟩ := T.ts
  obtain ⟨r, hr, d⟩ := f name v hl
  obtain ⟨hh, gg, dd, t, os'⟩ := s
  exact load_attrFk (R.base _ _ e) hn (g _ (by decide)) (g _ hno) hB I hr (handed hs d) (k r _ (R.toks (t + 1)) d)
theorem Rep.change {own own' : List Item} {h' : Heap} (R : Rep w os B own s) (tk : Nat) (ha : own'.map Item.addr = own.map Item.addr) (hb : ∀ a o, B a = some o → h'.get? a = some o) (hi : ∀ i ∈ own', ∃ o, h'.get? i.addr = some o ∧ i.P w B o) :
    Rep w os B own' { s with heap := h', toks := tk } := by
  refine ⟨hb, hi, fun i hi => ?_, ?_, R.gens, R.os⟩
  · have : i.addr ∈ own.map Item.addr := by rw [← ha]; exact List.mem_map.mpr ⟨i, hi, rfl⟩
    obtain ⟨j, hj, e⟩ := List.mem_map.mp this
    rw [← e]; exact R.off j hj
  · have h1 : (own.map Item.addr).Pairwise (· ≠ ·) := List.pairwise_map.mpr R.apart
    rw [← ha] at h1
    exact List.pairwise_map.mp h1
theorem lookup_mem : ∀ {l : List (Str × V)} {x : Str} {v : V}, l.lookup x = some v → x ∈ l.map Prod.fst
  | (y, u) :: l, x, v, h => by
    rw [List.lookup_cons] at h
    by_cases e : x = y
    · simp [e]
    · have : (x == y) = false := by simpa using e
      rw [this] at h
      exact List.mem_cons_of_mem _ (lookup_mem h)
/-- self.name = v -/
theorem so_set {x dx : Addr} {l : List (Str × V)} {pre post : List Item} {name : Str} {v : V} {r : Value} {Q : Unit → Shared → Prop} (T : TopB w B) (R : Rep w os B (pre ++ adItem dx l :: post) s) (h1 : soItem x dx ∈ pre ++ adItem dx l :: post) (hno : name ∈ tsNo)
    (hB : typeLookup (.type "object") name = pure Option.none) (d : den w B v r) (hsz : l.length ≤ 100) (k : ∀ s', Rep w os B (pre ++ adItem dx (setL l name v) :: post) s' → Q () s') : wpAny (model pg w) A (setAttr (.ref x) name r) Q E s := by
  have h2 : adItem dx l ∈ pre ++ adItem dx l :: post := by simp
  obtain ⟨mA, I, hne, f, f'⟩ := so_inst R h1 h2
  obtain ⟨mN, hn, _, g⟩ := ts_ns T R
  obtain ⟨a1, a2, a3, a4, a5, a6, a7, a8, a9, b1, b2, b3, e⟩ := T.ts
  obtain ⟨ox, hox, c1, c2, c3⟩ := R.has _ h1
  have hox' : s.heap.get? x = some ox := hox
  have hxC : x ≠ 137 := by
    intro q
    have := R.off _ h1
    rw [show (soItem x dx).addr = 137 from q, e] at this; cases this
  have hfin : ∀ y, mA y ≠ Option.none → y ∈ l.map Prod.fst := by
    intro y hy
    cases hq : l.lookup y with
    | none => exact absurd (f' y hq) hy
    | some u => exact lookup_mem hq
  obtain ⟨hh, gg, dd, t, os'⟩ := s
  refine store_attrFk PySem.F.store_object (R.base _ _ e) hn (g _ (by decide)) (g _ hno) hB hxC I (fun h' tk' I' hk hsame => ?_) (ns := l.map Prod.fst) hfin (by rw [List.length_map]; unfold sizeLine; omega)
  have kk : ∀ b o, b ≠ x → b ≠ dx → hh.get? b = some o → h'.get? b = some o := fun b o q1 q2 eb => hk b o q1 (fun o₀ d' e₀ ed => by
    obtain rfl := Option.some.inj (hox'.symm.trans e₀); obtain rfl := Option.some.inj (c2.symm.trans ed); exact q2) eb
  obtain ⟨o₁, e₁, s1, s2, _, s3⟩ := hsame ox hox'
  refine k _ (R.change tk' ?_ (fun a o ea => ?_) fun i hi => ?_)
  · simp only [List.map_append, List.map_cons]; rfl
  · refine kk a o (fun q => ?_) (fun q => ?_) (R.base a o ea)
    · have := R.off _ h1; rw [show (soItem x dx).addr = a from q.symm, ea] at this; cases this
    · have := R.off _ h2; rw [show (adItem dx l).addr = a from q.symm, ea] at this; cases this
  · by_cases hix : i.addr = x
    · have hi' : i ∈ pre ++ adItem dx l :: post := by
        rcases List.mem_append.mp hi with h | h
        · simp [h]
        · rcases List.mem_cons.mp h with rfl | h
          · exact absurd hix hne
          · simp [h]
      have := same_item R.apart hi' h1 hix
      subst this
      exact ⟨o₁, e₁, s1.trans c1, s3 _ c2, fun c q => c3 c (s2 ▸ q)⟩
    · by_cases hid : i.addr = dx
      · have : i = adItem dx (setL l name v) := by
          rcases List.mem_append.mp hi with h | h
          · have := same_item R.apart (List.mem_append_left _ h) h2 hid
            exfalso
            obtain ⟨p1, p2, p3⟩ := List.pairwise_append.mp R.apart
            exact p3 i h _ (List.mem_cons_self ..) hid
          · rcases List.mem_cons.mp h with rfl | h
            · rfl
            · exfalso
              obtain ⟨p1, p2, p3⟩ := List.pairwise_append.mp R.apart
              exact (List.pairwise_cons.mp p2).1 i h hid.symm
        subst this
        obtain ⟨o, eo, _, _, hd⟩ := I'
        rw [e₁] at eo; cases eo
        rcases hd with ⟨hn0, _⟩ | ⟨d', hd', _, ⟨od, es, ep, q1, q2, q3, q4, q5⟩, ⟨od', q6, q7, q8⟩⟩
        · rw [s3 _ c2] at hn0; cases hn0
        · rw [s3 _ c2] at hd'; cases hd'
          rw [q1] at q6; cases q6
          refine ⟨od, q1, q7, q8, es, ep, q2, q3, q4, fun y u hy => ?_, fun y hy => ?_⟩
          · rw [lookup_setL] at hy
            rw [q5]
            by_cases ey : y = name
            · rw [if_pos ey] at hy; cases hy
              exact ⟨r, by simp [ey], d⟩
            · rw [if_neg ey] at hy
              obtain ⟨r', e1, e2⟩ := f y u hy
              exact ⟨r', by simp [ey, e1], e2⟩
          · rw [lookup_setL] at hy
            rw [q5]
            by_cases ey : y = name
            · rw [if_pos ey] at hy; cases hy
            · rw [if_neg ey] at hy
              simp [ey, f' y hy]
      · have hi' : i ∈ pre ++ adItem dx l :: post := by
          rcases List.mem_append.mp hi with h | h
          · simp [h]
          · rcases List.mem_cons.mp h with rfl | h
            · exact absurd rfl hid
            · simp [h]
        obtain ⟨o, ho, hp⟩ := R.has i hi'
        exact ⟨o, kk _ o hix hid ho, hp⟩
/-- self.name(..) -/
theorem so_method {x dx f : Addr} {l : List (Str × V)} {name : Str} {pl : Sem Bool} {Q : Value × List Value → Shared → Prop} (T : TopB w B) (R : Rep w os B own s) (h1 : soItem x dx ∈ own) (h2 : adItem dx l ∈ own) (hf : tsTab.lookup name = some (.ref f)) (hfn : (fTab.lookup f).isSome = true) (hl : l.lookup name = Option.none)
    {y : Option Value} (hB : typeLookup (.type "object") name = pure y) (k : Q (.ref f, [.ref x]) s) : wpAny (model pg w) A (getMethod (.ref x) name pl) Q E s := by
  obtain ⟨mA, I, _, _, f'⟩ := so_inst R h1 h2
  obtain ⟨mN, hn, g0, g⟩ := ts_ns T R
  obtain ⟨a1, a2, a3, a4, a5, a6, a7, a8, a9, b1, b2, b3, e⟩ := T.ts
  obtain ⟨rec, hrec⟩ := Option.isSome_iff_exists.mp hfn
  obtain ⟨doc, pm, cd, ct, nm, ⟨hfd, _⟩⟩ := T.fns f rec hrec
  obtain ⟨hh, gg, dd, t, os'⟩ := s
  exact method_ofFk (R.base _ _ e) hn (g _ (by decide)) (g _ (by decide)) (g0 _ _ hf) (R.base _ _ hfd) rfl hB I (f' _ hl) k
end
end Mine

namespace Mine
def densO (w : World) (B : Bs) : List (Option V) → List (Option Value) → Prop
  | [], l => l = []
  | Option.none :: xs, l => ∃ rs, l = Option.none :: rs ∧ densO w B xs rs
  | some x :: xs, l => ∃ r rs, l = some r :: rs ∧ den w B x r ∧ densO w B xs rs
section
variable {w : World} {B : Bs}
theorem densO.mono {B' : Bs} (h : Le B B') : ∀ {xs : List (Option V)} {l : List (Option Value)}, densO w B xs l → densO w B' xs l
  | [], _, e => e
  | Option.none :: xs, _, e => let ⟨rs, q, d⟩ := e; ⟨rs, q, densO.mono h d⟩
  | some x :: xs, _, e => let ⟨r, rs, q, d, ds⟩ := e; ⟨r, rs, q, den.mono h x d, densO.mono h ds⟩
theorem densO.length : ∀ {xs : List (Option V)} {l : List (Option Value)}, densO w B xs l → l.length = xs.length
  | [], _, e => by rw [show _ = [] from e]; rfl
  | Option.none :: xs, _, e => by obtain ⟨rs, rfl, d⟩ := e; simp [densO.length d]
  | some x :: xs, _, e => by obtain ⟨r, rs, rfl, d, ds⟩ := e; simp [densO.length ds]
theorem densO.set {v : V} {r : Value} (hv : den w B v r) : ∀ {xs : List (Option V)} {l : List (Option Value)} (i : Nat), densO w B xs l → densO w B (xs.set i (some v)) (l.set i (some r))
  | [], _, i, e => by rw [show _ = [] from e]; exact rfl
  | Option.none :: xs, _, 0, e => by obtain ⟨rs, rfl, d⟩ := e; exact ⟨r, rs, rfl, hv, d⟩
  | Option.none :: xs, _, i + 1, e => by obtain ⟨rs, rfl, d⟩ := e; exact ⟨_, rfl, densO.set hv i d⟩
  | some x :: xs, _, 0, e => by obtain ⟨r', rs, rfl, d, ds⟩ := e; exact ⟨r, rs, rfl, hv, ds⟩
  | some x :: xs, _, i + 1, e => by obtain ⟨r', rs, rfl, d, ds⟩ := e; exact ⟨r', _, rfl, d, densO.set hv i ds⟩
theorem densO.more : ∀ {xs : List (Option V)} {l : List (Option Value)} (k : Nat), densO w B xs l → densO w B (xs ++ List.replicate k Option.none) (l ++ List.replicate k Option.none)
  | [], _, k, e => by
    rw [show _ = [] from e]
    rw [List.nil_append, List.nil_append]
    induction k with
    | zero => exact rfl
    | succ k ih => exact ⟨_, rfl, ih⟩
  | Option.none :: xs, _, k, e => by obtain ⟨rs, rfl, d⟩ := e; exact ⟨_, rfl, densO.more k d⟩
  | some x :: xs, _, k, e => by obtain ⟨r, rs, rfl, d, ds⟩ := e; exact ⟨r, _, rfl, d, densO.more k ds⟩
theorem densO.get {v : V} : ∀ {xs : List (Option V)} {l : List (Option Value)} {i : Nat}, densO w B xs l → xs[i]? = some (some v) → ∃ r, l[i]? = some (some r) ∧ den w B v r
  | [], _, i, e, h => by simp at h
  | Option.none :: xs, _, 0, e, h => by simp at h
  | Option.none :: xs, _, i + 1, e, h => by obtain ⟨rs, rfl, d⟩ := e; exact densO.get (i := i) d (by simpa using h)
  | some x :: xs, _, 0, e, h => by obtain ⟨r, rs, rfl, d, ds⟩ := e; simp at h; subst h; exact ⟨r, rfl, d⟩
  | some x :: xs, _, i + 1, e, h => by obtain ⟨r, rs, rfl, d, ds⟩ := e; exact densO.get (i := i) ds (by simpa using h)
end
/-- a _NodeInfo: its slots -/
def niItem (a : Addr) (sl : List (Option V)) : Item where
  addr := a
  P := fun w B o => o.cls = .ref 40 ∧ o.data = .plain ∧ (∃ dx o', o.dict = some dx ∧ B dx = some o') ∧ ∃ vals : List (Option Value), o.slots = vals.toArray ∧ densO w B sl vals
  mono := fun h ⟨a, b, ⟨dx, o', c, c'⟩, vals, e, f⟩ => ⟨a, b, ⟨dx, o', c, h _ _ c'⟩, vals, e, densO.mono h f⟩
def setS (sl : List (Option V)) (i : Nat) (v : V) : List (Option V) := (sl ++ List.replicate (i + 1 - sl.length) Option.none).set i (some v)
section
variable {w : World} {os : OsState} {n : Nat} {sc : Scope} {ρ : Str → Option V} {Ω : List Item} {A : Around} {env : Env} {B : Bs} {own R : List Item} {s : Shared} {E : Value → Shared → Prop}

theorem ni_at {a : Addr} {sl : List (Option V)} (R : Rep w os B own s) (h : niItem a sl ∈ own) : ∃ ox od vals, InstAt s.heap a ox 40 (some od) ∧ ox.slots = vals.toArray ∧ densO w B sl vals ∧ (niItem a sl).P w B ox := by
  obtain ⟨o, ho, hp⟩ := R.has _ h
  have hp' := hp
  obtain ⟨c1, c2, ⟨dx, o', c3, c4⟩, vals, c6, c7⟩ := hp'
  exact ⟨o, o', vals, ⟨ho, c1, by unfold notCls; rw [c2], by rw [c3]; exact R.base _ _ c4⟩, c6, c7, hp⟩
/-- x.name of a _NodeInfo -/
theorem ni_get {a : Addr} {sl : List (Option V)} {name : Str} {i : Nat} {v : V} {expr : Bool} {Q : Value → Shared → Prop} (T : TopB w B) (R : Rep w os B own s) (h : niItem a sl ∈ own) (hs : ∀ K, NiFacts K → NiSlot K name i) (hv : sl[i]? = some (some v)) (hsh : v.shown = true)
    (k : ∀ r s', Rep w os B own s' → den w B v r → Q r s') : wpAny (model pg w) A (getAttr (.ref a) name expr) Q E s := by
  obtain ⟨K, hK, NF⟩ := T.ni
  have X : K.In s.heap := fun b o e => R.base _ _ (hK b o e)
  obtain ⟨p, f1, f2, f3, f4⟩ := hs K NF
  obtain ⟨ox, od, vals, I, q1, q2, _⟩ := ni_at R h
  obtain ⟨r, hr, d⟩ := q2.get hv
  refine get_bind X I NF.ga (f1 _) NF.gh (wpAny_call (slot_get (s := { s with toks := s.toks + 1 }) X I f4 (v := r) (by rw [q1]; simp [hr]) ?_))
  show wpAny _ _ (handedOut r) _ _ _
  rw [handed hsh d]
  exact wpAny_pure (k r _ (R.toks _) d)
theorem Rep.upd1 {pre post : List Item} {i i' : Item} {L : Addr} {mm : Str → Option V} (R : Rep w os B (pre ++ i :: post) s) (hL : nsItem L mm ∈ pre ++ i :: post) (hne : i.addr ≠ L) (hi : i'.addr = i.addr) {h' : Heap} {ox' : Obj} (tk : Nat) (h1 : h'.get? i.addr = some ox') (hp : i'.P w B ox')
    (h2 : ∀ b o, b ≠ i.addr → b ≠ L → s.heap.get? b = some o → h'.get? b = some o) (h3 : ∃ oL, h'.get? L = some oL ∧ (nsItem L mm).P w B oL) : Rep w os B (pre ++ i' :: post) { s with heap := h', toks := tk } := by
  have hmem : i ∈ pre ++ i :: post := by simp
  refine R.change tk ?_ (fun a o ea => ?_) fun j hj => ?_
  · simp only [List.map_append, List.map_cons, hi]
  · refine h2 a o (fun q => ?_) (fun q => ?_) (R.base a o ea)
    · have := R.off _ hmem; rw [← q, ea] at this; cases this
    · have := R.off _ hL; rw [show (nsItem L mm).addr = a from q.symm, ea] at this; cases this
  · obtain ⟨p1, p2, p3⟩ := List.pairwise_append.mp R.apart
    obtain ⟨p4, p5⟩ := List.pairwise_cons.mp p2
    have other : j ∈ pre ∨ j ∈ post → ∃ o, h'.get? j.addr = some o ∧ j.P w B o := by
      intro hj'
      have hj2 : j ∈ pre ++ i :: post := by rcases hj' with h | h <;> simp [h]
      have hji : j.addr ≠ i.addr := by
        rcases hj' with h | h
        · exact p3 j h i (by simp)
        · exact (p4 j h).symm
      by_cases hjL : j.addr = L
      · have := same_item R.apart hj2 hL hjL
        subst this
        exact h3
      · obtain ⟨o, ho, q⟩ := R.has j hj2
        exact ⟨o, h2 _ o hji hjL ho, q⟩
    rcases List.mem_append.mp hj with h | h
    · exact other (.inl h)
    · rcases List.mem_cons.mp h with rfl | h
      · exact ⟨ox', hi ▸ h1, hp⟩
      · exact other (.inr h)
theorem bridge {L x : Addr} {mm : Str → Option V} {ox : Obj} (R : Rep w os B own s) (hL : nsItem L mm ∈ own) (hx : s.heap.get? x = some ox) (hxL : x ≠ L) :
    ∃ m post, Fr {} L s.heap m ∧ News {} L s.heap ((x, ox) :: post) ∧ (∀ p ∈ post, p.1 ≠ x) ∧ ∀ h' ox', Fr {} L h' m → News {} L h' ((x, ox') :: post) →
      h'.get? x = some ox' ∧ (∀ b o, b ≠ x → b ≠ L → s.heap.get? b = some o → h'.get? b = some o) ∧ ∃ oL, h'.get? L = some oL ∧ (nsItem L mm).P w B oL := by
  obtain ⟨es, hns, hq⟩ := nsItem_ns R hL
  refine ⟨nsFind es, (List.range s.heap.objs.size).filterMap fun a => if a = x ∨ a = L then Option.none else (s.heap.get? a).map fun o => (a, o), ⟨hns, (fun b o e => (by cases e)), Nat.zero_le _⟩, ?_, ?_, ?_⟩
  · intro p hp
    rcases List.mem_cons.mp hp with rfl | hp
    · exact ⟨hx, hxL, rfl⟩
    · obtain ⟨a, ha, e⟩ := List.mem_filterMap.mp hp
      split at e
      · cases e
      · rename_i hn
        obtain ⟨o, ho, rfl⟩ := Option.map_eq_some_iff.mp e
        exact ⟨ho, fun q => hn (.inr q), rfl⟩
  · intro p hp
    obtain ⟨a, ha, e⟩ := List.mem_filterMap.mp hp
    split at e
    · cases e
    · rename_i hn
      obtain ⟨o, ho, rfl⟩ := Option.map_eq_some_iff.mp e
      exact fun q => hn (.inl q)
  · intro h' ox' F N
    refine ⟨(N _ (List.mem_cons_self ..)).1, fun b o hb hbL e => ?_, ?_⟩
    · refine (N (b, o) (List.mem_cons_of_mem _ (List.mem_filterMap.mpr ⟨b, List.mem_range.mpr (Heap.lt_size e), ?_⟩))).1
      rw [if_neg (fun q => q.elim hb hbL), e]; rfl
    · obtain ⟨o, es', ep, e1, e2, e3, e4⟩ := F.ns
      refine ⟨o, e1, es', ep, e2, e3, fun y v hy => ?_⟩
      rw [e4]
      exact hq y v hy
/-- x.name = v of a _NodeInfo -/
theorem ni_set {a L : Addr} {mm : Str → Option V} {sl : List (Option V)} {pre post : List Item} {name : Str} {i : Nat} {v : V} {r : Value} {Q : Unit → Shared → Prop} (T : TopB w B) (R : Rep w os B (pre ++ niItem a sl :: post) s) (hL : nsItem L mm ∈ pre ++ niItem a sl :: post)
    (hs : ∀ K, NiFacts K → NiSlot K name i) (hi : i < 1000) (d : den w B v r) (k : ∀ s', Rep w os B (pre ++ niItem a (setS sl i v) :: post) s' → Q () s') : wpAny (model pg w) A (setAttr (.ref a) name r) Q E s := by
  obtain ⟨K, hK, NF⟩ := T.ni
  have X : K.In s.heap := fun b o e => R.base _ _ (hK b o e)
  obtain ⟨p, f1, f2, f3, f4⟩ := hs K NF
  obtain ⟨ox, od, vals, I, q1, q2, c1, c2, c3, _⟩ := ni_at R (a := a) (sl := sl) (by simp)
  have hne : a ≠ L := by
    intro q
    obtain ⟨oL, hoL, es, ep, hd, _⟩ := R.has _ hL
    have : s.heap.get? L = some oL := hoL
    rw [← q, I.at_] at this
    cases this
    rw [c2] at hd; cases hd
  refine set_plain X I NF.sa (osa_descr (s := { s with toks := s.toks + 1 }) KF.slot_mset X I NF.over f2 f3 ?_)
  obtain ⟨m, post', F, N, hp, fin⟩ := bridge (R.toks (s.toks + 1)) hL (x := a) I.at_ hne
  refine slot_set (pre := []) F N X I f4 hi (fun _ h => nomatch h) hp rfl ?_ fun h' F' N' => ?_
  · obtain ⟨oc, odi, oda, osl⟩ := ox; cases c2; rfl
  · obtain ⟨g1, g2, g3⟩ := fin h' _ F' N'
    refine k _ (Rep.upd1 (i' := niItem a (setS sl i v)) R hL hne rfl (s.toks + 1) g1 ⟨c1, c2, c3, (vals ++ List.replicate (i + 1 - vals.length) Option.none).set i (some r), ?_, ?_⟩ g2 g3)
    · rw [q1]; simp only [List.size_toArray]; apply Array.toList_inj.mp; simp [Array.toList_setIfInBounds]
    · rw [q2.length]; exact densO.set d i (densO.more _ q2)
end
end Mine

namespace Mine
def denKV (w : World) (B : Bs) : List (Int × V) → List (Int × Value) → Prop
  | [], l => l = []
  | (k, x) :: xs, l => ∃ r rs, l = (k, r) :: rs ∧ den w B x r ∧ denKV w B xs rs
def storedV (l : List (Int × V)) (k : Int) (v : V) : List (Int × V) := if l.any (fun p => p.1 = k) then l.map (fun p => if p.1 = k then (p.1, v) else p) else l ++ [(k, v)]
def withoutV (l : List (Int × V)) (k : Int) : List (Int × V) := l.filter fun p => !decide (p.1 = k)
section
variable {w : World} {B : Bs}
theorem denKV.mono {B' : Bs} (h : Le B B') : ∀ {xs : List (Int × V)} {l : List (Int × Value)}, denKV w B xs l → denKV w B' xs l
  | [], _, e => e
  | (k, x) :: xs, _, e => let ⟨r, rs, q, d, ds⟩ := e; ⟨r, rs, q, den.mono h x d, denKV.mono h ds⟩
theorem denKV.length : ∀ {xs : List (Int × V)} {l : List (Int × Value)}, denKV w B xs l → l.length = xs.length
  | [], _, e => by rw [show _ = [] from e]; rfl
  | (k, x) :: xs, _, e => by obtain ⟨r, rs, rfl, d, ds⟩ := e; simp [denKV.length ds]
theorem denKV.keys : ∀ {xs : List (Int × V)} {l : List (Int × Value)}, denKV w B xs l → l.map (·.1) = xs.map (·.1)
  | [], _, e => by rw [show _ = [] from e]; rfl
  | (k, x) :: xs, _, e => by obtain ⟨r, rs, rfl, d, ds⟩ := e; simp [denKV.keys ds]
theorem denKV.vals : ∀ {xs : List (Int × V)} {l : List (Int × Value)}, denKV w B xs l → dens w B (xs.map (·.2)) (l.map (·.2))
  | [], _, e => by rw [show _ = [] from e]; exact dens_nil.mpr rfl
  | (k, x) :: xs, _, e => by obtain ⟨r, rs, rfl, d, ds⟩ := e; exact dens_cons.mpr ⟨r, _, rfl, d, denKV.vals ds⟩
theorem denKV.at {v : V} {k : Int} : ∀ {xs : List (Int × V)} {l : List (Int × Value)}, denKV w B xs l → xs.lookup k = some v → ∃ r, valueAt l k = some r ∧ den w B v r
  | [], _, e, h => by cases h
  | (k', x) :: xs, _, e, h => by
    obtain ⟨r, rs, rfl, d, ds⟩ := e
    rw [List.lookup_cons] at h
    unfold valueAt
    rw [List.find?_cons]
    by_cases q : k = k'
    · subst q
      simp at h ⊢
      subst h; exact d
    · have : (k == k') = false := by simpa using q
      rw [this] at h
      have hne : ¬ k' = k := fun e => q e.symm
      simp only [hne, decide_false]
      exact denKV.at ds h
theorem denKV.no {k : Int} : ∀ {xs : List (Int × V)} {l : List (Int × Value)}, denKV w B xs l → xs.lookup k = Option.none → valueAt l k = Option.none
  | [], _, e, h => by rw [show _ = [] from e]; rfl
  | (k', x) :: xs, _, e, h => by
    obtain ⟨r, rs, rfl, d, ds⟩ := e
    rw [List.lookup_cons] at h
    unfold valueAt
    rw [List.find?_cons]
    by_cases q : k = k'
    · subst q; simp at h
    · have : (k == k') = false := by simpa using q
      rw [this] at h
      have hne : ¬ k' = k := fun e => q e.symm
      simp only [hne, decide_false]
      exact denKV.no ds h
theorem denKV.append : ∀ {xs ys : List (Int × V)} {l l' : List (Int × Value)}, denKV w B xs l → denKV w B ys l' → denKV w B (xs ++ ys) (l ++ l')
  | [], _, _, _, e, e' => by rw [show _ = [] from e]; exact e'
  | (k, x) :: xs, _, _, _, e, e' => by obtain ⟨r, rs, rfl, d, ds⟩ := e; exact ⟨r, _, rfl, d, denKV.append ds e'⟩
theorem denKV.any {k : Int} : ∀ {xs : List (Int × V)} {l : List (Int × Value)}, denKV w B xs l → l.any (fun p => p.1 = k) = xs.any (fun p => p.1 = k)
  | [], _, e => by rw [show _ = [] from e]; rfl
  | (k', x) :: xs, _, e => by obtain ⟨r, rs, rfl, d, ds⟩ := e; simp [denKV.any ds]
theorem denKV.put {k : Int} {v : V} {r : Value} (hv : den w B v r) : ∀ {xs : List (Int × V)} {l : List (Int × Value)}, denKV w B xs l → denKV w B (xs.map (fun p => if p.1 = k then (p.1, v) else p)) (l.map (fun p => if p.1 = k then (p.1, r) else p))
  | [], _, e => by rw [show _ = [] from e]; exact rfl
  | (k', x) :: xs, _, e => by
    obtain ⟨r', rs, rfl, d, ds⟩ := e
    rw [List.map_cons, List.map_cons]
    by_cases q : k' = k
    · simp only [q, if_true]; exact ⟨r, _, rfl, hv, denKV.put hv ds⟩
    · simp only [q, if_false]; exact ⟨r', _, rfl, d, denKV.put hv ds⟩
theorem denKV.stored {k : Int} {v : V} {r : Value} {xs : List (Int × V)} {l : List (Int × Value)} (hv : den w B v r) (h : denKV w B xs l) : denKV w B (storedV xs k v) (PySem.stored l k r) := by
  unfold storedV PySem.stored
  rw [h.any]
  split
  · exact h.put hv
  · exact h.append ⟨r, [], rfl, hv, rfl⟩
theorem denKV.without {k : Int} : ∀ {xs : List (Int × V)} {l : List (Int × Value)}, denKV w B xs l → denKV w B (withoutV xs k) (PySem.without l k)
  | [], _, e => by rw [show _ = [] from e]; exact rfl
  | (k', x) :: xs, _, e => by
    obtain ⟨r', rs, rfl, d, ds⟩ := e
    have ih := denKV.without (k := k) ds
    unfold withoutV PySem.without at ih ⊢
    by_cases q : k' = k
    · simpa [q] using ih
    · simp [q]; exact ⟨r', _, rfl, d, by simpa using ih⟩
end
/-- a dict of one's own, from ints -/
def dcItem (D : Addr) (l : List (Int × V)) : Item where
  addr := D
  P := fun w B o => ∃ kvs, dictP w kvs o ∧ denKV w B l kvs
  mono := fun h ⟨kvs, p, d⟩ => ⟨kvs, p, denKV.mono h d⟩
section
variable {w : World} {os : OsState} {n : Nat} {sc : Scope} {ρ : Str → Option V} {Ω : List Item} {A : Around} {env : Env} {B : Bs} {own R : List Item} {s : Shared} {E : Value → Shared → Prop}
theorem dc_at {D : Addr} {l : List (Int × V)} (T : TopB w B) (R : Rep w os B own s) (h : dcItem D l ∈ own) : ∃ kvs, s.heap.DictOf (kI w) D kvs ∧ denKV w B l kvs ∧ (D == sysModules) = false := by
  obtain ⟨o, ho, kvs, ⟨es, ep, h1, h2, h3, h4, h5⟩, d⟩ := R.has _ h
  refine ⟨kvs, ⟨o, es, ep, ho, h1, h2, h3, h4, h5⟩, d, ?_⟩
  obtain ⟨o', e⟩ := T.sys
  have := R.off _ h
  by_cases q : D = sysModules
  · rw [show (dcItem D l).addr = sysModules from q, e] at this; cases this
  · simpa using q
theorem isKey (k : Int) (t : Tok) : (kI w).is k (.int k t) = true := by show Value.isInt k (.int k t) = true; simp [Value.isInt]
/-- d[k] = v -/
theorem dc_set {D : Addr} {l : List (Int × V)} {pre post : List Item} {k : Int} {v : V} {rk r : Value} {Q : Unit → Shared → Prop} (T : TopB w B) (R : Rep w os B (pre ++ dcItem D l :: post) s) (dk : den w B (.int k) rk) (d : den w B v r) (hsz : l.length ≤ 1000)
    (kk : ∀ s', Rep w os B (pre ++ dcItem D (storedV l k v) :: post) s' → Q () s') : wpAny (model pg w) A (setItem (.ref D) rk r) Q E s := by
  obtain ⟨t, rfl⟩ := den_int.mp dk
  obtain ⟨kvs, hD, dd, _⟩ := dc_at T R (D := D) (l := l) (by simp)
  refine wpAny_setItem_pairs (knd := kI w) (isKey k t) hD (fun h' hD' hs => ?_) (by rw [dd.length]; unfold sizeLine; omega)
  obtain ⟨o, es, ep, ho, h1, h2, h3, h4, h5⟩ := hD'
  exact kk _ (Rep.write (i' := dcItem D (storedV l k v)) R _ (fun b o hb e => hs.extBut b o hb e) rfl ho ⟨_, ⟨es, ep, h1, h2, h3, h4, h5⟩, dd.stored d⟩)
/-- d[k] -/
theorem dc_get {D : Addr} {l : List (Int × V)} {k : Int} {v : V} {rk : Value} {Q : Value → Shared → Prop} (T : TopB w B) (R : Rep w os B own s) (h : dcItem D l ∈ own) (dk : den w B (.int k) rk) (hl : l.lookup k = some v)
    (kk : ∀ r s', Rep w os B own s' → den w B v r → Q r s') : wpAny (model pg w) A (getItem (.ref D) rk) Q E s := by
  obtain ⟨t, rfl⟩ := den_int.mp dk
  obtain ⟨kvs, hD, dd, _⟩ := dc_at T R h
  obtain ⟨r, hr, d⟩ := dd.at hl
  exact wpAny_getItem_of (knd := kI w) (isKey k t) hD.mapOf hr (kk r _ (R.toks _) d)
end
end Mine

namespace Mine
/-- a node of the sorter; the sorter's state; its addresses -/
structure Nd where
  k : Int
  a : Addr
  l : Addr
  np : Int
  su : List Int
def Nd.items (d : Nd) : List Item := [niItem d.a [some (.int d.k), some (.int d.np), some (.exact (.ref d.l))], lstItem d.l (d.su.map V.int)]
structure St where
  nodes : List Nd
  rd : Option (Addr × List Int)
  out : Int
  fin : Int
structure Hn where
  x : Addr
  dx : Addr
  D : Addr
def rdV : Option (Addr × List Int) → V
  | Option.none => .none
  | some (r, _) => .exact (.ref r)
def rdI : Option (Addr × List Int) → List Item
  | Option.none => []
  | some (r, xs) => [lstItem r (xs.map V.int)]
def St.ad (h : Hn) (σ : St) : List (Str × V) := [("_node2info", .exact (.ref h.D)), ("_ready_nodes", rdV σ.rd), ("_npassedout", .int σ.out), ("_nfinished", .int σ.fin)]
def St.dc (σ : St) : List (Int × V) := σ.nodes.map fun d => (d.k, .exact (.ref d.a))
def St.items (h : Hn) (σ : St) : List Item := soItem h.x h.dx :: adItem h.dx (σ.ad h) :: dcItem h.D σ.dc :: (rdI σ.rd ++ σ.nodes.flatMap Nd.items)
section
variable {w : World} {os : OsState} {n : Nat} {sc : Scope} {ρ : Str → Option V} {Ω : List Item} {A : Around} {env : Env} {B : Bs} {own R : List Item} {s : Shared} {E : Value → Shared → Prop}
theorem no_node2info : typeLookup (.type "object") "_node2info" = pure Option.none := by rw [typeLookup_type, builtinLookup_eq_fast]; kernel_rfl
theorem no_ready : typeLookup (.type "object") "_ready_nodes" = pure Option.none := by rw [typeLookup_type, builtinLookup_eq_fast]; kernel_rfl
theorem no_out : typeLookup (.type "object") "_npassedout" = pure Option.none := by rw [typeLookup_type, builtinLookup_eq_fast]; kernel_rfl
theorem no_fin : typeLookup (.type "object") "_nfinished" = pure Option.none := by rw [typeLookup_type, builtinLookup_eq_fast]; kernel_rfl
/-- self.name -/
theorem PE.so {nm name : Str} {p pos : Pos} {x dx : Addr} {l : List (Str × V)} {v : V} (hx : ρ nm = some (.exact (.ref x))) (hk : isVar sc nm = true) (h1 : soItem x dx ∈ Ω) (h2 : adItem dx l ∈ Ω) (hB : typeLookup (.type "object") name = pure Option.none)
    (hl : l.lookup name = some v) (hs : v.shown = true := by rfl) (hno : name ∈ tsNo := by decide) (hd : (nm == ("__debug__" : Str)) = false := by decide) : PE w os n Ω sc ρ (.Attribute (.Name nm p) name pos) v := by
  intro A env B own s E hA T ek sees R
  refine Attribute_name ((PE.name hx (isVar_or hk) hd).use hA T ek sees R fun r s₁ B₁ l₁ T₁ R₁ d₁ => ?_)
  rw [den_exact.mp d₁]
  exact so_get T₁ R₁ (sees.its _ h1) (sees.its _ h2) hl hs hno hB fun r s' R' d => ⟨B₁, l₁, R', d⟩
/-- i.name of a _NodeInfo -/
theorem PE.ni {nm name : Str} {p pos : Pos} {a : Addr} {sl : List (Option V)} {i : Nat} {v : V} (hx : ρ nm = some (.exact (.ref a))) (hk : isVar sc nm = true) (h : niItem a sl ∈ Ω) (hs : ∀ K, NiFacts K → NiSlot K name i) (hv : sl[i]? = some (some v)) (hsh : v.shown = true := by rfl)
    (hd : (nm == ("__debug__" : Str)) = false := by decide) : PE w os n Ω sc ρ (.Attribute (.Name nm p) name pos) v := by
  intro A env B own s E hA T ek sees R
  refine Attribute_name ((PE.name hx (isVar_or hk) hd).use hA T ek sees R fun r s₁ B₁ l₁ T₁ R₁ d₁ => ?_)
  rw [den_exact.mp d₁]
  exact ni_get T₁ R₁ (sees.its _ h) hs hv hsh fun r s' R' d => ⟨B₁, l₁, R', d⟩
/-- d[k] -/
theorem PE.dc {nm : Str} {p pos : Pos} {e : Expr} {D : Addr} {l : List (Int × V)} {k : Int} {v : V} (hx : ρ nm = some (.exact (.ref D))) (hk : isVar sc nm = true) (h : dcItem D l ∈ Ω) (he : PE w os n Ω sc ρ e (.int k)) (hl : l.lookup k = some v)
    (hs : ∀ o i, subscripted e false o i = operate [o, i] (getItem o i) := by intro _ _; rfl) (hd : (nm == ("__debug__" : Str)) = false := by decide) : PE w os n Ω sc ρ (.Subscript (.Name nm p) e pos) v := by
  intro A env B own s E hA T ek sees R
  refine Subscript_ ((PE.name hx (isVar_or hk) hd).use hA T ek sees R fun r s₁ B₁ l₁ T₁ R₁ d₁ => he.use hA T₁ ek sees R₁ fun r' s₂ B₂ l₂ T₂ R₂ d₂ => ?_)
  rw [den_exact.mp d₁]
  obtain ⟨kvs, hD, dd, _⟩ := dc_at T₂ R₂ (sees.its _ h)
  exact tail_any hD.typeIs slot_dict_getitem.lookup (dc_get T₂ R₂ (sees.its _ h) d₂ hl fun r s' R' d => ⟨B₂, l₁.trans l₂, R', d⟩) (hs _ _)

theorem Rm.under {C : Addr} {rest : List Value} {kw : List (Str × Value)} (h : Rm (n + 1) A own) : Rm n (A.under (.builtin "type.__call__" ⟨.ref C :: rest, kw⟩)) own :=
  ⟨h.handled, by have := h.dep; show A.depth + 1 + n ≤ 900; omega, by
    have := h.uni
    show A.units + _ + 8 * n ≤ 9000
    have : (Code.builtin "type.__call__" ⟨.ref C :: rest, kw⟩).cUnits ≤ 4 := Nat.le_of_ble_eq_true rfl
    omega, h.frames⟩

/-- room over the rest alone -/
theorem RmE.rest {rest : List Item} (h : Rm (n + 1) A rest) (h' : RmE n (A.deeper env) env own) (F : FnEnv env sc) : RmE n (A.deeper env) env rest := by
  refine h.deep F ?_
  obtain ⟨l, e, q⟩ := (h' noV).frames
  obtain ⟨outer, e'⟩ := h.head (env := env)
  rw [e'] at e; cases e
  exact (q env (by simp)).atf
/-- self.name = e, in a method -/
theorem st_so {nm name : Str} {p pos' pos : Pos} {e : Expr} {x dx : Addr} {l : List (Str × V)} {v : V} {pre post : List Item} {Q : Flow → Shared → Prop} (Ω : List Item) (hΩ : ∀ i ∈ Ω, i ∈ R) (F : FnEnv env sc) (hA : RmE n A env R) (T : TopB w B) (h : Rep w os B (frameI env env.cells ρ ++ R) s) (hR : R = pre ++ adItem dx l :: post)
    (h1 : soItem x dx ∈ R) (hx : ρ nm = some (.exact (.ref x))) (hk : isVar sc nm = true) (he : PE w os n Ω sc ρ e v) (hB : typeLookup (.type "object") name = pure Option.none) (hsz : l.length ≤ 100)
    (k : ∀ s' B', Le B B' → TopB w B' → Rep w os B' (frameI env env.cells ρ ++ (pre ++ adItem dx (setL l name v) :: post)) s' → Q .next s')
    (hno : name ∈ tsNo := by decide) (hd : (nm == ("__debug__" : Str)) = false := by decide)
    (hs : ∀ env, swapsWith e (some (.Attribute (.Name nm p) name pos')) pos.line env = pure false := by intro _; rfl) : wpAny (model pg w) A (exec (.Assign [.Attribute (.Name nm p) name pos'] e pos) env) Q E s := by
  refine plainObj_wpAny_Assign_Attribute (he.use (hA ρ) T F.ok (F.sees1 hΩ) h fun r s₁ B₁ l₁ T₁ R₁ d₁ => ?_) (hs env)
  refine (PE.name hx (isVar_or hk) hd).use (hA ρ) T₁ F.ok F.sees0 R₁ fun r' s₂ B₂ l₂ T₂ R₂ d₂ => ?_
  rw [den_exact.mp d₂]
  have e1 : frameI env env.cells ρ ++ R = (frameI env env.cells ρ ++ pre) ++ adItem dx l :: post := by rw [hR]; simp
  have h1' : soItem x dx ∈ frameI env env.cells ρ ++ R := List.mem_append_right _ h1
  rw [e1] at R₂ h1'
  exact so_set T₂ R₂ h1' hno hB (den.mono l₂ _ d₁) hsz fun s₃ R₃ => k s₃ B₂ (l₁.trans l₂) T₂ (by rw [List.append_assoc] at R₃; exact R₃)
theorem new_init {A : Around} {B : Bs} {own : List Item} {s : Shared} {E : Value → Shared → Prop} {Q : Value → Shared → Prop} (hA : Rm (n + 2) A own) (T : TopB w B) (R : Rep w os B own s)
    (k : ∀ h s' B', Le B B' → TopB w B' → Rep w os B' (St.items h ⟨[], Option.none, 0, 0⟩ ++ own) s' → Q (.ref h.x) s') : wpAny (model pg w) A (call (.ref 137) []) Q E s := by
  obtain ⟨a1, a2, a3, a4, a5, a6, a7, a8, a9, b1, b2, b3, e⟩ := T.ts
  obtain ⟨mN, hn, g0, g⟩ := ts_ns T R
  obtain ⟨doc, pm, cd, ct, nm, ⟨hfd, _⟩⟩ := T.fns 73 ⟨"TopologicalSorter.__init__", inClass 0 (fdef 6), .ref 66, .none⟩ rfl
  have hs : s = ⟨s.heap, s.gens, s.drawn, s.toks, s.os⟩ := rfl
  rw [hs]
  refine wpAny_call_obj_initFk PySem.F.objNew (R.base _ _ e) hn (g0 _ _ rfl) (R.base _ _ hfd) rfl fun h' x dx Mk => ?_
  obtain ⟨ox, hx, hcx, hncx, hdx⟩ := Mk.inst
  have hdd := Mk.dict ox hx
  rcases hdx with ⟨hn0, _⟩ | ⟨d', hd', hne, ⟨od, es, ep, q1, q2, q3, q4, q5⟩, ⟨od', q6, q7, q8⟩⟩
  · rw [hn0] at hdd; cases hdd
  rw [hdd] at hd'; cases hd'
  rw [q1] at q6; cases q6
  have R₁ : Rep w os B ([soItem x dx, adItem dx []] ++ own) ⟨h', s.gens, s.drawn, s.toks, s.os⟩ := by
    refine R.many (h' := h') [soItem x dx, adItem dx []] s.toks Mk.keeps (fun i hi => ?_) (fun i hi => ?_) ?_
    · rcases List.mem_cons.mp hi with rfl | hi
      · exact Mk.newX
      · obtain rfl := List.mem_singleton.mp hi
        exact Mk.newD
    · rcases List.mem_cons.mp hi with rfl | hi
      · exact ⟨ox, hx, hcx, hdd, hncx⟩
      · obtain rfl := List.mem_singleton.mp hi
        exact ⟨od, q1, q7, q8, es, ep, q2, q3, q4, (fun y v hy => (by cases hy)), fun y _ => q5 y⟩
    · refine List.pairwise_cons.mpr ⟨fun j hj => ?_, List.pairwise_singleton _ _⟩
      obtain rfl := List.mem_singleton.mp hj
      exact fun q => hne q.symm
  have hA1 : Rm (n + 1) (A.under (.builtin "type.__call__" ⟨[.ref 137], []⟩)) ([soItem x dx, adItem dx []] ++ own) := (hA.more fun i hi => List.mem_append_right _ hi).under
  refine call_gen (r := ⟨"TopologicalSorter.__init__", inClass 0 (fdef 6), .ref 66, .none⟩) rfl ["self", "graph"] [.exact (.ref x), .none] hA1 T R₁ (by decide) (fun doc pm cd ct nm E' Q' hq => ?_) (by decide) (by decide) rfl rfl rfl ?_
  · obtain ⟨o, kk, ho, hd⟩ := T.dfl 66 (.inl rfl)
    refine BindsTo.of_defaults (binds := [(("self" : Str), .ref x), ("graph", .none)]) (T := 66) rfl (R₁.base _ _ ho) hd rfl rfl _ _ _ _ ?_
    exact hq _ B [.ref x, .none] (Le.refl B) R₁ (dens_cons.mpr ⟨_, _, rfl, den_exact.mpr rfl, dens_cons.mpr ⟨_, _, rfl, den_none.mpr rfl, dens_nil.mpr rfl⟩⟩)
  intro env s₁ B₁ E' hE le₁ T₁ F hA' R₂
  refine wpAny_execs_cons (plainObj_wpAny_Assign_Attribute (wpAny_Dict_empty ?_) rfl)
  have R₃ := R₂.new (dcItem s₁.heap.objs.size []) s₁.toks (fun b o e => Heap.get?_push_of_some _ e) (get?_size _) (Heap.get?_push_size _ rfl) (o := { cls := .type "dict", data := .dict #[] }) (by
    obtain ⟨o, es, ep, h0, h1, h2, h3, h4, h5⟩ := Heap.DictOf.new (knd := kI w) s₁.heap
    rw [Heap.get?_push_size _ rfl] at h0; cases h0
    exact ⟨[], ⟨es, ep, h1, h2, h3, h4, h5⟩, rfl⟩)
  generalize hD : s₁.heap.objs.size = D at R₃ ⊢
  have R₄ : Rep w os B₁ (frameI env env.cells (parV ["self", "graph"] [.exact (.ref x), .none]) ++ ([soItem x dx] ++ adItem dx [] :: dcItem D [] :: own)) _ := R₃.perm (by
    have := (List.perm_middle (a := dcItem D []) (l₁ := frameI env env.cells (parV ["self", "graph"] [.exact (.ref x), .none]) ++ [soItem x dx, adItem dx []]) (l₂ := own)).symm
    simpa using this)
  have hB0 : RmE n _ env own := RmE.rest hA.under hA' F
  refine PE.use (v := .exact (.ref x)) (PE.var (ρ := parV ["self", "graph"] [.exact (.ref x), .none])) (hB0.add.add.app (X := [soItem x dx]) _) T₁ F.ok F.sees0 R₄ fun r s₂ B₂ le₂ T₂ R₅ d₂ => ?_
  rw [den_exact.mp d₂]
  rw [← List.append_assoc] at R₅
  refine so_set T₂ R₅ (by simp) (by decide) no_node2info (den_exact.mpr rfl) (by decide) fun s₃ R₆ => ?_
  rw [List.append_assoc] at R₆
  refine wpAny_execs_cons (st_so (pre := [soItem x dx]) [] (fun _ h => nomatch h) F (hB0.add.add.app (X := [soItem x dx])) T₂ R₆ rfl (by simp) rfl (by rfl) PE.none no_ready (Nat.le_of_ble_eq_true rfl) fun s₄ B₄ le₄ T₄ R₇ => ?_)
  refine wpAny_execs_cons (st_so (pre := [soItem x dx]) [] (fun _ h => nomatch h) F (hB0.add.add.app (X := [soItem x dx])) T₄ R₇ rfl (by simp) rfl (by rfl) PE.int no_out (Nat.le_of_ble_eq_true rfl) fun s₅ B₅ le₅ T₅ R₈ => ?_)
  refine wpAny_execs_cons (st_so (pre := [soItem x dx]) [] (fun _ h => nomatch h) F (hB0.add.add.app (X := [soItem x dx])) T₅ R₈ rfl (by simp) rfl (by rfl) PE.int no_fin (Nat.le_of_ble_eq_true rfl) fun s₆ B₆ le₆ T₆ R₉ => ?_)
  refine wpAny_execs_cons (st_if (b := false) F (hB0.add.add.app (X := [soItem x dx])) T₆ R₉ (PT.cmp (x := .none) (y := .none) PE.var PE.none (by
    intro A B own s r r' E hA T R d d'
    rw [den_none.mp d, den_none.mp d']
    exact wpAny_isNot_plain rfl (.now R (den_bool.mpr rfl)))) fun s₇ B₇ le₇ T₇ R₁₀ => ?_)
  refine wpAny_execs_nil (wpAny_execs_nil ⟨rfl, k ⟨x, dx, D⟩ s₇ B₇ ((((le₁.trans le₂).trans le₄).trans le₅).trans (le₆.trans le₇)) T₇ ?_⟩)
  exact R₁₀.app
end
end Mine

namespace Mine
section
variable {w : World} {os : OsState} {n : Nat} {sc : Scope} {ρ : Str → Option V} {Ω : List Item} {A : Around} {env : Env} {B : Bs} {own R : List Item} {s : Shared} {E : Value → Shared → Prop}
/-- x.name = e of a _NodeInfo, in a def -/
theorem st_ni {nm name : Str} {p pos' pos : Pos} {e : Expr} {a : Addr} {sl : List (Option V)} {i : Nat} {v : V} {pre post : List Item} {Q : Flow → Shared → Prop} (Ω : List Item) (hΩ : ∀ i ∈ Ω, i ∈ R) (F : FnEnv env sc) (hA : RmE n A env R) (T : TopB w B) (h : Rep w os B (frameI env env.cells ρ ++ R) s) (hR : R = pre ++ niItem a sl :: post)
    (hx : ρ nm = some (.exact (.ref a))) (hk : isVar sc nm = true) (he : PE w os n Ω sc ρ e v) (hsl : ∀ K, NiFacts K → NiSlot K name i) (hi : i < 1000)
    (k : ∀ s' B', Le B B' → TopB w B' → Rep w os B' (frameI env env.cells ρ ++ (pre ++ niItem a (setS sl i v) :: post)) s' → Q .next s')
    (hd : (nm == ("__debug__" : Str)) = false := by decide)
    (hs : ∀ env, swapsWith e (some (.Attribute (.Name nm p) name pos')) pos.line env = pure false := by intro _; rfl) : wpAny (model pg w) A (exec (.Assign [.Attribute (.Name nm p) name pos'] e pos) env) Q E s := by
  refine plainObj_wpAny_Assign_Attribute (he.use (hA ρ) T F.ok (F.sees1 hΩ) h fun r s₁ B₁ l₁ T₁ R₁ d₁ => ?_) (hs env)
  refine (PE.name hx (isVar_or hk) hd).use (hA ρ) T₁ F.ok F.sees0 R₁ fun r' s₂ B₂ l₂ T₂ R₂ d₂ => ?_
  rw [den_exact.mp d₂]
  have e1 : frameI env env.cells ρ ++ R = (frameI env env.cells ρ ++ pre) ++ niItem a sl :: post := by rw [hR]; simp
  have hL : nsItem env.locals (locOf env ρ) ∈ frameI env env.cells ρ ++ R := List.mem_append_left _ (List.mem_cons_self ..)
  rw [e1] at R₂ hL
  exact ni_set T₂ R₂ hL hsl hi (den.mono l₂ _ d₁) fun s₃ R₃ => k s₃ B₂ (l₁.trans l₂) T₂ (by rw [List.append_assoc] at R₃; exact R₃)
theorem new_node {A : Around} {B : Bs} {own : List Item} {s : Shared} {E : Value → Shared → Prop} {Q : Value → Shared → Prop} {k : Int} {rk : Value} (hA : Rm (n + 2) A own) (T : TopB w B) (R : Rep w os B own s) (dk : den w B (.int k) rk)
    (kk : ∀ a l s' B', Le B B' → TopB w B' → Rep w os B' (niItem a [some (.int k), some (.int 0), some (.exact (.ref l))] :: lstItem l [] :: own) s' → Q (.ref a) s') : wpAny (model pg w) A (call (.ref 40) [rk]) Q E s := by
  obtain ⟨K, hK, NF⟩ := T.ni
  have X : K.In s.heap := fun b o e => R.base _ _ (hK b o e)
  have hs : s = ⟨s.heap, s.gens, s.drawn, s.toks, s.os⟩ := rfl
  rw [hs]
  refine wpAny_call (make_core (makes_of X NF.makes) (looks_findIn X NF.init) (fun self => bind_fn X self NF.fn) (.inl rfl) ?_)
  have R₁ := R.freezeNew (h' := s.heap.push emptyDict) s.toks (fun b o e => Heap.get?_push_of_some _ e) (get?_size _) (Heap.get?_push_size _ rfl)
  have f := R.fresh (get?_size s.heap)
  have le₁ := Le.put (o := emptyDict) f.1
  have R₂ := R₁.new (h' := (s.heap.push emptyDict).push (instObj 40 s.heap.objs.size)) (niItem (s.heap.objs.size + 1) []) s.toks (fun b o e => Heap.get?_push_of_some _ e) (by rw [← Heap.size_push s.heap emptyDict]; exact get?_size _) (o := instObj 40 s.heap.objs.size) (by
      have := Heap.get?_push_size (h := s.heap.push emptyDict) (o := instObj 40 s.heap.objs.size) rfl
      rw [Heap.size_push] at this; exact this) ⟨rfl, rfl, ⟨_, _, rfl, Bs.put_self ..⟩, [], rfl, rfl⟩
  generalize ha : s.heap.objs.size + 1 = a at R₂ ⊢
  have T₁ := T.mono le₁
  have hA1 : Rm (n + 1) (A.under (.builtin "type.__call__" ⟨[.ref 40, rk], []⟩)) (niItem a [] :: own) := (hA.more fun i hi => List.mem_cons_of_mem _ hi).under
  have dk' := den.mono le₁ _ dk
  refine code_gen (r := ⟨"_NodeInfo.__init__", inClass 1 (fdef 4), .none, .none⟩) rfl ["self", "node"] [.exact (.ref a), .int k] hA1 T₁ R₂ (by decide) (fun doc pm cd ct nm E' Q' hq => ?_) (by decide) (by decide) rfl rfl rfl ?_
  · have : bindArgs (mkFd "_NodeInfo.__init__" (psOf (inClass 1 (fdef 4))) (bodyOf (inClass 1 (fdef 4))) (scOf (inClass 1 (fdef 4))) .none .none doc pm cd ct nm) ⟨[.ref a, rk], []⟩ = pure ([(("self" : Str), .ref a), ("node", rk)]) := by rfl
    exact wpAny_of_eq this (hq _ _ [.ref a, rk] (Le.refl _) R₂ (dens_cons.mpr ⟨_, _, rfl, den_exact.mpr rfl, dens_cons.mpr ⟨_, _, rfl, dk', dens_nil.mpr rfl⟩⟩))
  intro env s₁ B₁ E' hE le₂ T₂ F hA' R₃
  have hB0 : RmE n _ env own := RmE.rest hA.under hA' F
  refine wpAny_execs_cons (st_ni (pre := []) (i := 0) [] (fun _ h => nomatch h) F hB0.add T₂ R₃ rfl rfl (by rfl) PE.var (fun K N => N.node) (by decide) fun s₄ B₄ le₄ T₄ R₄ => ?_)
  refine wpAny_execs_cons (st_ni (pre := []) (i := 1) [] (fun _ h => nomatch h) F hB0.add T₄ R₄ rfl rfl (by rfl) PE.int (fun K N => N.npred) (by decide) fun s₅ B₅ le₅ T₅ R₅ => ?_)
  refine wpAny_execs_cons (plainObj_wpAny_Assign_Attribute (List_ (args_nil (wpAny_newObj_type ?_))) rfl)
  have R₆ := R₅.new (lstItem s₅.heap.objs.size []) s₅.toks (fun b o e => Heap.get?_push_of_some _ e) (get?_size _) (Heap.get?_push_size _ rfl) (o := listOf ([] : List Value).toArray 0) ⟨_, _, rfl, dens_nil.mpr rfl⟩
  generalize hD : s₅.heap.objs.size = l at R₆ ⊢
  have R₇ : Rep w os B₅ (frameI env env.cells (parV ["self", "node"] [.exact (.ref a), .int k]) ++ (niItem a [some (.int k), some (.int 0)] :: lstItem l [] :: own)) _ := R₆.perm (by
    have := (List.perm_middle (a := lstItem l []) (l₁ := frameI env env.cells (parV ["self", "node"] [.exact (.ref a), .int k]) ++ [niItem a [some (.int k), some (.int 0)]]) (l₂ := own)).symm
    rw [show setS (setS [] 0 (V.int k)) 1 (V.int 0) = [some (V.int k), some (V.int 0)] from rfl]
    simpa using this)
  refine PE.use (v := .exact (.ref a)) (PE.var (ρ := parV ["self", "node"] [.exact (.ref a), .int k])) (hB0.add.add _) T₅ F.ok F.sees0 R₇ fun r s₈ B₈ le₈ T₈ R₈ d₈ => ?_
  rw [den_exact.mp d₈]
  refine ni_set (L := env.locals) (mm := locOf env (parV ["self", "node"] [.exact (.ref a), .int k])) (i := 2) (v := .exact (.ref l)) T₈ R₈ (List.mem_append_left _ (List.mem_cons_self ..)) (fun K N => N.succ) (by decide) (den_exact.mpr rfl) fun s₉ R₉ => ?_
  refine wpAny_execs_nil ⟨rfl, ?_⟩
  exact kk a l s₉ B₈ (((le₁.trans le₂).trans le₄).trans (le₅.trans le₈)) T₈ R₉.app
end
end Mine

namespace Mine
section
variable {w : World} {os : OsState} {n : Nat} {sc : Scope} {ρ : Str → Option V} {Ω : List Item} {A : Around} {env : Env} {B : Bs} {own R : List Item} {s : Shared} {E : Value → Shared → Prop}
/-- what d.get(k) gives -/
def getV (l : List (Int × V)) (k : Int) : V := (l.lookup k).getD .none
/-- o.get(k), o a dict of one's own -/
theorem PE.dget {o e : Expr} {apos pos : Pos} {D : Addr} {l : List (Int × V)} {k : Int} (ho : PE w os n Ω sc ρ o (.exact (.ref D))) (h : dcItem D l ∈ Ω) (he : PE w os n Ω sc ρ e (.int k))
    (hb : ∀ env, attributeBase o "get" env (eval o env) = eval o env := by intro _; rfl) (hs : ∀ env, starEach [e] env = [(false, eval e env)] := by intro _; rfl) (hline : (apos.endLine == pos.line) = true := by rfl) :
    PE w os n Ω sc ρ (.Call (.Attribute o "get" apos) [e] [] pos) (getV l k) := by
  intro A env B own s E hA T ek sees R
  refine Call_method1 (hb env) (hs env) hline (ho.use hA T ek sees R fun r s₁ B₁ l₁ T₁ R₁ d₁ => ?_)
  rw [den_exact.mp d₁]
  obtain ⟨kvs, hD, dd, hds⟩ := dc_at T₁ R₁ (sees.its _ h)
  refine ⟨"dict", "dict.get", PySem.F.plainAttrs_dict, PySem.F.slot_dict_get, PySem.F.type_dict_get, hD.typeIs, hD.mapOf.noDict, ?_⟩
  refine wpAny_dict_get1 (knd := kI w) hds (he.use hA T₁ ek sees R₁ fun r' s₂ B₂ l₂ T₂ R₂ d₂ => ?_)
  obtain ⟨t, rfl⟩ := den_int.mp d₂
  obtain ⟨kvs, hD, dd, hds⟩ := dc_at T₂ R₂ (sees.its _ h)
  refine ⟨k, _, isKey k t, hD.mapOf, B₂, l₁.trans l₂, R₂.toks _, ?_⟩
  unfold getV
  cases hl : l.lookup k with
  | some v => obtain ⟨r, hr, d⟩ := dd.at hl; rw [hr]; exact d
  | none => rw [dd.no hl]; exact den_none.mpr rfl

theorem dc_lookup {l : List Nd} {k : Int} : (l.map fun d => (d.k, V.exact (.ref d.a))).lookup k = (l.find? fun d => d.k == k).map fun d => V.exact (.ref d.a) := by
  induction l with
  | nil => rfl
  | cons d l ih =>
    rw [List.map_cons, List.lookup_cons, List.find?_cons]
    by_cases e : k = d.k
    · subst e; simp
    · have h1 : (k == d.k) = false := by simpa using e
      have h2 : (d.k == k) = false := by simpa using fun q => e q.symm
      rw [h1, h2, ih]
/-- the node of k, made if need be -/
inductive Got (σ : St) (k : Int) : St → Nd → Prop
  | old {d : Nd} : d ∈ σ.nodes → d.k = k → Got σ k σ d
  | new {a l : Addr} : (∀ d ∈ σ.nodes, d.k ≠ k) → Got σ k { σ with nodes := σ.nodes ++ [⟨k, a, l, 0, []⟩] } ⟨k, a, l, 0, []⟩
theorem getinfo {A : Around} {B : Bs} {own : List Item} {s : Shared} {E : Value → Shared → Prop} {Q : Value → Shared → Prop} {h : Hn} {σ : St} {k : Int} {rk : Value} (hA : Rm (n + 3) A own) (T : TopB w B) (R : Rep w os B (σ.items h ++ own) s) (dk : den w B (.int k) rk) (hfew : σ.nodes.length ≤ 100)
    (kk : ∀ σ' d s' B', Le B B' → TopB w B' → Got σ k σ' d → Rep w os B' (σ'.items h ++ own) s' → Q (.ref d.a) s') : wpAny (model pg w) A (call (.ref 80) [.ref h.x, rk]) Q E s := by
  have hA0 : Rm (n + 2 + 1) A (σ.items h ++ own) := hA.more fun i hi => List.mem_append_right _ hi
  refine call_gen (r := ⟨"TopologicalSorter._get_nodeinfo", inClass 1 (fdef 6), .none, .none⟩) rfl ["self", "node"] [.exact (.ref h.x), .int k] hA0 T R (by decide) (fun doc pm cd ct nm E' Q' hq => ?_) (by decide) (by decide) rfl rfl rfl ?_
  · have : bindArgs (mkFd "TopologicalSorter._get_nodeinfo" (psOf (inClass 1 (fdef 6))) (bodyOf (inClass 1 (fdef 6))) (scOf (inClass 1 (fdef 6))) .none .none doc pm cd ct nm) ⟨[.ref h.x, rk], []⟩ = pure ([(("self" : Str), .ref h.x), ("node", rk)]) := by rfl
    exact wpAny_of_eq this (hq _ _ [.ref h.x, rk] (Le.refl _) R (dens_cons.mpr ⟨_, _, rfl, den_exact.mpr rfl, dens_cons.mpr ⟨_, _, rfl, dk, dens_nil.mpr rfl⟩⟩))
  intro env s₁ B₁ E' hE le₁ T₁ F hA' R₁
  have hB0 : RmE (n + 2) _ env own := RmE.rest hA hA' F
  have hΩ : ∀ i ∈ σ.items h, i ∈ σ.items h ++ own := fun i hi => List.mem_append_left _ hi
  have m1 : soItem h.x h.dx ∈ σ.items h := List.mem_cons_self ..
  have m2 : adItem h.dx (σ.ad h) ∈ σ.items h := List.mem_cons_of_mem _ (List.mem_cons_self ..)
  have m3 : dcItem h.D σ.dc ∈ σ.items h := List.mem_cons_of_mem _ (List.mem_cons_of_mem _ (List.mem_cons_self ..))
  have hAA : RmE (n + 2) _ env (σ.items h ++ own) := hB0.app
  refine wpAny_execs_cons (wpAny_If (wpAny_isTrue_Compare1 (wpAny_NamedExpr (PE.use (v := getV σ.dc k) (PE.dget (PE.so (x := h.x) rfl rfl m1 m2 no_node2info rfl) m3 PE.var) (hAA _) T₁ F.ok (F.sees1 hΩ) R₁ fun r s₂ B₂ l₂ T₂ R₂ d₂ => ?_)) rfl))
  refine assign_rep (pre := []) F.fr (F.var (isVar_or (by rfl))) R₂ d₂ fun s₃ R₃ => ?_
  refine wpAny_Constant_none ?_
  unfold getV St.dc at d₂
  rw [dc_lookup] at d₂
  cases hf : σ.nodes.find? fun d => d.k == k with
  | some d =>
    rw [hf] at d₂
    have hd := den_exact.mp d₂
    subst hd
    refine wpAny_is_plain rfl (wpAny_truthy_bool (wpAny_execs_nil (wpAny_execs_cons ?_)))
    have hv : (upd (parV ["self", "node"] [.exact (.ref h.x), .int k]) "result" (getV σ.dc k)) "result" = some (.exact (.ref d.a)) := by
      show some (getV σ.dc k) = _
      unfold getV St.dc
      rw [dc_lookup, hf]; rfl
    refine st_return (v := .exact (.ref d.a)) F hAA T₂ R₃ (PE.var (hv := hv)) fun r s₄ B₄ l₄ T₄ R₄ d₄ => ?_
    show Q r s₄
    rw [den_exact.mp d₄]
    exact kk σ d s₄ B₄ ((le₁.trans l₂).trans l₄) T₄ (.old (List.mem_of_find?_eq_some hf) (by simpa using List.find?_some hf)) R₄.app
  | none =>
    rw [hf] at d₂
    have hd := den_none.mp d₂
    subst hd
    refine wpAny_is_plain rfl (wpAny_truthy_bool (wpAny_execs_cons (wpAny_Assign_two ?_)))
    obtain ⟨K, hK, NF⟩ := T₂.ni
    refine wpAny_Call_NameR (PE.use (v := .exact (.ref 40)) (PE.glob rfl rfl) (hAA _) T₂ F.ok F.sees0 R₃ fun r s₄ B₄ l₄ T₄ R₄ d₄ => ?_)
    rw [den_exact.mp d₄]
    refine callWith_of (P := fun hp => K.In hp) rfl (fun hp X => keeps_K NF.keep hp X) (evalArgs_kw rfl (args_cons (PE.use (v := .int k) PE.var (hAA _) T₄ F.ok F.sees0 R₄ fun r' s₅ B₅ l₅ T₅ R₅ d₅ => args_nil (wpAny_evalAll_nil ⟨fun b o e => R₅.base _ _ (l₅ _ _ (l₄ _ _ (hK b o e))), ?_⟩)) rfl))
    refine new_node (n := n) (hAA _) T₅ R₅ d₅ fun a l s₆ B₆ l₆ T₆ R₆ => ?_
    rw [assign_Subscript]
    have hX : RmE (n + 2) _ env (niItem a [some (.int k), some (.int 0), some (.exact (.ref l))] :: lstItem l [] :: (σ.items h ++ own)) := hAA.add.add
    have R₇ : Rep w os B₆ (frameI env env.cells (upd (parV ["self", "node"] [.exact (.ref h.x), .int k]) "result" (getV σ.dc k)) ++ (niItem a [some (.int k), some (.int 0), some (.exact (.ref l))] :: lstItem l [] :: (σ.items h ++ own))) s₆ := R₆.perm (by
      refine (List.Perm.cons _ List.perm_middle.symm).trans ?_
      exact List.perm_middle.symm)
    have hΩ' : ∀ i ∈ σ.items h, i ∈ niItem a [some (.int k), some (.int 0), some (.exact (.ref l))] :: lstItem l [] :: (σ.items h ++ own) := fun i hi => List.mem_cons_of_mem _ (List.mem_cons_of_mem _ (hΩ i hi))
    refine wpAny_bind (wpAny_holding (PE.use (v := .exact (.ref h.D)) (PE.so (x := h.x) rfl rfl m1 m2 no_node2info rfl) (hX _) T₆ F.ok (F.sees1 hΩ') R₇ fun r₈ s₈ B₈ l₈ T₈ R₈ d₈ => ?_))
    refine wpAny_bind (wpAny_holding (PE.use (v := .int k) PE.var (hX _) T₈ F.ok F.sees0 R₈ fun r₉ s₉ B₉ l₉ T₉ R₉ d₉ => ?_))
    rw [den_exact.mp d₈]
    refine wpAny_bind (wpAny_standAt (wpAny_bind (wpAny_holding ?_)))
    have e1 : frameI env env.cells (upd (parV ["self", "node"] [.exact (.ref h.x), .int k]) "result" (getV σ.dc k)) ++ (niItem a [some (.int k), some (.int 0), some (.exact (.ref l))] :: lstItem l [] :: (σ.items h ++ own)) = (frameI env env.cells (upd (parV ["self", "node"] [.exact (.ref h.x), .int k]) "result" (getV σ.dc k)) ++ [niItem a [some (.int k), some (.int 0), some (.exact (.ref l))], lstItem l [], soItem h.x h.dx, adItem h.dx (σ.ad h)]) ++ dcItem h.D σ.dc :: (rdI σ.rd ++ σ.nodes.flatMap Nd.items ++ own) := by
      simp [St.items]
    rw [e1] at R₉
    refine dc_set (v := .exact (.ref a)) T₉ R₉ d₉ (den_exact.mpr rfl) (by unfold St.dc; rw [List.length_map]; omega) fun s₁₀ R₁₀ => wpAny_release ?_
    have hno : ∀ d ∈ σ.nodes, d.k ≠ k := fun d hd q => by
      have := List.find?_eq_none.mp hf d hd
      simp [q] at this
    have hst : storedV σ.dc k (.exact (.ref a)) = St.dc { σ with nodes := σ.nodes ++ [⟨k, a, l, 0, []⟩] } := by
      unfold storedV St.dc
      rw [if_neg]
      · simp
      · simp only [List.any_map, List.any_eq_true, not_exists, not_and]
        intro d hd q
        exact hno d hd (by simpa using q)
    rw [hst] at R₁₀
    have R₁₁ : Rep w os B₉ (frameI env env.cells (upd (parV ["self", "node"] [.exact (.ref h.x), .int k]) "result" (getV σ.dc k)) ++ (St.items h { σ with nodes := σ.nodes ++ [⟨k, a, l, 0, []⟩] } ++ own)) s₁₀ := R₁₀.perm (by
      have hp := ((List.perm_append_comm (l₁ := [niItem a [some (.int k), some (.int 0), some (.exact (.ref l))], lstItem l []]) (l₂ := soItem h.x h.dx :: adItem h.dx (σ.ad h) :: dcItem h.D (St.dc { σ with nodes := σ.nodes ++ [⟨k, a, l, 0, []⟩] }) :: (rdI σ.rd ++ σ.nodes.flatMap Nd.items))).append_right own).append_left (frameI env env.cells (upd (parV ["self", "node"] [.exact (.ref h.x), .int k]) "result" (getV σ.dc k)))
      simp only [St.items, List.flatMap_append, List.flatMap_cons, List.flatMap_nil, Nd.items, List.append_assoc, List.cons_append, List.nil_append, List.map_nil, List.append_nil] at hp ⊢
      exact hp)
    have hY : RmE (n + 2) _ env (St.items h { σ with nodes := σ.nodes ++ [⟨k, a, l, 0, []⟩] } ++ own) := hB0.app
    refine assign_rep (v := .exact (.ref a)) (pre := []) F.fr (F.var (isVar_or (by rfl))) R₁₁ (den_exact.mpr rfl) fun s₁₂ R₁₂ => ?_
    refine wpAny_execs_nil (wpAny_execs_cons (st_return (v := .exact (.ref a)) F hY T₉ R₁₂ PE.var fun r s₁₃ B₁₃ l₁₃ T₁₃ R₁₃ d₁₃ => ?_))
    show Q r s₁₃
    rw [den_exact.mp d₁₃]
    exact kk _ ⟨k, a, l, 0, []⟩ s₁₃ B₁₃ ((((le₁.trans l₂).trans l₄).trans (l₅.trans l₆)).trans ((l₈.trans l₉).trans l₁₃)) T₁₃ (.new hno) R₁₃.app
end
end Mine

namespace Mine
/-- a node of the state is turned -/
def St.on (σ : St) (j : Int) (f : Nd → Nd) : St := { σ with nodes := σ.nodes.map fun d => if d.k = j then f d else d }
def St.keys (σ : St) : List Int := σ.nodes.map Nd.k
theorem on_keys {σ : St} {j : Int} {f : Nd → Nd} (hf : ∀ d, (f d).k = d.k) : (σ.on j f).keys = σ.keys := by
  unfold St.keys St.on
  rw [List.map_map]
  refine List.map_congr_left fun d _ => ?_
  show (if d.k = j then f d else d).k = d.k
  split
  · exact hf d
  · rfl
theorem on_dc {σ : St} {j : Int} {f : Nd → Nd} (hf : ∀ d, (f d).k = d.k) (ha : ∀ d, (f d).a = d.a) : (σ.on j f).dc = σ.dc := by
  unfold St.dc St.on
  rw [List.map_map]
  refine List.map_congr_left fun d _ => ?_
  show ((if d.k = j then f d else d).k, V.exact (.ref (if d.k = j then f d else d).a)) = _
  split
  · rw [hf, ha]
  · rfl
theorem on_split {σ : St} {p1 p2 : List Nd} {d : Nd} {f : Nd → Nd} (hN : σ.keys.Nodup) (e : σ.nodes = p1 ++ d :: p2) : (σ.on d.k f).nodes = p1 ++ f d :: p2 := by
  unfold St.keys at hN
  rw [e, List.map_append, List.map_cons] at hN
  obtain ⟨n1, n2, n3⟩ := List.nodup_append.mp hN
  obtain ⟨n4, n5⟩ := List.nodup_cons.mp n2
  unfold St.on
  rw [e]
  simp only [List.map_append, List.map_cons, if_true]
  congr 1
  · refine (List.map_congr_left fun x hx => ?_).trans (List.map_id _)
    have : x.k ≠ d.k := n3 _ (List.mem_map.mpr ⟨x, hx, rfl⟩) _ (by simp)
    simp [this]
  · congr 1
    refine (List.map_congr_left fun x hx => ?_).trans (List.map_id _)
    have : x.k ≠ d.k := fun q => n4 (q ▸ List.mem_map.mpr ⟨x, hx, rfl⟩)
    simp [this]
def St.pre (h : Hn) (σ : St) (p1 : List Nd) : List Item := soItem h.x h.dx :: adItem h.dx (σ.ad h) :: dcItem h.D σ.dc :: (rdI σ.rd ++ p1.flatMap Nd.items)
theorem items_split {h : Hn} {σ : St} {p1 p2 : List Nd} {d : Nd} (e : σ.nodes = p1 ++ d :: p2) :
    σ.items h = σ.pre h p1 ++ niItem d.a [some (.int d.k), some (.int d.np), some (.exact (.ref d.l))] :: lstItem d.l (d.su.map V.int) :: p2.flatMap Nd.items := by
  unfold St.items St.pre
  rw [e]
  simp [Nd.items]
theorem pre_on {h : Hn} {σ : St} {j : Int} {f : Nd → Nd} {p1 : List Nd} (hf : ∀ d, (f d).k = d.k) (ha : ∀ d, (f d).a = d.a) : (σ.on j f).pre h p1 = σ.pre h p1 := by
  unfold St.pre
  rw [on_dc hf ha]
  rfl
def Nd.setNp (c : Int) (d : Nd) : Nd := { d with np := c }
def Nd.addSu (k : Int) (d : Nd) : Nd := { d with su := d.su ++ [k] }
section
variable {w : World} {os : OsState} {n : Nat} {sc : Scope} {ρ : Str → Option V} {Ω : List Item} {A : Around} {env : Env} {B : Bs} {own R : List Item} {s : Shared} {E : Value → Shared → Prop}
theorem Rep.swap {X Y Z : List Item} (R : Rep w os B (X ++ (Y ++ Z)) s) : Rep w os B (Y ++ (X ++ Z)) s := R.perm (by
  rw [← List.append_assoc, ← List.append_assoc]; exact List.perm_append_comm.append_right Z)
theorem m_so {h : Hn} {σ : St} : soItem h.x h.dx ∈ σ.items h := List.mem_cons_self ..
theorem m_ad {h : Hn} {σ : St} : adItem h.dx (σ.ad h) ∈ σ.items h := List.mem_cons_of_mem _ (List.mem_cons_self ..)
theorem m_dc {h : Hn} {σ : St} : dcItem h.D σ.dc ∈ σ.items h := List.mem_cons_of_mem _ (List.mem_cons_of_mem _ (List.mem_cons_self ..))
theorem m_ni {h : Hn} {σ : St} {d : Nd} (hd : d ∈ σ.nodes) : niItem d.a [some (.int d.k), some (.int d.np), some (.exact (.ref d.l))] ∈ σ.items h := by
  obtain ⟨p1, p2, e⟩ := List.append_of_mem hd
  rw [items_split e]; simp
theorem m_su {h : Hn} {σ : St} {d : Nd} (hd : d ∈ σ.nodes) : lstItem d.l (d.su.map V.int) ∈ σ.items h := by
  obtain ⟨p1, p2, e⟩ := List.append_of_mem hd
  rw [items_split e]; simp
/-- a method of the sorter is called from a frame -/
theorem so_meth0 {nm name : Str} {p apos pos : Pos} {x dx : Addr} {l : List (Str × V)} {X : List Item} {f : Addr} {y : Option Value} {Q : Value → Shared → Prop} (h1 : soItem x dx ∈ X) (h2 : adItem dx l ∈ X) (F : FnEnv env sc) (hA : RmE n A env (X ++ own)) (T : TopB w B)
    (hR : Rep w os B (frameI env env.cells ρ ++ (X ++ own)) s) (hx : ρ nm = some (.exact (.ref x))) (hk : isVar sc nm = true) (hf : tsTab.lookup name = some (.ref f)) (hfn : (fTab.lookup f).isSome = true)
    (hl : l.lookup name = Option.none) (hB : typeLookup (.type "object") name = pure y)
    (k : ∀ s' B', Le B B' → TopB w B' → Rep w os B' (X ++ (frameI env env.cells ρ ++ own)) s' → wpAny (model pg w) A (call (.ref f) [.ref x]) Q E s')
    {pl : Sem Bool} (he : eval (.Call (.Attribute (.Name nm p) name apos) [] [] pos) env = (do
      let ov ← eval (.Name nm p) env
      standAt apos.atName
      let (f, first) ← holding [ov] (getMethod ov name pl)
      callWith pos f first (backTo pos (starEach [] env)) []) := by rfl)
    (hd : (nm == ("__debug__" : Str)) = false := by decide) : wpAny (model pg w) A (eval (.Call (.Attribute (.Name nm p) name apos) [] [] pos) env) Q E s := by
  have hΩ : ∀ i ∈ X, i ∈ X ++ own := fun i hi => List.mem_append_left _ hi
  have hS := F.sees1 (ρ := ρ) hΩ
  refine MethodCall_ ((PE.name hx (isVar_or hk) hd).use (hA ρ) T F.ok hS hR fun r s₁ B₁ l₁ T₁ R₁ d₁ => ?_) he
  rw [den_exact.mp d₁]
  refine so_method T₁ R₁ (hS.its _ h1) (hS.its _ h2) hf hfn hl hB ?_
  obtain ⟨rec, hrec⟩ := Option.isSome_iff_exists.mp hfn
  obtain ⟨doc, pm, cd, ct, nm', ⟨hfd, _⟩⟩ := T₁.fns f rec hrec
  exact callWith_meth0 rfl (R₁.base _ _ hfd) (k s₁ B₁ l₁ T₁ R₁.swap)
theorem so_meth1 {nm name : Str} {p apos pos : Pos} {e : Expr} {es : List Expr} {vs : List V} {x dx : Addr} {l : List (Str × V)} {X : List Item} {f : Addr} {y : Option Value} {Q : Value → Shared → Prop} (h1 : soItem x dx ∈ X) (h2 : adItem dx l ∈ X) (F : FnEnv env sc) (hA : RmE n A env (X ++ own)) (T : TopB w B)
    (hR : Rep w os B (frameI env env.cells ρ ++ (X ++ own)) s) (hx : ρ nm = some (.exact (.ref x))) (hk : isVar sc nm = true) (hf : tsTab.lookup name = some (.ref f)) (hfn : (fTab.lookup f).isSome = true)
    (hl : l.lookup name = Option.none) (hB : typeLookup (.type "object") name = pure y) (hargs : PEs w os n X sc ρ (e :: es) vs)
    (k : ∀ rs s' B', Le B B' → TopB w B' → Rep w os B' (X ++ (frameI env env.cells ρ ++ own)) s' → dens w B' vs rs → wpAny (model pg w) A (call (.ref f) (.ref x :: rs)) Q E s')
    {pl : Sem Bool} (he : eval (.Call (.Attribute (.Name nm p) name apos) (e :: es) [] pos) env = (do
      let ov ← eval (.Name nm p) env
      standAt apos.atName
      let (f, first) ← holding [ov] (getMethod ov name pl)
      callWith pos f first (backTo pos (starEach (e :: es) env)) []) := by rfl)
    (hst : starEach (e :: es) env = (false, eval e env) :: starEach es env := by rfl)
    (hd : (nm == ("__debug__" : Str)) = false := by decide) : wpAny (model pg w) A (eval (.Call (.Attribute (.Name nm p) name apos) (e :: es) [] pos) env) Q E s := by
  have hΩ : ∀ i ∈ X, i ∈ X ++ own := fun i hi => List.mem_append_left _ hi
  have hS := F.sees1 (ρ := ρ) hΩ
  refine MethodCall_ ((PE.name hx (isVar_or hk) hd).use (hA ρ) T F.ok hS hR fun r s₁ B₁ l₁ T₁ R₁ d₁ => ?_) he
  rw [den_exact.mp d₁]
  refine so_method T₁ R₁ (hS.its _ h1) (hS.its _ h2) hf hfn hl hB ?_
  obtain ⟨rec, hrec⟩ := Option.isSome_iff_exists.mp hfn
  obtain ⟨doc, pm, cd, ct, nm', ⟨hfd, _⟩⟩ := T₁.fns f rec hrec
  have ha := hargs A env B₁ _ s₁ E pos (hA ρ) T₁ F.ok hS R₁
  rw [hst] at ha ⊢
  exact Calls.callWith_function (fd := mkFd rec.q (psOf rec.st) (bodyOf rec.st) (scOf rec.st) rec.df rec.kd doc pm cd ct nm') (Calls.evalArgs_plain (wpAny_mono ha (fun rs s₂ ⟨B₂, l₂, R₂, d₂⟩ => ⟨⟨R₂.base _ _ (l₂ _ _ hfd), rfl⟩, k rs s₂ B₂ (l₁.trans l₂) (T₁.mono l₂) R₂.swap d₂⟩) fun _ _ e => e))
/-- the count of a node is set -/
theorem np_set {h : Hn} {σ : St} {d : Nd} {c : Int} {r : Value} {X : List Item} {L : Addr} {mm : Str → Option V} {Q : Unit → Shared → Prop} (T : TopB w B) (R : Rep w os B (X ++ (σ.items h ++ own)) s) (hL : nsItem L mm ∈ X) (hd : d ∈ σ.nodes) (hN : σ.keys.Nodup) (dc : den w B (.int c) r)
    (k : ∀ s', Rep w os B (X ++ ((σ.on d.k (Nd.setNp c)).items h ++ own)) s' → Q () s') : wpAny (model pg w) A (setAttr (.ref d.a) "npredecessors" r) Q E s := by
  obtain ⟨p1, p2, e⟩ := List.append_of_mem hd
  have e1 : X ++ (σ.items h ++ own) = (X ++ σ.pre h p1) ++ niItem d.a [some (.int d.k), some (.int d.np), some (.exact (.ref d.l))] :: (lstItem d.l (d.su.map V.int) :: (p2.flatMap Nd.items ++ own)) := by
    rw [items_split e]; simp
  have e2 : X ++ ((σ.on d.k (Nd.setNp c)).items h ++ own) = (X ++ σ.pre h p1) ++ niItem d.a (setS [some (.int d.k), some (.int d.np), some (.exact (.ref d.l))] 1 (.int c)) :: (lstItem d.l (d.su.map V.int) :: (p2.flatMap Nd.items ++ own)) := by
    rw [items_split (on_split hN e)]
    rw [pre_on (f := Nd.setNp c) (fun _ => rfl) (fun _ => rfl)]
    simp [setS, Nd.setNp]
  have hL' : nsItem L mm ∈ X ++ (σ.items h ++ own) := List.mem_append_left _ hL
  rw [e1] at R hL'
  rw [e2] at k
  exact ni_set T R hL' (fun K N => N.npred) (by decide) dc k
/-- o.append(e), o a list of one's own -/
theorem st_appendO {o e : Expr} {apos pos pos' : Pos} {D : Addr} {ys : List V} {v : V} {pre post : List Item} {Q : Flow → Shared → Prop} (Ω : List Item) (hΩ : ∀ i ∈ Ω, i ∈ R) (F : FnEnv env sc) (hA : RmE n A env R) (T : TopB w B) (h : Rep w os B (frameI env env.cells ρ ++ R) s) (hR : R = pre ++ lstItem D ys :: post)
    (ho : PE w os n Ω sc ρ o (.exact (.ref D))) (he : PE w os n Ω sc ρ e v) (hsz : ys.length ≤ sizeLine)
    (k : ∀ s' B', Le B B' → TopB w B' → Rep w os B' (frameI env env.cells ρ ++ (pre ++ lstItem D (ys ++ [v]) :: post)) s' → Q .next s')
    (hb : attributeBase o "append" env (eval o env) = eval o env := by rfl) (hline : (apos.endLine == pos.line) = true := by rfl) (hsc : sc.kind = .function := by rfl)
    (ht : ∀ env, backTo pos (starEach [e] env) = [(false, eval e env)] := by intro _; rfl) :
    wpAny (model pg w) A (exec (.Expr (.Call (.Attribute o "append" apos) [e] [] pos) pos') env) Q E s := by
  refine wpAny_Expr_any ?_ (by unfold interactive; rw [F.ok.scope, hsc]; rfl)
  refine wpAny_Call_append hb (by rw [ht]; rfl) hline (ht env) ?_
  refine ho.use (hA ρ) T F.ok (F.sees1 hΩ) h fun r s₁ B₁ l₁ T₁ R₁ d₁ => ?_
  rw [den_exact.mp d₁]
  have mem : lstItem D ys ∈ frameI env env.cells ρ ++ R := by rw [hR]; simp
  obtain ⟨o, ho, its, m, rfl, ds⟩ := R₁.has _ mem
  refine ⟨D, its, rfl, ⟨_, m, ho, rfl, rfl, rfl⟩, he.use (hA ρ) T₁ F.ok (F.sees1 hΩ) R₁ fun r' s₂ B₂ l₂ T₂ R₂ d₂ => ?_⟩
  obtain ⟨o, ho, its, m, rfl, ds⟩ := R₂.has _ mem
  refine append_at ho (fun h' hs ho' => k _ B₂ (l₁.trans l₂) T₂ ?_) (by rw [ds.size]; exact hsz)
  have e1 : frameI env env.cells ρ ++ R = (frameI env env.cells ρ ++ pre) ++ lstItem D ys :: post := by rw [hR]; simp
  have R3 := R₂.writeAt e1 (i' := lstItem D (ys ++ [v])) s₂.toks (fun b o hb e => hs.extBut b o hb e) rfl ho' ⟨_, _, rfl, by
    rw [Array.toList_push]; exact ds.append (dens_cons.mpr ⟨r', [], rfl, d₂, dens_nil.mpr rfl⟩)⟩
  simpa using R3
theorem su_split {h : Hn} {σ : St} {d : Nd} {k : Int} {p1 p2 : List Nd} (hN : σ.keys.Nodup) (e : σ.nodes = p1 ++ d :: p2) : (σ.on d.k (Nd.addSu k)).items h ++ own =
    (σ.pre h p1 ++ [niItem d.a [some (.int d.k), some (.int d.np), some (.exact (.ref d.l))]]) ++ lstItem d.l (d.su.map V.int ++ [.int k]) :: (p2.flatMap Nd.items ++ own) := by
  rw [items_split (on_split hN e)]
  rw [pre_on (f := Nd.addSu k) (fun _ => rfl) (fun _ => rfl)]
  simp [Nd.addSu]
theorem Fn.lenT {xs : List V} (hsz : xs.length ≤ sizeLine) : Fn w os n (.builtin "len") [.tuple xs] (.int xs.length) := by
  intro A B own s rs E hA T R d
  obtain ⟨r, rfl, d1⟩ := dens_one d
  obtain ⟨a, its, m, rfl, b, ds⟩ := den_tuple.mp d1
  refine len_tuple ⟨_, R.base _ _ b, rfl, m, rfl⟩ (by rw [ds.size]; unfold sizeLine at hsz; omega) ?_
  rw [ds.size]
  exact .now (R.toks _) (den_int.mpr ⟨_, rfl⟩)
end
end Mine

namespace Mine
section
variable {w : World} {os : OsState} {n : Nat} {sc : Scope} {ρ : Str → Option V} {Ω : List Item} {A : Around} {env : Env} {B : Bs} {own R : List Item} {s : Shared} {E : Value → Shared → Prop}
theorem no_getinfo : typeLookup (.type "object") "_get_nodeinfo" = pure Option.none := by rw [typeLookup_type, builtinLookup_eq_fast]; kernel_rfl
theorem isNot_none : Cmp w os n .IsNot .none .none (.bool false) := by
  intro A B own s r r' E hA T R d d'
  rw [den_none.mp d, den_none.mp d']
  exact wpAny_isNot_plain rfl (.now R (den_bool.mpr rfl))
theorem is_ref {a : Addr} : Cmp w os n .Is (.exact (.ref a)) .none (.bool false) := by
  intro A B own s r r' E hA T R d d'
  rw [den_exact.mp d, den_none.mp d']
  exact wpAny_is_plain rfl (.now R (den_bool.mpr rfl))
/-- the state after add(k, *ps), the nodes all there -/
def St.addP (k : Int) (σ : St) (j : Int) : St := σ.on j (Nd.addSu k)
def St.npAdd (σ : St) (k : Int) (c : Int) : St := σ.on k fun d => Nd.setNp (d.np + c) d
theorem addP_keys {k : Int} : ∀ (ps : List Int) (σ : St), (ps.foldl (St.addP k) σ).keys = σ.keys
  | [], σ => rfl
  | j :: ps, σ => by rw [List.foldl_cons, addP_keys ps]; exact on_keys fun _ => rfl
theorem on_same {σ : St} {d : Nd} {f g : Nd → Nd} (hN : σ.keys.Nodup) (hd : d ∈ σ.nodes) (e : f d = g d) : σ.on d.k f = σ.on d.k g := by
  obtain ⟨p1, p2, q⟩ := List.append_of_mem hd
  have h1 := on_split (f := f) hN q
  have h2 := on_split (f := g) hN q
  rw [e, ← h2] at h1
  unfold St.on at h1 ⊢
  simp only at h1
  rw [h1]
structure GotF (σ : St) (k : Int) (σ' : St) (d : Nd) : Prop where
  mem : d ∈ σ'.nodes
  key : d.k = k
  nodup : σ'.keys.Nodup
  rd : σ'.rd = σ.rd
  few : σ'.nodes.length ≤ σ.nodes.length + 1
  sub : ∀ j ∈ σ.keys, j ∈ σ'.keys
  su : ∀ d ∈ σ'.nodes, d.su.length ≤ 1000
theorem Got.facts {σ σ' : St} {k : Int} {d : Nd} (g : Got σ k σ' d) (hN : σ.keys.Nodup) (hsu : ∀ d ∈ σ.nodes, d.su.length ≤ 1000) : GotF σ k σ' d := by
  cases g with
  | old hd hk => exact ⟨hd, hk, hN, rfl, Nat.le_succ _, fun _ h => h, hsu⟩
  | new hno =>
    refine ⟨by simp, rfl, ?_, rfl, by simp, fun j hj => by unfold St.keys at hj ⊢; rw [List.map_append]; exact List.mem_append_left _ hj, fun d hd => ?_⟩
    · unfold St.keys at hN ⊢
      rw [List.map_append]
      refine List.nodup_append.mpr ⟨hN, by simp, fun a ha b hb q => ?_⟩
      obtain ⟨x, hx, rfl⟩ := List.mem_map.mp ha
      have : b = k := by simpa using hb
      exact hno x hx (q.trans this)
    · rcases List.mem_append.mp hd with h | h
      · exact hsu d h
      · have : d = _ := List.mem_singleton.mp h
        subst this; simp
theorem mem_keys {σ : St} {j : Int} (h : j ∈ σ.keys) : ∃ d ∈ σ.nodes, d.k = j := List.mem_map.mp h
theorem add_core {A : Around} {B : Bs} {own : List Item} {s : Shared} {E : Value → Shared → Prop} {Q : Value → Shared → Prop} {h : Hn} {σ : St} {k : Int} {ps : List Int} {rk : Value} {rs : List Value} (hrd : σ.rd = Option.none) (hA : Rm (n + 4) A own) (T : TopB w B) (R : Rep w os B (σ.items h ++ own) s) (dk : den w B (.int k) rk) (dp : dens w B (ps.map V.int) rs)
    (hps : ps = [] ∨ (∃ j, ps = [j] ∧ j ∈ σ.keys) ∧ k ∈ σ.keys) (hN : σ.keys.Nodup) (hfew : σ.nodes.length ≤ 50) (hsu : ∀ d ∈ σ.nodes, d.su.length ≤ 1000)
    (kk : ∀ σ' d s' B', Le B B' → TopB w B' → Got σ k σ' d → Rep w os B' ((ps.foldl (St.addP k) (σ'.npAdd k ps.length)).items h ++ own) s' → Q .none s') : wpAny (model pg w) A (call (.ref 87) (.ref h.x :: rk :: rs)) Q E s := by
  have hA0 : Rm (n + 3 + 1) A (σ.items h ++ own) := hA.more fun i hi => List.mem_append_right _ hi
  have hlen := dp.length
  rw [List.length_map] at hlen
  have hpl : ps.length ≤ 1 := by rcases hps with rfl | ⟨⟨j, rfl, _⟩, _⟩ <;> simp
  refine call_gen (r := ⟨"TopologicalSorter.add", inClass 2 (fdef 6), .none, .none⟩) rfl ["self", "node", "predecessors"] [.exact (.ref h.x), .int k, .tuple (ps.map V.int)] hA0 T R (by decide) (fun doc pm cd ct nm E' Q' hq => ?_) (by decide) (by decide) rfl rfl rfl ?_
  · have hb : bindArgs (mkFd "TopologicalSorter.add" (psOf (inClass 2 (fdef 6))) (bodyOf (inClass 2 (fdef 6))) (scOf (inClass 2 (fdef 6))) .none .none doc pm cd ct nm) ⟨.ref h.x :: rk :: rs, []⟩ = (do let t ← newTuple rs; pure [(("self" : Str), .ref h.x), ("node", rk), ("predecessors", t)]) := by
      rcases hps with rfl | ⟨⟨j, rfl, _⟩, _⟩
      · have : rs = [] := by simpa using hlen
        subst this; rfl
      · obtain ⟨r, rfl, _⟩ := dens_one dp
        rfl
    rw [hb]
    refine wpAny_bind (wpAny_newObj_type ?_ ?_)
    · obtain ⟨B', le, R', d'⟩ := R.newTuple s.toks (xs := ps.map V.int) (its := rs.toArray) (by simpa using dp)
      exact wpAny_pure (hq _ B' [.ref h.x, rk, .ref s.heap.objs.size] le R' (dens_cons.mpr ⟨_, _, rfl, den_exact.mpr rfl, dens_cons.mpr ⟨_, _, rfl, den.mono le _ dk, dens_cons.mpr ⟨_, _, rfl, d', dens_nil.mpr rfl⟩⟩⟩))
    · show rs.toArray.size ≤ sizeLine
      rw [List.size_toArray, hlen]; unfold sizeLine; omega
  intro env s₁ B₁ E' hE le₁ T₁ F hA' R₁
  have hB0 : RmE (n + 3) _ env own := RmE.rest hA hA' F
  have hΩ : ∀ (σ : St), ∀ i ∈ σ.items h, i ∈ σ.items h ++ own := fun σ i hi => List.mem_append_left _ hi
  refine wpAny_execs_cons (st_ifW (σ.items h) (b := false) (hΩ σ) F hB0.app T₁ R₁ (PT.cmp (x := .none) (y := .none) (PE.so (x := h.x) rfl rfl m_so m_ad no_ready (by show some (rdV σ.rd) = _; rw [hrd]; rfl)) PE.none isNot_none) fun s₂ B₂ le₂ T₂ R₂ => ?_)
  refine wpAny_execs_nil (wpAny_execs_cons ?_)
  refine wpAny_Assign_Name (so_meth1 (f := 80) m_so m_ad F hB0.app T₂ R₂ rfl rfl rfl rfl rfl no_getinfo (PEs.cons PE.var PEs.nil) fun rs' s₃ B₃ le₃ T₃ R₃ d₃ => ?_) rfl
  obtain ⟨r', rfl, d₃'⟩ := dens_one d₃
  refine getinfo (n := n) ((hB0 _)) T₃ R₃ d₃' (by omega) fun σ' d s₄ B₄ le₄ T₄ got R₄ => ?_
  have G := got.facts hN hsu
  refine store_rep (v := .exact (.ref d.a)) (pre := []) F.fr (F.var (isVar_or (by rfl))) R₄.swap (den_exact.mpr rfl) fun s₅ R₅ => ?_
  refine wpAny_execs_cons (wpAny_AugAssign_AttributeAny ?_)
  refine PE.use (v := .exact (.ref d.a)) PE.var (hB0.app (X := σ'.items h) _) T₄ F.ok (F.sees1 (hΩ σ')) R₅ fun r s₆ B₆ le₆ T₆ R₆ d₆ => ?_
  rw [den_exact.mp d₆]
  refine ni_get T₆ R₆ ((F.sees1 (hΩ σ')).its _ (m_ni G.mem)) (fun K N => N.npred) (v := .int d.np) rfl rfl fun r₇ s₇ R₇ d₇ => ?_
  refine PE.use (v := .int ps.length) (PE.cast (PE.callB (id := "len") PE.blt (PEs.cons (PE.var (v := .tuple (ps.map V.int))) PEs.nil) (Fn.lenT (by rw [List.length_map]; unfold sizeLine; omega))) (by rw [List.length_map])) (hB0.app (X := σ'.items h) _) T₆ F.ok (F.sees1 (hΩ σ')) R₇ fun r₈ s₈ B₈ le₈ T₈ R₈ d₈ => ?_
  obtain ⟨t₇, rfl⟩ := den_int.mp d₇
  obtain ⟨t₈, rfl⟩ := den_int.mp d₈
  refine iadd_int ?_
  refine np_set (c := d.np + ps.length) (X := frameI env env.cells _) (L := env.locals) T₈ (R₈.toks _) (List.mem_cons_self ..) G.mem G.nodup (den_int.mpr ⟨_, rfl⟩) fun s₉ R₉ => ?_
  have e9 : σ'.on d.k (Nd.setNp (d.np + ps.length)) = σ'.npAdd k ps.length := by
    rw [← G.key]
    exact on_same G.nodup G.mem rfl
  rw [e9] at R₉
  have k9 : (σ'.npAdd k ps.length).keys = σ'.keys := on_keys fun _ => rfl
  generalize hσ₂ : σ'.npAdd k ps.length = σ₂ at R₉ k9
  have su2 : ∀ d ∈ σ₂.nodes, d.su.length ≤ 1000 := by
    rw [← hσ₂]
    intro x hx
    obtain ⟨y, hy, rfl⟩ := List.mem_map.mp hx
    have := G.su y hy
    by_cases q : y.k = k
    · rw [if_pos q]; exact this
    · rw [if_neg q]; exact this
  have rd2 : σ₂.rd = σ.rd := by rw [← hσ₂]; exact G.rd
  have few2 : σ₂.nodes.length ≤ 51 := by
    rw [← hσ₂]
    show (List.map _ _).length ≤ _
    rw [List.length_map]; have := G.few; omega
  have le9 : Le B B₈ := (((le₁.trans le₂).trans (le₃.trans le₄)).trans le₆).trans le₈
  refine wpAny_execs_cons (st_forW (σ₂.items h) ps V.int (fun i B' ρ' R' => ρ' = tab [("self", .exact (.ref h.x)), ("node", .int k), ("predecessors", .tuple (ps.map V.int))] ∧ R' = ((ps.take i).foldl (St.addP k) σ₂).items h ++ own) (hΩ σ₂) F hB0.app T₈
    (R₉.keep [("self", .exact (.ref h.x)), ("node", .int k), ("predecessors", .tuple (ps.map V.int))] ⟨rfl, rfl, rfl, trivial⟩) (PI.tuple PE.var) (by rfl) (fun B' _ => ⟨rfl, rfl⟩) ?_ ?_)
  · rintro i j B' ρ' R' J s' E'' hE' hj le T' ⟨rfl, rfl⟩ hR
    obtain ⟨⟨j', rfl, hj'⟩, hkk⟩ := hps.resolve_left (fun q => by rw [q] at hj; simp at hj)
    obtain rfl : i = 0 := by
      cases i with
      | zero => rfl
      | succ i => simp at hj
    obtain rfl : j' = j := by simpa using hj
    have hR' : Rep w os B' (frameI env env.cells (upd (tab [("self", .exact (.ref h.x)), ("node", .int k), ("predecessors", .tuple ([j'].map V.int))]) "pred" (V.int j')) ++ (σ₂.items h ++ (J :: own))) s' := hR.perm (List.Perm.append_left _ List.perm_middle.symm)
    refine wpAny_execs_cons (wpAny_Assign_Name (so_meth1 (f := 80) (own := J :: own) m_so m_ad F hB0.add.app T' hR' rfl rfl rfl rfl rfl no_getinfo (PEs.cons PE.var PEs.nil) fun rs' s₁₀ B₁₀ le₁₀ T₁₀ R₁₀ d₁₀ => ?_) rfl)
    obtain ⟨r', rfl, d₁₀'⟩ := dens_one d₁₀
    refine getinfo (n := n) ((hB0.add _)) T₁₀ R₁₀ d₁₀' (by omega) fun σ₃ d₃ s₁₁ B₁₁ le₁₁ T₁₁ got₃ R₁₁ => ?_
    have h3 : σ₃ = σ₂ ∧ d₃ ∈ σ₂.nodes ∧ d₃.k = j' := by
      cases got₃ with
      | old hd hk => exact ⟨rfl, hd, hk⟩
      | new hno =>
        obtain ⟨y, hy, e⟩ := mem_keys (σ := σ₂) (j := j') (by rw [k9]; exact G.sub _ hj')
        exact absurd e (hno y hy)
    obtain ⟨rfl, hd3, hk3⟩ := h3
    refine store_rep (v := .exact (.ref d₃.a)) (pre := []) F.fr (F.var (isVar_or (by rfl))) R₁₁.swap (den_exact.mpr rfl) fun s₁₂ R₁₂ => ?_
    obtain ⟨p1, p2, hsp⟩ := List.append_of_mem hd3
    have eR : σ₃.items h ++ (J :: own) = (σ₃.pre h p1 ++ [niItem d₃.a [some (.int d₃.k), some (.int d₃.np), some (.exact (.ref d₃.l))]]) ++ lstItem d₃.l (d₃.su.map V.int) :: (p2.flatMap Nd.items ++ (J :: own)) := by
      rw [items_split hsp]; simp
    have hN3 : σ₃.keys.Nodup := by rw [k9]; exact G.nodup
    refine wpAny_execs_cons (st_appendO (σ₃.items h) (fun i hi => List.mem_append_left _ hi) F hB0.add.app T₁₁ R₁₂ eR (v := .int k) (PE.ni (a := d₃.a) rfl rfl (m_ni hd3) (fun K N => N.succ) rfl) PE.var (by rw [List.length_map]; have := su2 d₃ hd3; unfold sizeLine; omega) fun s₁₃ B₁₃ le₁₃ T₁₃ R₁₃ => ?_)
    rw [← su_split hN3 hsp] at R₁₃
    refine wpAny_execs_nil ⟨B₁₃, _, _, (le₁₀.trans le₁₁).trans le₁₃, ⟨rfl, rfl⟩, ?_⟩
    have R₁₄ := R₁₃.keep [("self", .exact (.ref h.x)), ("node", .int k), ("predecessors", .tuple ([j'].map V.int))] ⟨rfl, rfl, rfl, trivial⟩
    rw [hk3] at R₁₄
    exact R₁₄.perm (List.Perm.append_left _ List.perm_middle)
  · rintro B' ρ' R' s' le T' ⟨rfl, rfl⟩ hR
    rw [List.take_length] at hR
    rw [← hσ₂] at hR
    exact wpAny_execs_nil (kk σ' d s' B' (le9.trans le) T' got hR.app)
end
end Mine

namespace Mine
-- the second phase: the dict and the successors are frozen
def Nd.itm2 (d : Nd) : Item := niItem d.a [some (.int d.k), some (.int d.np), some (IL d.su)]
def St.n2i (σ : St) : V := .dict σ.keys (σ.nodes.map fun d => .exact (.ref d.a))
def St.ad2 (σ : St) : List (Str × V) := [("_node2info", σ.n2i), ("_ready_nodes", rdV σ.rd), ("_npassedout", .int σ.out), ("_nfinished", .int σ.fin)]
def St.items2 (x dx : Addr) (σ : St) : List Item := soItem x dx :: adItem dx σ.ad2 :: (rdI σ.rd ++ σ.nodes.map Nd.itm2)
section
variable {w : World} {os : OsState} {n : Nat} {sc : Scope} {ρ : Str → Option V} {Ω : List Item} {A : Around} {env : Env} {B : Bs} {own R : List Item} {s : Shared} {E : Value → Shared → Prop}
theorem Rep.reItem {i i' : Item} (R : Rep w os B (i :: own) s) (hi : i'.addr = i.addr) (hp : ∀ o, i.P w B o → i'.P w B o) : Rep w os B (i' :: own) s := by
  refine ⟨R.base, fun j hj => ?_, fun j hj => ?_, ?_, R.gens, R.os⟩
  · rcases List.mem_cons.mp hj with rfl | hj
    · obtain ⟨o, ho, p⟩ := R.has i (by simp)
      exact ⟨o, hi ▸ ho, hp o p⟩
    · exact R.has j (by simp [hj])
  · rcases List.mem_cons.mp hj with rfl | hj
    · rw [hi]; exact R.off i (by simp)
    · exact R.off j (by simp [hj])
  · obtain ⟨p1, p2⟩ := List.pairwise_cons.mp R.apart
    exact List.pairwise_cons.mpr ⟨fun j hj => by rw [hi]; exact p1 j hj, p2⟩
theorem freeze_nodes : ∀ (ds : List Nd) {B : Bs} {own : List Item}, Rep w os B (ds.flatMap Nd.items ++ own) s → ∃ B', Le B B' ∧ Rep w os B' (ds.map Nd.itm2 ++ own) s
  | [], B, own, R => ⟨B, Le.refl B, R⟩
  | d :: ds, B, own, R => by
    have R1 : Rep w os B (lstItem d.l (d.su.map V.int) :: niItem d.a [some (.int d.k), some (.int d.np), some (.exact (.ref d.l))] :: (ds.flatMap Nd.items ++ own)) s := by
      refine R.perm ?_
      rw [List.flatMap_cons]
      exact List.Perm.swap _ _ _
    obtain ⟨o, ho, ⟨its, m, rfl, dd⟩, R2⟩ := R1.freeze
    have hn := R1.off (lstItem d.l (d.su.map V.int)) (by simp)
    have hl : den w (B.put d.l (listOf its m)) (IL d.su) (.ref d.l) := den_list.mpr ⟨d.l, its, m, rfl, Bs.put_self .., dens.mono (Le.put hn) _ dd⟩
    have R3 := R2.reItem (i' := d.itm2) rfl (fun o hp => by
      obtain ⟨a, b, c, vals, e, f⟩ := hp
      refine ⟨a, b, c, vals, e, ?_⟩
      obtain ⟨r1, _, rfl, d1, r2, _, rfl, d2, r3, rs, rfl, d3, d4⟩ := f
      exact ⟨r1, _, rfl, d1, r2, _, rfl, d2, r3, rs, rfl, (den_exact.mp d3) ▸ hl, d4⟩)
    have R4 : Rep w os (B.put d.l (listOf its m)) (ds.flatMap Nd.items ++ (d.itm2 :: own)) s := R3.perm List.perm_middle.symm
    obtain ⟨B', le, R5⟩ := freeze_nodes ds R4
    exact ⟨B', (Le.put hn).trans le, R5.perm List.perm_middle⟩
theorem phase2 {h : Hn} {σ : St} (T : TopB w B) (R : Rep w os B (σ.items h ++ own) s) : ∃ B', Le B B' ∧ TopB w B' ∧ Rep w os B' (σ.items2 h.x h.dx ++ own) s := by
  have R1 : Rep w os B (σ.nodes.flatMap Nd.items ++ (dcItem h.D σ.dc :: adItem h.dx (σ.ad h) :: soItem h.x h.dx :: (rdI σ.rd ++ own))) s := R.perm (by
    unfold St.items
    refine List.Perm.trans (l₂ := dcItem h.D σ.dc :: adItem h.dx (σ.ad h) :: soItem h.x h.dx :: (σ.nodes.flatMap Nd.items ++ (rdI σ.rd ++ own))) ?_ ?_
    · refine List.Perm.trans ?_ (((List.Perm.swap _ _ _).trans (List.Perm.cons _ (List.Perm.swap _ _ _))).trans (List.Perm.swap _ _ _))
      refine List.Perm.cons _ (List.Perm.cons _ (List.Perm.cons _ ?_))
      rw [← List.append_assoc]
      exact List.perm_append_comm.append_right own
    · refine List.Perm.trans (List.Perm.cons _ (List.Perm.cons _ List.perm_middle.symm)) ?_
      refine List.Perm.trans (List.Perm.cons _ List.perm_middle.symm) ?_
      exact List.perm_middle.symm)
  obtain ⟨B1, l1, R2⟩ := freeze_nodes σ.nodes R1
  have R3 : Rep w os B1 (dcItem h.D σ.dc :: adItem h.dx (σ.ad h) :: soItem h.x h.dx :: (σ.nodes.map Nd.itm2 ++ (rdI σ.rd ++ own))) s := R2.perm (by
    refine List.Perm.trans List.perm_middle (List.Perm.cons _ ?_)
    refine List.Perm.trans List.perm_middle (List.Perm.cons _ ?_)
    exact List.perm_middle)
  obtain ⟨o, ho, ⟨kvs, hp, dk⟩, R4⟩ := R3.freeze
  have hn := R3.off (dcItem h.D σ.dc) (by simp)
  have hd : den w (B1.put h.D o) σ.n2i (.ref h.D) := by
    unfold St.n2i
    refine den_dict.mpr ⟨h.D, o, kvs, rfl, Bs.put_self .., hp, ?_, ?_, ?_⟩
    · rw [dk.keys]; unfold St.dc St.keys; rw [List.map_map]; rfl
    · have := (dk.mono (Le.put (o := o) hn)).vals
      unfold St.dc at this
      rw [List.map_map] at this
      exact this
    · obtain ⟨_, _, _, z⟩ := dc_at (D := h.D) (l := σ.dc) (T.mono l1) R3 (by simp); exact z
  have R5 := R4.reItem (i' := adItem h.dx σ.ad2) rfl (fun o hp => by
    obtain ⟨a, b, es, ep, c, dd, e, f, g⟩ := hp
    refine ⟨a, b, es, ep, c, dd, e, fun y v hy => ?_, fun y hy => g y ?_⟩
    · unfold St.ad2 at hy
      rw [List.lookup_cons] at hy
      by_cases q : y = "_node2info"
      · subst q
        simp at hy
        subst hy
        obtain ⟨r, e1, e2⟩ := f "_node2info" (.exact (.ref h.D)) (by unfold St.ad; simp)
        exact ⟨r, e1, (den_exact.mp e2) ▸ hd⟩
      · refine f y v ?_
        unfold St.ad
        rw [List.lookup_cons]
        have : (y == ("_node2info" : Str)) = false := by simpa using q
        rw [this] at hy ⊢
        exact hy
    · unfold St.ad2 at hy
      unfold St.ad
      rw [List.lookup_cons] at hy ⊢
      by_cases q : y = "_node2info"
      · subst q; simp at hy
      · have : (y == ("_node2info" : Str)) = false := by simpa using q
        rw [this] at hy ⊢
        exact hy)
  refine ⟨B1.put h.D o, l1.trans (Le.put hn), T.mono (l1.trans (Le.put hn)), R5.perm ?_⟩
  unfold St.items2
  refine (List.Perm.swap _ _ _).trans (List.Perm.cons _ (List.Perm.cons _ ?_))
  rw [← List.append_assoc]
  exact List.perm_append_comm.append_right own

-- what is seen of it
theorem n_so {x dx : Addr} {σ : St} : soItem x dx ∈ σ.items2 x dx := List.mem_cons_self ..
theorem n_ad {x dx : Addr} {σ : St} : adItem dx σ.ad2 ∈ σ.items2 x dx := List.mem_cons_of_mem _ (List.mem_cons_self ..)
theorem n_ni {x dx : Addr} {σ : St} {d : Nd} (hd : d ∈ σ.nodes) : niItem d.a [some (.int d.k), some (.int d.np), some (IL d.su)] ∈ σ.items2 x dx := by
  unfold St.items2
  simp only [List.mem_cons, List.mem_append]
  exact .inr (.inr (.inr (List.mem_map.mpr ⟨d, hd, rfl⟩)))
theorem n_rd {x dx r : Addr} {σ : St} {xs : List Int} (h : σ.rd = some (r, xs)) : lstItem r (xs.map V.int) ∈ σ.items2 x dx := by
  unfold St.items2
  rw [h]; simp [rdI]
theorem zip_lookup {l : List Nd} {k : Int} : ((l.map Nd.k).zip (l.map fun d => V.exact (.ref d.a))).lookup k = (l.find? fun d => d.k == k).map fun d => V.exact (.ref d.a) := by
  rw [← dc_lookup]
  congr 1
  induction l with
  | nil => rfl
  | cons d l ih => rw [List.map_cons, List.map_cons, List.map_cons, List.zip_cons_cons, ih]
theorem find_mem {σ : St} {d : Nd} (hN : σ.keys.Nodup) (hd : d ∈ σ.nodes) : (σ.nodes.find? fun x => x.k == d.k) = some d := by
  unfold St.keys at hN
  generalize σ.nodes = l at hN hd
  induction l with
  | nil => cases hd
  | cons x l ih =>
    rw [List.map_cons, List.nodup_cons] at hN
    rw [List.find?_cons]
    rcases List.mem_cons.mp hd with rfl | hd
    · simp
    · have : x.k ≠ d.k := fun q => hN.1 (q ▸ List.mem_map.mpr ⟨d, hd, rfl⟩)
      have : (x.k == d.k) = false := by simpa using this
      rw [this]
      exact ih hN.2 hd
/-- n2i[k] -/
theorem PE.n2i {e i : Expr} {pos : Pos} {σ : St} {d : Nd} (he : PE w os n Ω sc ρ e σ.n2i) (hi : PE w os n Ω sc ρ i (.int d.k)) (hN : σ.keys.Nodup) (hd : d ∈ σ.nodes)
    (hs : ∀ o j, subscripted i false o j = operate [o, j] (getItem o j) := by intro _ _; rfl) : PE w os n Ω sc ρ (.Subscript e i pos) (.exact (.ref d.a)) :=
  PE.item he hi (Itm.dict (by
    show ((σ.nodes.map Nd.k).zip _).lookup d.k = _
    rw [zip_lookup, find_mem hN hd]; rfl)) hs
/-- n2i.get(k) -/
theorem valueAt_none {ks : List Int} : ∀ {kvs : List (Int × Value)} {vs : List V} {B : Bs}, kvs.map (·.1) = ks → dens w B vs (kvs.map (·.2)) → ∀ {k : Int}, (ks.zip vs).lookup k = Option.none → valueAt kvs k = Option.none := by
  induction ks with
  | nil => intro kvs vs B h _ k _; have : kvs = [] := by simpa using h
           subst this; rfl
  | cons k0 ks ih =>
    intro kvs vs B hk d k h
    cases kvs with
    | nil => simp at hk
    | cons kv kvs =>
      obtain ⟨k1, r1⟩ := kv
      simp only [List.map_cons, List.cons.injEq] at hk
      obtain ⟨rfl, hk⟩ := hk
      cases vs with
      | nil => have := dens_nil.mp d; simp at this
      | cons v1 vs =>
        obtain ⟨r, rs, e, d1, d2⟩ := dens_cons.mp d
        simp only [List.map_cons, List.cons.injEq] at e
        obtain ⟨rfl, rfl⟩ := e
        rw [List.zip_cons_cons, List.lookup_cons] at h
        unfold valueAt
        rw [List.find?_cons]
        by_cases hkk : k = k1
        · subst hkk; simp at h
        · have : (k == k1) = false := by simpa using hkk
          rw [this] at h
          have hne : ¬ k1 = k := fun e => hkk e.symm
          simp only [hne, decide_false]
          exact ih hk d2 h
theorem dictAt {ks : List Int} {vs : List V} {r : Value} (T : TopB w B) (R : Rep w os B own s) (d : den w B (.dict ks vs) r) : ∃ a kvs, r = .ref a ∧ s.heap.DictOf (kI w) a kvs ∧ kvs.map (·.1) = ks ∧ dens w B vs (kvs.map (·.2)) ∧ (a == sysModules) = false := by
  obtain ⟨a, o, kvs, rfl, b, ⟨es, ep, h1, h2, h3, h4, h5⟩, q, ds, z⟩ := den_dict.mp d
  exact ⟨a, kvs, rfl, ⟨o, es, ep, R.base _ _ b, h1, h2, h3, h4, h5⟩, q, ds, z⟩
end
end Mine

namespace Mine
section
variable {w : World} {os : OsState} {n : Nat} {sc : Scope} {ρ : Str → Option V} {Ω : List Item} {A : Around} {env : Env} {B : Bs} {own R : List Item} {s : Shared} {E : Value → Shared → Prop}
/-- o.get(k) of a frozen dict -/
theorem PE.fget {o e : Expr} {apos pos : Pos} {ks : List Int} {vs : List V} {k : Int} (ho : PE w os n Ω sc ρ o (.dict ks vs)) (he : PE w os n Ω sc ρ e (.int k))
    (hb : ∀ env, attributeBase o "get" env (eval o env) = eval o env := by intro _; rfl) (hs : ∀ env, starEach [e] env = [(false, eval e env)] := by intro _; rfl) (hline : (apos.endLine == pos.line) = true := by rfl) :
    PE w os n Ω sc ρ (.Call (.Attribute o "get" apos) [e] [] pos) (((ks.zip vs).lookup k).getD .none) := by
  intro A env B own s E hA T ek sees R
  refine Call_method1 (hb env) (hs env) hline (ho.use hA T ek sees R fun r s₁ B₁ l₁ T₁ R₁ d₁ => ?_)
  obtain ⟨a, kvs, rfl, hD, hk, ds, hds⟩ := dictAt T₁ R₁ d₁
  refine ⟨"dict", "dict.get", PySem.F.plainAttrs_dict, PySem.F.slot_dict_get, PySem.F.type_dict_get, hD.typeIs, hD.mapOf.noDict, ?_⟩
  refine wpAny_dict_get1 (knd := kI w) hds (he.use hA T₁ ek sees R₁ fun r' s₂ B₂ l₂ T₂ R₂ d₂ => ?_)
  obtain ⟨t, rfl⟩ := den_int.mp d₂
  have d₁' := den.mono l₂ _ d₁
  obtain ⟨a', kvs', e', hD', hk', ds', _⟩ := dictAt T₂ R₂ d₁'
  cases e'
  refine ⟨k, _, isKey k t, hD'.mapOf, B₂, l₁.trans l₂, R₂.toks _, ?_⟩
  cases hl : (ks.zip vs).lookup k with
  | some v => obtain ⟨r, hr, d⟩ := valueAt_map hk' ds' hl; rw [hr]; exact d
  | none => rw [valueAt_none hk' ds' hl]; exact den_none.mpr rfl
-- loops over a frozen dict
def keyIt (I d : Addr) (N ep i : Nat) : Item := satItem I fun o => o.cls = .type "dict_keyiterator" ∧ o.data = .fields #[.ref d, .int i 0, .int N 0, .int ep 0]
def valIt (I d : Addr) (N ep i : Nat) : Item := satItem I fun o => o.cls = .type "dict_valueiterator" ∧ o.data = .fields #[.ref d, .int i 0, .int N 0, .int ep 0]
theorem isKey_of {k : Int} {key : Value} (h : (kI w).is k key = true) : ∃ t, key = .int k t := by
  have h' : Value.isInt k key = true := h
  cases key <;> simp [Value.isInt] at h'
  subst h'; exact ⟨_, rfl⟩
theorem Iter.keys {B : Bs} {I d : Addr} {o : Obj} {ep : Nat} {es : Array DictEntry} {kvs : List (Int × Value)} {ks : List Int} (hb : B d = some o) (h1 : o.ExactDict) (h2 : o.data = .dict es ep) (h3 : KeysOf (kI w) es) (h4 : Pairs (kI w) es.toList kvs) (h5 : (kvs.map (·.1)).Nodup) (hk : kvs.map (·.1) = ks) :
    Iter w os B I (ks.map V.int) (keyIt I d kvs.length ep) where
  addr := fun _ => rfl
  next := by
    intro i x A B' own s Q E hx hh le R k
    obtain ⟨oi, ho, hc, hd⟩ := R.has (keyIt I d kvs.length ep i) (by simp)
    have hm : s.heap.DictAt (kI w) d kvs ep := ⟨o, es, R.base _ _ (le _ _ hb), h1, h2, h3, h4, h5⟩
    subst hk
    rw [List.map_map, List.getElem?_map] at hx
    cases hkv : kvs[i]? with
    | none => rw [hkv] at hx; cases hx
    | some kv =>
      rw [hkv] at hx
      obtain ⟨k0, v0⟩ := kv
      cases hx
      refine wpAny_pyNext_dict_item ⟨oi, ho, hc, hd⟩ hm hkv fun key h' hkey hit hs => ?_
      obtain ⟨t, rfl⟩ := isKey_of hkey
      obtain ⟨o', ho', hc', hd'⟩ := hit
      exact k _ _ (den_int.mpr ⟨t, rfl⟩) (R.write0 s.toks (fun b o hb e => hs.extBut b o hb e) rfl ho' ⟨hc', hd'⟩)
  done := by
    intro A B' own s Q E hh le R k
    obtain ⟨oi, ho, hc, hd⟩ := R.has (keyIt I d kvs.length ep (ks.map V.int).length) (by simp)
    have hm : s.heap.DictAt (kI w) d kvs ep := ⟨o, es, R.base _ _ (le _ _ hb), h1, h2, h3, h4, h5⟩
    refine wpAny_pyNext_dict_end hh ⟨oi, ho, hc, hd⟩ hm (by rw [← hk]; simp) fun h' he => k _ ?_
    exact R.drop0 s.toks (fun b o hb e => he b o hb e)
  self := by
    intro i A B' own s Q E R h
    obtain ⟨oi, ho, hc, hd⟩ := R.has (keyIt I d kvs.length ep i) (by simp)
    exact wpAny_pyIter_keyiter ⟨oi, ho, hc, hd⟩ h
  quiet := by
    intro i A B' own s Q E es k p v R h
    obtain ⟨oi, ho, hc, hd⟩ := R.has (keyIt I d kvs.length ep i) (by simp)
    exact quiet_of ho hc hd (by decide) es k p v h
theorem Iter.vals {B : Bs} {I d : Addr} {o : Obj} {ep : Nat} {es : Array DictEntry} {kvs : List (Int × Value)} {vs : List V} (hb : B d = some o) (h1 : o.ExactDict) (h2 : o.data = .dict es ep) (h3 : KeysOf (kI w) es) (h4 : Pairs (kI w) es.toList kvs) (h5 : (kvs.map (·.1)).Nodup) (ds : dens w B vs (kvs.map (·.2))) :
    Iter w os B I vs (valIt I d kvs.length ep) where
  addr := fun _ => rfl
  next := by
    intro i x A B' own s Q E hx hh le R k
    obtain ⟨oi, ho, hc, hd⟩ := R.has (valIt I d kvs.length ep i) (by simp)
    have hm : s.heap.DictAt (kI w) d kvs ep := ⟨o, es, R.base _ _ (le _ _ hb), h1, h2, h3, h4, h5⟩
    obtain ⟨r, hr, dr⟩ := (dens.mono le vs ds).get hx
    rw [List.getElem?_map] at hr
    cases hkv : kvs[i]? with
    | none => rw [hkv] at hr; cases hr
    | some kv =>
      rw [hkv] at hr
      obtain ⟨k0, v0⟩ := kv
      cases hr
      refine wpAny_pyNext_values_item ⟨oi, ho, hc, hd⟩ hm hkv fun h' hit hs => ?_
      obtain ⟨o', ho', hc', hd'⟩ := hit
      exact k _ _ dr (R.write0 s.toks (fun b o hb e => hs.extBut b o hb e) rfl ho' ⟨hc', hd'⟩)
  done := by
    intro A B' own s Q E hh le R k
    obtain ⟨oi, ho, hc, hd⟩ := R.has (valIt I d kvs.length ep vs.length) (by simp)
    have hm : s.heap.DictAt (kI w) d kvs ep := ⟨o, es, R.base _ _ (le _ _ hb), h1, h2, h3, h4, h5⟩
    refine wpAny_pyNext_values_end hh ⟨oi, ho, hc, hd⟩ hm (by have := ds.length; rw [List.length_map] at this; rw [← this]; simp) fun h' he => k _ ?_
    exact R.drop0 s.toks (fun b o hb e => he b o hb e)
  self := by
    intro i A B' own s Q E R h
    obtain ⟨oi, ho, hc, hd⟩ := R.has (valIt I d kvs.length ep i) (by simp)
    exact wpAny_pyIter_valiter ⟨oi, ho, hc, hd⟩ h
  quiet := by
    intro i A B' own s Q E es k p v R h
    obtain ⟨oi, ho, hc, hd⟩ := R.has (valIt I d kvs.length ep i) (by simp)
    exact quiet_of ho hc hd (by decide) es k p v h
theorem PI.keys {e : Expr} {ks : List Int} {vs : List V} (h : PE w os n Ω sc ρ e (.dict ks vs)) : PI w os n Ω sc ρ e (ks.map V.int) := by
  intro A env B own s E Q hA T ek sees R k
  refine h.use hA T ek sees R fun r s₁ B₁ l₁ T₁ R₁ d₁ => ?_
  obtain ⟨a, o, kvs, rfl, b, ⟨es, ep, h1, h2, h3, h4, h5⟩, q, ds, z⟩ := den_dict.mp d₁
  refine wpAny_pyIter_dict (knd := kI w) (kvs := kvs) (ep := ep) z ⟨o, es, R₁.base _ _ b, h1, h2, h3, h4, h5⟩ (k _ B₁ _ (keyIt _ a kvs.length ep) l₁ (Iter.keys b h1 h2 h3 h4 h5 q) ?_)
  exact R₁.new (keyIt s₁.heap.objs.size a kvs.length ep 0) s₁.toks (fun b o e => Heap.get?_push_of_some _ e) (get?_size _) (Heap.get?_push_size _ rfl) ⟨rfl, rfl⟩
theorem PI.vals {e : Expr} {apos pos : Pos} {ks : List Int} {vs : List V} (h : PE w os n Ω sc ρ e (.dict ks vs))
    (hb : ∀ env, attributeBase e "values" env (eval e env) = eval e env := by intro _; rfl) (hline : (apos.endLine == pos.line) = true := by rfl) : PI w os n Ω sc ρ (.Call (.Attribute e "values" apos) [] [] pos) vs := by
  intro A env B own s E Q hA T ek sees R k
  refine Call_method0 (hb env) hline (h.use hA T ek sees R fun r s₁ B₁ l₁ T₁ R₁ d₁ => ?_)
  obtain ⟨a, o, kvs, rfl, b, ⟨es, ep, h1, h2, h3, h4, h5⟩, q, ds, z⟩ := den_dict.mp d₁
  have hD : s₁.heap.DictOf (kI w) a kvs := ⟨o, es, ep, R₁.base _ _ b, h1, h2, h3, h4, h5⟩
  refine ⟨"dict", "dict.values", PySem.F.plainAttrs_dict, PySem.F.slot_dict_values, PySem.F.type_dict_values, hD.typeIs, hD.mapOf.noDict, ?_⟩
  refine method_meetsIn PySem.F.slot_dict_values PySem.F.entry_dict_values rfl (PySem.evalArgs_none ⟨rfl, hD.typeIs, PySem.F.args_dict_values_1 _, _, meets_dict_values (kI w) a z, ⟨kvs, hD⟩, ?_⟩)
  have R₂ := R₁.grow (h' := s₁.heap.push { cls := .type "dict_values", data := .fields #[.ref a] }) s₁.toks (fun b o e => Heap.get?_push_of_some _ e)
  refine wpAny_pyIter_values (knd := kI w) (kvs := kvs) (ep := ep) ⟨_, Heap.get?_push_size _ rfl, rfl, rfl⟩ ⟨o, es, R₂.base _ _ b, h1, h2, h3, h4, h5⟩ (k _ B₁ _ (valIt _ a kvs.length ep) l₁ (Iter.vals b h1 h2 h3 h4 h5 ds) ?_)
  exact R₂.new (valIt _ a kvs.length ep 0) s₁.toks (fun b o e => Heap.get?_push_of_some _ e) (get?_size _) (Heap.get?_push_size _ rfl) ⟨rfl, rfl⟩

theorem PE.orB {x y : Expr} {pos : Pos} {b c : Bool} (hx : PE w os n Ω sc ρ x (.bool b)) (hy : b = false → PE w os n Ω sc ρ y (.bool c)) : PE w os n Ω sc ρ (.BoolOp .Or [x, y] pos) (.bool (b || c)) := by
  intro A env B own s E hA T ek sees R
  refine BoolOp_or (hx.use hA T ek sees R fun r s₁ B₁ l₁ T₁ R₁ d₁ => ?_)
  rw [den_bool.mp d₁]
  refine wpAny_truthy_bool ?_
  cases b with
  | true => exact ⟨B₁, l₁, R₁, den_bool.mpr rfl⟩
  | false => exact BoolOp_one ((hy rfl).use hA T₁ ek sees R₁ fun r s₂ B₂ l₂ T₂ R₂ d₂ => ⟨B₂, l₁.trans l₂, R₂, by simpa using d₂⟩)
theorem meets_bool_list (l : Addr) (items : Array Value) : Meets (Builtin.«bool.__new__» ⟨[.type "bool", .ref l], []⟩) (fun _ R s => s.heap.IsList l items ∧ (items.size : Int) < 2 ^ 63 ∧ R (.ok (.ret (.bool (!items.isEmpty)))) { s with toks := s.toks + 1 + 1 }) :=
  Meets.of_wp fun prog w A R s hs => by
    obtain ⟨hl, hfit, h⟩ := hs
    obtain ⟨hp, g, d, tk, os⟩ := s
    have f1 := PySem.F.conv_sub_bool
    repeat (any_goals (first | assumption | with_reducible apply wpAny_truthy_list | wp_step))
    all_goals first | exact ⟨_, rfl, h⟩ | skip
/-- bool(e), e a list of one's own -/
theorem PE.boolL {x : Str} {e : Expr} {p pos : Pos} {D : Addr} {ys : List V} (hf : PE w os n Ω sc ρ (.Name x p) (.exact (.type "bool"))) (he : PE w os n Ω sc ρ e (.exact (.ref D))) (h : lstItem D ys ∈ Ω) (hsz : ys.length ≤ sizeLine)
    (hs : ∀ env, starEach [e] env = (false, eval e env) :: starEach [] env := by intro _; rfl) : PE w os n Ω sc ρ (.Call (.Name x p) [e] [] pos) (.bool (!ys.isEmpty)) := by
  intro A env B own s E hA T ek sees R
  refine wpAny_Call_NameR (hf.use hA T ek sees R fun r s₁ B₁ l₁ T₁ R₁ d₁ => ?_)
  rw [den_exact.mp d₁]
  refine PyProof.Rows.callWith_type1 (args_cons (he.use hA T₁ ek sees R₁ fun r s₂ B₂ l₂ T₂ R₂ d₂ => args_nil ?_) (hs env)) (hs env) rfl
  rw [den_exact.mp d₂]
  obtain ⟨o, ho, its, m, rfl, ds⟩ := R₂.has _ (sees.its _ h)
  have e1 := ds.size
  refine call_bool_1 (meets_bool_list D its) ⟨⟨_, ho, rfl, m, rfl⟩, by rw [e1]; unfold sizeLine at hsz; omega, ?_, B₂, l₁.trans l₂, R₂.toks _, den_bool.mpr ?_⟩
  · rfl
  · cases ys with
    | nil => have : its = #[] := Array.eq_empty_of_size_eq_zero (by simpa using e1)
             rw [this]; rfl
    | cons x xs =>
      have : its.isEmpty = false := by unfold Array.isEmpty; rw [e1]; simp
      rw [this]; rfl
/-- tuple(e), e a list of one's own -/
theorem PE.tupOf {x : Str} {e : Expr} {p pos : Pos} {D : Addr} {ys : List V} (hf : PE w os n Ω sc ρ (.Name x p) (.exact (.type "tuple"))) (he : PE w os n Ω sc ρ e (.exact (.ref D))) (h : lstItem D ys ∈ Ω) (hsz : ys.length ≤ sizeLine)
    (hs : ∀ env, starEach [e] env = (false, eval e env) :: starEach [] env := by intro _; rfl) : PE w os n Ω sc ρ (.Call (.Name x p) [e] [] pos) (.tuple ys) := by
  intro A env B own s E hA T ek sees R
  refine wpAny_Call_NameR (hf.use hA T ek sees R fun r s₁ B₁ l₁ T₁ R₁ d₁ => ?_)
  rw [den_exact.mp d₁]
  refine PyProof.Rows.callWith_type1 (args_cons (he.use hA T₁ ek sees R₁ fun r s₂ B₂ l₂ T₂ R₂ d₂ => args_nil ?_) (hs env)) (hs env) rfl
  rw [den_exact.mp d₂]
  obtain ⟨o, ho, its, m, rfl, ds⟩ := R₂.has _ (sees.its _ h)
  refine call_tuple_list ⟨_, ho, rfl, m, rfl⟩ (fun h' hk => ?_) (by rw [ds.size]; exact hsz)
  exact ((R₂.grow (h' := h') s₂.toks hk).newTuple s₂.toks ds).trans (l₁.trans l₂)
/-- o.clear() -/
theorem st_clear {o : Expr} {apos pos pos' : Pos} {D : Addr} {ys : List V} {pre post : List Item} {Q : Flow → Shared → Prop} (Ω : List Item) (hΩ : ∀ i ∈ Ω, i ∈ R) (F : FnEnv env sc) (hA : RmE n A env R) (T : TopB w B) (h : Rep w os B (frameI env env.cells ρ ++ R) s) (hR : R = pre ++ lstItem D ys :: post)
    (ho : PE w os n Ω sc ρ o (.exact (.ref D))) (hsz : ys.length ≤ sizeLine)
    (k : ∀ s' B', Le B B' → TopB w B' → Rep w os B' (frameI env env.cells ρ ++ (pre ++ lstItem D [] :: post)) s' → Q .next s')
    (hb : attributeBase o "clear" env (eval o env) = eval o env := by rfl) (hline : (apos.endLine == pos.line) = true := by rfl) (hsc : sc.kind = .function := by rfl) :
    wpAny (model pg w) A (exec (.Expr (.Call (.Attribute o "clear" apos) [] [] pos) pos') env) Q E s := by
  refine wpAny_Expr_any ?_ (by unfold interactive; rw [F.ok.scope, hsc]; rfl)
  refine Call_method0 hb hline (ho.use (hA ρ) T F.ok (F.sees1 hΩ) h fun r s₁ B₁ l₁ T₁ R₁ d₁ => ?_)
  rw [den_exact.mp d₁]
  have mem : lstItem D ys ∈ frameI env env.cells ρ ++ R := by rw [hR]; simp
  obtain ⟨o, ho, its, m, rfl, ds⟩ := R₁.has _ mem
  refine ⟨"list", "list.clear", PySem.F.plainAttrs_list, PySem.F.slot_list_clear, PySem.F.type_list_clear, ⟨_, ho, rfl⟩, fun a e => by cases e; exact ⟨_, ho, rfl⟩, ?_⟩
  refine seqMethod0_meets PySem.F.slot_list_clear PySem.F.entry_list_clear ⟨_, ho, rfl⟩ (PySem.F.args_list_clear_1 _) (AutoSeq1.list_clear_list_0 D its m (by rw [ds.size]; exact hsz)) ⟨ho, ?_⟩
  have ho' := IsL.update ho fun _ => #[]
  have e1 : frameI env env.cells ρ ++ R = (frameI env env.cells ρ ++ pre) ++ lstItem D ys :: post := by rw [hR]; simp
  have R3 := R₁.writeAt e1 (i' := lstItem D []) s₁.toks (fun b o hb e => (Heap.get?_update_other s₁.heap (Obj.mapSeq fun _ => #[]) (Ne.symm hb)).trans e) rfl ho' ⟨_, _, rfl, dens_nil.mpr rfl⟩
  rw [List.append_assoc] at R3
  exact k _ B₁ l₁ T₁ R3
end
end Mine

namespace Mine
def St.pre2 (x dx : Addr) (σ : St) (p1 : List Nd) : List Item := soItem x dx :: adItem dx σ.ad2 :: (rdI σ.rd ++ p1.map Nd.itm2)
theorem items2_split {x dx : Addr} {σ : St} {p1 p2 : List Nd} {d : Nd} (e : σ.nodes = p1 ++ d :: p2) : σ.items2 x dx = σ.pre2 x dx p1 ++ d.itm2 :: p2.map Nd.itm2 := by
  unfold St.items2 St.pre2
  rw [e]
  simp
theorem on_n2i {σ : St} {j : Int} {f : Nd → Nd} (hf : ∀ d, (f d).k = d.k) (ha : ∀ d, (f d).a = d.a) : (σ.on j f).n2i = σ.n2i := by
  unfold St.n2i
  rw [on_keys hf]
  congr 1
  unfold St.on
  rw [List.map_map]
  refine List.map_congr_left fun d _ => ?_
  show V.exact (.ref (if d.k = j then f d else d).a) = _
  split
  · rw [ha]
  · rfl
theorem pre2_on {x dx : Addr} {σ : St} {j : Int} {f : Nd → Nd} {p1 : List Nd} (hf : ∀ d, (f d).k = d.k) (ha : ∀ d, (f d).a = d.a) : (σ.on j f).pre2 x dx p1 = σ.pre2 x dx p1 := by
  unfold St.pre2 St.ad2
  rw [on_n2i hf ha]
  rfl
section
variable {w : World} {os : OsState} {n : Nat} {sc : Scope} {ρ : Str → Option V} {Ω : List Item} {A : Around} {env : Env} {B : Bs} {own R : List Item} {s : Shared} {E : Value → Shared → Prop}
theorem np_set2 {x dx : Addr} {σ : St} {d : Nd} {c : Int} {r : Value} {X : List Item} {L : Addr} {mm : Str → Option V} {Q : Unit → Shared → Prop} (T : TopB w B) (R : Rep w os B (X ++ (σ.items2 x dx ++ own)) s) (hL : nsItem L mm ∈ X) (hd : d ∈ σ.nodes) (hN : σ.keys.Nodup) (dc : den w B (.int c) r)
    (k : ∀ s', Rep w os B (X ++ ((σ.on d.k (Nd.setNp c)).items2 x dx ++ own)) s' → Q () s') : wpAny (model pg w) A (setAttr (.ref d.a) "npredecessors" r) Q E s := by
  obtain ⟨p1, p2, e⟩ := List.append_of_mem hd
  have e1 : X ++ (σ.items2 x dx ++ own) = (X ++ σ.pre2 x dx p1) ++ niItem d.a [some (.int d.k), some (.int d.np), some (IL d.su)] :: (p2.map Nd.itm2 ++ own) := by
    rw [items2_split e]; simp [Nd.itm2]
  have e2 : X ++ ((σ.on d.k (Nd.setNp c)).items2 x dx ++ own) = (X ++ σ.pre2 x dx p1) ++ niItem d.a (setS [some (.int d.k), some (.int d.np), some (IL d.su)] 1 (.int c)) :: (p2.map Nd.itm2 ++ own) := by
    rw [items2_split (on_split hN e), pre2_on (f := Nd.setNp c) (fun _ => rfl) (fun _ => rfl)]
    simp [setS, Nd.setNp, Nd.itm2]
  have hL' : nsItem L mm ∈ X ++ (σ.items2 x dx ++ own) := List.mem_append_left _ hL
  rw [e1] at R hL'
  rw [e2] at k
  exact ni_set T R hL' (fun K N => N.npred) (by decide) dc k
theorem hΩ2 {X : List Item} : ∀ i ∈ X, i ∈ X ++ own := fun i hi => List.mem_append_left _ hi
def St.active (σ : St) (xs : List Int) : Bool := decide (σ.fin < σ.out) || !xs.isEmpty
theorem is_active {A : Around} {B : Bs} {own : List Item} {s : Shared} {E : Value → Shared → Prop} {Q : Value → Shared → Prop} {x dx r : Addr} {σ : St} {xs : List Int} (hrd : σ.rd = some (r, xs)) (hsz : xs.length ≤ 1000) (hA : Rm (n + 1) A own) (T : TopB w B) (R : Rep w os B (σ.items2 x dx ++ own) s)
    (kk : ∀ s' B', Le B B' → TopB w B' → Rep w os B' (σ.items2 x dx ++ own) s' → Q (.bool (σ.active xs)) s') : wpAny (model pg w) A (call (.ref 106) [.ref x]) Q E s := by
  have hA0 : Rm (n + 1) A (σ.items2 x dx ++ own) := hA.more fun i hi => List.mem_append_right _ hi
  refine call_def (r := ⟨"TopologicalSorter.is_active", inClass 5 (fdef 6), .none, .none⟩) rfl ["self"] [.exact (.ref x)] hA0 T R (dens_cons.mpr ⟨_, _, rfl, den_exact.mpr rfl, dens_nil.mpr rfl⟩) (by decide) (fun doc pm cd ct nm => by rfl) (by decide) (by decide) rfl rfl rfl ?_
  intro env s₁ E' F hA' R₁
  have hrdV : σ.ad2.lookup ("_ready_nodes" : Str) = some (V.exact (.ref r)) := by show some (rdV σ.rd) = _; rw [hrd]; rfl
  refine wpAny_execs_cons (st_ifW (σ.items2 x dx) (b := false) hΩ2 F hA' T R₁ (PT.cmp (PE.so (x := x) rfl rfl n_so n_ad no_ready hrdV) PE.none is_ref) fun s₂ B₂ le₂ T₂ R₂ => ?_)
  refine wpAny_execs_nil (wpAny_execs_cons (st_returnW (σ.items2 x dx) (v := .bool (σ.active xs)) hΩ2 F hA' T₂ R₂ ?_ fun r s₃ B₃ le₃ T₃ R₃ d₃ => ?_))
  · refine PE.cast (PE.orB (b := decide (σ.fin < σ.out)) (c := !(xs.map V.int).isEmpty) (PE.cmp (PE.so (x := x) rfl rfl n_so n_ad no_fin rfl) (PE.so (x := x) rfl rfl n_so n_ad no_out rfl) Cmp.lt) fun _ => PE.boolL PE.blt (PE.so (x := x) rfl rfl n_so n_ad no_ready hrdV) (n_rd hrd) (by rw [List.length_map]; unfold sizeLine; omega)) ?_
    unfold St.active
    cases xs <;> rfl
  · show Q r s₃
    rw [den_bool.mp d₃]
    exact kk s₃ B₃ (le₂.trans le₃) T₃ R₃.app

def St.outAll (xs : List Int) (σ : St) : St := xs.foldl (fun σ x => σ.on x (Nd.setNp (-1))) σ
def St.handed (r : Addr) (xs : List Int) (σ : St) : St := { σ.outAll xs with rd := some (r, []), out := σ.out + xs.length }
theorem outAll_rest : ∀ (xs : List Int) (σ : St), (σ.outAll xs).keys = σ.keys ∧ (σ.outAll xs).rd = σ.rd ∧ (σ.outAll xs).out = σ.out ∧ (σ.outAll xs).fin = σ.fin ∧ (σ.outAll xs).n2i = σ.n2i
  | [], σ => ⟨rfl, rfl, rfl, rfl, rfl⟩
  | y :: xs, σ => by
    obtain ⟨a, b, c, d, e⟩ := outAll_rest xs (σ.on y (Nd.setNp (-1)))
    exact ⟨a.trans (on_keys fun _ => rfl), b, c, d, e.trans (on_n2i (fun _ => rfl) fun _ => rfl)⟩
theorem outAll_snoc (xs : List Int) (y : Int) (σ : St) : σ.outAll (xs ++ [y]) = (σ.outAll xs).on y (Nd.setNp (-1)) := by
  unfold St.outAll; rw [List.foldl_append]; rfl
theorem get_ready {A : Around} {B : Bs} {own : List Item} {s : Shared} {E : Value → Shared → Prop} {Q : Value → Shared → Prop} {x dx r : Addr} {σ : St} {xs : List Int} (hrd : σ.rd = some (r, xs)) (hsz : xs.length ≤ 1000) (hN : σ.keys.Nodup) (hxs : ∀ y ∈ xs, y ∈ σ.keys) (hA : Rm (n + 1) A own) (T : TopB w B) (R : Rep w os B (σ.items2 x dx ++ own) s)
    (kk : ∀ rt s' B', Le B B' → TopB w B' → den w B' (.tuple (xs.map V.int)) rt → Rep w os B' ((σ.handed r xs).items2 x dx ++ own) s' → Q rt s') : wpAny (model pg w) A (call (.ref 99) [.ref x]) Q E s := by
  have hA0 : Rm (n + 1) A (σ.items2 x dx ++ own) := hA.more fun i hi => List.mem_append_right _ hi
  refine call_gen (r := ⟨"TopologicalSorter.get_ready", inClass 4 (fdef 6), .none, .none⟩) rfl ["self"] [.exact (.ref x)] hA0 T R (by decide) (fun doc pm cd ct nm E' Q' hq => ?_) (by decide) (by decide) rfl rfl rfl ?_
  · have : bindArgs (mkFd "TopologicalSorter.get_ready" (psOf (inClass 4 (fdef 6))) (bodyOf (inClass 4 (fdef 6))) (scOf (inClass 4 (fdef 6))) .none .none doc pm cd ct nm) ⟨[.ref x], []⟩ = pure ([(("self" : Str), .ref x)]) := by rfl
    exact wpAny_of_eq this (hq _ _ [.ref x] (Le.refl _) R (dens_cons.mpr ⟨_, _, rfl, den_exact.mpr rfl, dens_nil.mpr rfl⟩))
  intro env s₁ B₁ E' hE le₁ T₁ F hA' R₁
  have hB0 : RmE n _ env own := RmE.rest hA hA' F
  have hrdV : σ.ad2.lookup ("_ready_nodes" : Str) = some (V.exact (.ref r)) := by show some (rdV σ.rd) = _; rw [hrd]; rfl
  refine wpAny_execs_cons (st_ifW (σ.items2 x dx) (b := false) hΩ2 F hA' T₁ R₁ (PT.cmp (PE.so (x := x) rfl rfl n_so n_ad no_ready hrdV) PE.none is_ref) fun s₂ B₂ le₂ T₂ R₂ => ?_)
  refine wpAny_execs_nil (wpAny_execs_cons (st_assignW (σ.items2 x dx) (v := .tuple (xs.map V.int)) hΩ2 F hA' T₂ R₂ (PE.tupOf PE.blt (PE.so (x := x) rfl rfl n_so n_ad no_ready hrdV) (n_rd hrd) (by rw [List.length_map]; unfold sizeLine; omega)) (by rfl) fun s₃ B₃ le₃ T₃ R₃ => ?_))
  refine wpAny_execs_cons (st_assignW (σ.items2 x dx) (v := σ.n2i) hΩ2 F hA' T₃ R₃ (PE.so (x := x) rfl rfl n_so n_ad no_node2info rfl) (by rfl) fun s₄ B₄ le₄ T₄ R₄ => ?_)
  refine wpAny_execs_cons (st_forW (σ.items2 x dx) xs V.int (fun i B' ρ' R' => ρ' = tab [("self", .exact (.ref x)), ("result", .tuple (xs.map V.int)), ("n2i", σ.n2i)] ∧ R' = (σ.outAll (xs.take i)).items2 x dx ++ own) hΩ2 F hA' T₄
    (R₄.keep [("self", .exact (.ref x)), ("result", .tuple (xs.map V.int)), ("n2i", σ.n2i)] ⟨rfl, rfl, rfl, trivial⟩) (PI.tuple PE.var) (by rfl) (fun B' _ => ⟨rfl, rfl⟩) ?_ ?_)
  · rintro i y B' ρ' R' J s' E'' hE' hy le T' ⟨rfl, rfl⟩ hR
    obtain ⟨o1, o2, o3, o4, o5⟩ := outAll_rest (xs.take i) σ
    have htk : xs.take (i + 1) = xs.take i ++ [y] := by rw [List.take_add_one, hy]; rfl
    obtain ⟨d, hd, hk⟩ := mem_keys (σ := σ.outAll (xs.take i)) (j := y) (by rw [o1]; exact hxs y (List.mem_of_getElem? hy))
    have hN' : (σ.outAll (xs.take i)).keys.Nodup := by rw [o1]; exact hN
    subst hk
    have hR' : Rep w os B' (frameI env env.cells (upd (tab [("self", .exact (.ref x)), ("result", .tuple (xs.map V.int)), ("n2i", σ.n2i)]) "node" (V.int d.k)) ++ ((σ.outAll (xs.take i)).items2 x dx ++ (J :: own))) s' := hR.perm (List.Perm.append_left _ List.perm_middle.symm)
    refine wpAny_execs_cons (plainObj_wpAny_Assign_Attribute ?_ rfl)
    refine PE.use (v := .int (-1)) (PE.glob rfl rfl) (hB0.add.app (X := (σ.outAll (xs.take i)).items2 x dx) _) T' F.ok F.sees0 hR' fun r₅ s₅ B₅ le₅ T₅ R₅ d₅ => ?_
    refine PE.use (v := .exact (.ref d.a)) (PE.n2i (PE.var (v := (σ.outAll (xs.take i)).n2i) (hv := by rw [o5]; rfl)) PE.var hN' hd) (hB0.add.app (X := (σ.outAll (xs.take i)).items2 x dx) _) T₅ F.ok F.sees0 R₅ fun r₆ s₆ B₆ le₆ T₆ R₆ d₆ => ?_
    rw [den_exact.mp d₆]
    refine np_set2 (c := -1) (X := frameI env env.cells _) (L := env.locals) T₆ R₆ (List.mem_cons_self ..) hd hN' (den.mono le₆ _ d₅) fun s₇ R₇ => ?_
    refine wpAny_execs_nil ⟨B₆, _, _, le₅.trans le₆, ⟨rfl, rfl⟩, ?_⟩
    rw [htk, outAll_snoc]
    have R₈ := R₇.keep [("self", .exact (.ref x)), ("result", .tuple (xs.map V.int)), ("n2i", σ.n2i)] ⟨rfl, rfl, rfl, trivial⟩
    exact R₈.perm (List.Perm.append_left _ List.perm_middle)
  · rintro B₅ ρ' R' s₅ le₅ T₅ ⟨rfl, rfl⟩ R₅
    rw [List.take_length] at R₅
    obtain ⟨o1, o2, o3, o4, o5⟩ := outAll_rest xs σ
    generalize hσ₂ : σ.outAll xs = σ₂ at R₅ o1 o2 o3 o4 o5
    have hrd2 : σ₂.rd = some (r, xs) := o2.trans hrd
    have hrdV2 : σ₂.ad2.lookup ("_ready_nodes" : Str) = some (V.exact (.ref r)) := by show some (rdV σ₂.rd) = _; rw [hrd2]; rfl
    have eR : σ₂.items2 x dx ++ own = [soItem x dx, adItem dx σ₂.ad2] ++ lstItem r (xs.map V.int) :: (σ₂.nodes.map Nd.itm2 ++ own) := by unfold St.items2; rw [hrd2]; rfl
    refine wpAny_execs_cons (st_clear (σ₂.items2 x dx) hΩ2 F hB0.app T₅ R₅ eR (PE.so (x := x) rfl rfl n_so n_ad no_ready hrdV2) (by rw [List.length_map]; unfold sizeLine; omega) fun s₆ B₆ le₆ T₆ R₆ => ?_)
    -- self._npassedout += len(result)
    have mso : soItem x dx ∈ [soItem x dx, adItem dx σ₂.ad2] ++ lstItem r [] :: (σ₂.nodes.map Nd.itm2 ++ own) := by simp
    have mad : adItem dx σ₂.ad2 ∈ [soItem x dx, adItem dx σ₂.ad2] ++ lstItem r [] :: (σ₂.nodes.map Nd.itm2 ++ own) := by simp
    have hB1 : RmE n _ env ([soItem x dx, adItem dx σ₂.ad2] ++ lstItem r [] :: (σ₂.nodes.map Nd.itm2 ++ own)) := (hB0.app (X := σ₂.nodes.map Nd.itm2)).add.app
    refine wpAny_execs_cons (wpAny_AugAssign_AttributeAny ?_)
    refine PE.use (v := .exact (.ref x)) PE.var (hB1 _) T₆ F.ok F.sees0 R₆ fun r₇ s₇ B₇ le₇ T₇ R₇ d₇ => ?_
    rw [den_exact.mp d₇]
    refine so_get (v := .int σ₂.out) T₇ R₇ (List.mem_append_right _ mso) (List.mem_append_right _ mad) rfl rfl (by decide) no_out fun r₈ s₈ R₈ d₈ => ?_
    refine PE.use (v := .int xs.length) (PE.cast (PE.callB (id := "len") PE.blt (PEs.cons (PE.var (v := .tuple (xs.map V.int))) PEs.nil) (Fn.lenT (by rw [List.length_map]; unfold sizeLine; omega))) (by rw [List.length_map])) (hB1 _) T₇ F.ok F.sees0 R₈ fun r₉ s₉ B₉ le₉ T₉ R₉ d₉ => ?_
    obtain ⟨t₈, rfl⟩ := den_int.mp d₈
    obtain ⟨t₉, rfl⟩ := den_int.mp d₉
    refine iadd_int ?_
    have e9 : frameI env env.cells (tab [("self", .exact (.ref x)), ("result", .tuple (xs.map V.int)), ("n2i", σ.n2i)]) ++ ([soItem x dx, adItem dx σ₂.ad2] ++ lstItem r [] :: (σ₂.nodes.map Nd.itm2 ++ own)) = (frameI env env.cells (tab [("self", .exact (.ref x)), ("result", .tuple (xs.map V.int)), ("n2i", σ.n2i)]) ++ [soItem x dx]) ++ adItem dx σ₂.ad2 :: (lstItem r [] :: (σ₂.nodes.map Nd.itm2 ++ own)) := by simp
    rw [e9] at R₉
    refine so_set (v := .int (σ₂.out + xs.length)) T₉ (R₉.toks _) (by simp) (by decide) no_out (den_int.mpr ⟨_, rfl⟩) (Nat.le_of_ble_eq_true rfl) fun s₁₀ R₁₀ => ?_
    have e10 : (frameI env env.cells (tab [("self", .exact (.ref x)), ("result", .tuple (xs.map V.int)), ("n2i", σ.n2i)]) ++ [soItem x dx]) ++ adItem dx (setL σ₂.ad2 "_npassedout" (.int (σ₂.out + xs.length))) :: (lstItem r [] :: (σ₂.nodes.map Nd.itm2 ++ own)) = frameI env env.cells (tab [("self", .exact (.ref x)), ("result", .tuple (xs.map V.int)), ("n2i", σ.n2i)]) ++ ((σ.handed r xs).items2 x dx ++ own) := by
      unfold St.handed
      rw [hσ₂, ← o3]
      have : setL σ₂.ad2 "_npassedout" (.int (σ₂.out + xs.length)) = St.ad2 { σ₂ with rd := some (r, []), out := σ₂.out + xs.length } := by
        unfold St.ad2
        rw [hrd2]
        rfl
      rw [this]
      simp [St.items2, rdI]
    rw [e10] at R₁₀
    refine wpAny_execs_cons (st_return (v := .tuple (xs.map V.int)) F hB0.app T₉ R₁₀ PE.var fun r₁₁ s₁₁ B₁₁ le₁₁ T₁₁ R₁₁ d₁₁ => ?_)
    exact kk r₁₁ s₁₁ B₁₁ ((((le₁.trans le₂).trans (le₃.trans le₄)).trans (le₅.trans le₆)).trans ((le₇.trans le₉).trans le₁₁)) T₁₁ d₁₁ R₁₁.app
end
end Mine

namespace Mine
def St.npOf (σ : St) (j : Int) : Int := ((σ.nodes.find? fun d => d.k == j).map Nd.np).getD 0
def St.push (σ : St) (j : Int) : St := { σ with rd := σ.rd.map fun p => (p.1, p.2 ++ [j]) }
def St.less (σ : St) (j : Int) : St := σ.on j fun d => d.setNp (d.np - 1)
def St.dec (σ : St) (j : Int) : St := if (σ.less j).npOf j = 0 then (σ.less j).push j else σ.less j
def St.finish (σ : St) (k : Int) (su : List Int) : St := { su.foldl St.dec (σ.on k (Nd.setNp (-2))) with fin := σ.fin + 1 }
structure SameSt (σ σ' : St) (r : Addr) : Prop where
  keys : σ'.keys = σ.keys
  n2i : σ'.n2i = σ.n2i
  out : σ'.out = σ.out
  fin : σ'.fin = σ.fin
theorem dec_same (σ : St) (j : Int) (r : Addr) : SameSt σ (σ.dec j) r := by
  unfold St.dec
  split <;> exact ⟨on_keys fun _ => rfl, on_n2i (fun _ => rfl) fun _ => rfl, rfl, rfl⟩
theorem decs_same (r : Addr) : ∀ (su : List Int) (σ : St), SameSt σ (su.foldl St.dec σ) r
  | [], σ => ⟨rfl, rfl, rfl, rfl⟩
  | j :: su, σ => by
    have h1 := dec_same σ j r
    have h2 := decs_same r su (σ.dec j)
    exact ⟨h2.keys.trans h1.keys, h2.n2i.trans h1.n2i, h2.out.trans h1.out, h2.fin.trans h1.fin⟩
theorem dec_rd {σ : St} {j : Int} {r : Addr} {xs : List Int} (h : σ.rd = some (r, xs)) : ∃ ys, (σ.dec j).rd = some (r, ys) ∧ ys.length ≤ xs.length + 1 := by
  unfold St.dec
  split
  · refine ⟨xs ++ [j], ?_, by simp⟩
    show σ.rd.map _ = _
    rw [h]; rfl
  · exact ⟨xs, h, Nat.le_succ _⟩
theorem decs_rd {r : Addr} : ∀ (su : List Int) {σ : St} {xs : List Int}, σ.rd = some (r, xs) → ∃ ys, (su.foldl St.dec σ).rd = some (r, ys) ∧ ys.length ≤ xs.length + su.length
  | [], σ, xs, h => ⟨xs, h, Nat.le_refl _⟩
  | j :: su, σ, xs, h => by
    obtain ⟨ys, h1, h2⟩ := dec_rd (j := j) h
    obtain ⟨zs, h3, h4⟩ := decs_rd su h1
    exact ⟨zs, h3, by rw [List.length_cons]; omega⟩
theorem npOf_mem {σ : St} {d : Nd} (hN : σ.keys.Nodup) (hd : d ∈ σ.nodes) : σ.npOf d.k = d.np := by
  unfold St.npOf
  rw [find_mem hN hd]; rfl
section
variable {w : World} {os : OsState} {n : Nat} {sc : Scope} {ρ : Str → Option V} {Ω : List Item} {A : Around} {env : Env} {B : Bs} {own R : List Item} {s : Shared} {E : Value → Shared → Prop}
abbrev dTab (x : Addr) (k : Int) (a : Addr) (su : List Int) (σ : St) : List (Str × V) := [("self", .exact (.ref x)), ("n2i", σ.n2i), ("nodes", .tuple [.int k]), ("nodeinfo", .exact (.ref a))]
theorem done_ {A : Around} {B : Bs} {own : List Item} {s : Shared} {E : Value → Shared → Prop} {Q : Value → Shared → Prop} {x dx r : Addr} {σ : St} {xs : List Int} {d : Nd} {rk : Value} (hrd : σ.rd = some (r, xs)) (hsz : xs.length + d.su.length ≤ 1000) (hN : σ.keys.Nodup) (hd : d ∈ σ.nodes) (hnp : d.np = -1) (hsu : ∀ y ∈ d.su, y ∈ σ.keys)
    (hA : Rm (n + 1) A own) (T : TopB w B) (R : Rep w os B (σ.items2 x dx ++ own) s) (dk : den w B (.int d.k) rk)
    (kk : ∀ s' B', Le B B' → TopB w B' → Rep w os B' ((σ.finish d.k d.su).items2 x dx ++ own) s' → Q .none s') : wpAny (model pg w) A (call (.ref 120) [.ref x, rk]) Q E s := by
  have hA0 : Rm (n + 1) A (σ.items2 x dx ++ own) := hA.more fun i hi => List.mem_append_right _ hi
  refine call_gen (r := ⟨"TopologicalSorter.done", inClass 7 (fdef 6), .none, .none⟩) rfl ["self", "nodes"] [.exact (.ref x), .tuple [.int d.k]] hA0 T R (by decide) (fun doc pm cd ct nm E' Q' hq => ?_) (by decide) (by decide) rfl rfl rfl ?_
  · have hb : bindArgs (mkFd "TopologicalSorter.done" (psOf (inClass 7 (fdef 6))) (bodyOf (inClass 7 (fdef 6))) (scOf (inClass 7 (fdef 6))) .none .none doc pm cd ct nm) ⟨[.ref x, rk], []⟩ = (do let t ← newTuple [rk]; pure [(("self" : Str), .ref x), ("nodes", t)]) := by rfl
    rw [hb]
    refine wpAny_bind (wpAny_newObj_type ?_ (Nat.le_of_ble_eq_true rfl))
    obtain ⟨B', le, R', d'⟩ := R.newTuple s.toks (xs := [.int d.k]) (its := [rk].toArray) (dens_cons.mpr ⟨_, _, rfl, dk, dens_nil.mpr rfl⟩)
    exact wpAny_pure (hq _ B' [.ref x, .ref s.heap.objs.size] le R' (dens_cons.mpr ⟨_, _, rfl, den_exact.mpr rfl, dens_cons.mpr ⟨_, _, rfl, d', dens_nil.mpr rfl⟩⟩))
  intro env s₁ B₁ E' hE le₁ T₁ F hA' R₁
  have hB0 : RmE n _ env own := RmE.rest hA hA' F
  have hrdV : σ.ad2.lookup ("_ready_nodes" : Str) = some (V.exact (.ref r)) := by show some (rdV σ.rd) = _; rw [hrd]; rfl
  refine wpAny_execs_cons (st_ifW (σ.items2 x dx) (b := false) hΩ2 F hA' T₁ R₁ (PT.cmp (PE.so (x := x) rfl rfl n_so n_ad no_ready hrdV) PE.none is_ref) fun s₂ B₂ le₂ T₂ R₂ => ?_)
  refine wpAny_execs_nil (wpAny_execs_cons (st_assignW (σ.items2 x dx) (v := σ.n2i) hΩ2 F hA' T₂ R₂ (PE.so (x := x) rfl rfl n_so n_ad no_node2info rfl) (by rfl) fun s₃ B₃ le₃ T₃ R₃ => ?_))
  refine wpAny_execs_cons (st_forW [] [d.k] V.int (fun i B' ρ' R' => if i = 0 then ρ' = tab [("self", .exact (.ref x)), ("n2i", σ.n2i), ("nodes", .tuple [.int d.k])] ∧ R' = σ.items2 x dx ++ own else R' = (σ.finish d.k d.su).items2 x dx ++ own) (fun _ h => nomatch h) F hA' T₃
    (R₃.keep [("self", .exact (.ref x)), ("n2i", σ.n2i), ("nodes", .tuple [.int d.k])] ⟨rfl, rfl, rfl, trivial⟩) (PI.tuple PE.var) (by rfl) (fun B' _ => ⟨rfl, rfl⟩) ?_ ?_)
  · rintro i y B₄ ρ' R' J s₄ E'' hE' hy le₄ T₄ hinv hR
    obtain rfl : i = 0 := by
      cases i with
      | zero => rfl
      | succ i => simp at hy
    obtain rfl : d.k = y := by simpa using hy
    rw [if_pos rfl] at hinv
    obtain ⟨rfl, rfl⟩ := hinv
    have R₄ : Rep w os B₄ (frameI env env.cells (upd (tab [("self", .exact (.ref x)), ("n2i", σ.n2i), ("nodes", .tuple [.int d.k])]) "node" (V.int d.k)) ++ (σ.items2 x dx ++ (J :: own))) s₄ := hR.perm (List.Perm.append_left _ List.perm_middle.symm)
    have hB1 : ∀ σ : St, RmE n _ env (σ.items2 x dx ++ (J :: own)) := fun σ => hB0.add.app
    refine wpAny_execs_cons (wpAny_If (wpAny_isTrue_Compare1 (wpAny_NamedExpr (PE.use (v := .exact (.ref d.a)) (PE.cast (PE.fget (PE.var (v := σ.n2i)) PE.var) (by
      show (((σ.nodes.map Nd.k).zip _).lookup d.k).getD V.none = _
      rw [zip_lookup, find_mem hN hd]; rfl)) (hB1 σ _) T₄ F.ok F.sees0 R₄ fun r₅ s₅ B₅ le₅ T₅ R₅ d₅ => ?_)) rfl))
    refine assign_rep (pre := []) F.fr (F.var (isVar_or (by rfl))) R₅ d₅ fun s₆ R₆ => ?_
    refine wpAny_Constant_none ?_
    rw [den_exact.mp d₅]
    refine wpAny_is_plain rfl (wpAny_truthy_bool (wpAny_execs_nil ?_))
    refine wpAny_execs_cons (st_assignW (σ.items2 x dx) (v := .int (-1)) hΩ2 F (hB1 σ) T₅ R₆ (PE.cast (PE.ni (a := d.a) rfl rfl (n_ni hd) (fun K N => N.npred) rfl) (by rw [hnp])) (by rfl) fun s₇ B₇ le₇ T₇ R₇ => ?_)
    refine wpAny_execs_cons (st_if (b := false) F (hB1 σ) T₇ R₇ (PT.cmp (PE.var (v := .int (-1))) (PE.glob (v := .int (-1)) rfl rfl) Cmp.neI) fun s₈ B₈ le₈ T₈ R₈ => ?_)
    refine wpAny_execs_nil (wpAny_execs_cons (plainObj_wpAny_Assign_Attribute ?_ rfl))
    refine PE.use (v := .int (-2)) (PE.glob rfl rfl) (hB1 σ _) T₈ F.ok F.sees0 R₈ fun r₉ s₉ B₉ le₉ T₉ R₉ d₉ => ?_
    refine PE.use (v := .exact (.ref d.a)) PE.var (hB1 σ _) T₉ F.ok F.sees0 R₉ fun r₁₀ s₁₀ B₁₀ le₁₀ T₁₀ R₁₀ d₁₀ => ?_
    rw [den_exact.mp d₁₀]
    refine np_set2 (c := -2) (X := frameI env env.cells _) (L := env.locals) T₁₀ R₁₀ (List.mem_cons_self ..) hd hN (den.mono le₁₀ _ d₉) fun s₁₁ R₁₁ => ?_
    -- the successors
    have hd1 : (Nd.setNp (-2) d) ∈ (σ.on d.k (Nd.setNp (-2))).nodes := by
      obtain ⟨p1, p2, e⟩ := List.append_of_mem hd
      rw [on_split hN e]; simp
    have k1 : (σ.on d.k (Nd.setNp (-2))).keys = σ.keys := on_keys fun _ => rfl
    have n1 : (σ.on d.k (Nd.setNp (-2))).n2i = σ.n2i := on_n2i (fun _ => rfl) fun _ => rfl
    have rd1 : (σ.on d.k (Nd.setNp (-2))).rd = some (r, xs) := hrd
    have fin1 : (σ.on d.k (Nd.setNp (-2))).fin = σ.fin := rfl
    generalize hσ₁ : σ.on d.k (Nd.setNp (-2)) = σ₁ at R₁₁ hd1 k1 n1 rd1 fin1
    have m1 : niItem d.a [some (.int d.k), some (.int (-2)), some (IL d.su)] ∈ σ₁.items2 x dx := n_ni hd1
    have R₁₂ := R₁₁.keep [("self", .exact (.ref x)), ("n2i", σ.n2i), ("nodeinfo", .exact (.ref d.a))] ⟨rfl, rfl, rfl, trivial⟩
    refine wpAny_execs_cons (st_forW (σ₁.items2 x dx) d.su V.int (fun i B' ρ' R' => ρ' = tab [("self", .exact (.ref x)), ("n2i", σ.n2i), ("nodeinfo", .exact (.ref d.a))] ∧ R' = ((d.su.take i).foldl St.dec σ₁).items2 x dx ++ (J :: own)) hΩ2 F (hB1 σ₁) T₁₀ R₁₂
      (PI.list (PE.ni (a := d.a) rfl rfl m1 (fun K N => N.succ) rfl)) (by rfl) (fun B' _ => ⟨rfl, rfl⟩) ?_ ?_)
    · rintro i j B' ρ' R' J' s' E₃ hE₃ hj le T' ⟨rfl, rfl⟩ hR'
      have hs := decs_same r (d.su.take i) σ₁
      obtain ⟨ys, hys, hyl⟩ := decs_rd (d.su.take i) rd1
      have htl : (d.su.take i).length ≤ d.su.length := by rw [List.length_take]; omega
      have htk : d.su.take (i + 1) = d.su.take i ++ [j] := by rw [List.take_add_one, hj]; rfl
      generalize hσ₂ : (d.su.take i).foldl St.dec σ₁ = σ₂ at hR' hs hys
      have hN2 : σ₂.keys.Nodup := by rw [hs.keys, k1]; exact hN
      obtain ⟨e, he, hk⟩ := mem_keys (σ := σ₂) (j := j) (by rw [hs.keys, k1]; exact hsu j (List.mem_of_getElem? hj))
      subst hk
      have n2 : σ₂.n2i = σ.n2i := hs.n2i.trans n1
      have R₁₃ : Rep w os B' (frameI env env.cells (upd (tab [("self", .exact (.ref x)), ("n2i", σ.n2i), ("nodeinfo", .exact (.ref d.a))]) "successor" (V.int e.k)) ++ (σ₂.items2 x dx ++ (J' :: J :: own))) s' := hR'.perm (List.Perm.append_left _ List.perm_middle.symm)
      have hB2 : ∀ σ : St, RmE n _ env (σ.items2 x dx ++ (J' :: J :: own)) := fun σ => hB0.add.add.app
      refine wpAny_execs_cons (st_assignW (σ₂.items2 x dx) (v := .exact (.ref e.a)) hΩ2 F (hB2 σ₂) T' R₁₃ (PE.n2i (PE.var (v := σ₂.n2i) (hv := by rw [n2]; rfl)) PE.var hN2 he) (by rfl) fun s₁₄ B₁₄ le₁₄ T₁₄ R₁₄ => ?_)
      refine wpAny_execs_cons (wpAny_AugAssign_AttributeAny ?_)
      refine PE.use (v := .exact (.ref e.a)) PE.var (hB2 σ₂ _) T₁₄ F.ok F.sees0 R₁₄ fun r₁₅ s₁₅ B₁₅ le₁₅ T₁₅ R₁₅ d₁₅ => ?_
      rw [den_exact.mp d₁₅]
      refine ni_get T₁₅ R₁₅ (List.mem_append_right _ (List.mem_append_left _ (n_ni he))) (fun K N => N.npred) (v := .int e.np) rfl rfl fun r₁₆ s₁₆ R₁₆ d₁₆ => ?_
      refine wpAny_Constant_int ?_
      obtain ⟨t₁₆, rfl⟩ := den_int.mp d₁₆
      refine isub_int ?_
      refine np_set2 (c := e.np - 1) (X := frameI env env.cells _) (L := env.locals) T₁₅ ((R₁₆.toks _).toks _) (List.mem_cons_self ..) he hN2 (den_int.mpr ⟨_, rfl⟩) fun s₁₇ R₁₇ => ?_
      have e17 : σ₂.on e.k (Nd.setNp (e.np - 1)) = σ₂.less e.k := on_same hN2 he rfl
      rw [e17] at R₁₇
      have he3 : (e.setNp (e.np - 1)) ∈ (σ₂.less e.k).nodes := by
        rw [← e17]
        obtain ⟨p1, p2, q⟩ := List.append_of_mem he
        rw [on_split hN2 q]; simp
      have k3 : (σ₂.less e.k).keys = σ₂.keys := on_keys fun _ => rfl
      have hN3 : (σ₂.less e.k).keys.Nodup := by rw [k3]; exact hN2
      have hnp3 : (σ₂.less e.k).npOf e.k = e.np - 1 := npOf_mem (d := e.setNp (e.np - 1)) hN3 he3
      have m3 : niItem e.a [some (.int e.k), some (.int (e.np - 1)), some (IL e.su)] ∈ (σ₂.less e.k).items2 x dx := n_ni he3
      refine wpAny_execs_cons (st_ifW ((σ₂.less e.k).items2 x dx) hΩ2 F (hB2 _) T₁₅ R₁₇ (PT.cmp (PE.ni (a := e.a) rfl rfl m3 (fun K N => N.npred) rfl) PE.int Cmp.eqI) fun s₁₈ B₁₈ le₁₈ T₁₈ R₁₈ => ?_)
      have hstep : (d.su.take (i + 1)).foldl St.dec σ₁ = σ₂.dec e.k := by rw [htk, List.foldl_append, hσ₂]; rfl
      by_cases h0 : e.np - 1 = 0
      · have hb : (e.np - 1 == (0 : Int)) = true := by simp [h0]
        rw [hb, if_pos rfl]
        have hys3 : (σ₂.less e.k).rd = some (r, ys) := hys
        have hrdV3 : (σ₂.less e.k).ad2.lookup ("_ready_nodes" : Str) = some (V.exact (.ref r)) := by show some (rdV (σ₂.less e.k).rd) = _; rw [hys3]; rfl
        have eR : (σ₂.less e.k).items2 x dx ++ (J' :: J :: own) = [soItem x dx, adItem dx (σ₂.less e.k).ad2] ++ lstItem r (ys.map V.int) :: ((σ₂.less e.k).nodes.map Nd.itm2 ++ (J' :: J :: own)) := by unfold St.items2; rw [hys3]; rfl
        refine wpAny_execs_cons (st_appendO ((σ₂.less e.k).items2 x dx) hΩ2 F (hB2 _) T₁₈ R₁₈ eR (v := .int e.k) (PE.so (x := x) rfl rfl n_so n_ad no_ready hrdV3) PE.var (by rw [List.length_map]; unfold sizeLine; omega) fun s₁₉ B₁₉ le₁₉ T₁₉ R₁₉ => ?_)
        have hdec : σ₂.dec e.k = (σ₂.less e.k).push e.k := by unfold St.dec; rw [hnp3, if_pos h0]
        have e19 : [soItem x dx, adItem dx (σ₂.less e.k).ad2] ++ lstItem r (ys.map V.int ++ [.int e.k]) :: ((σ₂.less e.k).nodes.map Nd.itm2 ++ (J' :: J :: own)) = (σ₂.dec e.k).items2 x dx ++ (J' :: J :: own) := by
          rw [hdec]
          unfold St.items2 St.push St.ad2 St.n2i St.keys
          rw [hys3]
          simp [rdI, rdV]
        rw [e19] at R₁₉
        refine wpAny_execs_nil (wpAny_execs_nil ⟨B₁₉, _, _, ((le₁₄.trans le₁₅).trans le₁₈).trans le₁₉, ⟨rfl, rfl⟩, ?_⟩)
        rw [hstep]
        have R₂₀ := R₁₉.keep [("self", .exact (.ref x)), ("n2i", σ.n2i), ("nodeinfo", .exact (.ref d.a))] ⟨rfl, rfl, rfl, trivial⟩
        exact R₂₀.perm (List.Perm.append_left _ List.perm_middle)
      · have hb : (e.np - 1 == (0 : Int)) = false := by simp [h0]
        rw [hb, if_neg (by decide)]
        have hdec : σ₂.dec e.k = σ₂.less e.k := by unfold St.dec; rw [hnp3, if_neg h0]
        refine wpAny_execs_nil (wpAny_execs_nil ⟨B₁₈, _, _, (le₁₄.trans le₁₅).trans le₁₈, ⟨rfl, rfl⟩, ?_⟩)
        rw [hstep, hdec]
        have R₂₀ := R₁₈.keep [("self", .exact (.ref x)), ("n2i", σ.n2i), ("nodeinfo", .exact (.ref d.a))] ⟨rfl, rfl, rfl, trivial⟩
        exact R₂₀.perm (List.Perm.append_left _ List.perm_middle)
    · rintro B₁₃ ρ' R' s₁₃ le₁₃ T₁₃ ⟨rfl, rfl⟩ R₁₃
      rw [List.take_length] at R₁₃
      have hs := decs_same r d.su σ₁
      generalize hσ₂ : d.su.foldl St.dec σ₁ = σ₂ at R₁₃ hs
      refine wpAny_execs_cons (wpAny_AugAssign_AttributeAny ?_)
      refine PE.use (v := .exact (.ref x)) PE.var (hB1 σ₂ _) T₁₃ F.ok F.sees0 R₁₃ fun r₁₄ s₁₄ B₁₄ le₁₄ T₁₄ R₁₄ d₁₄ => ?_
      rw [den_exact.mp d₁₄]
      refine so_get (v := .int σ₂.fin) T₁₄ R₁₄ (List.mem_append_right _ (List.mem_append_left _ n_so)) (List.mem_append_right _ (List.mem_append_left _ n_ad)) rfl rfl (by decide) no_fin fun r₁₅ s₁₅ R₁₅ d₁₅ => ?_
      refine wpAny_Constant_int ?_
      obtain ⟨t₁₅, rfl⟩ := den_int.mp d₁₅
      refine iadd_int ?_
      have e15 : frameI env env.cells (tab [("self", .exact (.ref x)), ("n2i", σ.n2i), ("nodeinfo", .exact (.ref d.a))]) ++ (σ₂.items2 x dx ++ (J :: own)) = (frameI env env.cells (tab [("self", .exact (.ref x)), ("n2i", σ.n2i), ("nodeinfo", .exact (.ref d.a))]) ++ [soItem x dx]) ++ adItem dx σ₂.ad2 :: (rdI σ₂.rd ++ σ₂.nodes.map Nd.itm2 ++ (J :: own)) := by
        unfold St.items2; simp
      rw [e15] at R₁₅
      refine so_set (v := .int (σ₂.fin + 1)) T₁₄ ((R₁₅.toks _).toks _) (by simp) (by decide) no_fin (den_int.mpr ⟨_, rfl⟩) (Nat.le_of_ble_eq_true rfl) fun s₁₆ R₁₆ => ?_
      have e16 : (frameI env env.cells (tab [("self", .exact (.ref x)), ("n2i", σ.n2i), ("nodeinfo", .exact (.ref d.a))]) ++ [soItem x dx]) ++ adItem dx (setL σ₂.ad2 "_nfinished" (.int (σ₂.fin + 1))) :: (rdI σ₂.rd ++ σ₂.nodes.map Nd.itm2 ++ (J :: own)) = frameI env env.cells (tab [("self", .exact (.ref x)), ("n2i", σ.n2i), ("nodeinfo", .exact (.ref d.a))]) ++ ((σ.finish d.k d.su).items2 x dx ++ (J :: own)) := by
        unfold St.finish
        rw [hσ₁, hσ₂, ← fin1, ← hs.fin]
        have : setL σ₂.ad2 "_nfinished" (.int (σ₂.fin + 1)) = St.ad2 { σ₂ with fin := σ₂.fin + 1 } := rfl
        rw [this]
        simp [St.items2]
      rw [e16] at R₁₆
      refine wpAny_execs_nil ⟨B₁₄, _, _, (((le₅.trans le₇).trans (le₈.trans le₉)).trans (le₁₀.trans le₁₃)).trans le₁₄, ?_, R₁₆.perm (List.Perm.append_left _ List.perm_middle)⟩
      rw [if_neg (by decide)]
  · rintro B' ρ' R' s' le T' hinv hR
    rw [if_neg (by simp)] at hinv
    subst hinv
    exact wpAny_execs_nil (kk s' B' (((le₁.trans le₂).trans le₃).trans le) T' hR.app)
end
end Mine

namespace Mine
section
variable {w : World} {A : Around} {s : Shared} {E : Value → Shared → Prop}
theorem li_slot : Slot "list_iterator" "__getattribute__" "object.__getattribute__" :=
  .of (owner := "object") (n := "__getattribute__") (by rw [typeLookup_type, builtinLookup_eq_fast]; kernel_rfl) (by decide +kernel) (by decide +kernel) (by decide +kernel)
    (by first | exact .inl (by decide +kernel) | exact .inr (by decide +kernel)) (by rw [isSubtype_type]; kernel_rfl)
theorem li_entry : entryFor table "object.__getattribute__" = some Builtin.«object.__getattribute__» := entryFor_of_tree (by kernel_rfl)
theorem li_args (a b : Value) : argsOk "object.__getattribute__" ⟨[a, b], []⟩ := by unfold argsOk; kernel_rfl
theorem li_hook : typeLookup (.type "list_iterator") "__getattr__" = pure none := by rw [typeLookup_type, builtinLookup_eq_fast]; kernel_rfl
theorem li_next : typeLookup (.type "list_iterator") "__next__" = pure (some (.builtin "list_iterator.__next__")) := by rw [typeLookup_type, builtinLookup_eq_fast]; kernel_rfl
theorem li_type : typeOf (.builtin "list_iterator.__next__") = pure (.type "wrapper_descriptor") := by show builtinType _ = _; rw [builtinType_eq_fast]; kernel_rfl
theorem wd_get : typeLookup (.type "wrapper_descriptor") "__get__" = pure (some (.builtin "wrapper_descriptor.__get__")) := by rw [typeLookup_type, builtinLookup_eq_fast]; kernel_rfl
theorem wd_set : typeLookup (.type "wrapper_descriptor") "__set__" = pure none := by rw [typeLookup_type, builtinLookup_eq_fast]; kernel_rfl
theorem wd_del : typeLookup (.type "wrapper_descriptor") "__delete__" = pure none := by rw [typeLookup_type, builtinLookup_eq_fast]; kernel_rfl
theorem wd_slot : Slot "wrapper_descriptor" "__get__" "wrapper_descriptor.__get__" :=
  .of (owner := "wrapper_descriptor") (n := "__get__") (by rw [typeLookup_type, builtinLookup_eq_fast]; kernel_rfl) (by decide +kernel) (by decide +kernel) (by decide +kernel)
    (by first | exact .inl (by decide +kernel) | exact .inr (by decide +kernel)) (by rw [isSubtype_type]; kernel_rfl)
theorem wd_entry : entryFor table "wrapper_descriptor.__get__" = some Builtin.«wrapper_descriptor.__get__» := entryFor_of_tree (by kernel_rfl)
theorem wd_args (a b c : Value) : argsOk "wrapper_descriptor.__get__" ⟨[a, b, c], []⟩ := by unfold argsOk; kernel_rfl
theorem li_sub : isSubtype (.type "list_iterator") (.type "list_iterator") = pure true := by rw [isSubtype_type]; kernel_rfl
theorem li_owner : (".".intercalate ("list_iterator.__next__".cutAt '.').dropLast) = "list_iterator" := by decide +kernel
def mwObj (I : Addr) : Obj := { cls := .type "method-wrapper", data := .fields #[.builtin "list_iterator.__next__", .ref I] }
theorem next_get {I : Addr} {o : Obj} {Q : Fin → Shared → Prop} (ho : s.heap.get? I = some o) (hc : o.cls = .type "list_iterator") 
    (h : Q (.done (.ret (.ref s.heap.objs.size))) { s with heap := s.heap.push (mwObj I) }) : wpAny (model pg w) A (Builtin.«wrapper_descriptor.__get__» ⟨[.builtin "list_iterator.__next__", .ref I, .type "list_iterator"], []⟩) Q E s := by
  obtain ⟨hp, g, d, tk, os⟩ := s
  have hT : ∀ tk', (⟨hp, g, d, tk', os⟩ : Shared).TypeIs (.ref I) "list_iterator" := fun _ => ⟨_, ho, hc⟩
  have f1 := li_sub
  unfold Builtin.«wrapper_descriptor.__get__»
  repeat (any_goals (first | assumption | exact hT _ | wp_step))
  rw [hc, li_owner]
  refine wpAny_of_eq f1 ?_
  simp only [Bool.not_true, Bool.false_eq_true, if_false]
  refine wpAny_pure (wpAny_bind (wpAny_newObj_type (wpAny_pure h)))
theorem next_in {I : Addr} {o : Obj} {vs : Array Value} {tk' : Tok} {Q : Fin → Shared → Prop} (ho : s.heap.get? I = some o) (hc : o.cls = .type "list_iterator") (hdi : o.dict = none) (hd : o.data = .fields vs)
    (h : Q (.done (.ret (.ref s.heap.objs.size))) { s with heap := s.heap.push (mwObj I) }) : wpAny (model pg w) A (Builtin.«object.__getattribute__» ⟨[.ref I, .str "__next__" tk'], []⟩) Q E s := by
  obtain ⟨hp, g, d, tk, os⟩ := s
  obtain ⟨oc, odi, oda, osl⟩ := o
  simp only at hc hdi hd
  subst hc hdi hd
  have hT : (⟨hp, g, d, tk, os⟩ : Shared).TypeIs (.ref I) "list_iterator" := ⟨_, ho, rfl⟩
  have f4 := li_next
  have f5 := li_type
  have f6 := wd_get
  have f7 := wd_set
  have f8 := wd_del
  unfold Builtin.«object.__getattribute__»
  repeat (any_goals (first | assumption | wp_step))
  have hT5 : (⟨hp, g, d, tk, os⟩ : Shared).TypeIs (.builtin "list_iterator.__next__") "wrapper_descriptor" := li_type
  refine codeAny_call_builtin wd_slot.plain wd_entry (wd_slot.check _ _ _ _ _ _ _ _ hT5 (wd_args _ _ _) ?_)
  exact next_get ho rfl (wpAny_pure h)
theorem next_attr {I : Addr} {o : Obj} {vs : Array Value} {Q : Value → Shared → Prop} (ho : s.heap.get? I = some o) (hc : o.cls = .type "list_iterator") (hdi : o.dict = none) (hd : o.data = .fields vs)
    (h : Q (.ref s.heap.objs.size) { s with heap := s.heap.push (mwObj I), toks := s.toks + 1 }) : wpAny (model pg w) A (getAttr (.ref I) "__next__" true) Q E s := by
  obtain ⟨hp, g, d, tk, os⟩ := s
  obtain ⟨oc, odi, oda, osl⟩ := o
  simp only at hc hdi hd
  subst hc hdi hd
  have hT : ∀ tk', (⟨hp, g, d, tk', os⟩ : Shared).TypeIs (.ref I) "list_iterator" := fun _ => ⟨_, ho, rfl⟩
  have f3 := li_slot.lookup
  have f4 := li_slot.bind (.ref I)
  have f5 := li_hook
  unfold getAttr getAttrBy
  repeat (any_goals (first | assumption | exact hT _ | ((with_reducible show wpAny _ _ (call (Value.builtin "object.__getattribute__") _ _) _ _ _); refine wpAny_call (codeAny_call_builtin li_slot.plain li_entry (li_slot.check _ _ _ _ _ _ _ _ (hT _) (li_args _ _) (next_in ho rfl rfl rfl ?_)))) | wp_step))
end
end Mine

namespace Mine
section
variable {w : World} {A : Around} {s : Shared} {E : Value → Shared → Prop}
theorem mw_check (I : Addr) : checkBoundCall "list_iterator.__next__" ⟨[.ref I], []⟩ = pure () := by first | kernel_rfl | rfl
theorem mw_quiet {as : Args} : (Code.builtin "list_iterator.__next__" as).quiet = true := Code.quiet_builtin _ (by decide +kernel)
theorem mw_plain : plainId "list_iterator.__next__" = true := by decide +kernel
/-- a call of iter(..).__next__ -/
theorem mw_run {M I : Addr} {Q : Value → Shared → Prop} (hM : s.heap.get? M = some (mwObj I))
    (h : wpAny (model pg w) A.in1 (Builtin.«list_iterator.__next__» ⟨[.ref I], []⟩) (fun fin s' => match fin with | .done (.ret v) => Q v s' | _ => False) E s) : wpAny (model pg w) A (call (.ref M) []) Q E s := by
  refine wpAny_call (codeAny_of_tree ?_)
  show wpAny _ A.in1 (callAny (.ref M) ⟨[], []⟩) _ _ s
  simp only [callAny]
  refine wpAny_bind (wpAny_load hM ?_)
  simp only [mwObj, show (Value.type "method-wrapper" == Value.type "method" || Value.type "method-wrapper" == Value.type "builtin_function_or_method" || Value.type "method-wrapper" == Value.type "method-wrapper") = true by decide, if_true]
  show wpAny _ _ (if (Value.type "method-wrapper" != Value.type "method") = true then _ else _) _ _ _
  rw [if_pos (by decide)]
  refine wpAny_bind (wpAny_of_eq (a := ()) (mw_check I) ?_)
  refine wpAny_bind (wpAny_pure (wpAny_pure ?_))
  refine ⟨mw_quiet, codeAny_builtin entry_listiter_next ?_⟩
  rw [Around.under_plainId mw_plain]
  refine wpAny_mono h (fun fin s' hq => ?_) fun _ _ e => e
  cases fin with
  | done f => cases f <;> first | exact hq | exact hq.elim
  | again c => exact hq.elim
theorem mw_item {M I l : Addr} {i : Nat} {items : Array Value} {x : Value} {Q : Value → Shared → Prop} (hM : s.heap.get? M = some (mwObj I)) (hit : s.heap.IsListIter I l i) (hl : s.heap.IsList l items) (hx : items[i]? = some x)
    (hQ : ∀ h', h'.IsListIter I l (i + 1) → Heap.SameBut I s.heap h' → Q x { s with heap := h' }) : wpAny (model pg w) A (call (.ref M) []) Q E s := by
  refine mw_run hM ?_
  obtain ⟨o, ho, hc, hd⟩ := id hit
  obtain ⟨ol, hol, _, nl, hdl⟩ := hl
  show wpAny _ _ (field (.ref I) 0 >>= _) _ _ s
  refine wpAny_bind (wpAny_field ho hd (x := .ref l) rfl ?_)
  show wpAny _ _ (if (Value.ref l == Value.none) = true then _ else _) _ _ s
  rw [if_neg (show ¬ ((Value.ref l == Value.none) = true) from Bool.false_ne_true)]
  show wpAny _ _ (field (.ref I) 1 >>= _) _ _ s
  refine wpAny_bind (wpAny_field ho hd (x := .int i 0) rfl ?_)
  show wpAny _ _ (seqItems? (.ref l) >>= _) _ _ s
  refine wpAny_bind (wpAny_seqItems hol hdl ?_)
  simp only [Int.toNat_natCast, hx]
  refine wpAny_bind (wpAny_setField ho hd (by simp) (wpAny_pure (hQ _ ?_ (Heap.SameBut.update ..))))
  exact ⟨_, Heap.get?_update_self _ ho (Obj.isFreed_of_fields (Obj.data_mapFields hd _)), (Obj.cls_mapFields ..).trans hc, by
    rw [Obj.data_mapFields hd]; simp [rawInt]⟩
theorem mw_end {M I l : Addr} {i : Nat} {items : Array Value} {Q : Value → Shared → Prop} (hh : A.handled = none) (hM : s.heap.get? M = some (mwObj I)) (hit : s.heap.IsListIter I l i) (hl : s.heap.IsList l items) (hx : items[i]? = none)
    (hQ : ∀ h' e o, (∀ b o, b ≠ I → s.heap.get? b = some o → h'.get? b = some o) → s.heap.get? e = none → h'.get? e = some o → o.cls = .type "StopIteration" → (∃ vs, o.data = .fields vs ∧ vs[1]? = some .none) → E (.ref e) { s with heap := h' }) : wpAny (model pg w) A (call (.ref M) []) Q E s := by
  refine mw_run hM ?_
  obtain ⟨o, ho, hc, hd⟩ := id hit
  obtain ⟨ol, hol, _, nl, hdl⟩ := hl
  show wpAny _ _ (field (.ref I) 0 >>= _) _ _ s
  refine wpAny_bind (wpAny_field ho hd (x := .ref l) rfl ?_)
  show wpAny _ _ (if (Value.ref l == Value.none) = true then _ else _) _ _ s
  rw [if_neg (show ¬ ((Value.ref l == Value.none) = true) from Bool.false_ne_true)]
  show wpAny _ _ (field (.ref I) 1 >>= _) _ _ s
  refine wpAny_bind (wpAny_field ho hd (x := .int i 0) rfl ?_)
  show wpAny _ _ (seqItems? (.ref l) >>= _) _ _ s
  refine wpAny_bind (wpAny_seqItems hol hdl ?_)
  simp only [Int.toNat_natCast, hx]
  refine wpAny_bind (wpAny_rule (wpAny_bind (wpAny_setField ho hd (by simp) ?_)))
  show wpAny _ _ (newExc (.type "StopIteration") [] >>= _) _ _ _
  refine wpAny_bind ?_
  simp only [newExc, newTuple]
  refine wpAny_bind (wpAny_newObj_type ?_ (by size_fits))
  refine wpAny_bind (m := firstArgMember _ _) (wpAny_of_eq (a := Value.none) (by first | rfl | (simp only [firstArgMember]; rfl)) ?_)
  refine wpAny_newObj_type ?_ (by size_fits)
  simp only [raiseNew]
  refine wpAny_bind (wpAny_handled ?_)
  rw [show A.in1.handled = none from hh]
  refine wpAny_bind (wpAny_pure (wpAny_throw ?_))
  refine hQ _ _ _ (fun b o hb e => (((Heap.SameBut.update ..).extBut.push _).push _) b o hb e) ?_ (Heap.get?_push_size _ rfl) rfl ⟨_, rfl, rfl⟩
  cases e : s.heap.get? _ with
  | none => rfl
  | some ob =>
    have := Heap.lt_size e
    rw [Heap.size_push] at this
    exfalso
    have h2 : s.heap.objs.size = (s.heap.update I (Obj.mapFields (·.setIfInBounds 0 Value.none))).objs.size := by
      first | exact (Heap.size_update ..).symm | simp [Heap.update]
    have h4 : (s.heap.update I (Obj.mapFields (·.setIfInBounds 0 Value.none))).objs.size + 1 < s.heap.objs.size := this
    rw [← h2] at h4
    omega
end
end Mine

namespace Mine
/-- a look in depth: the path, what of each is still to come, what was met, what is done with -/
structure Dfs (su : Int → List Int) (st : List Int) (rs : List (List Int)) (seen F : List Int) : Prop where
  len : rs.length = st.length
  path : ∀ i u v, st[i]? = some u → st[i + 1]? = some v → v ∈ su u
  met : ∀ v, v ∈ seen ↔ v ∈ st ∨ v ∈ F
  nodup : st.Nodup
  snodup : seen.Nodup
  disj : ∀ v ∈ st, v ∉ F
  ord : ∀ i v, F[i]? = some v → ∀ c ∈ su v, c ∈ F.take i
  rem : ∀ i u r, st[i]? = some u → rs[i]? = some r → ∃ dn, su u = dn ++ r ∧ ∀ c ∈ dn, c ∈ F ∨ st[i + 1]? = some c
/-- the same, with a node in hand -/
structure DfsN (su : Int → List Int) (node : Int) (st : List Int) (rs : List (List Int)) (seen F : List Int) : Prop where
  len : rs.length = st.length
  path : ∀ i u v, st[i]? = some u → st[i + 1]? = some v → v ∈ su u
  met : ∀ v, v ∈ seen ↔ v ∈ st ∨ v ∈ F
  nodup : st.Nodup
  snodup : seen.Nodup
  disj : ∀ v ∈ st, v ∉ F
  ord : ∀ i v, F[i]? = some v → ∀ c ∈ su v, c ∈ F.take i
  rem : ∀ i u r, st[i]? = some u → rs[i]? = some r → ∃ dn, su u = dn ++ r ∧ ∀ c ∈ dn, c ∈ F ∨ st[i + 1]? = some c ∨ (i + 1 = st.length ∧ c = node)
  top : ∀ u, st.getLast? = some u → node ∈ su u
theorem get_snoc {α : Type} {l : List α} {x y : α} {i : Nat} (h : (l ++ [x])[i]? = some y) : (l[i]? = some y ∧ i < l.length) ∨ (i = l.length ∧ y = x) := by
  by_cases hi : i < l.length
  · left; rw [List.getElem?_append_left hi] at h; exact ⟨h, hi⟩
  · right
    rw [List.getElem?_append_right (by omega)] at h
    have : i - l.length = 0 := by
      by_cases q : i - l.length = 0
      · exact q
      · obtain ⟨j, hj⟩ := Nat.exists_eq_succ_of_ne_zero q
        rw [hj] at h; simp at h
    rw [this] at h
    simp at h
    exact ⟨by omega, h.symm⟩
theorem get_snoc_last {α : Type} {l : List α} {x : α} : (l ++ [x])[l.length]? = some x := by simp
theorem get_snoc_left {α : Type} {l : List α} {x y : α} {i : Nat} (h : l[i]? = some y) : (l ++ [x])[i]? = some y := by
  rw [List.getElem?_append_left (List.getElem?_eq_some_iff.mp h).1]; exact h
theorem Dfs.root {su : Int → List Int} {seen F : List Int} (h : Dfs su [] [] seen F) (node : Int) : DfsN su node [] [] seen F :=
  ⟨rfl, h.path, h.met, h.nodup, h.snodup, h.disj, h.ord, fun i u r hu => by simp at hu, fun u hu => by simp at hu⟩
theorem DfsN.push {su : Int → List Int} {node : Int} {st : List Int} {rs : List (List Int)} {seen F : List Int} (h : DfsN su node st rs seen F) (hn : node ∉ seen) : Dfs su (st ++ [node]) (rs ++ [su node]) (seen ++ [node]) F where
  len := by simp [h.len]
  path := by
    intro i u v hu hv
    rcases get_snoc hv with ⟨hv', hi⟩ | ⟨hi, rfl⟩
    · rcases get_snoc hu with ⟨hu', _⟩ | ⟨hi', _⟩
      · exact h.path i u v hu' hv'
      · omega
    · rcases get_snoc hu with ⟨hu', hi'⟩ | ⟨hi', _⟩
      · refine h.top u ?_
        rw [List.getLast?_eq_getElem?]
        rw [show st.length - 1 = i by omega]; exact hu'
      · omega
  met := by
    intro v
    rw [List.mem_append, List.mem_append, h.met]
    constructor
    · rintro ((a | a) | a)
      · exact .inl (.inl a)
      · exact .inr a
      · exact .inl (.inr a)
    · rintro ((a | a) | a)
      · exact .inl (.inl a)
      · exact .inr a
      · exact .inl (.inr a)
  nodup := List.nodup_append.mpr ⟨h.nodup, by simp, fun a ha b hb q => hn ((h.met _).mpr (.inl (by
    have : b = node := by simpa using hb
    rw [← this, ← q]; exact ha)))⟩
  snodup := List.nodup_append.mpr ⟨h.snodup, by simp, fun a ha b hb q => hn (by
    have : b = node := by simpa using hb
    rw [← this, ← q]; exact ha)⟩
  disj := by
    intro v hv hF
    rcases List.mem_append.mp hv with a | a
    · exact h.disj v a hF
    · have : v = node := by simpa using a
      exact hn ((h.met _).mpr (.inr (this ▸ hF)))
  ord := h.ord
  rem := by
    intro i u r hu hr
    rcases get_snoc hu with ⟨hu', hi⟩ | ⟨hi, rfl⟩
    · rcases get_snoc hr with ⟨hr', _⟩ | ⟨hi', _⟩
      · obtain ⟨dn, e, q⟩ := h.rem i u r hu' hr'
        refine ⟨dn, e, fun c hc => ?_⟩
        rcases q c hc with a | a | ⟨a, rfl⟩
        · exact .inl a
        · exact .inr (get_snoc_left a)
        · exact .inr (by rw [a]; exact get_snoc_last)
      · rw [h.len] at hi'; omega
    · rcases get_snoc hr with ⟨hr', hi'⟩ | ⟨hi', rfl⟩
      · rw [h.len] at hi'; omega
      · exact ⟨[], rfl, fun c hc => nomatch hc⟩
theorem DfsN.skip {su : Int → List Int} {node : Int} {st : List Int} {rs : List (List Int)} {seen F : List Int} (h : DfsN su node st rs seen F) (hn : node ∈ seen) (hs : node ∉ st) : Dfs su st rs seen F :=
  ⟨h.len, h.path, h.met, h.nodup, h.snodup, h.disj, h.ord, fun i u r hu hr => by
    obtain ⟨dn, e, q⟩ := h.rem i u r hu hr
    refine ⟨dn, e, fun c hc => ?_⟩
    rcases q c hc with a | a | ⟨a, rfl⟩
    · exact .inl a
    · exact .inr a
    · exact .inl (((h.met _).mp hn).resolve_left hs)⟩
theorem Dfs.next {su : Int → List Int} {st : List Int} {rs : List (List Int)} {u c : Int} {r : List Int} {seen F : List Int} (h : Dfs su (st ++ [u]) (rs ++ [c :: r]) seen F) : DfsN su c (st ++ [u]) (rs ++ [r]) seen F := by
  have hl : rs.length = st.length := by have := h.len; simpa using this
  refine ⟨by simp [hl], h.path, h.met, h.nodup, h.snodup, h.disj, h.ord, fun i v q hv hq => ?_, fun v hv => ?_⟩
  · rcases get_snoc hq with ⟨hq', hi⟩ | ⟨hi, rfl⟩
    · obtain ⟨dn, e, p⟩ := h.rem i v q hv (get_snoc_left hq')
      exact ⟨dn, e, fun x hx => (p x hx).elim .inl fun a => .inr (.inl a)⟩
    · obtain ⟨dn, e, p⟩ := h.rem i v (c :: q) hv (by rw [hi]; exact get_snoc_last)
      refine ⟨dn ++ [c], by rw [e]; simp, fun x hx => ?_⟩
      rcases List.mem_append.mp hx with a | a
      · exact (p x a).elim .inl fun a => .inr (.inl a)
      · exact .inr (.inr ⟨by simp; omega, by simpa using a⟩)
  · have : v = u := by simpa using hv.symm
    subst this
    obtain ⟨dn, e, p⟩ := h.rem st.length v (c :: r) get_snoc_last (by rw [← hl]; exact get_snoc_last)
    rw [e]; simp
theorem Dfs.pop {su : Int → List Int} {st : List Int} {rs : List (List Int)} {u : Int} {seen F : List Int} (h : Dfs su (st ++ [u]) (rs ++ [[]]) seen F) : Dfs su st rs seen (F ++ [u]) := by
  have hl : rs.length = st.length := by have := h.len; simpa using this
  obtain ⟨n1, n2, n3⟩ := List.nodup_append.mp h.nodup
  refine ⟨hl, fun i a b ha hb => h.path i a b (get_snoc_left ha) (get_snoc_left hb), fun v => ?_, n1, h.snodup, fun v hv hF => ?_, fun i v hv c hc => ?_, fun i v r hv hr => ?_⟩
  · rw [h.met, List.mem_append, List.mem_append]
    constructor
    · rintro ((a | a) | a)
      · exact .inl a
      · exact .inr (.inr a)
      · exact .inr (.inl a)
    · rintro (a | a | a)
      · exact .inl (.inl a)
      · exact .inr a
      · exact .inl (.inr a)
  · rcases List.mem_append.mp hF with a | a
    · exact h.disj v (List.mem_append_left _ hv) a
    · have : v = u := by simpa using a
      exact n3 v hv u (by simp) this
  · rcases get_snoc hv with ⟨hv', hi⟩ | ⟨hi, rfl⟩
    · rw [List.take_append_of_le_length (Nat.le_of_lt hi)]
      exact h.ord i v hv' c hc
    · obtain ⟨dn, e, p⟩ := h.rem st.length v [] get_snoc_last (by rw [← hl]; exact get_snoc_last)
      rw [List.append_nil] at e
      rw [e] at hc
      rw [hi, List.take_left]
      rcases p c hc with a | a
      · exact a
      · simp at a
  · obtain ⟨dn, e, p⟩ := h.rem i v r (get_snoc_left hv) (get_snoc_left hr)
    refine ⟨dn, e, fun c hc => ?_⟩
    rcases p c hc with a | a
    · exact .inl (List.mem_append_left _ a)
    · rcases get_snoc a with ⟨a', _⟩ | ⟨_, rfl⟩
      · exact .inr a'
      · exact .inl (by simp)
/-- some that wait for each other -/
def Ring (su : Int → List Int) (C : List Int) : Prop := C ≠ [] ∧ ∀ v ∈ C, ∃ u ∈ C, v ∈ su u
theorem DfsN.ring {su : Int → List Int} {node : Int} {st : List Int} {rs : List (List Int)} {seen F : List Int} (h : DfsN su node st rs seen F) (hs : node ∈ st) : ∃ C, Ring su C ∧ ∀ v ∈ C, v ∈ st := by
  obtain ⟨p1, p2, e⟩ := List.append_of_mem hs
  refine ⟨node :: p2, ⟨by simp, fun v hv => ?_⟩, fun v hv => by rw [e]; exact List.mem_append_right _ hv⟩
  rcases List.mem_cons.mp hv with rfl | hv
  · have hne : st ≠ [] := by rw [e]; simp
    refine ⟨(v :: p2).getLast (by simp), List.getLast_mem _, h.top _ ?_⟩
    rw [e, List.getLast?_append, List.getLast?_eq_some_getLast (l := v :: p2) (by simp)]
    rfl
  · obtain ⟨q1, q2, e2⟩ := List.append_of_mem hv
    have hpos : st[p1.length + 1 + q1.length]? = some v := by
      rw [e, e2, List.getElem?_append_right (by omega)]
      rw [show p1.length + 1 + q1.length - p1.length = q1.length + 1 by omega, List.getElem?_cons_succ, List.getElem?_append_right (by omega)]
      simp
    obtain ⟨u, hu⟩ : ∃ u, st[p1.length + q1.length]? = some u := by
      have : p1.length + q1.length < st.length := by have := (List.getElem?_eq_some_iff.mp hpos).1; omega
      exact ⟨_, List.getElem?_eq_getElem this⟩
    refine ⟨u, ?_, h.path _ u v hu (by rw [show p1.length + q1.length + 1 = p1.length + 1 + q1.length by omega]; exact hpos)⟩
    rw [e, List.getElem?_append_right (by omega)] at hu
    exact List.mem_of_getElem? hu
/-- the work that is left -/
def workU (su : Int → List Int) (ks seen : List Int) : Nat := ((ks.filter fun v => !seen.any (· == v)).map fun v => (su v).length + 1).sum
def workS (rs : List (List Int)) : Nat := (rs.map fun r => r.length + 1).sum
theorem workS_snoc (rs : List (List Int)) (r : List Int) : workS (rs ++ [r]) = workS rs + (r.length + 1) := by unfold workS; simp
theorem workU_push {su : Int → List Int} {node : Int} : ∀ {ks seen : List Int}, ks.Nodup → node ∈ ks → node ∉ seen → workU su ks (seen ++ [node]) + ((su node).length + 1) = workU su ks seen
  | [], _, _, h, _ => by cases h
  | k :: ks, seen, hN, hk, hn => by
    rw [List.nodup_cons] at hN
    unfold workU
    rw [List.filter_cons, List.filter_cons]
    have hns : seen.any (· == node) = false := by
      rw [Bool.eq_false_iff]
      intro h
      obtain ⟨b, hb, q⟩ := List.any_eq_true.mp h
      have : b = node := by simpa using q
      exact hn (this ▸ hb)
    by_cases q : k = node
    · subst q
      have h1 : (!(seen ++ [k]).any (· == k)) = false := by simp
      have h2 : (!seen.any (· == k)) = true := by rw [hns]; rfl
      rw [h1, h2]
      simp only [Bool.false_eq_true, if_false, if_true, List.map_cons, List.sum_cons]
      have : (ks.filter fun v => !(seen ++ [k]).any (· == v)) = ks.filter fun v => !seen.any (· == v) := by
        refine List.filter_congr fun v hv => ?_
        have : k ≠ v := fun e => hN.1 (e ▸ hv)
        simp [this]
      rw [this]; omega
    · have hk' : node ∈ ks := (List.mem_cons.mp hk).resolve_left fun e => q e.symm
      have ih := workU_push (su := su) hN.2 hk' hn
      unfold workU at ih
      have h1 : (!(seen ++ [node]).any (· == k)) = !seen.any (· == k) := by
        have : ¬ node = k := fun e => q e.symm
        simp [this]
      rw [h1]
      split
      · simp only [List.map_cons, List.sum_cons]; omega
      · exact ih
end Mine

namespace Mine
/-- a set of ints of one's own -/
def stItem (a : Addr) (ns : List Int) : Item where
  addr := a
  P := fun w B o => ∃ es ep t, o.ExactSet ∧ o.data = .set es ep t ∧ ElemsOf (kI w) es.toList ∧ (∀ k, has ns k = true ↔ ∃ e ∈ es.toList, (kI w).is k e.2 = true) ∧ es.size < scanBound ∧ t.fits es.size = true ∧ es.size = ns.length
  mono := fun _ p => p
def mwItem (M I : Addr) : Item := satItem M fun o => o = mwObj I
section
variable {w : World} {os : OsState} {n : Nat} {sc : Scope} {ρ : Str → Option V} {Ω : List Item} {A : Around} {env : Env} {B : Bs} {own R : List Item} {s : Shared} {E : Value → Shared → Prop}
theorem st_at {a : Addr} {ns : List Int} (R : Rep w os B own s) (h : stItem a ns ∈ own) : s.heap.SetOf (kI w) a (has ns) ns.length := by
  obtain ⟨o, ho, es, ep, t, h1, h2, h3, h4, h5, h6, h7⟩ := R.has _ h
  exact ⟨o, es, ep, t, ho, h1, h2, h3, h4, h5, h6, h7⟩
theorem st_of {a : Addr} {ns : List Int} {h' : Heap} {B : Bs} (x : h'.SetOf (kI w) a (has ns) ns.length) : ∃ o, h'.get? a = some o ∧ (stItem a ns).P w B o := by
  obtain ⟨o, es, ep, t, ho, h1, h2, h3, h4, h5, h6, h7⟩ := x
  exact ⟨o, ho, es, ep, t, h1, h2, h3, h4, h5, h6, h7⟩
/-- e in x, x a set of one's own -/
theorem PT.inSet {x : Str} {e : Expr} {p pos : Pos} {a : Addr} {ns : List Int} {k : Int} (hx : ρ x = some (.exact (.ref a))) (hk : isVar sc x = true) (h : stItem a ns ∈ Ω) (he : PE w os n Ω sc ρ e (.int k)) (hd : (x == ("__debug__" : Str)) = false := by decide) :
    PT w os n Ω sc ρ (.Compare e [.In] [.Name x p] pos) (has ns k) := by
  intro A env B own s E hA T ek sees R
  refine wpAny_isTrue_Compare1 (he.use hA T ek sees R fun r s₁ B₁ l₁ T₁ R₁ d₁ => (PE.name hx (isVar_or hk) hd).use hA T₁ ek sees R₁ fun r' s₂ B₂ l₂ T₂ R₂ d₂ => ?_) rfl
  rw [den_exact.mp d₂]
  obtain ⟨t, rfl⟩ := den_int.mp d₁
  exact wpAny_inSet_of (knd := kI w) (isKey k t) rfl (st_at R₂ (sees.its _ h)) (wpAny_truthy_bool ⟨B₂, l₁.trans l₂, R₂.toks _, rfl⟩)
/-- e in x, x a dict of one's own -/
theorem PT.inDc {x : Str} {e : Expr} {p pos : Pos} {D : Addr} {l : List (Int × V)} {k : Int} (hx : ρ x = some (.exact (.ref D))) (hk : isVar sc x = true) (h : dcItem D l ∈ Ω) (he : PE w os n Ω sc ρ e (.int k)) (hd : (x == ("__debug__" : Str)) = false := by decide) :
    PT w os n Ω sc ρ (.Compare e [.In] [.Name x p] pos) (l.lookup k).isSome := by
  intro A env B own s E hA T ek sees R
  refine wpAny_isTrue_Compare1 (he.use hA T ek sees R fun r s₁ B₁ l₁ T₁ R₁ d₁ => (PE.name hx (isVar_or hk) hd).use hA T₁ ek sees R₁ fun r' s₂ B₂ l₂ T₂ R₂ d₂ => ?_) rfl
  rw [den_exact.mp d₂]
  obtain ⟨t, rfl⟩ := den_int.mp d₁
  obtain ⟨kvs, hD, dd, z⟩ := dc_at T₂ R₂ (sees.its _ h)
  refine wpAny_in_of (knd := kI w) (isKey k t) z hD.mapOf (wpAny_truthy_bool ⟨B₂, l₁.trans l₂, R₂.toks _, ?_⟩)
  cases hl : l.lookup k with
  | some v => obtain ⟨r, hr, _⟩ := dd.at hl; rw [hr]; rfl
  | none => rw [dd.no hl]; rfl
/-- x as a test, x a list of one's own -/
theorem PT.lst {x : Str} {pos : Pos} {D : Addr} {ys : List V} (hx : ρ x = some (.exact (.ref D))) (hk : isVar sc x = true) (h : lstItem D ys ∈ Ω) (hsz : ys.length ≤ sizeLine) (hd : (x == ("__debug__" : Str)) = false := by decide) :
    PT w os n Ω sc ρ (.Name x pos) (!ys.isEmpty) := by
  intro A env B own s E hA T ek sees R
  refine wpAny_isTrue_value ((PE.name hx (isVar_or hk) hd).use hA T ek sees R fun r s₁ B₁ l₁ T₁ R₁ d₁ => ?_) rfl
  rw [den_exact.mp d₁]
  obtain ⟨o, ho, its, m, rfl, ds⟩ := R₁.has _ (sees.its _ h)
  have e1 := ds.size
  refine wpAny_truthy_list ⟨_, ho, rfl, m, rfl⟩ (by rw [e1]; unfold sizeLine at hsz; omega) ⟨B₁, l₁, R₁.toks _, ?_⟩
  cases ys with
  | nil => have : its = #[] := Array.eq_empty_of_size_eq_zero (by simpa using e1)
           rw [this]; rfl
  | cons x xs =>
    have : its.isEmpty = false := by unfold Array.isEmpty; rw [e1]; simp
    rw [this]; rfl
/-- len(x), x a list of one's own -/
theorem PE.lenL {x : Str} {p p' pos : Pos} {D : Addr} {ys : List V} (hx : ρ x = some (.exact (.ref D))) (hk : isVar sc x = true) (h : lstItem D ys ∈ Ω) (hsz : ys.length ≤ sizeLine) (hkl : sc.names.lookup (Str.ofString "len") = some NameKind.globalImplicit := by rfl) (hd : (x == ("__debug__" : Str)) = false := by decide) :
    PE w os n Ω sc ρ (.Call (.Name (Str.ofString "len") p) [.Name x p'] [] pos) (.int ys.length) := by
  intro A env B own s E hA T ek sees R
  refine wpAny_Call_NameR (PE.use (v := .exact (.builtin "len")) (PE.blt (hk := hkl)) hA T ek sees R fun r s₁ B₁ l₁ T₁ R₁ d₁ => ?_)
  rw [den_exact.mp d₁]
  refine PyProof.Rows.callWith_builtin1 (args_cons ((PE.name hx (isVar_or hk) hd).use hA T₁ ek sees R₁ fun r s₂ B₂ l₂ T₂ R₂ d₂ => args_nil ?_) rfl) rfl rfl
  rw [den_exact.mp d₂]
  obtain ⟨o, ho, its, m, rfl, ds⟩ := R₂.has _ (sees.its _ h)
  refine Calls.call_len_list ⟨_, ho, rfl, m, rfl⟩ (by rw [ds.size]; unfold sizeLine at hsz; omega) ?_
  rw [ds.size]
  exact ⟨B₂, l₁.trans l₂, R₂.toks _, den_int.mpr ⟨_, rfl⟩⟩
/-- x[e:], x a list of one's own -/
theorem PE.sliceFromL {x : Str} {e : Expr} {p' p pos : Pos} {D : Addr} {ys : List V} {k : Nat} (hx : ρ x = some (.exact (.ref D))) (hk : isVar sc x = true) (h : lstItem D ys ∈ Ω) (hi : PE w os n Ω sc ρ e (.int k)) (hsz : ys.length ≤ sizeLine) (hd : (x == ("__debug__" : Str)) = false := by decide) :
    PE w os n Ω sc ρ (.Subscript (.Name x p') (.Slice (some e) Option.none Option.none p) pos) (.list (ys.drop k)) := by
  intro A env B own s E hA T ek sees R
  refine Subscript_ ((PE.name hx (isVar_or hk) hd).use hA T ek sees R fun r s₁ B₁ l₁ T₁ R₁ d₁ => wpAny_Slice ?_)
  rw [evalPart_some]
  refine hi.use hA T₁ ek sees R₁ fun r' s₂ B₂ l₂ T₂ R₂ d₂ => ?_
  rw [evalPart_none]
  refine wpAny_pure (wpAny_pure ?_)
  obtain ⟨t, rfl⟩ := den_int.mp d₂
  rw [den_exact.mp d₁]
  have R₃ := R₂.grow (h' := s₂.heap.push { cls := .type "slice", data := .fields #[.int (k : Int) t, .none, .none] }) s₂.toks (fun b o e => Heap.get?_push_of_some _ e)
  obtain ⟨o, ho, its, m, rfl, ds⟩ := R₃.has _ (sees.its _ h)
  have hl : Heap.IsList (s₂.heap.push { cls := .type "slice", data := .fields #[.int (k : Int) t, .none, .none] }) D its := ⟨_, ho, rfl, m, rfl⟩
  refine tail_any (ops := [_, _]) (Heap.IsList.typeIs (s := { s₂ with heap := s₂.heap.push { cls := .type "slice", data := .fields #[.int (k : Int) t, .none, .none] } }) hl) list_getitem_lookup (wpAny_getItem_list_slice hl (Heap.IsSliceOf.new ..) (.int _ _) .none .none (by simp) ?_ (by rw [ds.size]; exact hsz)) (by rfl)
  rw [slicePick_from']
  exact (R₃.newList _ (by simpa using ds.drop k)).trans (l₁.trans l₂)
/-- x.add(e) -/
theorem st_setAdd {x : Str} {p apos pos pos' : Pos} {e : Expr} {a : Addr} {ns : List Int} {k : Int} {pre post : List Item} {Q : Flow → Shared → Prop} (Ω : List Item) (hΩ : ∀ i ∈ Ω, i ∈ R) (F : FnEnv env sc) (hA : RmE n A env R) (T : TopB w B) (h : Rep w os B (frameI env env.cells ρ ++ R) s) (hR : R = pre ++ stItem a ns :: post)
    (hx : ρ x = some (.exact (.ref a))) (hk : isVar sc x = true) (he : PE w os n Ω sc ρ e (.int k)) (hno : k ∉ ns) (hsz : ns.length ≤ 1000)
    (kk : ∀ s' B', Le B B' → TopB w B' → Rep w os B' (frameI env env.cells ρ ++ (pre ++ stItem a (ns ++ [k]) :: post)) s' → Q .next s')
    (hd : (x == ("__debug__" : Str)) = false := by decide) (hline : (apos.endLine == pos.line) = true := by rfl) (hsc : sc.kind = .function := by rfl)
    (ht : ∀ env, starEach [e] env = [(false, eval e env)] := by intro _; rfl) :
    wpAny (model pg w) A (exec (.Expr (.Call (.Attribute (.Name x p) "add" apos) [e] [] pos) pos') env) Q E s := by
  refine wpAny_Expr_any ?_ (by unfold interactive; rw [F.ok.scope, hsc]; rfl)
  refine Call_method1 rfl (ht env) hline ((PE.name hx (isVar_or hk) hd).use (hA ρ) T F.ok (F.sees1 hΩ) h fun r s₁ B₁ l₁ T₁ R₁ d₁ => ?_)
  rw [den_exact.mp d₁]
  have mem : stItem a ns ∈ frameI env env.cells ρ ++ R := by rw [hR]; simp
  have hS := st_at R₁ mem
  refine ⟨"set", "set.add", PySem.F.plainAttrs_set, PySem.F.slot_set_add, PySem.F.type_set_add, hS.typeIs, hS.noDict, ?_⟩
  refine Calls.callWith_builtin rfl (Calls.evalArgs_plain (Calls.spliced_cons (he.use (hA ρ) T₁ F.ok (F.sees1 hΩ) R₁ fun r' s₂ B₂ l₂ T₂ R₂ d₂ => Calls.spliced_nil ?_)))
  obtain ⟨t, rfl⟩ := den_int.mp d₂
  have hS₂ := st_at R₂ mem
  refine call_set_add (knd := kI w) (isKey k t) rfl hS₂ (by unfold scanBound; omega) fun h' hs hS' => ?_
  have hk0 : has ns k = false := by
    cases q : has ns k with
    | false => rfl
    | true => exact absurd (has_iff.mp q) hno
  have e1 : frameI env env.cells ρ ++ R = (frameI env env.cells ρ ++ pre) ++ stItem a ns :: post := by rw [hR]; simp
  have hfun : (fun k' => has ns k' || decide (k' = k)) = has (ns ++ [k]) := by
    funext k'
    unfold has
    rw [List.any_append]
    congr 1
    by_cases q : k' = k
    · subst q; simp
    · have : ¬ k = k' := fun e => q e.symm
      simp [q, this]
  rw [hk0, if_neg (by decide), hfun] at hS'
  obtain ⟨o, ho, hp⟩ := st_of (B := B₂) (a := a) (ns := ns ++ [k]) (by rw [List.length_append]; exact hS')
  have R3 := R₂.writeAt e1 (i' := stItem a (ns ++ [k])) (s₂.toks + 1) (fun b o hb e => hs.extBut b o hb e) rfl ho hp
  rw [List.append_assoc] at R3
  exact kk _ B₂ (l₁.trans l₂) T₂ R3
/-- x.pop(), whatever is being handled -/
theorem ev_pop {x : Str} {p apos pos : Pos} {D : Addr} {ys : List V} {y : V} {pre post : List Item} {Q : Value → Shared → Prop} (F : FnEnv env sc) (h : Rep w os B (frameI env env.cells ρ ++ R) s) (hR : R = pre ++ lstItem D (ys ++ [y]) :: post)
    (hx : ρ x = some (.exact (.ref D))) (hk : isVar sc x = true) (hsz : ys.length + 1 ≤ sizeLine)
    (kk : ∀ r s', den w B y r → Rep w os B (frameI env env.cells ρ ++ (pre ++ lstItem D ys :: post)) s' → Q r s')
    (hd : (x == ("__debug__" : Str)) = false := by decide) (hline : (apos.endLine == pos.line) = true := by rfl) : wpAny (model pg w) A (eval (.Call (.Attribute (.Name x p) "pop" apos) [] [] pos) env) Q E s := by
  refine Call_method0 rfl hline (load_var (Ω := []) F.ok F.sees0 h hx hk (fun r d => ?_) hd)
  rw [den_exact.mp d]
  have mem : lstItem D (ys ++ [y]) ∈ frameI env env.cells ρ ++ R := by rw [hR]; simp
  obtain ⟨o, ho, its, m, rfl, ds⟩ := h.has _ mem
  have hsize := ds.size
  rw [List.length_append, List.length_singleton] at hsize
  obtain ⟨r', hr', dr'⟩ := ds.get (i := ys.length) (x := y) (by simp)
  refine ⟨"list", "list.pop", PySem.F.plainAttrs_list, PySem.F.slot_list_pop, PySem.F.type_list_pop, ⟨_, ho, rfl⟩, fun a e => by cases e; exact ⟨_, ho, rfl⟩, ?_⟩
  refine seqMethod0_meets PySem.F.slot_list_pop PySem.F.entry_list_pop ⟨_, ho, rfl⟩ (PySem.F.args_list_pop_1 _) (MeetsSeq.list_pop_last D its m r' (by rw [hsize]; simpa using hr') (by rw [hsize]; exact hsz)) ⟨ho, ?_⟩
  have ho' := IsL.update ho fun xs => xs.eraseIdxIfInBounds (its.size - 1)
  have e1 : frameI env env.cells ρ ++ R = (frameI env env.cells ρ ++ pre) ++ lstItem D (ys ++ [y]) :: post := by rw [hR]; simp
  have R3 := h.writeAt e1 (i' := lstItem D ys) s.toks (fun b o hb e => (Heap.get?_update_other s.heap (Obj.mapSeq fun xs => xs.eraseIdxIfInBounds (its.size - 1)) (Ne.symm hb)).trans e) rfl ho' ⟨_, _, rfl, by
    rw [Array.toList_eraseIdxIfInBounds]
    have := ds.eraseIdx (its.size - 1)
    rw [hsize] at this ⊢
    rw [show ys.length + 1 - 1 = ys.length by omega, List.eraseIdx_append_of_length_le (Nat.le_refl _)] at this
    simpa using this⟩
  rw [List.append_assoc] at R3
  exact kk r' _ dr' R3
/-- del d[..] -/
theorem dc_del {D : Addr} {l : List (Int × V)} {pre post : List Item} {k : Int} {rk : Value} {Q : Unit → Shared → Prop} (T : TopB w B) (R : Rep w os B (pre ++ dcItem D l :: post) s) (dk : den w B (.int k) rk) (hl : (l.lookup k).isSome = true) (hsz : l.length ≤ 1000)
    (kk : ∀ s', Rep w os B (pre ++ dcItem D (withoutV l k) :: post) s' → Q () s') : wpAny (model pg w) A (delItem (.ref D) rk) Q E s := by
  obtain ⟨t, rfl⟩ := den_int.mp dk
  obtain ⟨kvs, hD, dd, _⟩ := dc_at T R (D := D) (l := l) (by simp)
  unfold delItem
  try with_reducible refine wpAny_holding ?_
  refine wpAny_bind (wpAny_sequenceKey hD.typeIs (by decide) ?_)
  refine wpAny_bind (wpAny_callSpecial?_slot (name := Str.ofString "__delitem__") hD.typeIs PySem.F.slot_dict_delitem
    (call_meetsIn PySem.F.slot_dict_delitem hD.typeIs PySem.F.entry_dict_delitem (PySem.F.args_dict_delitem_2 _ _) (meets_dict_delitem_pairs (kI w) D (isKey k t)) ⟨kvs, hD, (by rw [dd.length]; unfold sizeLine; omega), ?_, fun h' hmm hs => ?_⟩))
  · cases hq : l.lookup k with
    | some v => obtain ⟨r, hr, _⟩ := dd.at hq; rw [hr]; rfl
    | none => rw [hq] at hl; cases hl
  · obtain ⟨o, es, ep, ho, h1, h2, h3, h4, h5⟩ := hmm
    exact wpAny_pure (kk _ (Rep.write (i' := dcItem D (withoutV l k)) R _ (fun b o hb e => hs.extBut b o hb e) rfl ho ⟨_, ⟨es, ep, h1, h2, h3, h4, h5⟩, dd.without⟩))
end
end Mine

namespace Mine
structure En where
  v : Int
  M : Addr
  I : Addr
  l : Addr
  i : Nat
def En.items (e : En) : List Item := [mwItem e.M e.I, listIt e.I e.l e.i]
def enDict (ens : List En) : List (Int × V) := ens.zipIdx.map fun p => (p.1.v, V.int (p.2 : Int))
def St.su (σ : St) (v : Int) : List Int := ((σ.nodes.find? fun d => d.k == v).map Nd.su).getD []
def EnOk (w : World) (B : Bs) (su : Int → List Int) (e : En) : Prop := ∃ its m, B e.l = some (listOf its m) ∧ dens w B ((su e.v).map V.int) its.toList
theorem EnOk.mono {w : World} {B B' : Bs} {su : Int → List Int} {e : En} (h : EnOk w B su e) (le : Le B B') : EnOk w B' su e := let ⟨its, m, a, b⟩ := h; ⟨its, m, le _ _ a, dens.mono le _ b⟩
def cycI (SD ID S D : Addr) (ens : List En) (seen : List Int) : List Item := lstItem SD (ens.map fun e => .int e.v) :: lstItem ID (ens.map fun e => .exact (.ref e.M)) :: stItem S seen :: dcItem D (enDict ens) :: ens.flatMap En.items
theorem enDict_snoc (ens : List En) (e : En) : enDict (ens ++ [e]) = enDict ens ++ [(e.v, .int (ens.length : Int))] := by
  unfold enDict
  rw [List.zipIdx_append]
  simp
theorem enDict_length (ens : List En) : (enDict ens).length = ens.length := by unfold enDict; simp
theorem lookup_append' {l l' : List (Int × V)} {k : Int} : (l ++ l').lookup k = (l.lookup k).or (l'.lookup k) := List.lookup_append
theorem revInd {α : Type} {P : List α → Prop} (h0 : P []) (h1 : ∀ l x, P l → P (l ++ [x])) (l : List α) : P l := by
  have key : ∀ l : List α, P l.reverse := by
    intro l
    induction l with
    | nil => exact h0
    | cons a l ih => rw [List.reverse_cons]; exact h1 _ _ ih
  have := key l.reverse
  rwa [List.reverse_reverse] at this
theorem enDict_look : ∀ (ens : List En) (k : Int), ((enDict ens).lookup k).isSome = has (ens.map En.v) k := by
  intro ens
  refine revInd (P := fun ens => ∀ k : Int, ((enDict ens).lookup k).isSome = has (ens.map En.v) k) (fun k => rfl) (fun ens e ih => ?_) ens
  · intro k
    rw [enDict_snoc, lookup_append', List.map_append]
    unfold has at ih ⊢
    rw [List.any_append, ← ih]
    cases h : (enDict ens).lookup k with
    | some v => rfl
    | none =>
      simp only [Option.none_or, Option.isSome_none, Bool.false_or, List.map_cons, List.map_nil, List.any_cons, List.any_nil, Bool.or_false]
      rw [List.lookup_cons]
      by_cases q : k = e.v
      · subst q; simp
      · have h1 : (k == e.v) = false := by simpa using q
        have h2 : (e.v == k) = false := by simpa using fun a => q a.symm
        rw [h1, h2]; rfl
theorem enDict_val : ∀ (ens : List En) (k : Int), k ∈ ens.map En.v → ∃ j : Nat, (enDict ens).lookup k = some (.int (j : Int)) ∧ j < ens.length := by
  intro ens
  refine revInd (P := fun ens => ∀ k : Int, k ∈ ens.map En.v → ∃ j : Nat, (enDict ens).lookup k = some (.int (j : Int)) ∧ j < ens.length) (fun k h => by cases h) (fun ens e ih => ?_) ens
  · intro k h
    rw [enDict_snoc, lookup_append']
    by_cases q : k ∈ ens.map En.v
    · obtain ⟨j, h1, h2⟩ := ih k q
      exact ⟨j, by rw [h1]; rfl, by simp; omega⟩
    · have hl : (enDict ens).lookup k = Option.none := by
        cases hq : (enDict ens).lookup k with
        | none => rfl
        | some v =>
          have := enDict_look ens k
          rw [hq] at this
          exact absurd (has_iff.mp this.symm) q
      have : k = e.v := by
        rw [List.map_append] at h
        rcases List.mem_append.mp h with a | a
        · exact absurd a q
        · simpa using a
      subst this
      exact ⟨ens.length, by rw [hl, List.lookup_cons]; simp, by simp⟩
theorem storedV_new {l : List (Int × V)} {k : Int} {v : V} (h : (l.lookup k).isSome = false) : storedV l k v = l ++ [(k, v)] := by
  unfold storedV
  rw [if_neg]
  intro q
  obtain ⟨p, hp, e⟩ := List.any_eq_true.mp q
  have e' : p.1 = k := by simpa using e
  have : (l.lookup k).isSome = true := by
    clear h q
    induction l with
    | nil => cases hp
    | cons a l ih =>
      obtain ⟨a1, a2⟩ := a
      rw [List.lookup_cons]
      by_cases r : k = a1
      · subst r; simp
      · have : (k == a1) = false := by simpa using r
        rw [this]
        rcases List.mem_cons.mp hp with rfl | hp
        · exact absurd e'.symm r
        · exact ih hp
  rw [this] at h; cases h
theorem withoutV_last {ens : List En} {e : En} (h : e.v ∉ ens.map En.v) : withoutV (enDict (ens ++ [e])) e.v = enDict ens := by
  rw [enDict_snoc]
  unfold withoutV
  rw [List.filter_append]
  have h1 : ((enDict ens).filter fun p => !decide (p.1 = e.v)) = enDict ens := by
    refine List.filter_eq_self.mpr fun p hp => ?_
    unfold enDict at hp
    obtain ⟨q, hq, rfl⟩ := List.mem_map.mp hp
    have : q.1 ∈ ens := (List.mem_zipIdx' hq).2 ▸ List.getElem_mem _
    have hne : q.1.v ≠ e.v := fun z => h (z ▸ List.mem_map.mpr ⟨q.1, this, rfl⟩)
    simp [hne]
  rw [h1]; simp
section
variable {w : World} {os : OsState} {n : Nat} {sc : Scope} {ρ : Str → Option V} {Ω : List Item} {A : Around} {env : Env} {B : Bs} {own R : List Item} {s : Shared} {E : Value → Shared → Prop}
theorem su_mem {σ : St} {d : Nd} (hN : σ.keys.Nodup) (hd : d ∈ σ.nodes) : σ.su d.k = d.su := by unfold St.su; rw [find_mem hN hd]; rfl
/-- o.name, o a _NodeInfo -/
theorem PE.niE {o : Expr} {name : Str} {pos : Pos} {a : Addr} {sl : List (Option V)} {i : Nat} {v : V} (ho : PE w os n Ω sc ρ o (.exact (.ref a))) (h : niItem a sl ∈ Ω) (hs : ∀ K, NiFacts K → NiSlot K name i) (hv : sl[i]? = some (some v)) (hsh : v.shown = true := by rfl)
    (he : ∀ env, eval (.Attribute o name pos) env = (do
      let o' ← eval o env
      standAt pos.atName
      let r ← holding [o'] (getAttr o' name true)
      letTemporaryGo o o' r
      pure r) := by intro _; rfl) : PE w os n Ω sc ρ (.Attribute o name pos) v := by
  intro A env B own s E hA T ek sees R
  refine Attribute_any_ (ho.use hA T ek sees R fun r s₁ B₁ l₁ T₁ R₁ d₁ => ?_) (he env)
  rw [den_exact.mp d₁]
  exact ni_get T₁ R₁ (sees.its _ h) hs hv hsh fun r s' R' d => ⟨B₁, l₁, R', d⟩
theorem it_entry : entryFor table "iter" = some Builtin.«iter» := entryFor_of_tree (by kernel_rfl)
theorem it_args (a : Value) : argsOk "iter" ⟨[a], []⟩ := by unfold argsOk; kernel_rfl
theorem it_call {l : Addr} {items : Array Value} {Q : Value → Shared → Prop} (hl : s.heap.IsList l items) (h : Q (.ref s.heap.objs.size) { s with heap := s.heap.push { cls := .type "list_iterator", data := .fields #[.ref l, .int 0 0] } }) : wpAny (model pg w) A (call (.builtin "iter") [.ref l]) Q E s := by
  refine Calls.call_function_entry (by decide +kernel) (by decide +kernel) it_entry (it_args _) ?_
  unfold Builtin.«iter»
  refine wpAny_bind (m := someArgs "iter" 1 2 _) (wpAny_of_eq (a := [Value.ref l]) (by first | rfl | kernel_rfl) ?_)
  show wpAny _ _ (pyIter (.ref l) >>= _) _ _ _
  refine wpAny_bind (wpAny_pyIter_list hl ?_)
  exact wpAny_pure ⟨_, rfl, h⟩
abbrev cTab (x : Addr) (σ : St) (SD ID S D : Addr) (node : Int) : List (Str × V) := [("self", .exact (.ref x)), ("n2i", σ.n2i), ("stack", .exact (.ref SD)), ("itstack", .exact (.ref ID)), ("seen", .exact (.ref S)), ("node2stacki", .exact (.ref D)), ("node", .int node)]
def pushBody : List Stmt := match bodyOf (inClass 8 (fdef 6)) with
  | [_, _, _, _, _, .For _ _ [_, .While _ [.If _ _ b _, _] _ _] _ _, _] => b
  | _ => []
def tryBody : List Stmt := match bodyOf (inClass 8 (fdef 6)) with
  | [_, _, _, _, _, .For _ _ [_, .While _ [_, .While _ b _ _] _ _] _ _, _] => b
  | _ => []
abbrev cSc : Scope := scOf (inClass 8 (fdef 6))
/-- a node is laid on the stack -/
theorem cyc_push {x dx SD ID S D : Addr} {σ : St} {ens : List En} {seen : List Int} {d : Nd} {Y : List Item} {Q : Flow → Shared → Prop} (F : FnEnv env cSc) (hA : RmE n A env Y) (T : TopB w B) (hN : σ.keys.Nodup) (hd : d ∈ σ.nodes) (hno : d.k ∉ seen) (hns : d.k ∉ ens.map En.v) (h1 : seen.length ≤ 1000) (h2 : ens.length ≤ 1000)
    (hR : Rep w os B (frameI env env.cells (tab (cTab x σ SD ID S D d.k)) ++ (cycI SD ID S D ens seen ++ (σ.items2 x dx ++ Y))) s)
    (kk : ∀ s' B' e, Le B B' → TopB w B' → e.v = d.k → e.i = 0 → EnOk w B' σ.su e → Rep w os B' (frameI env env.cells (tab (cTab x σ SD ID S D d.k)) ++ (cycI SD ID S D (ens ++ [e]) (seen ++ [d.k]) ++ (σ.items2 x dx ++ Y))) s' → Q .next s') :
    wpAny (model pg w) A (execs pushBody env) Q E s := by
  have hX : ∀ Z, RmE n A env (Z ++ (σ.items2 x dx ++ Y)) := fun Z => hA.app.app
  have hΩ : ∀ Z : List Item, ∀ i ∈ σ.items2 x dx, i ∈ Z ++ (σ.items2 x dx ++ Y) := fun Z i hi => List.mem_append_right _ (List.mem_append_left _ hi)
  have e0 : cycI SD ID S D ens seen ++ (σ.items2 x dx ++ Y) = [lstItem SD (ens.map fun e => .int e.v), lstItem ID (ens.map fun e => .exact (.ref e.M))] ++ stItem S seen :: (dcItem D (enDict ens) :: (ens.flatMap En.items ++ (σ.items2 x dx ++ Y))) := by simp [cycI]
  refine wpAny_execs_cons (st_setAdd [] (fun _ h => nomatch h) F (hX _) T hR e0 rfl rfl PE.var hno h1 fun s₁ B₁ l₁ T₁ R₁ => ?_)
  -- itstack.append(iter(n2i[node].successors).__next__)
  have hX1 : RmE n A env ([lstItem SD (ens.map fun e => .int e.v), lstItem ID (ens.map fun e => .exact (.ref e.M))] ++ stItem S (seen ++ [d.k]) :: (dcItem D (enDict ens) :: (ens.flatMap En.items ++ (σ.items2 x dx ++ Y)))) := ((hA.app (X := σ.items2 x dx)).app (X := ens.flatMap En.items)).add.add.app
  have hΩ1 : ∀ i ∈ σ.items2 x dx, i ∈ [lstItem SD (ens.map fun e => .int e.v), lstItem ID (ens.map fun e => .exact (.ref e.M))] ++ stItem S (seen ++ [d.k]) :: (dcItem D (enDict ens) :: (ens.flatMap En.items ++ (σ.items2 x dx ++ Y))) := fun i hi => by
    refine List.mem_append_right _ (List.mem_cons_of_mem _ (List.mem_cons_of_mem _ (List.mem_append_right _ (List.mem_append_left _ hi))))
  refine wpAny_execs_cons (wpAny_Expr_any ?_ (by unfold interactive; rw [F.ok.scope]; rfl))
  refine wpAny_Call_append rfl rfl rfl rfl ?_
  refine PE.use (v := .exact (.ref ID)) PE.var (hX1 _) T₁ F.ok F.sees0 R₁ fun r s₂ B₂ l₂ T₂ R₂ d₂ => ?_
  rw [den_exact.mp d₂]
  obtain ⟨o, ho, its, m, rfl, ds⟩ := R₂.has (lstItem ID (ens.map fun e => .exact (.ref e.M))) (List.mem_append_right _ (by simp))
  refine ⟨ID, its, rfl, ⟨_, m, ho, rfl, rfl, rfl⟩, ?_⟩
  refine Attribute_any_ (wpAny_Call_NameR (PE.use (v := .exact (.builtin "iter")) PE.blt (hX1 _) T₂ F.ok F.sees0 R₂ fun r₃ s₃ B₃ l₃ T₃ R₃ d₃ => ?_)) rfl
  rw [den_exact.mp d₃]
  refine PyProof.Rows.callWith_builtin1 (args_cons (PE.use (v := IL d.su) (PE.niE (a := d.a) (PE.n2i (PE.var (v := σ.n2i)) (PE.var (v := .int d.k)) hN hd) (n_ni hd) (fun K N => N.succ) rfl) (hX1 _) T₃ F.ok (F.sees1 hΩ1) R₃ fun r₄ s₄ B₄ l₄ T₄ R₄ d₄ => args_nil ?_) rfl) rfl rfl
  obtain ⟨l, its', m', rfl, hb, ds'⟩ := den_list.mp d₄
  refine it_call ⟨_, R₄.base _ _ hb, rfl, m', rfl⟩ ?_
  have R₅ := R₄.new (listIt s₄.heap.objs.size l 0) s₄.toks (fun b o e => Heap.get?_push_of_some _ e) (get?_size _) (Heap.get?_push_size _ rfl) (o := { cls := .type "list_iterator", data := .fields #[.ref l, .int 0 0] }) ⟨rfl, rfl⟩
  refine next_attr (Heap.get?_push_size _ rfl) rfl rfl rfl ?_
  generalize hI : s₄.heap.objs.size = I at R₅ ⊢
  have R₆ := R₅.new (mwItem (s₄.heap.push { cls := .type "list_iterator", data := .fields #[.ref l, .int 0 0] }).objs.size I) (s₄.toks + 1) (fun b o e => Heap.get?_push_of_some _ e) (get?_size _) (Heap.get?_push_size _ rfl) (o := mwObj I) rfl
  generalize hM : (s₄.heap.push { cls := .type "list_iterator", data := .fields #[.ref l, .int 0 0] }).objs.size = M at R₆ ⊢
  obtain ⟨o, ho, its, m, rfl, ds⟩ := R₆.has (lstItem ID (ens.map fun e => .exact (.ref e.M))) (List.mem_cons_of_mem _ (List.mem_cons_of_mem _ (List.mem_append_right _ (by simp))))
  refine append_at ho (fun h' hs ho' => ?_) (by rw [ds.size, List.length_map]; unfold sizeLine; omega)
  have e6 : mwItem M I :: listIt I l 0 :: (frameI env env.cells (tab (cTab x σ SD ID S D d.k)) ++ ([lstItem SD (ens.map fun e => .int e.v), lstItem ID (ens.map fun e => .exact (.ref e.M))] ++ stItem S (seen ++ [d.k]) :: (dcItem D (enDict ens) :: (ens.flatMap En.items ++ (σ.items2 x dx ++ Y))))) =
    (mwItem M I :: listIt I l 0 :: (frameI env env.cells (tab (cTab x σ SD ID S D d.k)) ++ [lstItem SD (ens.map fun e => .int e.v)])) ++ lstItem ID (ens.map fun e => .exact (.ref e.M)) :: (stItem S (seen ++ [d.k]) :: (dcItem D (enDict ens) :: (ens.flatMap En.items ++ (σ.items2 x dx ++ Y)))) := by simp
  have R₇ := R₆.writeAt e6 (i' := lstItem ID (ens.map (fun e => V.exact (.ref e.M)) ++ [.exact (.ref M)])) (s₄.toks + 1) (fun b o hb e => hs.extBut b o hb e) rfl ho' ⟨_, _, rfl, by
    rw [Array.toList_push]; exact ds.append (dens_cons.mpr ⟨_, [], rfl, den_exact.mpr rfl, dens_nil.mpr rfl⟩)⟩
  -- the layout
  have R₈ : Rep w os B₄ (frameI env env.cells (tab (cTab x σ SD ID S D d.k)) ++ ([lstItem SD (ens.map fun e => .int e.v), lstItem ID (ens.map (fun e => V.exact (.ref e.M)) ++ [.exact (.ref M)]), stItem S (seen ++ [d.k])] ++ dcItem D (enDict ens) :: (ens.flatMap En.items ++ (mwItem M I :: listIt I l 0 :: (σ.items2 x dx ++ Y))))) _ := R₇.perm (by
    have p1 : (mwItem M I :: listIt I l 0 :: (frameI env env.cells (tab (cTab x σ SD ID S D d.k)) ++ ([lstItem SD (ens.map fun e => .int e.v), lstItem ID (ens.map (fun e => V.exact (.ref e.M)) ++ [.exact (.ref M)]), stItem S (seen ++ [d.k]), dcItem D (enDict ens)] ++ ens.flatMap En.items ++ (σ.items2 x dx ++ Y)))).Perm
      (frameI env env.cells (tab (cTab x σ SD ID S D d.k)) ++ ([lstItem SD (ens.map fun e => .int e.v), lstItem ID (ens.map (fun e => V.exact (.ref e.M)) ++ [.exact (.ref M)]), stItem S (seen ++ [d.k]), dcItem D (enDict ens)] ++ ens.flatMap En.items ++ (mwItem M I :: listIt I l 0 :: (σ.items2 x dx ++ Y)))) := by
      generalize hP : frameI env env.cells (tab (cTab x σ SD ID S D d.k)) = P
      generalize [lstItem SD (ens.map fun e => .int e.v), lstItem ID (ens.map (fun e => V.exact (.ref e.M)) ++ [.exact (.ref M)]), stItem S (seen ++ [d.k]), dcItem D (enDict ens)] ++ ens.flatMap En.items = U
      have := List.perm_append_comm (l₁ := [mwItem M I, listIt I l 0]) (l₂ := P ++ U)
      have := this.append_right (σ.items2 x dx ++ Y)
      simpa using this
    simpa using p1)
  have hX2 : RmE n A env ([lstItem SD (ens.map fun e => .int e.v), lstItem ID (ens.map (fun e => V.exact (.ref e.M)) ++ [.exact (.ref M)]), stItem S (seen ++ [d.k])] ++ dcItem D (enDict ens) :: (ens.flatMap En.items ++ (mwItem M I :: listIt I l 0 :: (σ.items2 x dx ++ Y)))) := (((hA.app (X := σ.items2 x dx)).add.add).app (X := ens.flatMap En.items)).add.app
  -- node2stacki[node] = len(stack)
  have hlk : ((enDict ens).lookup d.k).isSome = false := by
    rw [enDict_look]
    cases q : has (ens.map En.v) d.k with
    | false => rfl
    | true => exact absurd (has_iff.mp q) hns
  refine wpAny_execs_cons (wpAny_Assign_Subscript ?_ rfl)
  refine PE.use (v := .int (ens.length : Int)) (PE.cast (PE.lenL (Ω := [lstItem SD (ens.map fun e => .int e.v)]) (D := SD) rfl rfl (List.mem_cons_self ..) (by rw [List.length_map]; unfold sizeLine; omega)) (by rw [List.length_map])) (hX2 _) T₄ F.ok (F.sees1 (fun i hi => by
    obtain rfl := List.mem_singleton.mp hi
    exact List.mem_append_left _ (List.mem_cons_self ..))) R₈ fun r₉ s₉ B₉ l₉ T₉ R₉ d₉ => ?_
  refine PE.use (v := .exact (.ref D)) PE.var (hX2 _) T₉ F.ok F.sees0 R₉ fun r₁₀ s₁₀ B₁₀ l₁₀ T₁₀ R₁₀ d₁₀ => ?_
  refine PE.use (v := .int d.k) PE.var (hX2 _) T₁₀ F.ok F.sees0 R₁₀ fun r₁₁ s₁₁ B₁₁ l₁₁ T₁₁ R₁₁ d₁₁ => ?_
  rw [den_exact.mp d₁₀]
  rw [← List.append_assoc] at R₁₁
  refine dc_set T₁₁ R₁₁ d₁₁ (den.mono (l₁₀.trans l₁₁) _ d₉) (by rw [enDict_length]; exact h2) fun s₁₂ R₁₂ => ?_
  rw [storedV_new hlk] at R₁₂
  -- stack.append(node)
  generalize he : ({ v := d.k, M := M, I := I, l := l, i := 0 } : En) = e
  have ed : enDict ens ++ [(d.k, V.int (ens.length : Int))] = enDict (ens ++ [e]) := by rw [enDict_snoc, ← he]
  rw [ed, List.append_assoc] at R₁₂
  have e12 : [lstItem SD (ens.map fun e => .int e.v), lstItem ID (ens.map (fun e => V.exact (.ref e.M)) ++ [.exact (.ref M)]), stItem S (seen ++ [d.k])] ++ dcItem D (enDict (ens ++ [e])) :: (ens.flatMap En.items ++ (mwItem M I :: listIt I l 0 :: (σ.items2 x dx ++ Y))) =
    [] ++ lstItem SD (ens.map fun e => .int e.v) :: (lstItem ID (ens.map (fun e => V.exact (.ref e.M)) ++ [.exact (.ref M)]) :: stItem S (seen ++ [d.k]) :: dcItem D (enDict (ens ++ [e])) :: (ens.flatMap En.items ++ (mwItem M I :: listIt I l 0 :: (σ.items2 x dx ++ Y)))) := by simp
  have hX3 : RmE n A env ([lstItem SD (ens.map fun e => .int e.v), lstItem ID (ens.map (fun e => V.exact (.ref e.M)) ++ [.exact (.ref M)]), stItem S (seen ++ [d.k])] ++ dcItem D (enDict (ens ++ [e])) :: (ens.flatMap En.items ++ (mwItem M I :: listIt I l 0 :: (σ.items2 x dx ++ Y)))) := (((hA.app (X := σ.items2 x dx)).add.add).app (X := ens.flatMap En.items)).add.app
  refine wpAny_execs_cons (st_append (D := SD) (ys := ens.map fun e => .int e.v) (v := .int d.k) (pre := []) F hX3 T₁₁ R₁₂ e12 rfl rfl PE.var (by rw [List.length_map]; unfold sizeLine; omega) fun s₁₃ B₁₃ l₁₃ T₁₃ R₁₃ => ?_)
  have l4 : Le B₄ B₁₃ := ((l₉.trans l₁₀).trans l₁₁).trans l₁₃
  refine wpAny_execs_nil (kk s₁₃ B₁₃ e ((((l₁.trans l₂).trans l₃).trans l₄).trans l4) T₁₃ (by rw [← he]) (by rw [← he]) ?_ ?_)
  · rw [← he]
    exact ⟨its', m', l4 _ _ hb, by rw [su_mem hN hd]; exact dens.mono l4 _ ds'⟩
  · have eL : [] ++ lstItem SD (ens.map (fun e => V.int e.v) ++ [.int d.k]) :: (lstItem ID (ens.map (fun e => V.exact (.ref e.M)) ++ [.exact (.ref M)]) :: stItem S (seen ++ [d.k]) :: dcItem D (enDict (ens ++ [e])) :: (ens.flatMap En.items ++ (mwItem M I :: listIt I l 0 :: (σ.items2 x dx ++ Y)))) = cycI SD ID S D (ens ++ [e]) (seen ++ [d.k]) ++ (σ.items2 x dx ++ Y) := by
      rw [← he]
      simp [cycI, En.items]
    rw [eL] at R₁₃
    exact R₁₃
end
end Mine

namespace Mine
section
variable {w : World} {os : OsState} {n : Nat} {sc : Scope} {ρ : Str → Option V} {Ω : List Item} {A : Around} {env : Env} {B : Bs} {own R : List Item} {s : Shared} {E : Value → Shared → Prop}
/-- the head object is let go, another comes -/
theorem Rep.drop0new {i j : Item} (R : Rep w os B (i :: own) s) {h' : Heap} (tk : Nat) (hk : ∀ b o, b ≠ i.addr → s.heap.get? b = some o → h'.get? b = some o) (hj : s.heap.get? j.addr = Option.none) {o : Obj} (ho : h'.get? j.addr = some o) (hp : j.P w B o) : Rep w os B (j :: own) { s with heap := h', toks := tk } := by
  have R1 := R.drop0 tk hk
  obtain ⟨f1, f2⟩ := R.fresh hj
  refine ⟨R1.base, fun k hk' => ?_, fun k hk' => ?_, List.pairwise_cons.mpr ⟨fun k hk' => f2 k (by simp [hk']), R1.apart⟩, R1.gens, R1.os⟩
  · rcases List.mem_cons.mp hk' with rfl | hk'
    · exact ⟨o, ho, hp⟩
    · exact R1.has k hk'
  · rcases List.mem_cons.mp hk' with rfl | hk'
    · exact f1
    · exact R1.off k hk'
/-- x[-1], x a list of one's own -/
theorem PE.lastL {x : Str} {p p1 p2 pos : Pos} {kk : Nat} {D : Addr} {ys : List V} {y : V} (hx : ρ x = some (.exact (.ref D))) (hk : isVar sc x = true) (h : lstItem D (ys ++ [y]) ∈ Ω) (hsz : ys.length ≤ 1000) (hd : (x == ("__debug__" : Str)) = false := by decide) :
    PE w os n Ω sc ρ (.Subscript (.Name x p) (.UnaryOp .USub (.Constant (.int 1) kk p1) p2) pos) y := by
  intro A env B own s E hA T ek sees R
  refine Subscript_ ((PE.name hx (isVar_or hk) hd).use hA T ek sees R fun r s₁ B₁ l₁ T₁ R₁ d₁ => (PE.neg (k := 1) PE.int).use hA T₁ ek sees R₁ fun r' s₂ B₂ l₂ T₂ R₂ d₂ => ?_)
  rw [den_exact.mp d₁]
  obtain ⟨t, rfl⟩ := den_int.mp d₂
  obtain ⟨o, ho, its, m, rfl, ds⟩ := R₂.has _ (sees.its _ h)
  have hl : s₂.heap.IsList D its := ⟨_, ho, rfl, m, rfl⟩
  have e := ds.size
  rw [List.length_append, List.length_singleton] at e
  obtain ⟨r, hr, dr⟩ := ds.get (i := ys.length) (x := y) (by simp)
  have hidx : ((-1 : Int) + (its.size : Int)).toNat = ys.length := by rw [e]; omega
  refine tail_any hl.typeIs list_getitem_lookup (wpAny_getItem_list_neg hl (by decide) (by rw [e]; omega) (by decide) (by rw [hidx]; simpa using hr) ⟨B₂, l₁.trans l₂, R₂, dr⟩) rfl
/-- a call of a method-wrapper -/
theorem mw_with {M I : Addr} {pos : Pos} {Q : Value → Shared → Prop} (hM : s.heap.get? M = some (mwObj I)) (h : wpAny (model pg w) A (call (.ref M) []) Q E s) : wpAny (model pg w) A (callWith pos (.ref M) [] [] []) Q E s := by
  unfold callWith
  refine wpAny_bind (wpAny_holding (PySem.evalArgs_none (wpAny_bind (wpAny_standAt ?_))))
  simp only [List.any_nil, Bool.or_false]
  refine wpAny_bind (m := keeperOf (.ref M)) ?_
  unfold keeperOf
  refine wpAny_bind (wpAny_load hM ?_)
  simp only [mwObj, show (Value.type "method-wrapper" != Value.type "method") = true by decide, show (Value.type "method-wrapper" == Value.type "builtin_function_or_method" || Value.type "method-wrapper" == Value.type "method-wrapper") = true by decide, if_true]
  refine wpAny_pure ?_
  exact wpAny_bind (wpAny_mono h (fun r s₂ hr => wpAny_bind (wpAny_holding (wpAny_point (wpAny_pure hr)))) fun _ _ x => x)
theorem snoc_cases {α : Type} (l : List α) : l = [] ∨ ∃ l' x, l = l' ++ [x] :=
  revInd (P := fun l => l = [] ∨ ∃ l' x, l = l' ++ [x]) (.inl rfl) (fun l x _ => .inr ⟨l, x, rfl⟩) l
def innerW : Stmt := match bodyOf (inClass 8 (fdef 6)) with
  | [_, _, _, _, _, .For _ _ [_, .While _ [_, s] _ _] _ _, _] => s
  | _ => .Pass default
def En.rem (su : Int → List Int) (e : En) : List Int := (su e.v).drop e.i
/-- on to the next node, or to the end -/
theorem cyc_inner {x dx SD ID S D : Addr} {σ : St} {ens : List En} {seen F : List Int} {node : Int} {Y : List Item} {Q : Flow → Shared → Prop} (Fe : FnEnv env cSc) (hd : Hd A env) (hA : RmE n A env Y) (T : TopB w B) (hlen : ens.length ≤ 500)
    (hD : Dfs σ.su (ens.map En.v) (ens.map (En.rem σ.su)) seen F) (hok : ∀ e ∈ ens, EnOk w B σ.su e)
    (hR : Rep w os B (frameI env env.cells (tab (cTab x σ SD ID S D node)) ++ (cycI SD ID S D ens seen ++ (σ.items2 x dx ++ Y))) s)
    (kN : ∀ s' B' ens' F' c, Le B B' → TopB w B' → (∃ u, c ∈ σ.su u) → ens'.length ≤ ens.length → DfsN σ.su c (ens'.map En.v) (ens'.map (En.rem σ.su)) seen F' → (∀ e ∈ ens', EnOk w B' σ.su e) → workS (ens'.map (En.rem σ.su)) < workS (ens.map (En.rem σ.su)) →
      Rep w os B' (frameI env env.cells (tab (cTab x σ SD ID S D c)) ++ (cycI SD ID S D ens' seen ++ (σ.items2 x dx ++ Y))) s' → Q .next s')
    (kE : ∀ s' B' F', Le B B' → TopB w B' → Dfs σ.su [] [] seen F' → Rep w os B' (frameI env env.cells (tab (cTab x σ SD ID S D node)) ++ (cycI SD ID S D [] seen ++ (σ.items2 x dx ++ Y))) s' → Q .brk s') :
    wpAny (model pg w) A (exec innerW env) Q E s := by
  refine st_while (fun m B' ρ' R' => ∃ ens' F', m = ens'.length ∧ m ≤ ens.length ∧ Dfs σ.su (ens'.map En.v) (ens'.map (En.rem σ.su)) seen F' ∧ (∀ e ∈ ens', EnOk w B' σ.su e) ∧ workS (ens'.map (En.rem σ.su)) ≤ workS (ens.map (En.rem σ.su)) ∧ ρ' = tab (cTab x σ SD ID S D node) ∧ R' = cycI SD ID S D ens' seen ++ (σ.items2 x dx ++ Y))
    ens.length T hR ⟨ens, F, rfl, Nat.le_refl _, hD, hok, Nat.le_refl _, rfl, rfl⟩ ?_
  rintro m B₁ ρ₁ R₁ s₁ E₁ le₁ T₁ ⟨ens₁, F₁, rfl, hm, hD₁, hok₁, hw₁, rfl, rfl⟩ hR₁
  have hX : ∀ Z, RmE n A env (Z ++ (σ.items2 x dx ++ Y)) := fun Z => hA.app.app
  refine (PT.lst (Ω := [lstItem SD (ens₁.map fun e => .int e.v)]) (D := SD) rfl rfl (List.mem_cons_self ..) (by rw [List.length_map]; unfold sizeLine; omega)).use (hX _ _) T₁ Fe.ok (Fe.sees1 (fun i hi => by
    obtain rfl := List.mem_singleton.mp hi
    exact List.mem_append_left _ (List.mem_cons_self ..))) hR₁ fun s₂ B₂ le₂ T₂ R₂ => ?_
  -- is there one on the stack?
  rcases snoc_cases ens₁ with rfl | ⟨ens₀, e, rfl⟩
  · exact wpAny_execs_cons (wpAny_Break (kE s₂ B₂ F₁ (le₁.trans le₂) T₂ hD₁ R₂))
  rw [if_pos (by simp)]
  replace hm : ens₀.length + 1 ≤ ens.length := by simpa using hm
  have hoke : EnOk w B₂ σ.su e := (hok₁ e (by simp)).mono le₂
  obtain ⟨its, mm, hb, ds⟩ := hoke
  -- the layout
  have e2 : cycI SD ID S D (ens₀ ++ [e]) seen ++ (σ.items2 x dx ++ Y) = [lstItem SD (ens₀.map (fun e => V.int e.v) ++ [.int e.v]), lstItem ID (ens₀.map (fun e => V.exact (.ref e.M)) ++ [.exact (.ref e.M)]), stItem S seen, dcItem D (enDict (ens₀ ++ [e]))] ++ (ens₀.flatMap En.items ++ (mwItem e.M e.I :: listIt e.I e.l e.i :: (σ.items2 x dx ++ Y))) := by
    simp [cycI, En.items]
  rw [e2] at R₂
  generalize hU : [lstItem SD (ens₀.map (fun e => V.int e.v) ++ [.int e.v]), lstItem ID (ens₀.map (fun e => V.exact (.ref e.M)) ++ [.exact (.ref e.M)]), stItem S seen, dcItem D (enDict (ens₀ ++ [e]))] = U at R₂
  have hXU : RmE n A env (U ++ (ens₀.flatMap En.items ++ (mwItem e.M e.I :: listIt e.I e.l e.i :: (σ.items2 x dx ++ Y)))) := (((hA.app (X := σ.items2 x dx)).add.add).app (X := ens₀.flatMap En.items)).app
  have hmw : mwItem e.M e.I ∈ frameI env env.cells (tab (cTab x σ SD ID S D node)) ++ (U ++ (ens₀.flatMap En.items ++ (mwItem e.M e.I :: listIt e.I e.l e.i :: (σ.items2 x dx ++ Y)))) := by simp
  have hli : listIt e.I e.l e.i ∈ frameI env env.cells (tab (cTab x σ SD ID S D node)) ++ (U ++ (ens₀.flatMap En.items ++ (mwItem e.M e.I :: listIt e.I e.l e.i :: (σ.items2 x dx ++ Y)))) := by simp
  have hrl : (ens₀ ++ [e]).map En.v = ens₀.map En.v ++ [e.v] := by simp
  have hrr : (ens₀ ++ [e]).map (En.rem σ.su) = ens₀.map (En.rem σ.su) ++ [e.rem σ.su] := by simp
  rw [hrl, hrr] at hD₁
  rw [hrr] at hw₁
  refine wpAny_execs_cons (st_try (os := os) (n := n) (cls := .type "StopIteration") (c := .type "StopIteration") hd
    (fun A' B' own' s₂ Q' E' T' R' h => load_builtin Fe.ok T' R' h)
    (catch_type (by rw [isSubtype_type]; kernel_rfl) (by rw [isSubtype_type]; kernel_rfl) (by rw [isSubtype_type]; kernel_rfl)) ?_)
  refine wpAny_execs_cons (wpAny_Assign_Name ?_ rfl)
  refine wpAny_bind (m := eval _ _) (PE.use (v := .exact (.ref e.M)) (PE.lastL (Ω := U) (D := ID) (ys := ens₀.map fun e => V.exact (.ref e.M)) rfl rfl (by rw [← hU]; simp) (by rw [List.length_map]; omega)) (hXU _) T₂ Fe.ok (Fe.sees1 fun i hi => List.mem_append_left _ hi) R₂ fun r₃ s₃ B₃ le₃ T₃ R₃ d₃ => ?_)
  rw [den_exact.mp d₃]
  obtain ⟨om, hom, rfl⟩ := R₃.has _ hmw
  obtain ⟨oi, hoi, hci, hdi⟩ := R₃.has _ hli
  refine mw_with hom ?_
  have hsz := ds.size
  rw [List.length_map] at hsz
  have hlist : s₃.heap.IsList e.l its := ⟨_, R₃.base _ _ (le₃ _ _ hb), rfl, mm, rfl⟩
  cases hrem : e.rem σ.su with
  | cons c rest =>
    -- one more successor
    have hget : (σ.su e.v)[e.i]? = some c := by
      unfold En.rem at hrem
      have := congrArg (·[0]?) hrem
      simpa using this
    have hrest : (σ.su e.v).drop (e.i + 1) = rest := by
      unfold En.rem at hrem
      rw [← List.tail_drop, hrem]; rfl
    obtain ⟨r, hr, dr⟩ := (dens.mono le₃ _ ds).get (i := e.i) (x := .int c) (by rw [List.getElem?_map, hget]; rfl)
    refine mw_item (l := e.l) (i := e.i) hom ⟨oi, hoi, hci, hdi⟩ hlist (by simpa using hr) fun h' hit hs => ?_
    obtain ⟨o', ho', hc', hd'⟩ := hit
    have e3 : frameI env env.cells (tab (cTab x σ SD ID S D node)) ++ (U ++ (ens₀.flatMap En.items ++ (mwItem e.M e.I :: listIt e.I e.l e.i :: (σ.items2 x dx ++ Y)))) = (frameI env env.cells (tab (cTab x σ SD ID S D node)) ++ (U ++ (ens₀.flatMap En.items ++ [mwItem e.M e.I]))) ++ listIt e.I e.l e.i :: (σ.items2 x dx ++ Y) := by simp
    have R₄ := R₃.writeAt e3 (i' := listIt e.I e.l (e.i + 1)) s₃.toks (fun b o hb e => hs.extBut b o hb e) rfl ho' ⟨hc', hd'⟩
    have e4 : (frameI env env.cells (tab (cTab x σ SD ID S D node)) ++ (U ++ (ens₀.flatMap En.items ++ [mwItem e.M e.I]))) ++ listIt e.I e.l (e.i + 1) :: (σ.items2 x dx ++ Y) = [] ++ frameI env env.cells (tab (cTab x σ SD ID S D node)) ++ (cycI SD ID S D (ens₀ ++ [{ e with i := e.i + 1 }]) seen ++ (σ.items2 x dx ++ Y)) := by
      have : enDict (ens₀ ++ [{ e with i := e.i + 1 }]) = enDict (ens₀ ++ [e]) := by rw [enDict_snoc, enDict_snoc]
      rw [← hU]
      simp [cycI, En.items, this]
    rw [e4] at R₄
    refine store_rep (v := .int c) (pre := []) Fe.fr (Fe.var (isVar_or (by rfl))) R₄ dr fun s₅ R₅ => ?_
    refine wpAny_execs_cons (wpAny_Break ?_)
    have m1 : (ens₀ ++ [{ e with i := e.i + 1 }]).map En.v = ens₀.map En.v ++ [e.v] := by simp
    have m2 : (ens₀ ++ [{ e with i := e.i + 1 }]).map (En.rem σ.su) = ens₀.map (En.rem σ.su) ++ [rest] := by
      rw [List.map_append]
      congr 1
      show [(σ.su e.v).drop (e.i + 1)] = _
      rw [hrest]
    rw [hrem] at hD₁ hw₁
    refine kN s₅ B₃ (ens₀ ++ [{ e with i := e.i + 1 }]) F₁ c ((le₁.trans le₂).trans le₃) T₃ ⟨e.v, List.mem_of_getElem? hget⟩ (by simp; omega) ?_ ?_ ?_ (R₅.keep (cTab x σ SD ID S D c) ⟨rfl, rfl, rfl, rfl, rfl, rfl, rfl, trivial⟩)
    · rw [m1, m2]; exact hD₁.next
    · intro e' he'
      rcases List.mem_append.mp he' with q | q
      · exact (hok₁ e' (by simp [q])).mono (le₂.trans le₃)
      · obtain rfl := List.mem_singleton.mp q
        exact ⟨its, mm, le₃ _ _ hb, dens.mono le₃ _ ds⟩
    · rw [m2, workS_snoc]
      rw [workS_snoc] at hw₁
      simp only [List.length_cons] at hw₁
      omega
  | nil =>
    -- none left
    have hend : its[e.i]? = Option.none := by
      rw [Array.getElem?_eq_none]
      rw [hsz]
      unfold En.rem at hrem
      exact List.drop_eq_nil_iff.mp hrem
    refine mw_end (l := e.l) (i := e.i) (hXU noV).handled hom ⟨oi, hoi, hci, hdi⟩ hlist hend fun h' xa xo hk hnew hxo hxc hxd => ?_
    have R₄ : Rep w os B₃ (listIt e.I e.l e.i :: (frameI env env.cells (tab (cTab x σ SD ID S D node)) ++ (U ++ (ens₀.flatMap En.items ++ (mwItem e.M e.I :: (σ.items2 x dx ++ Y)))))) s₃ := R₃.perm (by
      have := List.perm_middle (a := listIt e.I e.l e.i) (l₁ := frameI env env.cells (tab (cTab x σ SD ID S D node)) ++ (U ++ (ens₀.flatMap En.items ++ [mwItem e.M e.I]))) (l₂ := σ.items2 x dx ++ Y)
      simpa using this)
    have R₅ := R₄.drop0new (j := exItem xa (.type "StopIteration") .none) s₃.toks hk hnew hxo ⟨hxc, hxd⟩
    have R₆ : Rep w os B₃ (exItem xa (.type "StopIteration") .none :: (frameI env env.cells (tab (cTab x σ SD ID S D node)) ++ (U ++ (ens₀.flatMap En.items ++ (σ.items2 x dx ++ Y))))) { s₃ with heap := h' } := R₅.sub (by
      refine List.Sublist.cons_cons _ ?_
      refine List.Sublist.append (List.Sublist.refl _) (List.Sublist.append (List.Sublist.refl _) (List.Sublist.append (List.Sublist.refl _) (List.sublist_cons_self ..))))
    have hX0 : RmE n A env (U ++ (ens₀.flatMap En.items ++ (σ.items2 x dx ++ Y))) := ((hA.app (X := σ.items2 x dx)).app (X := ens₀.flatMap En.items)).app
    refine ⟨B₃, _, hX0 _, T₃, .inl ⟨xa, rfl, R₆⟩, fun ee s₇ E₇ R₇ => ?_⟩
    -- the handler
    have hvn : e.v ∉ ens₀.map En.v := by
      obtain ⟨n1, n2, n3⟩ := List.nodup_append.mp hD₁.nodup
      exact fun q => n3 _ q _ (by simp) rfl
    rw [← hU] at R₇
    refine wpAny_execs_cons (wpAny_Delete (wpAny_deleteEach_cons (delete_Subscript ?_)))
    refine load_var (Ω := []) Fe.ok Fe.sees0 R₇ (v := .exact (.ref D)) rfl rfl fun r₈ d₈ => ?_
    rw [den_exact.mp d₈]
    refine ev_pop (D := SD) (ys := ens₀.map fun e => V.int e.v) (y := .int e.v) (pre := []) Fe R₇ rfl rfl rfl (by rw [List.length_map]; unfold sizeLine; omega) fun r₉ s₉ d₉ R₉ => ?_
    have e9 : frameI env env.cells (tab (cTab x σ SD ID S D node)) ++ ([] ++ lstItem SD (ens₀.map fun e => V.int e.v) :: ([lstItem ID (ens₀.map (fun e => V.exact (.ref e.M)) ++ [.exact (.ref e.M)]), stItem S seen, dcItem D (enDict (ens₀ ++ [e]))] ++ (ens₀.flatMap En.items ++ (σ.items2 x dx ++ Y)))) =
      (frameI env env.cells (tab (cTab x σ SD ID S D node)) ++ [lstItem SD (ens₀.map fun e => V.int e.v), lstItem ID (ens₀.map (fun e => V.exact (.ref e.M)) ++ [.exact (.ref e.M)]), stItem S seen]) ++ dcItem D (enDict (ens₀ ++ [e])) :: (ens₀.flatMap En.items ++ (σ.items2 x dx ++ Y)) := by simp
    have R₉' := R₉
    simp only [List.nil_append, List.cons_append] at R₉'
    have R₁₀ : Rep w os B₃ ((frameI env env.cells (tab (cTab x σ SD ID S D node)) ++ [lstItem SD (ens₀.map fun e => V.int e.v), lstItem ID (ens₀.map (fun e => V.exact (.ref e.M)) ++ [.exact (.ref e.M)]), stItem S seen]) ++ dcItem D (enDict (ens₀ ++ [e])) :: (ens₀.flatMap En.items ++ (σ.items2 x dx ++ Y))) s₉ := by rw [← e9]; exact R₉
    refine dc_del T₃ R₁₀ d₉ (by rw [enDict_look]; exact has_iff.mpr (by simp)) (by rw [enDict_length]; simp; omega) fun s₁₁ R₁₁ => wpAny_deleteEach_nil ?_
    rw [withoutV_last hvn] at R₁₁
    refine wpAny_execs_cons (wpAny_Expr_any ?_ (by unfold interactive; rw [Fe.ok.scope]; rfl))
    have e11 : (frameI env env.cells (tab (cTab x σ SD ID S D node)) ++ [lstItem SD (ens₀.map fun e => V.int e.v), lstItem ID (ens₀.map (fun e => V.exact (.ref e.M)) ++ [.exact (.ref e.M)]), stItem S seen]) ++ dcItem D (enDict ens₀) :: (ens₀.flatMap En.items ++ (σ.items2 x dx ++ Y)) =
      frameI env env.cells (tab (cTab x σ SD ID S D node)) ++ ([lstItem SD (ens₀.map fun e => V.int e.v)] ++ lstItem ID (ens₀.map (fun e => V.exact (.ref e.M)) ++ [.exact (.ref e.M)]) :: (stItem S seen :: dcItem D (enDict ens₀) :: (ens₀.flatMap En.items ++ (σ.items2 x dx ++ Y)))) := by simp
    rw [e11] at R₁₁
    refine ev_pop (D := ID) (ys := ens₀.map fun e => V.exact (.ref e.M)) (y := .exact (.ref e.M)) (pre := [lstItem SD (ens₀.map fun e => V.int e.v)]) Fe R₁₁ rfl rfl rfl (by rw [List.length_map]; unfold sizeLine; omega) fun r₁₂ s₁₂ d₁₂ R₁₂ => ?_
    rw [hrem] at hD₁ hw₁
    refine wpAny_execs_nil ?_
    refine wpAny_execs_nil ⟨ens₀.length, B₃, _, _, by simp, (le₁.trans le₂).trans le₃, ⟨ens₀, F₁ ++ [e.v], rfl, by omega, hD₁.pop, fun e' he' => (hok₁ e' (by simp [he'])).mono (le₂.trans le₃), ?_, rfl, rfl⟩, ?_⟩
    · rw [workS_snoc] at hw₁; omega
    · have : [lstItem SD (ens₀.map fun e => V.int e.v)] ++ lstItem ID (ens₀.map fun e => V.exact (.ref e.M)) :: (stItem S seen :: dcItem D (enDict ens₀) :: (ens₀.flatMap En.items ++ (σ.items2 x dx ++ Y))) = cycI SD ID S D ens₀ seen ++ (σ.items2 x dx ++ Y) := by simp [cycI]
      rw [this] at R₁₂
      exact R₁₂
end
end Mine

namespace Mine
theorem nodup_sub_length : ∀ {l l' : List Int}, l.Nodup → (∀ x ∈ l, x ∈ l') → l.length ≤ l'.length
  | [], _, _, _ => Nat.zero_le _
  | a :: l, l', h, hs => by
    rw [List.nodup_cons] at h
    have ha := hs a (by simp)
    have ih := nodup_sub_length (l := l) (l' := l'.erase a) h.2 fun x hx => by
      have hne : x ≠ a := fun q => h.1 (q ▸ hx)
      exact (List.mem_erase_of_ne hne).mpr (hs x (by simp [hx]))
    have := List.length_erase_of_mem ha
    have hpos : 0 < l'.length := List.length_pos_of_mem ha
    rw [List.length_cons]
    omega
/-- an order in which none comes ahead of its own successors -/
def Order (su : Int → List Int) (ks F : List Int) : Prop := (∀ k ∈ ks, k ∈ F) ∧ ∀ i v, F[i]? = some v → ∀ c ∈ su v, c ∈ F.take i
section
variable {w : World} {os : OsState} {n : Nat} {sc : Scope} {ρ : Str → Option V} {Ω : List Item} {A : Around} {env : Env} {B : Bs} {own R : List Item} {s : Shared} {E : Value → Shared → Prop}
abbrev cTab0 (x : Addr) (σ : St) (SD ID S D : Addr) : List (Str × V) := [("self", .exact (.ref x)), ("n2i", σ.n2i), ("stack", .exact (.ref SD)), ("itstack", .exact (.ref ID)), ("seen", .exact (.ref S)), ("node2stacki", .exact (.ref D))]
theorem dfs_sub {su : Int → List Int} {st seen F : List Int} {rs : List (List Int)} (h : Dfs su st rs seen F) : ∀ v ∈ st, v ∈ seen := fun v hv => (h.met v).mpr (.inl hv)
theorem su_keys {σ : St} (hN : σ.keys.Nodup) (hsu : ∀ d ∈ σ.nodes, ∀ y ∈ d.su, y ∈ σ.keys) {u c : Int} (h : c ∈ σ.su u) : c ∈ σ.keys := by
  unfold St.su at h
  cases hf : σ.nodes.find? fun d => d.k == u with
  | none => rw [hf] at h; cases h
  | some d => rw [hf] at h; exact hsu d (List.mem_of_find?_eq_some hf) c h
def outerW : Stmt := match bodyOf (inClass 8 (fdef 6)) with
  | [_, _, _, _, _, .For _ _ [_, s] _ _, _] => s
  | _ => .Pass default
theorem cyc_outer {x dx SD ID S D : Addr} {σ : St} {seen F : List Int} {k : Int} {Y : List Item} {Q : Flow → Shared → Prop} (Fe : FnEnv env cSc) (hd : Hd A env) (hA : RmE n A env Y) (T : TopB w B) (hN : σ.keys.Nodup) (hfew : σ.keys.length ≤ 100) (hsu : ∀ d ∈ σ.nodes, ∀ y ∈ d.su, y ∈ σ.keys)
    (hD : Dfs σ.su [] [] seen F) (hsk : ∀ v ∈ seen, v ∈ σ.keys) (hk : k ∈ σ.keys)
    (hR : Rep w os B (frameI env env.cells (tab (cTab x σ SD ID S D k)) ++ (cycI SD ID S D [] seen ++ (σ.items2 x dx ++ Y))) s)
    (kN : ∀ s' B' seen' F', Le B B' → TopB w B' → Dfs σ.su [] [] seen' F' → (∀ v ∈ seen', v ∈ σ.keys) → (∀ v ∈ seen, v ∈ seen') → k ∈ seen' →
      Rep w os B' (frameI env env.cells (tab (cTab0 x σ SD ID S D)) ++ (cycI SD ID S D [] seen' ++ (σ.items2 x dx ++ Y))) s' → Q .next s')
    (kR : ∀ r s' B' ys C Z, Le B B' → TopB w B' → ys ≠ [] → ys.length ≤ 200 → Ring σ.su C → den w B' (IL ys) r → Rep w os B' (frameI env env.cells Z ++ (σ.items2 x dx ++ Y)) s' → Q (.ret r) s') :
    wpAny (model pg w) A (exec outerW env) Q E s := by
  refine st_while (fun m B' ρ' R' => ∃ node ens seen' F', m = workU σ.su σ.keys seen' + workS (ens.map (En.rem σ.su)) ∧ DfsN σ.su node (ens.map En.v) (ens.map (En.rem σ.su)) seen' F' ∧ (∀ e ∈ ens, EnOk w B' σ.su e) ∧ node ∈ σ.keys ∧ (∀ v ∈ seen', v ∈ σ.keys) ∧ (∀ v ∈ seen, v ∈ seen') ∧ (k ∈ seen' ∨ node = k) ∧ ρ' = tab (cTab x σ SD ID S D node) ∧ R' = cycI SD ID S D ens seen' ++ (σ.items2 x dx ++ Y))
    _ T hR ⟨k, [], seen, F, rfl, hD.root k, (fun _ h => nomatch h), hk, hsk, (fun _ h => h), .inr rfl, rfl, rfl⟩ ?_
  rintro m B₁ ρ₁ R₁ s₁ E₁ le₁ T₁ ⟨node, ens, seen₁, F₁, rfl, hD₁, hok, hnk, hsk₁, hss, hkk, rfl, rfl⟩ hR₁
  have hX : ∀ Z, RmE n A env (Z ++ (σ.items2 x dx ++ Y)) := fun Z => hA.app.app
  have hsl : seen₁.length ≤ 100 := Nat.le_trans (nodup_sub_length hD₁.snodup hsk₁) hfew
  have hel : ens.length ≤ 100 := by
    have := nodup_sub_length hD₁.nodup (fun v hv => (hD₁.met v).mpr (.inl hv))
    rw [List.length_map] at this
    omega
  refine wpAny_isTrue_value (wpAny_Constant_bool (wpAny_truthy_bool ?_)) rfl
  rw [if_pos rfl]
  have hΩ : ∀ i ∈ cycI SD ID S D ens seen₁, i ∈ cycI SD ID S D ens seen₁ ++ (σ.items2 x dx ++ Y) := fun i hi => List.mem_append_left _ hi
  -- what follows the test, whichever way
  have inner : ∀ (s₂ : Shared) (B₂ : Bs) (ens' : List En) (seen' : List Int) (E' : Value → Shared → Prop) (Q' : Flow → Shared → Prop), Le B₁ B₂ → TopB w B₂ → ens'.length ≤ 101 → Dfs σ.su (ens'.map En.v) (ens'.map (En.rem σ.su)) seen' F₁ → (∀ e ∈ ens', EnOk w B₂ σ.su e) → (∀ v ∈ seen', v ∈ σ.keys) → (∀ v ∈ seen₁, v ∈ seen') → k ∈ seen' →
      workU σ.su σ.keys seen' + workS (ens'.map (En.rem σ.su)) ≤ workU σ.su σ.keys seen₁ + workS (ens.map (En.rem σ.su)) →
      Rep w os B₂ (frameI env env.cells (tab (cTab x σ SD ID S D node)) ++ (cycI SD ID S D ens' seen' ++ (σ.items2 x dx ++ Y))) s₂ →
      (∀ s'', (∃ m' B'' ρ'' R'', m' < workU σ.su σ.keys seen₁ + workS (ens.map (En.rem σ.su)) ∧ Le B B'' ∧ (∃ node ens seen' F', m' = workU σ.su σ.keys seen' + workS (ens.map (En.rem σ.su)) ∧ DfsN σ.su node (ens.map En.v) (ens.map (En.rem σ.su)) seen' F' ∧ (∀ e ∈ ens, EnOk w B'' σ.su e) ∧ node ∈ σ.keys ∧ (∀ v ∈ seen', v ∈ σ.keys) ∧ (∀ v ∈ seen, v ∈ seen') ∧ (k ∈ seen' ∨ node = k) ∧ ρ'' = tab (cTab x σ SD ID S D node) ∧ R'' = cycI SD ID S D ens seen' ++ (σ.items2 x dx ++ Y)) ∧ Rep w os B'' (frameI env env.cells ρ'' ++ R'') s'') → Q' .next s'') →
      (∀ s'', Q .next s'' → Q' .brk s'') → wpAny (model pg w) A (exec innerW env) Q' E' s₂ := by
    intro s₂ B₂ ens' seen' E' Q' le₂ T₂ hl hD' hok' hsk' hss' hk' hw R₂ q1 q2
    refine cyc_inner (n := n) Fe hd hA T₂ (by omega) hD' hok' R₂ (fun s₃ B₃ ens₃ F₃ c le₃ T₃ hc hl₃ hD₃ hok₃ hw₃ R₃ => ?_) (fun s₃ B₃ F₃ le₃ T₃ hD₃ R₃ => ?_)
    · refine q1 s₃ ⟨_, B₃, _, _, ?_, (le₁.trans le₂).trans le₃, ⟨c, ens₃, seen', F₃, rfl, hD₃, hok₃, ?_, hsk', fun v hv => hss' v (hss v hv), .inl hk', rfl, rfl⟩, R₃⟩
      · omega
      · obtain ⟨u, hu⟩ := hc
        exact su_keys hN hsu hu
    · exact q2 s₃ (kN s₃ B₃ seen' F₃ ((le₁.trans le₂).trans le₃) T₃ hD₃ hsk' (fun v hv => hss' v (hss v hv)) hk' (R₃.keep (cTab0 x σ SD ID S D) ⟨rfl, rfl, rfl, rfl, rfl, rfl, trivial⟩))
  have mSt : stItem S seen₁ ∈ cycI SD ID S D ens seen₁ := by simp [cycI]
  have mDc : dcItem D (enDict ens) ∈ cycI SD ID S D ens seen₁ := by simp [cycI]
  have mSD : lstItem SD (ens.map fun e => V.int e.v) ∈ cycI SD ID S D ens seen₁ := by simp [cycI]
  refine wpAny_execs_cons (st_ifW (cycI SD ID S D ens seen₁) hΩ Fe (hX _) T₁ hR₁ (PT.inSet (a := S) (ns := seen₁) (k := node) rfl rfl mSt PE.var) fun s₂ B₂ le₂ T₂ R₂ => ?_)
  cases hin : has seen₁ node with
  | true =>
    rw [if_pos rfl]
    refine wpAny_execs_cons (st_ifW (cycI SD ID S D ens seen₁) hΩ Fe (hX _) T₂ R₂ (PT.inDc (D := D) (l := enDict ens) (k := node) rfl rfl mDc PE.var) fun s₃ B₃ le₃ T₃ R₃ => ?_)
    rw [enDict_look]
    cases hst : has (ens.map En.v) node with
    | true =>
      rw [if_pos rfl]
      obtain ⟨j, hj, hjl⟩ := enDict_val ens node (has_iff.mp hst)
      obtain ⟨C, hC, _⟩ := hD₁.ring (has_iff.mp hst)
      refine wpAny_execs_cons (st_returnW (cycI SD ID S D ens seen₁) (v := IL ((ens.map En.v).drop j ++ [node])) hΩ Fe (hX _) T₃ R₃ ?_ fun r s₄ B₄ le₄ T₄ R₄ d₄ => ?_)
      · refine PE.cast (PE.bin (PE.sliceFromL (D := SD) (ys := ens.map fun e => V.int e.v) (k := j) rfl rfl mSD (PE.dc (D := D) rfl rfl mDc PE.var hj) (by rw [List.length_map]; unfold sizeLine; omega)) (PE.list (PEs.cons (PE.var (v := .int node)) PEs.nil)) (Bin.addL ?_)) ?_
        · simp; unfold sizeLine; omega
        · show V.list _ = V.list _
          congr 1
          rw [List.map_append, List.map_drop, List.map_map]; rfl
      · refine kR r s₄ B₄ ((ens.map En.v).drop j ++ [node]) C (tab (cTab x σ SD ID S D node)) (((le₁.trans le₂).trans le₃).trans le₄) T₄ (by simp) (by simp; omega) hC d₄ (R₄.sub ?_)
        exact List.Sublist.append (List.Sublist.refl _) (List.sublist_append_right ..)
    | false =>
      rw [if_neg (by decide)]
      have hns : node ∉ ens.map En.v := fun q => by rw [has_iff.mpr q] at hst; cases hst
      have hns' := has_iff.mp hin
      refine wpAny_execs_nil (wpAny_execs_nil (wpAny_execs_cons ?_))
      refine inner s₃ B₃ ens seen₁ _ _ (le₂.trans le₃) T₃ (by omega) (hD₁.skip hns' hns) (fun e he => (hok e he).mono (le₂.trans le₃)) hsk₁ (fun _ h => h) ?_ (Nat.le_refl _) R₃ (fun s'' h => wpAny_execs_nil h) (fun s'' h => h)
      rcases hkk with q | q
      · exact q
      · exact q ▸ hns'
  | false =>
    rw [if_neg (by decide)]
    have hns : node ∉ seen₁ := fun q => by rw [has_iff.mpr q] at hin; cases hin
    obtain ⟨d, hdn, hdk⟩ := mem_keys hnk
    subst hdk
    have hnst : d.k ∉ ens.map En.v := fun q => hns ((hD₁.met _).mpr (.inl q))
    refine cyc_push (n := n) Fe hA T₂ hN hdn hns hnst (by omega) (by omega) R₂ fun s₃ B₃ e le₃ T₃ hev hei hoke R₃ => ?_
    refine wpAny_execs_cons ?_
    have hm1 : (ens ++ [e]).map En.v = ens.map En.v ++ [d.k] := by simp [hev]
    have hm2 : (ens ++ [e]).map (En.rem σ.su) = ens.map (En.rem σ.su) ++ [σ.su d.k] := by
      rw [List.map_append]
      congr 1
      show [(σ.su e.v).drop e.i] = _
      rw [hev, hei]; rfl
    refine inner s₃ B₃ (ens ++ [e]) (seen₁ ++ [d.k]) _ _ (le₂.trans le₃) T₃ (by simp; omega) ?_ ?_ ?_ (fun v hv => List.mem_append_left _ hv) ?_ ?_ R₃ (fun s'' h => wpAny_execs_nil h) (fun s'' h => h)
    · rw [hm1, hm2]; exact hD₁.push hns
    · intro e' he'
      rcases List.mem_append.mp he' with q | q
      · exact (hok e' q).mono (le₂.trans le₃)
      · obtain rfl := List.mem_singleton.mp q
        exact hoke
    · intro v hv
      rcases List.mem_append.mp hv with q | q
      · exact hsk₁ v q
      · have : v = d.k := by simpa using q
        rw [this]; exact hnk
    · rcases hkk with q | q
      · exact List.mem_append_left _ q
      · rw [← q]; simp
    · rw [hm2, workS_snoc]
      have := workU_push (su := σ.su) hN hnk hns
      omega
end
end Mine

namespace Mine
section
variable {w : World} {os : OsState} {n : Nat} {sc : Scope} {ρ : Str → Option V} {Ω : List Item} {A : Around} {env : Env} {B : Bs} {own R : List Item} {s : Shared} {E : Value → Shared → Prop}
theorem find_cycle {A : Around} {B : Bs} {own : List Item} {s : Shared} {E : Value → Shared → Prop} {Q : Value → Shared → Prop} {x dx : Addr} {σ : St} (hN : σ.keys.Nodup) (hfew : σ.keys.length ≤ 100) (hsu : ∀ d ∈ σ.nodes, ∀ y ∈ d.su, y ∈ σ.keys) (hA : Rm (n + 1) A own) (T : TopB w B) (R : Rep w os B (σ.items2 x dx ++ own) s)
    (kk : ∀ r s' B', Le B B' → TopB w B' → Rep w os B' (σ.items2 x dx ++ own) s' → ((r = .none ∧ ∃ F, Order σ.su σ.keys F) ∨ (∃ ys C, ys ≠ [] ∧ ys.length ≤ 200 ∧ Ring σ.su C ∧ den w B' (IL ys) r)) → Q r s') : wpAny (model pg w) A (call (.ref 127) [.ref x]) Q E s := by
  have hA0 : Rm (n + 1) A (σ.items2 x dx ++ own) := hA.more fun i hi => List.mem_append_right _ hi
  refine call_gen (r := ⟨"TopologicalSorter._find_cycle", inClass 8 (fdef 6), .none, .none⟩) rfl ["self"] [.exact (.ref x)] hA0 T R (by decide) (fun doc pm cd ct nm E' Q' hq => ?_) (by decide) (by decide) rfl rfl rfl ?_
  · have : bindArgs (mkFd "TopologicalSorter._find_cycle" (psOf (inClass 8 (fdef 6))) (bodyOf (inClass 8 (fdef 6))) (scOf (inClass 8 (fdef 6))) .none .none doc pm cd ct nm) ⟨[.ref x], []⟩ = pure ([(("self" : Str), .ref x)]) := by rfl
    exact wpAny_of_eq this (hq _ _ [.ref x] (Le.refl _) R (dens_cons.mpr ⟨_, _, rfl, den_exact.mpr rfl, dens_nil.mpr rfl⟩))
  intro env s₁ B₁ E' hE le₁ T₁ F hA' R₁
  have hd : Hd (A.deeper env) env := hA.head
  have hB0 : RmE n _ env own := RmE.rest hA hA' F
  refine wpAny_execs_cons (st_assignW (σ.items2 x dx) (v := σ.n2i) hΩ2 F hA' T₁ R₁ (PE.so (x := x) rfl rfl n_so n_ad no_node2info rfl) (by rfl) fun s₂ B₂ le₂ T₂ R₂ => ?_)
  refine wpAny_execs_cons (st_newList F R₂ (by rfl) fun s₃ SD R₃ => ?_)
  refine wpAny_execs_cons (st_newList F R₃ (by rfl) fun s₄ ID R₄ => ?_)
  refine wpAny_execs_cons (wpAny_Assign_Name (wpAny_Call_NameR (PE.use (v := .exact (.type "set")) PE.blt (hA'.add.add _) T₂ F.ok F.sees0 R₄ fun r₅ s₅ B₅ le₅ T₅ R₅ d₅ => ?_)) rfl)
  rw [den_exact.mp d₅]
  refine PyProof.Rows.callWith_type0 (call_set_0 fun led => ?_)
  have R₆ := R₅.new (stItem s₅.heap.objs.size []) s₅.toks (fun b o e => Heap.get?_push_of_some _ e) (get?_size _) (Heap.get?_push_size _ rfl) (o := { cls := .type "set", dict := none, data := .set #[] 0 (.fresh 0 0 led) })
    ⟨#[], 0, _, ⟨rfl, rfl, rfl⟩, rfl, fun e he => by simp at he, fun k => by simp [has], by decide, by rfl, rfl⟩
  generalize hS : s₅.heap.objs.size = S at R₆ ⊢
  refine store_rep (pre := [stItem S []]) F.fr (F.var (isVar_or (by rfl))) (by simpa using R₆) (v := .exact (.ref S)) (den_exact.mpr rfl) fun s₇ R₇ => ?_
  refine wpAny_execs_cons (wpAny_Assign_Name (wpAny_Dict_empty ?_) rfl)
  have R₈ := R₇.new (dcItem s₇.heap.objs.size []) s₇.toks (fun b o e => Heap.get?_push_of_some _ e) (get?_size _) (Heap.get?_push_size _ rfl) (o := { cls := .type "dict", data := .dict #[] }) (by
    obtain ⟨o, es, ep, h0, h1, h2, h3, h4, h5⟩ := Heap.DictOf.new (knd := kI w) s₇.heap
    rw [Heap.get?_push_size _ rfl] at h0; cases h0
    exact ⟨[], ⟨es, ep, h1, h2, h3, h4, h5⟩, rfl⟩)
  generalize hDD : s₇.heap.objs.size = D at R₈ ⊢
  refine store_rep (pre := [dcItem D [], stItem S []]) F.fr (F.var (isVar_or (by rfl))) (by simpa using R₈) (v := .exact (.ref D)) (den_exact.mpr rfl) fun s₉ R₉ => ?_
  have R₁₀ : Rep w os B₅ (frameI env env.cells (upd (upd (upd (upd (upd (parV ["self"] [.exact (.ref x)]) "n2i" σ.n2i) "stack" (.exact (.ref SD))) "itstack" (.exact (.ref ID))) "seen" (.exact (.ref S))) "node2stacki" (.exact (.ref D))) ++ (cycI SD ID S D [] [] ++ (σ.items2 x dx ++ own))) s₉ := R₉.perm (by
    generalize frameI env env.cells (upd (upd (upd (upd (upd (parV ["self"] [.exact (.ref x)]) "n2i" σ.n2i) "stack" (.exact (.ref SD))) "itstack" (.exact (.ref ID))) "seen" (.exact (.ref S))) "node2stacki" (.exact (.ref D))) = P
    generalize σ.items2 x dx ++ own = Z
    show ([dcItem D [], stItem S []] ++ P ++ lstItem ID [] :: lstItem SD [] :: Z).Perm (P ++ ([lstItem SD [], lstItem ID [], stItem S [], dcItem D []] ++ Z))
    refine List.Perm.trans (List.Perm.append_right _ List.perm_append_comm) ?_
    rw [List.append_assoc]
    refine List.Perm.append_left P ?_
    show (dcItem D [] :: stItem S [] :: lstItem ID [] :: lstItem SD [] :: Z).Perm _
    have := (List.reverse_perm [lstItem SD [], lstItem ID [], stItem S [], dcItem D []]).append_right Z
    exact this)
  have R₁₁ := R₁₀.keep (cTab0 x σ SD ID S D) ⟨rfl, rfl, rfl, rfl, rfl, rfl, trivial⟩
  have le5 : Le B B₅ := (le₁.trans le₂).trans le₅
  have dfs0 : Dfs σ.su [] [] [] [] := ⟨rfl, fun i u v h => by simp at h, fun v => by simp, by simp, by simp, (fun v hv => by cases hv), fun i v h => by simp at h, fun i u r h => by simp at h⟩
  refine wpAny_execs_cons (st_forW [] σ.keys V.int (fun i B' ρ' R' => ρ' = tab (cTab0 x σ SD ID S D) ∧ ∃ seen FF, Dfs σ.su [] [] seen FF ∧ (∀ v ∈ seen, v ∈ σ.keys) ∧ (∀ v ∈ σ.keys.take i, v ∈ seen) ∧ R' = cycI SD ID S D [] seen ++ (σ.items2 x dx ++ own)) (fun _ h => nomatch h) F (hB0.app.app) T₅ R₁₁ (PI.keys PE.var) (by rfl)
    (fun B' _ => ⟨rfl, [], [], dfs0, (fun _ h => nomatch h), (fun _ h => by simp at h), rfl⟩) ?_ ?_)
  · rintro i k B₆ ρ' R' J s₆ E'' hE' hk le₆ T₆ ⟨rfl, seen, FF, hD, hsk, htk, rfl⟩ hR
    have hkk : k ∈ σ.keys := List.mem_of_getElem? hk
    have htk1 : σ.keys.take (i + 1) = σ.keys.take i ++ [k] := by rw [List.take_add_one, hk]; rfl
    have hR' : Rep w os B₆ (frameI env env.cells (tab (cTab x σ SD ID S D k)) ++ (cycI SD ID S D [] seen ++ (σ.items2 x dx ++ (J :: own)))) s₆ := by
      have := hR.keep (cTab x σ SD ID S D k) ⟨rfl, rfl, rfl, rfl, rfl, rfl, rfl, trivial⟩
      refine this.perm (List.Perm.append_left _ ?_)
      rw [← List.append_assoc, ← List.append_assoc]
      exact List.perm_middle.symm
    have mSt : stItem S seen ∈ cycI SD ID S D [] seen := by simp [cycI]
    refine wpAny_execs_cons (st_ifW (cycI SD ID S D [] seen) (fun i hi => List.mem_append_left _ hi) F (hB0.add.app.app) T₆ hR' (PT.inSet (a := S) (ns := seen) (k := k) rfl rfl mSt PE.var) fun s₇ B₇ le₇ T₇ R₇ => ?_)
    cases hin : has seen k with
    | true =>
      rw [if_pos rfl]
      refine wpAny_execs_cons (wpAny_Continue ⟨B₇, _, _, le₇, ⟨rfl, seen, FF, hD, hsk, ?_, rfl⟩, ?_⟩)
      · intro v hv
        rw [htk1] at hv
        rcases List.mem_append.mp hv with q | q
        · exact htk v q
        · have : v = k := by simpa using q
          rw [this]; exact has_iff.mp hin
      · have := R₇.keep (cTab0 x σ SD ID S D) ⟨rfl, rfl, rfl, rfl, rfl, rfl, trivial⟩
        refine this.perm (List.Perm.append_left _ ?_)
        rw [← List.append_assoc, ← List.append_assoc]
        exact List.perm_middle
    | false =>
      rw [if_neg (by decide)]
      refine wpAny_execs_nil (wpAny_execs_cons ?_)
      refine cyc_outer (n := n) F hd (hB0.add (i := J)) T₇ hN hfew hsu hD hsk hkk R₇ (fun s₈ B₈ seen₈ F₈ le₈ T₈ hD₈ hsk₈ hss₈ hk₈ R₈ => ?_) (fun r s₈ B₈ ys C Z le₈ T₈ hys hyl hC dr R₈ => ?_)
      · refine wpAny_execs_nil ⟨B₈, _, _, le₇.trans le₈, ⟨rfl, seen₈, F₈, hD₈, hsk₈, ?_, rfl⟩, ?_⟩
        · intro v hv
          rw [htk1] at hv
          rcases List.mem_append.mp hv with q | q
          · exact hss₈ v (htk v q)
          · have : v = k := by simpa using q
            rw [this]; exact hk₈
        · refine R₈.perm (List.Perm.append_left _ ?_)
          rw [← List.append_assoc, ← List.append_assoc]
          exact List.perm_middle
      · refine kk r s₈ B₈ (((le5.trans le₆).trans le₇).trans le₈) T₈ ?_ (.inr ⟨ys, C, hys, hyl, hC, dr⟩)
        refine R₈.app.sub ?_
        exact List.Sublist.append (List.Sublist.refl _) (List.sublist_cons_self ..)
  · rintro B₆ ρ' R' s₆ le₆ T₆ ⟨rfl, seen, FF, hD, hsk, htk, rfl⟩ hR
    refine wpAny_execs_cons (wpAny_Return_some (wpAny_Constant_none ?_))
    rw [List.take_length] at htk
    refine kk .none s₆ B₆ (le5.trans le₆) T₆ hR.app.app (.inl ⟨rfl, FF, fun k hk => ?_, hD.ord⟩)
    exact ((hD.met k).mp (htk k hk)).resolve_left (by simp)
end
end Mine

namespace Mine
section
variable {w : World} {os : OsState} {n : Nat} {sc : Scope} {ρ : Str → Option V} {Ω : List Item} {A : Around} {env : Env} {B : Bs} {own R : List Item} {s : Shared} {E : Value → Shared → Prop}
/-- a list comprehension of one clause, its list one's own -/
theorem ev_comp {α : Type} {elt iter : Expr} {t : Str} {px : Pos} {ifs : List Expr} {scope : Scope} {pos : Pos} (xs : List α) (emb : α → V) (p : α → Bool) (g : α → V) {Q : Value → Shared → Prop}
    (hA : Rm n A own) (T : TopB w B) (ek : EnvOk env sc) (sees : Sees Ω own env ρ) (R : Rep w os B own s)
    (hi : PI w os n Ω sc ρ iter (xs.map emb))
    (hp : ∀ x ∈ xs, PTs w os n Ω (relabelS scope sc) (seen scope ρ (only t (emb x))) ifs (p x))
    (hg : ∀ x ∈ xs, p x = true → PE w os n Ω (relabelS scope sc) (seen scope ρ (only t (emb x))) elt (g x))
    (hsz : xs.length ≤ sizeLine) (ht : scope.names.lookup t = some .local ∨ scope.names.lookup t = some .cell) (hok : compOk scope sc ρ = true)
    (k : ∀ D s' B', Le B B' → TopB w B' → Rep w os B' (lstItem D ((xs.filter p).map g) :: own) s' → Q (.ref D) s')
    (hs : ∀ env x, foldedSetIterable iter env x = pure x := by intro _ _; rfl) : wpAny (model pg w) A (eval (.ListComp elt [⟨.Name t px, iter, ifs, 0⟩] scope pos) env) Q E s := by
  obtain ⟨o1, o2, o3⟩ := compOk_parts hok
  rw [eval_ListComp]
  refine wpAny_comprehension_free (use := Option.none) (cl := clGo env.cells scope.names []) rfl (hs env) (closure_is fun x hx => cells_of_sees sees ek.scope (o2 x hx).1 (o2 x hx).2) o1 (hnames_of o3) ?_
  refine comp_core xs emb (fun x => only t (emb x)) p g hp hg (Binds.name ht) (fun x => only_dom ht (emb x)) (.name _ _) hsz hok hi (RR := fun acc C => compPost (model pg w) A E Option.none Q acc C) rfl hA T ek sees R fun s' B' D L m rest l' R' => ?_
  obtain ⟨es, hns, _⟩ := nsItem_ns R' (a := L) (m := m) (by simp)
  refine ⟨_, hns, fun h' hs => ?_⟩
  have R1 : Rep w os B' (nsItem L m :: lstItem D ((xs.filter p).map g) :: (rest ++ own)) s' := R'.perm (List.Perm.swap _ _ _)
  have R2 := R1.drop0 (h' := h') s'.toks (fun b o hb e => hs.extBut b o hb e)
  exact k D _ B' l' (T.mono l') (R2.sub (List.Sublist.cons_cons _ (List.sublist_append_right ..)))
def St.free (σ : St) : List Int := (σ.nodes.filter fun d => d.np == 0).map Nd.k
def St.ready (σ : St) (r : Addr) : St := { σ with rd := some (r, σ.free) }
theorem no_cycle : typeLookup (.type "object") "_find_cycle" = pure Option.none := by rw [typeLookup_type, builtinLookup_eq_fast]; kernel_rfl
theorem Tru.none : Tru w os n .none false := by
  intro A B own s r E hA T R d
  rw [den_none.mp d]
  exact wpAny_pure ⟨B, Le.refl B, R, rfl⟩
theorem PT.cast' {e : Expr} {b b' : Bool} (h : PT w os n Ω sc ρ e b) (q : b = b') : PT w os n Ω sc ρ e b' := q ▸ h
def raiseBody : List Stmt := match bodyOf (inClass 3 (fdef 6)) with
  | [_, _, _, .If _ b _ _] => b
  | _ => []
theorem prepare {A : Around} {B : Bs} {own : List Item} {s : Shared} {E : Value → Shared → Prop} {Q : Value → Shared → Prop} {x dx : Addr} {σ : St} (hrd : σ.rd = Option.none) (hN : σ.keys.Nodup) (hfew : σ.keys.length ≤ 100) (hsu : ∀ d ∈ σ.nodes, ∀ y ∈ d.su, y ∈ σ.keys) (hA : Rm (n + 2) A own) (T : TopB w B) (R : Rep w os B (σ.items2 x dx ++ own) s)
    (kN : ∀ r F s' B', Le B B' → TopB w B' → Order σ.su σ.keys F → Rep w os B' ((σ.ready r).items2 x dx ++ own) s' → Q .none s')
    (kR : ∀ r ys C env ρ s' B' E', Le B B' → TopB w B' → ys ≠ [] → ys.length ≤ 200 → Ring σ.su C → FnEnv env (scOf (inClass 3 (fdef 6))) → RmE (n + 1) (A.deeper env) env own → ρ "cycle" = some (IL ys) → Rep w os B' (frameI env env.cells ρ ++ ((σ.ready r).items2 x dx ++ own)) s' →
      E' = (fun e s' => wpAny (model pg w) (A.deeper env) (leaving env e) (fun _ s'' => E e s'') E s') → wpAny (model pg w) (A.deeper env) (execs raiseBody env) (fun _ _ => False) E' s') :
    wpAny (model pg w) A (call (.ref 92) [.ref x]) Q E s := by
  have hA0 : Rm (n + 1 + 1) A (σ.items2 x dx ++ own) := hA.more fun i hi => List.mem_append_right _ hi
  refine call_gen (r := ⟨"TopologicalSorter.prepare", inClass 3 (fdef 6), .none, .none⟩) rfl ["self"] [.exact (.ref x)] hA0 T R (by decide) (fun doc pm cd ct nm E' Q' hq => ?_) (by decide) (by decide) rfl rfl rfl ?_
  · have : bindArgs (mkFd "TopologicalSorter.prepare" (psOf (inClass 3 (fdef 6))) (bodyOf (inClass 3 (fdef 6))) (scOf (inClass 3 (fdef 6))) .none .none doc pm cd ct nm) ⟨[.ref x], []⟩ = pure ([(("self" : Str), .ref x)]) := by rfl
    exact wpAny_of_eq this (hq _ _ [.ref x] (Le.refl _) R (dens_cons.mpr ⟨_, _, rfl, den_exact.mpr rfl, dens_nil.mpr rfl⟩))
  intro env s₁ B₁ E' hE le₁ T₁ F hA' R₁
  have hB0 : RmE (n + 1) _ env own := RmE.rest hA hA' F
  have hrdV : σ.ad2.lookup ("_ready_nodes" : Str) = some V.none := by show some (rdV σ.rd) = _; rw [hrd]; rfl
  refine wpAny_execs_cons (st_ifW (σ.items2 x dx) (b := false) hΩ2 F hA' T₁ R₁ (PT.cmp (x := .none) (y := .none) (PE.so (x := x) rfl rfl n_so n_ad no_ready hrdV) PE.none isNot_none) fun s₂ B₂ le₂ T₂ R₂ => ?_)
  refine wpAny_execs_nil (wpAny_execs_cons (plainObj_wpAny_Assign_Attribute ?_ rfl))
  refine ev_comp (Ω := σ.items2 x dx) σ.nodes (fun d => V.exact (.ref d.a)) (fun d => d.np == 0) (fun d => V.int d.k) (hA' _) T₂ F.ok (F.sees1 hΩ2) R₂ (PI.vals (PE.so (x := x) (v := σ.n2i) rfl rfl n_so n_ad no_node2info rfl)) (fun d hd => PTs.one (PT.cmp (PE.ni (a := d.a) rfl rfl (n_ni hd) (fun K N => N.npred) rfl) PE.int Cmp.eqI)) (fun d hd _ => PE.ni (a := d.a) rfl rfl (n_ni hd) (fun K N => N.node) rfl)
    (by have : σ.nodes.length = σ.keys.length := by unfold St.keys; rw [List.length_map]
        unfold sizeLine; omega) (by decide) (by rfl) fun r s₃ B₃ le₃ T₃ R₃ => ?_
  have efree : (σ.nodes.filter fun d => d.np == 0).map (fun d => V.int d.k) = σ.free.map V.int := by unfold St.free; rw [List.map_map]; rfl
  rw [efree] at R₃
  have R₄ : Rep w os B₃ (frameI env env.cells (parV ["self"] [.exact (.ref x)]) ++ ([soItem x dx] ++ adItem dx σ.ad2 :: (lstItem r (σ.free.map V.int) :: (σ.nodes.map Nd.itm2 ++ own)))) s₃ := R₃.perm (by
    have := List.perm_middle (a := lstItem r (σ.free.map V.int)) (l₁ := frameI env env.cells (parV ["self"] [.exact (.ref x)]) ++ [soItem x dx, adItem dx σ.ad2]) (l₂ := σ.nodes.map Nd.itm2 ++ own)
    have e : σ.items2 x dx = soItem x dx :: adItem dx σ.ad2 :: σ.nodes.map Nd.itm2 := by unfold St.items2; rw [hrd]; rfl
    rw [e]
    simpa using this.symm)
  have hB1 : RmE (n + 1) _ env ([soItem x dx] ++ adItem dx σ.ad2 :: (lstItem r (σ.free.map V.int) :: (σ.nodes.map Nd.itm2 ++ own))) := (hB0.app (X := σ.nodes.map Nd.itm2)).add.add.app
  refine PE.use (v := .exact (.ref x)) (PE.var (ρ := parV ["self"] [.exact (.ref x)])) (hB1 _) T₃ F.ok F.sees0 R₄ fun r₅ s₅ B₅ le₅ T₅ R₅ d₅ => ?_
  rw [den_exact.mp d₅]
  rw [← List.append_assoc] at R₅
  refine so_set (v := .exact (.ref r)) T₅ R₅ (by simp) (by decide) no_ready (den_exact.mpr rfl) (Nat.le_of_ble_eq_true rfl) fun s₆ R₆ => ?_
  have e6 : (frameI env env.cells (parV ["self"] [.exact (.ref x)]) ++ [soItem x dx]) ++ adItem dx (setL σ.ad2 "_ready_nodes" (.exact (.ref r))) :: (lstItem r (σ.free.map V.int) :: (σ.nodes.map Nd.itm2 ++ own)) = frameI env env.cells (parV ["self"] [.exact (.ref x)]) ++ ((σ.ready r).items2 x dx ++ own) := by
    have : setL σ.ad2 "_ready_nodes" (.exact (.ref r)) = (σ.ready r).ad2 := by unfold St.ad2; rfl
    rw [this]
    simp [St.items2, St.ready, rdI]
  rw [e6] at R₆
  have hX : RmE (n + 1) _ env ((σ.ready r).items2 x dx ++ own) := hB0.app
  refine wpAny_execs_cons (wpAny_Assign_Name (so_meth0 (f := 127) n_so n_ad F hX T₅ R₆ rfl rfl rfl rfl rfl no_cycle fun s₇ B₇ le₇ T₇ R₇ => ?_) rfl)
  refine find_cycle (n := n) (σ := σ.ready r) hN hfew hsu (hB0 _) T₇ R₇ fun rc s₈ B₈ le₈ T₈ R₈ hc => ?_
  rcases hc with ⟨rfl, FF, hF⟩ | ⟨ys, C, hys, hyl, hC, dr⟩
  · refine store_rep (v := .none) (pre := []) F.fr (F.var (isVar_or (by rfl))) R₈.swap (den_none.mpr rfl) fun s₉ R₉ => ?_
    refine wpAny_execs_cons (st_if (b := false) F hX T₈ R₉ (PT.val PE.var Tru.none) fun s₁₀ B₁₀ le₁₀ T₁₀ R₁₀ => ?_)
    exact wpAny_execs_nil (wpAny_execs_nil (kN r FF s₁₀ B₁₀ (((le₁.trans le₂).trans (le₃.trans le₅)).trans ((le₇.trans le₈).trans le₁₀)) T₁₀ hF R₁₀.app))
  · refine store_rep (v := IL ys) (pre := []) F.fr (F.var (isVar_or (by rfl))) R₈.swap dr fun s₉ R₉ => ?_
    refine wpAny_execs_cons (st_if (b := true) F hX T₈ R₉ (PT.cast' (PT.val (x := IL ys) PE.var (Tru.list (by rw [List.length_map]; unfold sizeLine; omega))) (by cases ys with
      | nil => exact absurd rfl hys
      | cons a l => rfl)) fun s₁₀ B₁₀ le₁₀ T₁₀ R₁₀ => ?_)
    refine wpAny_mono (kR r ys C env _ s₁₀ B₁₀ _ (((le₁.trans le₂).trans (le₃.trans le₅)).trans ((le₇.trans le₈).trans le₁₀)) T₁₀ hys hyl hC F hB0 rfl R₁₀ hE) (fun _ _ h => h.elim) fun _ _ e => e
end
end Mine

namespace Mine
section
variable {w : World} {os : OsState} {n : Nat} {sc : Scope} {ρ : Str → Option V} {Ω : List Item} {A : Around} {env : Env} {B : Bs} {own R : List Item} {s : Shared} {E : Value → Shared → Prop}
theorem FlyN.made {h' : Heap} {e : Addr} {args : List Value} {cls : Value} (R : Rep w os B own s) (hm : Heap.MadeExcOf s.heap h' e cls args) : FlyN w os B own cls (.ref e) { s with heap := h' } := by
  obtain ⟨t, ht, _, _⟩ := hm.there
  exact ⟨e, rfl, R.new (exItem e cls .none) s.toks hm.keeps hm.new ht ⟨rfl, _, rfl, rfl⟩⟩
/-- prepare: the ready ones are found; a ring is told by CycleError -/
theorem prepare_ {A : Around} {B : Bs} {own : List Item} {s : Shared} {E : Value → Shared → Prop} {Q : Value → Shared → Prop} {x dx : Addr} {σ : St} (hrd : σ.rd = Option.none) (hN : σ.keys.Nodup) (hfew : σ.keys.length ≤ 100) (hsu : ∀ d ∈ σ.nodes, ∀ y ∈ d.su, y ∈ σ.keys) (hA : Rm (n + 2) A own) (T : TopB w B) (R : Rep w os B (σ.items2 x dx ++ own) s)
    (kN : ∀ r F s' B', Le B B' → TopB w B' → Order σ.su σ.keys F → Rep w os B' ((σ.ready r).items2 x dx ++ own) s' → Q .none s')
    (kE : ∀ r C e s' B', Le B B' → TopB w B' → Ring σ.su C → FlyT w os B' ((σ.ready r).items2 x dx ++ own) (.ref 55) e s' → E e s') :
    wpAny (model pg w) A (call (.ref 92) [.ref x]) Q E s := by
  refine prepare (n := n) hrd hN hfew hsu hA T R kN fun r ys C env ρ s₁ B₁ E' le₁ T₁ hys hyl hC F hA' hρ R₁ hE => ?_
  subst hE
  have hd : Hd (A.deeper env) env := hA.head
  have hX : RmE (n + 1) _ env ((σ.ready r).items2 x dx ++ own) := hA'.app
  obtain ⟨nm, q, bs, hdct, sn, sub, ab, col, dd, k0, k1, k2, k3, k5, hC55⟩ := T₁.ce
  obtain ⟨o54, es, ep, h54, hd54, hk54, hi54⟩ := T₁.ceNs
  refine wpAny_execs_cons (wpAny_Raise_call_sub (C := 55) (N := 54) (nm := nm) (q := q) (bs := bs) (bm := veMro) (hdct := hdct) (sn := sn) (sub := sub) (ab := ab) (col := col) (dd := dd) (k0 := k0) (k1 := k1) (k2 := k2) (k3 := k3) (k5 := k5) (newId := "ValueError.__new__") (mN := nsFind es) PySem.F.excBase_ValueError (hX ρ).handled rfl hi54 ?_)
  refine PE.use (v := .exact (.ref 55)) (PE.glob rfl rfl) (hX _) T₁ F.ok F.sees0 R₁ fun f s₂ B₂ le₂ T₂ R₂ d₂ => ⟨den_exact.mp d₂, ?_⟩
  refine Calls.evalArgs_plain (args_cons (JoinedStr_one (wpAny_Constant_str ?_)) rfl)
  refine args_cons (PE.use (v := IL ys) (PE.var (hv := hρ)) (hX _) T₂ F.ok F.sees0 (R₂.toks _) fun r₃ s₃ B₃ le₃ T₃ R₃ d₃ => args_nil ?_) rfl
  have le3 : Le B₁ B₃ := le₂.trans le₃
  refine ⟨rfl, Nat.le_of_ble_eq_true rfl, R₃.base _ _ (le3 _ _ hC55), ⟨o54, es, ep, R₃.base _ _ (le3 _ _ h54), hd54, hk54, fun _ => rfl⟩, fun h' e hm => ?_⟩
  refine fly_leaving (hX ρ) hd (.inl (FlyN.made R₃ hm)) fun s₄ hf => ?_
  exact kE r C _ s₄ B₃ (le₁.trans le3) T₃ hC (hf.sub (List.sublist_append_right ..))
end
end Mine

namespace Mine
section
variable {w : World} {os : OsState} {n : Nat} {sc : Scope} {ρ : Str → Option V} {Ω : List Item} {A : Around} {env : Env} {B : Bs} {own R : List Item} {s : Shared} {E : Value → Shared → Prop}
/-- x, y, z = .., the stores turned about -/
theorem swap3 {x y z : Str} {v1 v2 v3 : V} {r : Value} {Q : Unit → Shared → Prop} (F : FnEnv env sc) (hh : A.handled = none) (h : Rep w os B (frameI env env.cells ρ ++ R) s) (d : den w B (.tuple [v1, v2, v3]) r) (hx : isVar sc x = true) (hy : isVar sc y = true) (hz : isVar sc z = true)
    (k : ∀ s', Rep w os B (frameI env env.cells (upd (upd (upd ρ z v3) y v2) x v1) ++ R) s' → Q () s') :
    wpAny (model pg w) A (unpackItems r 3 Option.none) (fun items s₂ => wpAny (model pg w) A (assignInOrder (([x, y, z] : List Str).reverse.map fun n => bindName env n) items.reverse) Q E s₂) E s := by
  refine items_of (vs := [v1, v2, v3]) hh h (.inl d) fun rs s' R' ds => ?_
  obtain ⟨r1, rs, rfl, d1, d2⟩ := dens_cons.mp ds
  obtain ⟨r2, rs, rfl, e2, d3⟩ := dens_cons.mp d2
  obtain ⟨r3, rfl, e3⟩ := dens_one d3
  refine assignInOrder_cons (bindName_ (store_rep (pre := []) F.fr (F.var (isVar_or hz)) R' e3 fun s₂ R₂ => ?_))
  refine assignInOrder_cons (bindName_ (store_rep (pre := []) F.fr (F.var (isVar_or hy)) R₂ e2 fun s₃ R₃ => ?_))
  exact assignInOrder_cons (bindName_ (store_rep (pre := []) F.fr (F.var (isVar_or hx)) R₃ d1 fun s₄ R₄ => assignInOrder_nil (k s₄ R₄)))
/-- TopologicalSorter() -/
theorem ts_with {pos : Pos} {Q : Value → Shared → Prop} (T : TopB w B) (R : Rep w os B own s) (h : wpAny (model pg w) A (call (.ref 137) []) Q E s) : wpAny (model pg w) A (callWith pos (.ref 137) [] [] []) Q E s := by
  obtain ⟨a1, a2, a3, a4, a5, a6, a7, a8, a9, b1, b2, b3, e⟩ := T.ts
  unfold callWith
  refine wpAny_bind (wpAny_holding (PySem.evalArgs_none (wpAny_bind (wpAny_standAt ?_))))
  simp only [List.any_nil, Bool.or_false]
  obtain ⟨hp, g, d, tk, os'⟩ := s
  refine wpAny_bind (wpAny_keeperOf_exc (R.base _ _ e) ?_)
  exact wpAny_bind (wpAny_mono h (fun r s₂ hr => wpAny_bind (wpAny_holding (wpAny_point (wpAny_pure hr)))) fun _ _ x => x)
/-- the edges that were added -/
structure Added (σ : St) (P : List (Int × Int)) : Prop where
  rd : σ.rd = Option.none
  out : σ.out = 0
  fin : σ.fin = 0
  np : ∀ d ∈ σ.nodes, d.np = ((P.filter fun e => e.1 == d.k).length : Int)
  su : ∀ d ∈ σ.nodes, d.su = (P.filter fun e => e.2 == d.k).map Prod.fst
def keys8 (i : Nat) : List Int := (List.range i).map fun j : Nat => (j : Int)
theorem keys8_nodup (i : Nat) : (keys8 i).Nodup := by
  unfold keys8
  exact List.pairwise_map.mpr (List.nodup_range.imp fun h e => h (by omega))
theorem mem_keys8 {i : Nat} {x : Int} : x ∈ keys8 i ↔ 0 ≤ x ∧ x < i := by
  unfold keys8
  rw [List.mem_map]
  constructor
  · rintro ⟨j, hj, rfl⟩
    have := List.mem_range.mp hj
    omega
  · rintro ⟨h0, h1⟩
    exact ⟨x.toNat, List.mem_range.mpr (by omega), by omega⟩
theorem Added.step {σ : St} {P : List (Int × Int)} {k need : Int} (h : Added σ P) : Added ((σ.npAdd k 1).addP k need) (P ++ [(k, need)]) := by
  have key : ∀ d ∈ ((σ.npAdd k 1).addP k need).nodes, ∃ c ∈ σ.nodes, d.k = c.k ∧ d.np = (if c.k = k then c.np + 1 else c.np) ∧ d.su = (if c.k = need then c.su ++ [k] else c.su) := by
    intro d hd
    obtain ⟨b, hb, rfl⟩ := List.mem_map.mp hd
    obtain ⟨c, hc, rfl⟩ := List.mem_map.mp hb
    refine ⟨c, hc, ?_⟩
    by_cases q1 : c.k = k
    · by_cases q2 : c.k = need
      · simp [q1, q2, Nd.setNp, Nd.addSu]
        have : k = need := q1.symm.trans q2
        simp [this, Nd.setNp, Nd.addSu, q2]
      · have : ¬ k = need := fun e => q2 (q1.trans e)
        simp [q1, this, Nd.setNp]
    · by_cases q2 : c.k = need
      · have : ¬ need = k := fun e => q1 (q2.trans e)
        simp [q2, this, Nd.addSu]
      · simp [q1, q2]
  refine ⟨h.rd, h.out, h.fin, fun d hd => ?_, fun d hd => ?_⟩
  · obtain ⟨c, hc, e1, e2, e3⟩ := key d hd
    rw [e2, e1, List.filter_append, List.length_append, h.np c hc]
    by_cases q : c.k = k
    · rw [if_pos q]
      have : (k == c.k) = true := by simp [q]
      simp [this]
    · rw [if_neg q]
      have : (k == c.k) = false := by simpa using fun e => q e.symm
      simp [this]
  · obtain ⟨c, hc, e1, e2, e3⟩ := key d hd
    rw [e3, e1, List.filter_append, List.map_append, h.su c hc]
    by_cases q : c.k = need
    · rw [if_pos q]
      have : (need == c.k) = true := by simp [q]
      simp [this]
    · rw [if_neg q]
      have : (need == c.k) = false := by simpa using fun e => q e.symm
      simp [this]
end
end Mine

namespace Mine
section
variable {w : World} {os : OsState} {n : Nat} {sc : Scope} {ρ : Str → Option V} {Ω : List Item} {A : Around} {env : Env} {B : Bs} {own R : List Item} {s : Shared} {E : Value → Shared → Prop}
theorem no_add : typeLookup (.type "object") "add" = pure Option.none := by rw [typeLookup_type, builtinLookup_eq_fast]; kernel_rfl
abbrev rSc : Scope := scOf (fdef 18)
def addsBody : List Stmt := (bodyOf (fdef 18)).take 3
abbrev rTab (needs : List (List Int)) (x : Addr) : List (Str × V) := [("needs", LL needs), ("sorter", .exact (.ref x)), ("rounds", .list []), ("ring", .bool false)]
abbrev rTabK (needs : List (List Int)) (x : Addr) (k : Nat) : List (Str × V) := [("needs", LL needs), ("sorter", .exact (.ref x)), ("rounds", .list []), ("ring", .bool false), ("k", .int (k : Int))]
def edges (needs : List (List Int)) (i : Nat) : List (Int × Int) := (List.range i).flatMap fun k : Nat => (nd needs k).map fun j => ((k : Int), j)
theorem edges_succ (needs : List (List Int)) (i : Nat) : edges needs (i + 1) = edges needs i ++ (nd needs i).map fun j => ((i : Int), j) := by
  unfold edges; rw [List.range_succ, List.flatMap_append]; simp
theorem su_bound {σ : St} {P : List (Int × Int)} (h : Added σ P) (hP : P.length ≤ 200) : ∀ d ∈ σ.nodes, d.su.length ≤ 1000 := by
  intro d hd
  rw [h.su d hd, List.length_map]
  have := List.length_filter_le (fun e : Int × Int => e.2 == d.k) P
  omega
theorem edges_length {needs : List (List Int)} (h8 : Eight needs) : ∀ i, (edges needs i).length ≤ 8 * i
  | 0 => by simp [edges]
  | i + 1 => by
    rw [edges_succ, List.length_append, List.length_map]
    have := edges_length h8 i
    have := nd_few h8 i
    omega
theorem nodes_len {σ : St} {i : Nat} (h : σ.keys = keys8 i) : σ.nodes.length = i := by
  have := congrArg List.length h
  unfold St.keys keys8 at this
  simpa using this
/-- the sorter is made and filled -/
theorem run_adds {rest : List Stmt} {needs : List (List Int)} (h8 : Eight needs) {Q : Flow → Shared → Prop} (F : FnEnv env rSc) (hA : RmE (n + 4) A env own) (T : TopB w B) (hρ : ρ "needs" = some (LL needs)) (R : Rep w os B (frameI env env.cells ρ ++ own) s)
    (kk : ∀ h σ s' B', Le B B' → TopB w B' → σ.keys = keys8 8 → Added σ (edges needs 8) → Rep w os B' (frameI env env.cells (tab (rTab needs h.x)) ++ (St.items h σ ++ own)) s' → wpAny (model pg w) A (execs rest env) Q E s') :
    wpAny (model pg w) A (execs (addsBody ++ rest) env) Q E s := by
  have hsc : env = { env with scope := rSc } := by rw [← F.ok.scope]
  refine wpAny_execs_cons (Assign_Tuple_swapped (names := ["sorter", "rounds", "ring"]) (Tuple_ (args_cons (wpAny_Call_NameR (PE.use (v := .exact (.ref 137)) (PE.glob rfl rfl) (hA _) T F.ok F.sees0 R fun r₁ s₁ B₁ l₁ T₁ R₁ d₁ => ?_)) rfl)) rfl (by rw [hsc]; rfl))
  rw [den_exact.mp d₁]
  refine ts_with T₁ R₁ (new_init (n := n + 2) (hA _) T₁ R₁ fun h s₂ B₂ l₂ T₂ R₂ => ?_)
  have R₂' := R₂.swap
  have hX : ∀ σ : St, RmE (n + 4) A env (St.items h σ ++ own) := fun σ => hA.app
  refine args_cons (PE.use (v := .list []) (PE.list PEs.nil) (hX _ _) T₂ F.ok F.sees0 R₂' fun r₃ s₃ B₃ l₃ T₃ R₃ d₃ => ?_) rfl
  refine args_cons (wpAny_Constant_bool (args_nil (wpAny_newObj_type ?_ (Nat.le_of_ble_eq_true rfl)))) rfl
  obtain ⟨B₄, l₄, R₄, d₄⟩ := R₃.newTuple s₃.toks (xs := [.exact (.ref h.x), .list [], .bool false]) (its := #[.ref h.x, r₃, .bool false]) (dens_cons.mpr ⟨_, _, rfl, den_exact.mpr rfl, dens_cons.mpr ⟨_, _, rfl, d₃, dens_cons.mpr ⟨_, _, rfl, den_bool.mpr rfl, dens_nil.mpr rfl⟩⟩⟩)
  refine swap3 (v1 := .exact (.ref h.x)) (v2 := .list []) (v3 := .bool false) F (hX ⟨[], Option.none, 0, 0⟩ ρ).handled R₄ d₄ (by rfl) (by rfl) (by rfl) fun s₈ R₈ => ?_
  have R₉ := R₈.keep (rTab needs h.x) ⟨hρ, rfl, rfl, rfl, trivial⟩
  have le4 : Le B B₄ := ((l₁.trans l₂).trans l₃).trans l₄
  have T₄ : TopB w B₄ := T₃.mono l₄
  -- for k in range(8): sorter.add(k)
  refine wpAny_execs_cons (st_for (List.range 8) (fun i : Nat => V.int (i : Int)) (fun i B' ρ' R' => ρ' = tab (rTab needs h.x) ∧ ∃ σ, σ.keys = keys8 i ∧ Added σ [] ∧ R' = St.items h σ ++ own) F (hX _) T₄ R₉ (PI.range (N := 8) PE.blt PE.int (by decide)) (by rfl)
    (fun B' _ => ⟨rfl, ⟨[], Option.none, 0, 0⟩, rfl, ⟨rfl, rfl, rfl, (fun d hd => by cases hd), (fun d hd => by cases hd)⟩, rfl⟩) ?_ ?_)
  · rintro i k B₅ ρ' R' J s₉ E' hE hk le₅ T₅ ⟨rfl, σ, hks, hAd, rfl⟩ hR
    obtain ⟨hi8, rfl⟩ : i < 8 ∧ k = i := by
      have h1 := (List.getElem?_eq_some_iff.mp hk).1
      have h2 := (List.getElem?_eq_some_iff.mp hk).2
      simp at h1 h2
      exact ⟨h1, h2.symm⟩
    have hR' : Rep w os B₅ (frameI env env.cells (upd (tab (rTab needs h.x)) "k" (V.int (k : Int))) ++ (St.items h σ ++ (J :: own))) s₉ := hR.perm (List.Perm.append_left _ List.perm_middle.symm)
    refine wpAny_execs_cons (wpAny_Expr_any ?_ (by unfold interactive; rw [F.ok.scope]; rfl))
    refine so_meth1 (f := 87) (own := J :: own) m_so m_ad F hA.add.app T₅ hR' rfl rfl rfl rfl rfl no_add (PEs.cons (PE.var (v := .int (k : Int))) PEs.nil) fun rs s₁₀ B₁₀ l₁₀ T₁₀ R₁₀ d₁₀ => ?_
    obtain ⟨rk, rfl, dk⟩ := dens_one d₁₀
    refine add_core (n := n) (ps := []) hAd.rd (hA.add _) T₁₀ R₁₀ dk (dens_nil.mpr rfl) (.inl rfl) (by rw [hks]; exact keys8_nodup _) (by rw [nodes_len hks]; omega) (su_bound hAd (by simp)) fun σ' d s₁₁ B₁₁ l₁₁ T₁₁ got R₁₁ => ?_
    have hnew : σ'.keys = keys8 (k + 1) ∧ Added σ' [] := by
      cases got with
      | old hd hkd =>
        exfalso
        have : (k : Int) ∈ σ.keys := List.mem_map.mpr ⟨_, hd, hkd⟩
        rw [hks] at this
        have := (mem_keys8.mp this).2
        omega
      | new hno =>
        refine ⟨?_, ⟨hAd.rd, hAd.out, hAd.fin, fun x hx => ?_, fun x hx => ?_⟩⟩
        · unfold St.keys at hks ⊢
          rw [List.map_append, hks]
          unfold keys8
          rw [List.range_succ, List.map_append]; rfl
        · rcases List.mem_append.mp hx with q | q
          · exact hAd.np x q
          · obtain rfl := List.mem_singleton.mp q; rfl
        · rcases List.mem_append.mp hx with q | q
          · exact hAd.su x q
          · obtain rfl := List.mem_singleton.mp q; rfl
    have hz : (σ'.npAdd (k : Int) (([] : List Int).length : Int)) = σ' := by
      unfold St.npAdd St.on
      have : (σ'.nodes.map fun d => if d.k = (k : Int) then Nd.setNp (d.np + (([] : List Int).length : Int)) d else d) = σ'.nodes := by
        refine (List.map_congr_left fun d _ => ?_).trans (List.map_id _)
        show (if d.k = (k : Int) then Nd.setNp (d.np + 0) d else d) = d
        split
        · unfold Nd.setNp; simp
        · rfl
      rw [this]
    rw [hz] at R₁₁
    refine wpAny_execs_nil ⟨B₁₁, _, _, l₁₀.trans l₁₁, ⟨rfl, σ', hnew.1, hnew.2, rfl⟩, ?_⟩
    have R₁₂ := (R₁₁.swap).keep (rTab needs h.x) ⟨rfl, rfl, rfl, rfl, trivial⟩
    exact R₁₂.perm (List.Perm.append_left _ List.perm_middle)
  · rintro B₅ ρ' R' s₉ le₅ T₅ ⟨rfl, σ, hks, hAd, rfl⟩ hR
    have le5 : Le B B₅ := le4.trans le₅
    refine wpAny_execs_cons (st_for (List.range 8) (fun i : Nat => V.int (i : Int)) (fun i B' ρ' R' => ρ' = tab (rTab needs h.x) ∧ ∃ σ, σ.keys = keys8 8 ∧ Added σ (edges needs i) ∧ R' = St.items h σ ++ own) F (hX _) T₅ hR (PI.range (N := 8) PE.blt PE.int (by decide)) (by rfl)
      (fun B' _ => ⟨rfl, σ, hks, hAd, rfl⟩) ?_ ?_)
    · rintro i k B₆ ρ' R' J s₁₀ E' hE hk le₆ T₆ ⟨rfl, σ₁, hks₁, hAd₁, rfl⟩ hR₁
      obtain ⟨hi8, rfl⟩ : i < 8 ∧ k = i := by
        have h1 := (List.getElem?_eq_some_iff.mp hk).1
        have h2 := (List.getElem?_eq_some_iff.mp hk).2
        simp at h1 h2
        exact ⟨h1, h2.symm⟩
      have hkl : k < needs.length := by rw [h8.len]; exact hi8
      have hR₂ : Rep w os B₆ (frameI env env.cells (tab (rTabK needs h.x k)) ++ (St.items h σ₁ ++ (J :: own))) s₁₀ := by
        have := hR₁.keep (rTabK needs h.x k) ⟨rfl, rfl, rfl, rfl, rfl, trivial⟩
        exact this.perm (List.Perm.append_left _ List.perm_middle.symm)
      refine wpAny_execs_cons (st_for (nd needs k) V.int (fun j B' ρ' R' => ρ' = tab (rTabK needs h.x k) ∧ ∃ σ, σ.keys = keys8 8 ∧ Added σ (edges needs k ++ ((nd needs k).take j).map fun x => ((k : Int), x)) ∧ R' = St.items h σ ++ (J :: own)) F hA.add.app T₆ hR₂
        (PI.list (PE.itemLL PE.var PE.var hkl (by rw [h8.len]; decide))) (by rfl) (fun B' _ => ⟨rfl, σ₁, hks₁, by simpa using hAd₁, rfl⟩) ?_ ?_)
      · rintro j need B₇ ρ' R' J' s₁₁ E'' hE' hj le₇ T₇ ⟨rfl, σ₂, hks₂, hAd₂, rfl⟩ hR₃
        have hneed : In8 need := h8.small _ (nd_mem hkl) need (List.mem_of_getElem? hj)
        have htk : (nd needs k).take (j + 1) = (nd needs k).take j ++ [need] := by rw [List.take_add_one, hj]; rfl
        have hR₄ : Rep w os B₇ (frameI env env.cells (upd (tab (rTabK needs h.x k)) "need" (V.int need)) ++ (St.items h σ₂ ++ (J' :: J :: own))) s₁₁ := hR₃.perm (List.Perm.append_left _ List.perm_middle.symm)
        refine wpAny_execs_cons (wpAny_Expr_any ?_ (by unfold interactive; rw [F.ok.scope]; rfl))
        refine so_meth1 (f := 87) (own := J' :: J :: own) m_so m_ad F hA.add.add.app T₇ hR₄ rfl rfl rfl rfl rfl no_add (PEs.cons (PE.var (v := .int (k : Int))) (PEs.cons (PE.var (v := .int need)) PEs.nil)) fun rs s₁₂ B₁₂ l₁₂ T₁₂ R₁₂ d₁₂ => ?_
        obtain ⟨rk, rs', rfl, dk, dn⟩ := dens_cons.mp d₁₂
        have hk8 : (k : Int) ∈ σ₂.keys := by rw [hks₂]; exact mem_keys8.mpr ⟨by omega, by omega⟩
        have hn8 : need ∈ σ₂.keys := by rw [hks₂]; exact mem_keys8.mpr ⟨hneed.1, hneed.2⟩
        have hPl : (edges needs k ++ ((nd needs k).take j).map fun x => ((k : Int), x)).length ≤ 200 := by
          rw [List.length_append, List.length_map, List.length_take]
          have := edges_length h8 k
          have := nd_few h8 k
          omega
        refine add_core (n := n) (ps := [need]) hAd₂.rd (hA.add.add _) T₁₂ R₁₂ dk dn (.inr ⟨⟨need, rfl, hn8⟩, hk8⟩) (by rw [hks₂]; exact keys8_nodup _) (by rw [nodes_len hks₂]; omega) (su_bound hAd₂ hPl) fun σ' d s₁₃ B₁₃ l₁₃ T₁₃ got R₁₃ => ?_
        have hσ : σ' = σ₂ := by
          cases got with
          | old _ _ => rfl
          | new hno =>
            obtain ⟨y, hy, e⟩ := mem_keys hk8
            exact absurd e (hno y hy)
        subst hσ
        refine wpAny_execs_nil ⟨B₁₃, _, _, l₁₂.trans l₁₃, ⟨rfl, (σ'.npAdd (k : Int) 1).addP (k : Int) need, ?_, ?_, rfl⟩, ?_⟩
        · rw [← hks₂]
          exact (on_keys (f := Nd.addSu (k : Int)) fun _ => rfl).trans (on_keys (f := fun d => Nd.setNp (d.np + 1) d) fun _ => rfl)
        · rw [htk, List.map_append, ← List.append_assoc]
          exact hAd₂.step
        · have R₁₄ := (R₁₃.swap).keep (rTabK needs h.x k) ⟨rfl, rfl, rfl, rfl, rfl, trivial⟩
          exact R₁₄.perm (List.Perm.append_left _ List.perm_middle)
      · rintro B₇ ρ' R' s₁₁ le₇ T₇ ⟨rfl, σ₂, hks₂, hAd₂, rfl⟩ hR₃
        rw [List.take_length, ← edges_succ] at hAd₂
        refine wpAny_execs_nil ⟨B₇, _, _, le₇, ⟨rfl, σ₂, hks₂, hAd₂, rfl⟩, ?_⟩
        have R₁₄ := hR₃.keep (rTab needs h.x) ⟨rfl, rfl, rfl, rfl, trivial⟩
        exact R₁₄.perm (List.Perm.append_left _ List.perm_middle)
    · rintro B₆ ρ' R' s₁₀ le₆ T₆ ⟨rfl, σ₁, hks₁, hAd₁, rfl⟩ hR₁
      exact kk h σ₁ s₁₀ B₆ (le5.trans le₆) T₆ hks₁ hAd₁ hR₁
end
end Mine

namespace Mine
theorem npOf_on {σ : St} {j : Int} {f : Nd → Nd} {φ : Int → Int} (hk : ∀ d, (f d).k = d.k) (hφ : ∀ d, (f d).np = φ d.np) (i : Int) : (σ.on j f).npOf i = if i = j ∧ i ∈ σ.keys then φ (σ.npOf i) else σ.npOf i := by
  unfold St.npOf St.on St.keys
  generalize σ.nodes = l
  induction l with
  | nil => simp
  | cons d l ih =>
    simp only [List.map_cons, List.find?_cons]
    by_cases q : d.k = i
    · have h1 : (d.k == i) = true := by simpa using q
      rw [h1]
      by_cases p : d.k = j
      · rw [if_pos p]
        have h2 : ((f d).k == i) = true := by rw [hk]; exact h1
        rw [h2]
        have : i = j := q.symm.trans p
        simp [this, hφ, q, p]
      · rw [if_neg p, h1]
        have : ¬ i = j := fun e => p (q.trans e)
        simp [this]
    · have h1 : (d.k == i) = false := by simpa using q
      rw [h1]
      have h2 : ((if d.k = j then f d else d).k == i) = false := by
        split
        · rw [hk]; exact h1
        · exact h1
      rw [h2]
      rw [ih]
      have : ¬ i = d.k := fun e => q e.symm
      simp [this]
theorem npOf_set {σ : St} {j c : Int} (hj : j ∈ σ.keys) (i : Int) : (σ.on j (Nd.setNp c)).npOf i = if i = j then c else σ.npOf i := by
  rw [npOf_on (f := Nd.setNp c) (φ := fun _ => c) (fun _ => rfl) (fun _ => rfl)]
  by_cases q : i = j
  · subst q; simp [hj]
  · simp [q]
theorem npOf_less {σ : St} {j : Int} (hj : j ∈ σ.keys) (i : Int) : (σ.less j).npOf i = if i = j then σ.npOf i - 1 else σ.npOf i := by
  unfold St.less
  rw [npOf_on (f := fun d => Nd.setNp (d.np - 1) d) (φ := fun x => x - 1) (fun _ => rfl) (fun _ => rfl)]
  by_cases q : i = j
  · subst q; simp [hj]
  · simp [q]
theorem npOf_dec {σ : St} {j : Int} (hj : j ∈ σ.keys) (i : Int) : (σ.dec j).npOf i = if i = j then σ.npOf i - 1 else σ.npOf i := by
  unfold St.dec
  split
  · exact npOf_less hj i
  · exact npOf_less hj i
theorem rd_dec {σ : St} {j : Int} {r : Addr} {xs : List Int} (hj : j ∈ σ.keys) (h : σ.rd = some (r, xs)) : (σ.dec j).rd = some (r, xs ++ (if σ.npOf j = 1 then [j] else [])) := by
  unfold St.dec
  rw [npOf_less hj, if_pos rfl]
  by_cases q : σ.npOf j = 1
  · rw [if_pos (by omega), if_pos q]
    show σ.rd.map _ = _
    rw [h]; rfl
  · rw [if_neg (by omega), if_neg q, List.append_nil]
    exact h
theorem npOf_decs : ∀ (q : List Int) {σ : St}, q.Nodup → (∀ j ∈ q, j ∈ σ.keys) → ∀ i, (q.foldl St.dec σ).npOf i = σ.npOf i - (if i ∈ q then 1 else 0)
  | [], σ, _, _, i => by simp
  | j :: q, σ, hN, hk, i => by
    rw [List.nodup_cons] at hN
    have hj := hk j (by simp)
    rw [List.foldl_cons, npOf_decs q hN.2 (fun x hx => by rw [(dec_same σ j 0).keys]; exact hk x (by simp [hx])), npOf_dec hj]
    by_cases p : i = j
    · subst p
      simp [hN.1]
    · simp [p]
theorem rd_decs {r : Addr} : ∀ (q : List Int) {σ : St} {xs : List Int}, q.Nodup → (∀ j ∈ q, j ∈ σ.keys) → σ.rd = some (r, xs) → (q.foldl St.dec σ).rd = some (r, xs ++ q.filter fun j => σ.npOf j == 1)
  | [], σ, xs, _, _, h => by simpa using h
  | j :: q, σ, xs, hN, hk, h => by
    rw [List.nodup_cons] at hN
    have hj := hk j (by simp)
    rw [List.foldl_cons, rd_decs q hN.2 (fun x hx => by rw [(dec_same σ j 0).keys]; exact hk x (by simp [hx])) (rd_dec hj h)]
    have e : (q.filter fun x => (σ.dec j).npOf x == 1) = q.filter fun x => σ.npOf x == 1 := by
      refine List.filter_congr fun x hx => ?_
      have : ¬ x = j := fun e => hN.1 (e ▸ hx)
      rw [npOf_dec hj, if_neg this]
    rw [e, List.filter_cons]
    by_cases p : σ.npOf j = 1
    · simp [p]
    · simp [p]
/-- what done(k) leaves -/
theorem finish_np {σ : St} {k : Int} {su : List Int} (hN : su.Nodup) (hk : k ∈ σ.keys) (hs : ∀ j ∈ su, j ∈ σ.keys) (hn : k ∉ su) (i : Int) : (σ.finish k su).npOf i = if i = k then -2 else σ.npOf i - (if i ∈ su then 1 else 0) := by
  show (su.foldl St.dec (σ.on k (Nd.setNp (-2)))).npOf i = _
  have hkeys : (σ.on k (Nd.setNp (-2))).keys = σ.keys := on_keys fun _ => rfl
  rw [npOf_decs su hN (fun j hj => by rw [hkeys]; exact hs j hj), npOf_set hk]
  by_cases q : i = k
  · subst q; simp [hn]
  · simp [q]
theorem finish_rd {σ : St} {k : Int} {su xs : List Int} {r : Addr} (hN : su.Nodup) (hk : k ∈ σ.keys) (hs : ∀ j ∈ su, j ∈ σ.keys) (hn : k ∉ su) (h : σ.rd = some (r, xs)) : (σ.finish k su).rd = some (r, xs ++ su.filter fun j => σ.npOf j == 1) := by
  show (su.foldl St.dec (σ.on k (Nd.setNp (-2)))).rd = _
  have hkeys : (σ.on k (Nd.setNp (-2))).keys = σ.keys := on_keys fun _ => rfl
  rw [rd_decs su hN (fun j hj => by rw [hkeys]; exact hs j hj) (show (σ.on k (Nd.setNp (-2))).rd = some (r, xs) from h)]
  have e : (su.filter fun x => (σ.on k (Nd.setNp (-2))).npOf x == 1) = su.filter fun x => σ.npOf x == 1 := by
    refine List.filter_congr fun x hx => ?_
    have : ¬ x = k := fun e => hn (e ▸ hx)
    rw [npOf_set hk, if_neg this]
  rw [e]
theorem outAll_np : ∀ (g : List Int) {σ : St}, (∀ j ∈ g, j ∈ σ.keys) → ∀ i, (σ.outAll g).npOf i = if i ∈ g then -1 else σ.npOf i
  | [], σ, _, i => by simp [St.outAll]
  | j :: g, σ, hk, i => by
    have hj := hk j (by simp)
    show ((σ.on j (Nd.setNp (-1))).outAll g).npOf i = _
    rw [outAll_np g (fun x hx => by rw [show (σ.on j (Nd.setNp (-1))).keys = σ.keys from on_keys fun _ => rfl]; exact hk x (by simp [hx])), npOf_set hj]
    by_cases p : i ∈ g
    · simp [p]
    · by_cases q : i = j
      · simp [q]
      · simp [p, q]
end Mine

namespace Mine
def sucOf (needs : List (List Int)) (k : Int) : List Int := ((List.range 8).filter fun j : Nat => has (nd needs j) k).map fun j : Nat => (j : Int)
theorem row_suc {row : List Int} {k : Int} {j : Nat} (h : row.Nodup) : ((row.map fun x => ((j : Int), x)).filter fun e => e.2 == k).map Prod.fst = if has row k then [(j : Int)] else [] := by
  induction row with
  | nil => rfl
  | cons a l ih =>
    rw [List.nodup_cons] at h
    rw [List.map_cons, List.filter_cons]
    by_cases q : a = k
    · subst q
      have hl : has l a = false := by
        cases p : has l a with
        | false => rfl
        | true => exact absurd (has_iff.mp p) h.1
      have := ih h.2
      rw [hl] at this
      have h2 : has (a :: l) a = true := has_iff.mpr (by simp)
      simp only [beq_self_eq_true, if_true, List.map_cons, h2]
      rw [this]; rfl
    · have h1 : (a == k) = false := by simpa using q
      simp only [h1, Bool.false_eq_true, if_false]
      rw [ih h.2]
      have : has (a :: l) k = has l k := by unfold has; rw [List.any_cons, h1, Bool.false_or]
      rw [this]
theorem suc_eq {needs : List (List Int)} (h8 : Eight needs) (k : Int) : ∀ i, i ≤ 8 → ((edges needs i).filter fun e => e.2 == k).map Prod.fst = ((List.range i).filter fun j : Nat => has (nd needs j) k).map fun j : Nat => (j : Int)
  | 0, _ => rfl
  | i + 1, hi => by
    rw [edges_succ, List.filter_append, List.map_append, suc_eq h8 k i (by omega), row_suc (h8.nodup _ (nd_mem (by rw [h8.len]; omega))), List.range_succ, List.filter_append, List.map_append]
    congr 1
    rw [List.filter_cons]
    cases has (nd needs i) k <;> rfl
theorem mem_suc {needs : List (List Int)} {k j : Int} : j ∈ sucOf needs k ↔ In8 j ∧ k ∈ nd needs j.toNat := by
  unfold sucOf
  rw [List.mem_map]
  constructor
  · rintro ⟨i, hi, rfl⟩
    obtain ⟨h1, h2⟩ := List.mem_filter.mp hi
    have := List.mem_range.mp h1
    exact ⟨⟨by omega, by omega⟩, by simpa using has_iff.mp h2⟩
  · rintro ⟨h1, h2⟩
    exact ⟨j.toNat, List.mem_filter.mpr ⟨List.mem_range.mpr (by have := h1; omega), has_iff.mpr h2⟩, by have := h1; omega⟩
theorem suc_nodup (needs : List (List Int)) (k : Int) : (sucOf needs k).Nodup := by
  unfold sucOf
  exact List.pairwise_map.mpr (List.Pairwise.imp (fun h e => h (by omega)) (List.nodup_range.filter _))
def missN (needs : List (List Int)) (come : List Int) (k : Int) : Nat := ((nd needs k.toNat).filter fun x => !has come x).length
theorem filter_more {row come : List Int} {k : Int} (hN : row.Nodup) (hk : k ∉ come) : (row.filter fun x => !has (come ++ [k]) x).length = (row.filter fun x => !has come x).length - (if k ∈ row then 1 else 0) ∧ (k ∈ row → 0 < (row.filter fun x => !has come x).length) := by
  have hk0 : has come k = false := by
    cases p : has come k with
    | false => rfl
    | true => exact absurd (has_iff.mp p) hk
  induction row with
  | nil => simp
  | cons a l ih =>
    rw [List.nodup_cons] at hN
    obtain ⟨i1, i2⟩ := ih hN.2
    have hx : has (come ++ [k]) a = (has come a || a == k) := by
      unfold has
      rw [List.any_append]
      congr 1
      by_cases q : a = k
      · subst q; simp
      · have h1 : (k == a) = false := by simpa using fun e => q e.symm
        have h2 : (a == k) = false := by simpa using q
        simp [h1, h2]
    rw [List.filter_cons, List.filter_cons, hx]
    by_cases q : a = k
    · subst q
      rw [hk0]
      simp only [beq_self_eq_true, Bool.or_true, Bool.not_true, Bool.false_eq_true, if_false, Bool.not_false, if_true, List.length_cons, List.mem_cons, true_or]
      rw [if_neg hN.1] at i1
      exact ⟨by omega, fun _ => by omega⟩
    · have h1 : (a == k) = false := by simpa using q
      have h2 : ¬ k = a := fun e => q e.symm
      rw [h1, Bool.or_false]
      simp only [List.mem_cons, h2, false_or]
      cases has come a with
      | true => exact ⟨by simpa using i1, by simpa using i2⟩
      | false =>
        simp only [Bool.not_false, if_true, List.length_cons]
        refine ⟨?_, fun _ => by omega⟩
        rw [i1]
        by_cases m : k ∈ l
        · have := i2 m
          simp only [m, if_true]; omega
        · simp only [m, if_false]; omega
theorem missN_more {needs : List (List Int)} (h8 : Eight needs) {come : List Int} {k x : Int} (hx : In8 x) (hk : k ∉ come) : missN needs (come ++ [k]) x = missN needs come x - (if x ∈ sucOf needs k then 1 else 0) ∧ (x ∈ sucOf needs k → 0 < missN needs come x) := by
  have := filter_more (row := nd needs x.toNat) (come := come) (k := k) (h8.nodup _ (nd_mem (by rw [h8.len]; have := hx; omega))) hk
  unfold missN
  have e : (x ∈ sucOf needs k) ↔ k ∈ nd needs x.toNat := ⟨fun h => (mem_suc.mp h).2, fun h => mem_suc.mpr ⟨hx, h⟩⟩
  by_cases q : k ∈ nd needs x.toNat
  · rw [if_pos q] at this
    rw [if_pos (e.mpr q)]
    exact ⟨this.1, fun _ => this.2 q⟩
  · rw [if_neg q] at this
    rw [if_neg fun h => q (e.mp h)]
    exact ⟨this.1, fun h => absurd (e.mp h) q⟩
/-- within a round: come ahead of it, g the ones that are out, p of them taken back -/
structure Mid (needs : List (List Int)) (σ : St) (r : Addr) (come g p ys : List Int) : Prop where
  keys : σ.keys = keys8 8
  rd : σ.rd = some (r, ys)
  su : ∀ d ∈ σ.nodes, d.su = sucOf needs d.k
  fin : σ.fin = (come.length : Int) + p.length
  out : σ.out = (come.length : Int) + g.length
  np2 : ∀ x, x ∈ come ++ p → σ.npOf x = -2
  np1 : ∀ x ∈ g, x ∉ p → σ.npOf x = -1
  np0 : ∀ x, In8 x → x ∉ come → x ∉ g → σ.npOf x = missN needs (come ++ p) x
  mem : ∀ x, x ∈ ys ↔ In8 x ∧ x ∉ come ∧ x ∉ g ∧ missN needs (come ++ p) x = 0
  ysN : ys.Nodup
/-- a round's own facts -/
structure Rnd (needs : List (List Int)) (come g : List Int) : Prop where
  nodup : (come ++ g).Nodup
  in8 : ∀ x ∈ come ++ g, In8 x
  closed : ∀ x ∈ come ++ g, ∀ y ∈ nd needs x.toNat, y ∈ come
  rest : ∀ x, In8 x → x ∉ come → x ∉ g → 0 < missN needs come x
theorem suc_out {needs : List (List Int)} {come g : List Int} (h : Rnd needs come g) {k j : Int} (hk : k ∈ g) (hj : j ∈ sucOf needs k) : In8 j ∧ j ∉ come ∧ j ∉ g := by
  obtain ⟨h1, h2⟩ := mem_suc.mp hj
  have hkc : k ∉ come := fun q => (List.nodup_append.mp h.nodup).2.2 k q k hk rfl
  exact ⟨h1, fun q => hkc (h.closed j (List.mem_append_left _ q) k h2), fun q => hkc (h.closed j (List.mem_append_right _ q) k h2)⟩
end Mine

namespace Mine
/-- the successors stay -/
def SuSame (σ σ' : St) : Prop := ∀ d ∈ σ'.nodes, ∃ c ∈ σ.nodes, d.k = c.k ∧ d.su = c.su
theorem SuSame.refl (σ : St) : SuSame σ σ := fun d hd => ⟨d, hd, rfl, rfl⟩
theorem SuSame.trans {a b c : St} (h : SuSame a b) (h' : SuSame b c) : SuSame a c := fun d hd => let ⟨e, he, x1, x2⟩ := h' d hd; let ⟨f, hf, y1, y2⟩ := h e he; ⟨f, hf, x1.trans y1, x2.trans y2⟩
theorem SuSame.on {σ : St} {j : Int} {f : Nd → Nd} (hk : ∀ d, (f d).k = d.k) (hs : ∀ d, (f d).su = d.su) : SuSame σ (σ.on j f) := by
  intro d hd
  obtain ⟨c, hc, rfl⟩ := List.mem_map.mp hd
  refine ⟨c, hc, ?_⟩
  by_cases q : c.k = j
  · rw [if_pos q]; exact ⟨hk c, hs c⟩
  · rw [if_neg q]; exact ⟨rfl, rfl⟩
theorem SuSame.dec (σ : St) (j : Int) : SuSame σ (σ.dec j) := by
  unfold St.dec
  split
  · exact SuSame.on (f := fun d => d.setNp (d.np - 1)) (fun _ => rfl) fun _ => rfl
  · exact SuSame.on (f := fun d => d.setNp (d.np - 1)) (fun _ => rfl) fun _ => rfl
theorem SuSame.decs : ∀ (q : List Int) (σ : St), SuSame σ (q.foldl St.dec σ)
  | [], σ => SuSame.refl σ
  | j :: q, σ => (SuSame.dec σ j).trans (SuSame.decs q _)
theorem SuSame.finish (σ : St) (k : Int) (su : List Int) : SuSame σ (σ.finish k su) := (SuSame.on (f := Nd.setNp (-2)) (fun _ => rfl) fun _ => rfl).trans (SuSame.decs su _)
theorem SuSame.outAll : ∀ (g : List Int) (σ : St), SuSame σ (σ.outAll g)
  | [], σ => SuSame.refl σ
  | j :: g, σ => (SuSame.on (f := Nd.setNp (-1)) (fun _ => rfl) fun _ => rfl).trans (SuSame.outAll g _)
theorem finish_keys (σ : St) (k : Int) (su : List Int) : (σ.finish k su).keys = σ.keys := ((decs_same 0 su (σ.on k (Nd.setNp (-2)))).keys).trans (on_keys (f := Nd.setNp (-2)) fun _ => rfl)
theorem finish_out (σ : St) (k : Int) (su : List Int) : (σ.finish k su).out = σ.out := (decs_same 0 su (σ.on k (Nd.setNp (-2)))).out
theorem Mid.step {needs : List (List Int)} (h8 : Eight needs) {σ : St} {r : Addr} {come g p ys : List Int} {k : Int} (hr : Rnd needs come g) (hM : Mid needs σ r come g p ys) (hk : k ∈ g) (hkp : k ∉ p) (hp : ∀ x ∈ p, x ∈ g) :
    Mid needs (σ.finish k (sucOf needs k)) r come g (p ++ [k]) (ys ++ (sucOf needs k).filter fun j => σ.npOf j == 1) := by
  have k8 : ∀ x, In8 x → x ∈ σ.keys := fun x hx => by rw [hM.keys]; exact mem_keys8.mpr ⟨hx.1, hx.2⟩
  have hkc : k ∉ come := fun q => (List.nodup_append.mp hr.nodup).2.2 k q k hk rfl
  have hkin := hr.in8 k (List.mem_append_right _ hk)
  have hs : ∀ j ∈ sucOf needs k, j ∈ σ.keys := fun j hj => k8 j (mem_suc.mp hj).1
  have hns : k ∉ sucOf needs k := fun q => (suc_out hr hk q).2.2 hk
  have hkcp : k ∉ come ++ p := fun q => (List.mem_append.mp q).elim hkc hkp
  have np := finish_np (suc_nodup needs k) (k8 k hkin) hs hns
  have mm : ∀ x, In8 x → missN needs (come ++ (p ++ [k])) x = missN needs (come ++ p) x - (if x ∈ sucOf needs k then 1 else 0) ∧ (x ∈ sucOf needs k → 0 < missN needs (come ++ p) x) := fun x hx => by
    rw [← List.append_assoc]
    exact missN_more h8 hx hkcp
  refine ⟨(finish_keys _ _ _).trans hM.keys, finish_rd (suc_nodup needs k) (k8 k hkin) hs hns hM.rd, fun d hd => ?_, ?_, (finish_out _ _ _).trans hM.out, fun x hx => ?_, fun x hx hxp => ?_, fun x h1 h2 h3 => ?_, fun x => ?_, ?_⟩
  · obtain ⟨c, hc, e1, e2⟩ := SuSame.finish σ k (sucOf needs k) d hd
    rw [e2, e1]; exact hM.su c hc
  · show σ.fin + 1 = _
    rw [hM.fin]; simp; omega
  · rw [np]
    by_cases q : x = k
    · rw [if_pos q]
    · rw [if_neg q]
      have hx' : x ∈ come ++ p := by
        rcases List.mem_append.mp hx with a | a
        · exact List.mem_append_left _ a
        · rcases List.mem_append.mp a with b | b
          · exact List.mem_append_right _ b
          · exact absurd (by simpa using b) q
      have hno : x ∉ sucOf needs k := fun z => by
        obtain ⟨_, z1, z2⟩ := suc_out hr hk z
        rcases List.mem_append.mp hx' with a | a
        · exact z1 a
        · exact z2 (hp x a)
      rw [if_neg hno, hM.np2 x hx']; rfl
  · have q : x ≠ k := fun e => hxp (by simp [e])
    have hxp' : x ∉ p := fun e => hxp (List.mem_append_left _ e)
    have hno : x ∉ sucOf needs k := fun z => (suc_out hr hk z).2.2 hx
    rw [np, if_neg q, if_neg hno, hM.np1 x hx hxp']; rfl
  · have q : x ≠ k := fun e => h3 (e ▸ hk)
    rw [np, if_neg q, hM.np0 x h1 h2 h3]
    obtain ⟨m1, m2⟩ := mm x h1
    rw [m1]
    by_cases z : x ∈ sucOf needs k
    · have := m2 z
      simp only [z, if_true]; omega
    · simp only [z, if_false]; omega
  · rw [List.mem_append, hM.mem, List.mem_filter]
    constructor
    · rintro (⟨a, b, c, d⟩ | ⟨a, b⟩)
      · refine ⟨a, b, c, ?_⟩
        rw [(mm x a).1, d]; omega
      · obtain ⟨z1, z2, z3⟩ := suc_out hr hk a
        refine ⟨z1, z2, z3, ?_⟩
        have b' : σ.npOf x = 1 := by simpa using b
        rw [hM.np0 x z1 z2 z3] at b'
        rw [(mm x z1).1, if_pos a]; omega
    · rintro ⟨a, b, c, d⟩
      obtain ⟨m1, m2⟩ := mm x a
      rw [m1] at d
      by_cases z : x ∈ sucOf needs k
      · right
        refine ⟨z, ?_⟩
        have := m2 z
        rw [if_pos z] at d
        rw [hM.np0 x a b c]
        have : missN needs (come ++ p) x = 1 := by omega
        rw [this]; rfl
      · left
        rw [if_neg z] at d
        exact ⟨a, b, c, by omega⟩
  · refine List.nodup_append.mpr ⟨hM.ysN, (suc_nodup needs k).filter _, fun a ha b hb q => ?_⟩
    subst q
    obtain ⟨z1, z2, z3, z4⟩ := (hM.mem a).mp ha
    obtain ⟨_, y⟩ := List.mem_filter.mp hb
    have y' : σ.npOf a = 1 := by simpa using y
    rw [hM.np0 a z1 z2 z3, z4] at y'
    simp at y'
end Mine

namespace Mine
/-- what has come is closed -/
structure Shut (needs : List (List Int)) (come : List Int) : Prop where
  nodup : come.Nodup
  in8 : ∀ x ∈ come, In8 x
  closed : ∀ x ∈ come, ∀ y ∈ nd needs x.toNat, y ∈ come
theorem missN_zero {needs : List (List Int)} {come : List Int} {x : Int} : missN needs come x = 0 ↔ ∀ y ∈ nd needs x.toNat, y ∈ come := by
  unfold missN
  rw [List.length_eq_zero_iff, List.filter_eq_nil_iff]
  constructor
  · intro h y hy
    have := h y hy
    simp at this
    exact has_iff.mp this
  · intro h y hy
    simp [has_iff.mpr (h y hy)]
theorem Rnd.of {needs : List (List Int)} {σ : St} {r : Addr} {come xs : List Int} (hS : Shut needs come) (hM : Mid needs σ r come [] [] xs) : Rnd needs come xs := by
  have mem : ∀ x, x ∈ xs ↔ In8 x ∧ x ∉ come ∧ missN needs come x = 0 := fun x => by
    rw [hM.mem]; simp
  refine ⟨List.nodup_append.mpr ⟨hS.nodup, hM.ysN, fun a ha b hb q => ((mem b).mp hb).2.1 (q ▸ ha)⟩, fun x hx => ?_, fun x hx y hy => ?_, fun x h1 h2 h3 => ?_⟩
  · rcases List.mem_append.mp hx with a | a
    · exact hS.in8 x a
    · exact ((mem x).mp a).1
  · rcases List.mem_append.mp hx with a | a
    · exact hS.closed x a y hy
    · exact missN_zero.mp ((mem x).mp a).2.2 y hy
  · rcases Nat.eq_zero_or_pos (missN needs come x) with z | z
    · exact absurd ((mem x).mpr ⟨h1, h2, z⟩) h3
    · exact z
theorem Shut.more {needs : List (List Int)} {come g : List Int} (h : Rnd needs come g) : Shut needs (come ++ g) :=
  ⟨h.nodup, h.in8, fun x hx y hy => List.mem_append_left _ (h.closed x hx y hy)⟩
/-- a round begins: get_ready twice -/
theorem Mid.start {needs : List (List Int)} {σ : St} {r : Addr} {come xs : List Int} (hM : Mid needs σ r come [] [] xs) : Mid needs ((σ.handed r xs).handed r []) r come xs [] [] := by
  have mem : ∀ x, x ∈ xs ↔ In8 x ∧ x ∉ come ∧ missN needs come x = 0 := fun x => by
    rw [hM.mem]; simp
  have hk : ∀ j ∈ xs, j ∈ σ.keys := fun j hj => by rw [hM.keys]; have := ((mem j).mp hj).1; exact mem_keys8.mpr ⟨this.1, this.2⟩
  have np : ∀ i, ((σ.handed r xs).handed r []).npOf i = if i ∈ xs then -1 else σ.npOf i := fun i => outAll_np xs hk i
  refine ⟨(outAll_rest xs σ).1.trans hM.keys, rfl, fun d hd => ?_, ?_, ?_, fun x hx => ?_, fun x hx _ => ?_, fun x h1 h2 h3 => ?_, fun x => ?_, by simp⟩
  · obtain ⟨c, hc, e1, e2⟩ := SuSame.outAll xs σ d hd
    rw [e2, e1]; exact hM.su c hc
  · show (σ.outAll xs).fin = _
    rw [(outAll_rest xs σ).2.2.2.1, hM.fin]
  · show (σ.out + xs.length) + ((([] : List Int).length : Nat) : Int) = _
    rw [hM.out]; simp
  · have hx' : x ∈ come := by simpa using hx
    rw [np, if_neg fun q => ((mem x).mp q).2.1 hx']
    exact hM.np2 x (by simp [hx'])
  · rw [np, if_pos hx]
  · rw [np, if_neg h3]
    exact hM.np0 x h1 h2 (by simp)
  · constructor
    · intro h; cases h
    · rintro ⟨a, b, c, d⟩
      exact absurd ((mem x).mpr ⟨a, b, by simpa using d⟩) c
/-- a round ends -/
theorem Mid.close {needs : List (List Int)} {σ : St} {r : Addr} {come g ys : List Int} (hM : Mid needs σ r come g g ys) : Mid needs σ r (come ++ g) [] [] ys := by
  refine ⟨hM.keys, hM.rd, hM.su, ?_, ?_, fun x hx => hM.np2 x (by simpa using hx), fun x hx => by simp at hx, fun x h1 h2 _ => ?_, fun x => ?_, hM.ysN⟩
  · rw [hM.fin]; simp
  · rw [hM.out]; simp
  · have := hM.np0 x h1 (fun q => h2 (by simp [q])) (fun q => h2 (by simp [q]))
    simpa using this
  · rw [hM.mem]
    simp only [List.mem_append, List.not_mem_nil, not_false_eq_true, true_and, List.append_nil, not_or, and_assoc]
/-- the ready ones are the next group -/
theorem Mid.group {needs : List (List Int)} {σ : St} {r : Addr} {come xs : List Int} (hM : Mid needs σ r come [] [] xs) : sortI xs = groupOf needs come := by
  refine sortI_eq ?_ ?_
  · refine (List.perm_ext_iff_of_nodup ?_ hM.ysN).mpr fun x => ?_
    · unfold groupOf
      exact List.pairwise_map.mpr (List.Pairwise.imp (fun h e => h (by omega)) (List.nodup_range.filter _))
    · rw [hM.mem]
      unfold groupOf
      rw [List.mem_map]
      constructor
      · rintro ⟨k, hk, rfl⟩
        obtain ⟨h1, h2⟩ := List.mem_filter.mp hk
        have hk8 := List.mem_range.mp h1
        simp only [Bool.and_eq_true] at h2
        refine ⟨⟨by omega, by omega⟩, fun q => by rw [has_iff.mpr q] at h2; simp at h2, by simp, ?_⟩
        unfold missN
        have := h2.2
        rw [List.isEmpty_iff] at this
        simpa using this
      · rintro ⟨a, b, _, d⟩
        refine ⟨x.toNat, List.mem_filter.mpr ⟨List.mem_range.mpr (by have := a; omega), ?_⟩, by have := a; omega⟩
        have e : ((x.toNat : Nat) : Int) = x := by have := a; omega
        rw [e]
        simp only [Bool.and_eq_true]
        refine ⟨?_, ?_⟩
        · cases q : has come x with
          | false => rfl
          | true => exact absurd (has_iff.mp q) b
        · unfold missN at d
          rw [List.append_nil, List.length_eq_zero_iff] at d
          rw [d]; rfl
  · unfold groupOf
    refine List.pairwise_map.mpr (List.Pairwise.imp (fun h => by omega) ((List.pairwise_lt_range).filter _))
end Mine

namespace Mine
theorem edges_row (needs : List (List Int)) (k : Nat) : ∀ i, ((edges needs i).filter fun e => e.1 == (k : Int)).length = if k < i then (nd needs k).length else 0
  | 0 => by simp [edges]
  | i + 1 => by
    rw [edges_succ, List.filter_append, List.length_append, edges_row needs k i]
    by_cases q : k = i
    · subst q
      have : ((nd needs k).map fun j => ((k : Int), j)).filter (fun e => e.1 == (k : Int)) = (nd needs k).map fun j => ((k : Int), j) := List.filter_eq_self.mpr fun e he => by
        obtain ⟨j, _, rfl⟩ := List.mem_map.mp he
        simp
      rw [this, List.length_map, if_neg (Nat.lt_irrefl _), if_pos (Nat.lt_succ_self _), Nat.zero_add]
    · have : ((nd needs i).map fun j => ((i : Int), j)).filter (fun e => e.1 == (k : Int)) = [] := List.filter_eq_nil_iff.mpr fun e he => by
        obtain ⟨j, _, rfl⟩ := List.mem_map.mp he
        have : ¬ ((i : Int) = (k : Int)) := fun e => q (by omega)
        simp [this]
      rw [this, List.length_nil, Nat.add_zero]
      by_cases z : k < i
      · rw [if_pos z, if_pos (by omega)]
      · rw [if_neg z, if_neg (by omega)]
theorem missN_nil (needs : List (List Int)) (x : Int) : missN needs [] x = (nd needs x.toNat).length := by
  unfold missN
  rw [List.filter_eq_self (p := fun x => !has [] x).mpr fun a _ => rfl]
theorem Added.npOf {needs : List (List Int)} {σ : St} (h : Added σ (edges needs 8)) (hk : σ.keys = keys8 8) {x : Int} (hx : In8 x) : σ.npOf x = missN needs [] x := by
  obtain ⟨d, hd, rfl⟩ := mem_keys (σ := σ) (j := x) (by rw [hk]; exact mem_keys8.mpr ⟨hx.1, hx.2⟩)
  rw [npOf_mem (by rw [hk]; exact keys8_nodup _) hd, h.np d hd, missN_nil]
  have := edges_row needs d.k.toNat 8
  have e : ((d.k.toNat : Nat) : Int) = d.k := by have := hx; omega
  rw [e, if_pos (by have := hx; omega)] at this
  rw [this]
theorem Mid.init {needs : List (List Int)} (h8 : Eight needs) {σ : St} {r : Addr} (h : Added σ (edges needs 8)) (hk : σ.keys = keys8 8) : Mid needs (σ.ready r) r [] [] [] σ.free := by
  have hN : σ.keys.Nodup := by rw [hk]; exact keys8_nodup _
  refine ⟨hk, rfl, fun d hd => ?_, by show σ.fin = _; rw [h.fin]; rfl, by show σ.out = _; rw [h.out]; rfl, fun x hx => by simp at hx, fun x hx => by simp at hx, fun x h1 _ _ => h.npOf hk h1, fun x => ?_, ?_⟩
  · rw [h.su d hd, suc_eq h8 d.k 8 (Nat.le_refl _)]; rfl
  · unfold St.free
    rw [List.mem_map]
    constructor
    · rintro ⟨d, hd, rfl⟩
      obtain ⟨h1, h2⟩ := List.mem_filter.mp hd
      have hin : In8 d.k := by
        have : d.k ∈ σ.keys := List.mem_map.mpr ⟨d, h1, rfl⟩
        rw [hk] at this
        exact mem_keys8.mp this
      refine ⟨hin, by simp, by simp, ?_⟩
      have h3 := h.npOf hk hin
      rw [npOf_mem hN h1] at h3
      have h4 : d.np = 0 := by simpa using h2
      rw [h4] at h3
      have : missN needs [] d.k = 0 := by omega
      simpa using this
    · rintro ⟨a, _, _, m⟩
      obtain ⟨d, hd, rfl⟩ := mem_keys (σ := σ) (j := x) (by rw [hk]; exact mem_keys8.mpr ⟨a.1, a.2⟩)
      refine ⟨d, List.mem_filter.mpr ⟨hd, ?_⟩, rfl⟩
      have h3 := h.npOf hk a
      rw [npOf_mem hN hd] at h3
      have m' : missN needs [] d.k = 0 := by simpa using m
      rw [h3, m']; rfl
  · unfold St.free
    unfold St.keys at hN
    exact hN.sublist ((List.filter_sublist).map _)
theorem Added.suc {needs : List (List Int)} (h8 : Eight needs) {σ : St} (h : Added σ (edges needs 8)) (hk : σ.keys = keys8 8) {x : Int} (hx : In8 x) : σ.su x = sucOf needs x := by
  have hN : σ.keys.Nodup := by rw [hk]; exact keys8_nodup _
  obtain ⟨d, hd, rfl⟩ := mem_keys (σ := σ) (j := x) (by rw [hk]; exact mem_keys8.mpr ⟨hx.1, hx.2⟩)
  rw [su_mem hN hd, h.su d hd, suc_eq h8 d.k 8 (Nat.le_refl _)]; rfl
end Mine

namespace Mine
theorem su_all {needs : List (List Int)} (h8 : Eight needs) {σ : St} (h : Added σ (edges needs 8)) (hk : σ.keys = keys8 8) : σ.su = sucOf needs := by
  funext x
  by_cases hx : In8 x
  · exact h.suc h8 hk hx
  · have h1 : σ.su x = [] := by
      unfold St.su
      have : (σ.nodes.find? fun d => d.k == x) = Option.none := List.find?_eq_none.mpr fun d hd q => by
        have e : d.k = x := by simpa using q
        have : x ∈ σ.keys := List.mem_map.mpr ⟨d, hd, e⟩
        rw [hk] at this
        exact hx (mem_keys8.mp this)
      rw [this]; rfl
    have h2 : sucOf needs x = [] := by
      unfold sucOf
      rw [List.map_eq_nil_iff, List.filter_eq_nil_iff]
      intro j hj q
      have hj8 := List.mem_range.mp hj
      exact hx (h8.small _ (nd_mem (by rw [h8.len]; exact hj8)) x (has_iff.mp q))
    rw [h1, h2]
theorem groupOf_congr {needs : List (List Int)} {c c' : List Int} (h : ∀ x, x ∈ c ↔ x ∈ c') : groupOf needs c = groupOf needs c' := by
  have hh : ∀ x, has c x = has c' x := fun x => by
    rw [Bool.eq_iff_iff, has_iff, has_iff]; exact h x
  unfold groupOf
  simp only [hh]
def RunOk (needs : List (List Int)) (ring : Bool) (rounds : List (List Int)) : Prop :=
  rounds.map sortI = roundsL needs ∧ (ring = false → ∃ F, Order (sucOf needs) (keys8 8) F) ∧ (ring = true → ∃ C, Ring (sucOf needs) C)
abbrev TL (g : List Int) : V := .tuple (g.map V.int)
section
variable {w : World} {os : OsState} {n : Nat} {sc : Scope} {ρ : Str → Option V} {Ω : List Item} {A : Around} {env : Env} {B : Bs} {own R : List Item} {s : Shared} {E : Value → Shared → Prop}
theorem no_prepare : typeLookup (.type "object") "prepare" = pure Option.none := by rw [typeLookup_type, builtinLookup_eq_fast]; kernel_rfl
theorem no_active : typeLookup (.type "object") "is_active" = pure Option.none := by rw [typeLookup_type, builtinLookup_eq_fast]; kernel_rfl
theorem no_getready : typeLookup (.type "object") "get_ready" = pure Option.none := by rw [typeLookup_type, builtinLookup_eq_fast]; kernel_rfl
theorem no_done : typeLookup (.type "object") "done" = pure Option.none := by rw [typeLookup_type, builtinLookup_eq_fast]; kernel_rfl
def tryS : Stmt := (bodyOf (fdef 18)).getD 3 (.Pass default)
abbrev pTab (needs : List (List Int)) (x : Addr) (ring : Bool) : List (Str × V) := [("needs", LL needs), ("sorter", .exact (.ref x)), ("rounds", .list []), ("ring", .bool ring)]
/-- try: sorter.prepare() except CycleError: ring = True -/
theorem run_try {needs : List (List Int)} (h8 : Eight needs) {x dx : Addr} {σ : St} {Q : Flow → Shared → Prop} (hAd : Added σ (edges needs 8)) (hks : σ.keys = keys8 8) (F : FnEnv env rSc) (hd : Hd A env) (hA : RmE (n + 4) A env own) (T : TopB w B) (R : Rep w os B (frameI env env.cells (tab (rTab needs x)) ++ (σ.items2 x dx ++ own)) s)
    (kk : ∀ r ring s' B', Le B B' → TopB w B' → (ring = false → ∃ F, Order (sucOf needs) (keys8 8) F) → (ring = true → ∃ C, Ring (sucOf needs) C) → Rep w os B' (frameI env env.cells (tab (pTab needs x ring)) ++ ((σ.ready r).items2 x dx ++ own)) s' → Q .next s') :
    wpAny (model pg w) A (exec tryS env) Q E s := by
  have hN : σ.keys.Nodup := by rw [hks]; exact keys8_nodup _
  have hX : ∀ σ : St, RmE (n + 4) A env (σ.items2 x dx ++ own) := fun σ => hA.app
  have hsu : ∀ d ∈ σ.nodes, ∀ y ∈ d.su, y ∈ σ.keys := fun d hd y hy => by
    rw [hAd.su d hd, suc_eq h8 d.k 8 (Nat.le_refl _)] at hy
    rw [hks]
    exact mem_keys8.mpr (mem_suc.mp hy).1
  refine st_try (os := os) (n := n + 4) (cls := .ref 55) (c := .ref 55) hd
    (fun A' B' own' s₂ Q' E' T' R' h => load_glob F.ok T' R' rfl fun r d => by rw [den_exact.mp d]; exact h)
    (fun A' B' own' e tb s₂ Q' E' T' R' h => ?_) ?_
  · obtain ⟨nm, q, bs, hdct, sn, sub, ab, col, dd, k0, k1, k2, k3, k5, hC⟩ := T'.ce
    obtain ⟨o, ho, hc, _⟩ := R'.has _ (List.mem_cons_self ..)
    obtain ⟨hp, g, d, tk, os'⟩ := s₂
    exact wpAny_excMatches_sub_self (R'.base _ _ hC) ho hc (by decide) h
  refine wpAny_execs_cons (wpAny_Expr_any ?_ (by unfold interactive; rw [F.ok.scope]; rfl))
  refine so_meth0 (f := 92) n_so n_ad F (hX σ) T R rfl rfl rfl rfl rfl no_prepare fun s₁ B₁ l₁ T₁ R₁ => ?_
  refine prepare_ (n := n + 2) hAd.rd hN (by rw [hks]; decide) hsu (hA _) T₁ R₁ (fun r FF s₂ B₂ l₂ T₂ hF R₂ => ?_) (fun r C e s₂ B₂ l₂ T₂ hC hf => ?_)
  · refine wpAny_execs_nil (kk r false s₂ B₂ (l₁.trans l₂) T₂ (fun _ => ⟨FF, by rw [← su_all h8 hAd hks, ← hks]; exact hF⟩) (fun h => nomatch h) (R₂.swap))
  · refine ⟨B₂, frameI env env.cells (tab (rTab needs x)) ++ ((σ.ready r).items2 x dx ++ own), hX _ _, T₂, .inr ?_, fun e' s₃ E' R₃ => ?_⟩
    · obtain ⟨ee, tt, e1, e2⟩ := hf
      refine ⟨ee, tt, e1, e2.perm (List.Perm.cons _ (List.Perm.cons _ ?_))⟩
      rw [← List.append_assoc, ← List.append_assoc]
      exact List.perm_append_comm.append_right own
    · refine wpAny_execs_cons (wpAny_Assign_Name (wpAny_Constant_bool ?_) rfl)
      refine store_rep (v := .bool true) (pre := []) F.fr (F.var (isVar_or (by rfl))) R₃ (den_bool.mpr rfl) fun s₄ R₄ => ?_
      exact wpAny_execs_nil (kk r true s₄ B₂ (l₁.trans l₂) T₂ (fun h => nomatch h) (fun _ => ⟨C, by rw [← su_all h8 hAd hks]; exact hC⟩) (R₄.keep (pTab needs x true) ⟨rfl, rfl, rfl, rfl, trivial⟩))
end
end Mine

namespace Mine
section
variable {w : World} {os : OsState} {n : Nat} {sc : Scope} {ρ : Str → Option V} {Ω : List Item} {A : Around} {env : Env} {B : Bs} {own R : List Item} {s : Shared} {E : Value → Shared → Prop}
def roundBody : List Stmt := match bodyOf (fdef 18) with
  | [_, _, _, _, .While _ b _ _, _] => b
  | _ => []
abbrev wTab (needs : List (List Int)) (x : Addr) (rounds : List (List Int)) (ring : Bool) : List (Str × V) := [("needs", LL needs), ("sorter", .exact (.ref x)), ("rounds", .list (rounds.map TL)), ("ring", .bool ring)]
abbrev gTab' (needs : List (List Int)) (x : Addr) (rounds : List (List Int)) (ring : Bool) (g : List Int) (i : Nat) : List (Str × V) := [("needs", LL needs), ("sorter", .exact (.ref x)), ("rounds", .list (rounds.map TL)), ("ring", .bool ring), ("group", TL g), ("behind", .tuple []), ("active", .list ((List.replicate i true).map V.bool))]
theorem PT.and3 {x y z : Expr} {pos : Pos} (hx : PT w os n Ω sc ρ x true) (hy : PT w os n Ω sc ρ y true) (hz : PT w os n Ω sc ρ z true) : PT w os n Ω sc ρ (.BoolOp .And [x, y, z] pos) true := by
  intro A env B own s E hA T ek sees R
  refine wpAny_isTrue_BoolOp (wpAny_allTrue_And_cons (hx.use hA T ek sees R fun s₁ B₁ l₁ T₁ R₁ => ?_))
  refine wpAny_allTrue_And_cons (hy.use hA T₁ ek sees R₁ fun s₂ B₂ l₂ T₂ R₂ => ?_)
  exact wpAny_allTrue_And_cons (hz.use hA T₂ ek sees R₂ fun s₃ B₃ l₃ T₃ R₃ => wpAny_allTrue_And_nil ⟨B₃, (l₁.trans l₂).trans l₃, R₃, rfl⟩)
theorem mid_len {needs : List (List Int)} {σ : St} {r : Addr} {come g p ys : List Int} (hM : Mid needs σ r come g p ys) : ys.length ≤ 8 := few8 hM.ysN fun x hx => ((hM.mem x).mp hx).1
theorem mid_keys {needs : List (List Int)} {σ : St} {r : Addr} {come g p ys : List Int} (hM : Mid needs σ r come g p ys) : ∀ y ∈ ys, y ∈ σ.keys := fun y hy => by
  rw [hM.keys]; exact mem_keys8.mpr ((hM.mem y).mp hy).1
theorem run_round {needs : List (List Int)} (h8 : Eight needs) {x dx r : Addr} {σ : St} {come xs : List Int} {rounds : List (List Int)} {ring : Bool} {Q : Flow → Shared → Prop} (hM : Mid needs σ r come [] [] xs) (hS : Shut needs come) (hrl : rounds.length ≤ 100) (F : FnEnv env rSc) (hA : RmE (n + 4) A env own) (T : TopB w B)
    (R : Rep w os B (frameI env env.cells (tab (wTab needs x rounds ring)) ++ (σ.items2 x dx ++ own)) s)
    (kk : ∀ σ' ys s' B', Le B B' → TopB w B' → Mid needs σ' r (come ++ xs) [] [] ys → Rep w os B' (frameI env env.cells (tab (wTab needs x (rounds ++ [xs]) ring)) ++ (σ'.items2 x dx ++ own)) s' → Q .next s') :
    wpAny (model pg w) A (execs roundBody env) Q E s := by
  have hsc : env = { env with scope := rSc } := by rw [← F.ok.scope]
  have hX : ∀ σ : St, RmE (n + 4) A env (σ.items2 x dx ++ own) := fun σ => hA.app
  have hR0 := Rnd.of hS hM
  have hN : σ.keys.Nodup := by rw [hM.keys]; exact keys8_nodup _
  have hxl := mid_len hM
  refine wpAny_execs_cons (Assign_Tuple_swapped (names := ["group", "behind", "active"]) (Tuple_ (args_cons (so_meth0 (f := 99) n_so n_ad F (hX σ) T R rfl rfl rfl rfl rfl no_getready fun s₁ B₁ l₁ T₁ R₁ => ?_) rfl)) rfl (by rw [hsc]; rfl))
  refine get_ready (n := n + 3) hM.rd (by omega) hN (mid_keys hM) (hA _) T₁ R₁ fun rt s₂ B₂ l₂ T₂ d₂ R₂ => ?_
  have M1 := hM.start
  refine args_cons (so_meth0 (f := 99) n_so n_ad F (hX _) T₂ R₂.swap rfl rfl rfl rfl rfl no_getready fun s₃ B₃ l₃ T₃ R₃ => ?_) rfl
  refine get_ready (n := n + 3) (σ := σ.handed r xs) (xs := []) rfl (by simp) (by have := (outAll_rest xs σ).1; show (σ.outAll xs).keys.Nodup; rw [this]; exact hN) (fun y hy => by cases hy) (hA _) T₃ R₃ fun rt' s₄ B₄ l₄ T₄ d₄ R₄ => ?_
  refine args_cons (PE.use (v := .list []) (PE.list PEs.nil) (hX _ _) T₄ F.ok F.sees0 R₄.swap fun r₅ s₅ B₅ l₅ T₅ R₅ d₅ => args_nil (wpAny_newObj_type ?_ (Nat.le_of_ble_eq_true rfl))) rfl
  obtain ⟨B₆, l₆, R₆, d₆⟩ := R₅.newTuple s₅.toks (xs := [TL xs, .tuple [], .list []]) (its := #[rt, rt', r₅]) (dens_cons.mpr ⟨_, _, rfl, den.mono ((l₃.trans l₄).trans l₅) _ d₂, dens_cons.mpr ⟨_, _, rfl, den.mono l₅ _ d₄, dens_cons.mpr ⟨_, _, rfl, d₅, dens_nil.mpr rfl⟩⟩⟩)
  refine swap3 (v1 := TL xs) (v2 := .tuple []) (v3 := .list []) F (hX σ (tab (wTab needs x rounds ring))).handled R₆ d₆ (by rfl) (by rfl) (by rfl) fun s₇ R₇ => ?_
  have R₈ := R₇.keep (gTab' needs x rounds ring xs 0) ⟨rfl, rfl, rfl, rfl, rfl, rfl, rfl, trivial⟩
  have T₆ := T₅.mono l₆
  have le6 : Le B B₆ := ((((l₁.trans l₂).trans l₃).trans l₄).trans l₅).trans l₆
  generalize (σ.handed r xs).handed r [] = σ₁ at M1 R₈
  refine wpAny_execs_cons (st_for xs V.int (fun i B' ρ' R' => ρ' = tab (gTab' needs x rounds ring xs i) ∧ ∃ σ' ys, Mid needs σ' r come xs (xs.take i) ys ∧ R' = σ'.items2 x dx ++ own) F (hX _) T₆ R₈ (PI.tuple PE.var) (by rfl)
    (fun B' _ => ⟨rfl, σ₁, [], M1, rfl⟩) ?_ ?_)
  · rintro i k B₇ ρ' R' J s₈ E' hE hk le₇ T₇ ⟨rfl, σ₂, ys, M2, rfl⟩ hR
    have hil : i < xs.length := (List.getElem?_eq_some_iff.mp hk).1
    have hkx : k ∈ xs := List.mem_of_getElem? hk
    have htk : xs.take (i + 1) = xs.take i ++ [k] := by rw [List.take_add_one, hk]; rfl
    have hknt : k ∉ xs.take i := fun q => by
      have h1 : (xs.take (i + 1)).Nodup := (List.take_sublist _ _).nodup hM.ysN
      rw [htk] at h1
      exact (List.nodup_append.mp h1).2.2 k q k (by simp) rfl
    have hyl := mid_len M2
    have hN2 : σ₂.keys.Nodup := by rw [M2.keys]; exact keys8_nodup _
    have hact : σ₂.active ys = true := by
      unfold St.active
      have : σ₂.fin < σ₂.out := by
        rw [M2.fin, M2.out, List.length_take]
        omega
      simp [this]
    have hR' : Rep w os B₇ (frameI env env.cells (upd (tab (gTab' needs x rounds ring xs i)) "k" (V.int k)) ++ (σ₂.items2 x dx ++ (J :: own))) s₈ := hR.perm (List.Perm.append_left _ List.perm_middle.symm)
    have hY : ∀ σ : St, RmE (n + 4) A env (σ.items2 x dx ++ (J :: own)) := fun σ => hA.add.app
    refine wpAny_execs_cons (wpAny_Assign_Name (wpAny_BinOp (PE.use (v := .list ((List.replicate i true).map V.bool)) PE.var (hY σ₂ _) T₇ F.ok F.sees0 hR' fun r₉ s₉ B₉ l₉ T₉ R₉ d₉ => ?_)) rfl)
    refine List_ (args_cons (so_meth0 (f := 106) (own := J :: own) n_so n_ad F (hY σ₂) T₉ R₉ rfl rfl rfl rfl rfl no_active fun s₁₀ B₁₀ l₁₀ T₁₀ R₁₀ => ?_) rfl)
    refine is_active (n := n + 3) M2.rd (by omega) (hA.add _) T₁₀ R₁₀ fun s₁₁ B₁₁ l₁₁ T₁₁ R₁₁ => args_nil (wpAny_newObj_type ?_ (Nat.le_of_ble_eq_true rfl))
    rw [hact]
    obtain ⟨B₁₂, l₁₂, R₁₂, d₁₂⟩ := R₁₁.swap.newList s₁₁.toks (xs := [.bool true]) (its := #[.bool true]) (dens_cons.mpr ⟨_, _, rfl, den_bool.mpr rfl, dens_nil.mpr rfl⟩)
    have lel : Le B₉ B₁₂ := (l₁₀.trans l₁₁).trans l₁₂
    refine wpAny_mono (Bin.addL (w := w) (os := os) (n := n + 4) (xs := (List.replicate i true).map V.bool) (ys := [.bool true]) (by simp; unfold sizeLine; omega) A B₁₂ _ _ r₉ _ E' (hY σ₂ _) (T₁₁.mono l₁₂) R₁₂ (den.mono lel _ d₉) d₁₂) (fun r₁₃ s₁₃ ⟨B₁₃, l₁₃, R₁₃, d₁₃⟩ => ?_) fun _ _ e => e
    refine store_rep (v := .list ((List.replicate i true).map V.bool ++ [.bool true])) (pre := []) F.fr (F.var (isVar_or (by rfl))) R₁₃ d₁₃ fun s₁₄ R₁₄ => ?_
    have T₁₃ : TopB w B₁₃ := (T₁₁.mono l₁₂).mono l₁₃
    -- sorter.done(k)
    obtain ⟨d, hd, hdk⟩ := mem_keys (σ := σ₂) (j := k) (by rw [M2.keys]; exact mem_keys8.mpr (hR0.in8 k (List.mem_append_right _ hkx)))
    subst hdk
    have hnp : d.np = -1 := by
      have := M2.np1 d.k hkx hknt
      rw [npOf_mem hN2 hd] at this; exact this
    have hsu := M2.su d hd
    have hsl : d.su.length ≤ 8 := by rw [hsu]; exact few8 (suc_nodup _ _) fun y hy => (mem_suc.mp hy).1
    refine wpAny_execs_cons (wpAny_Expr_any ?_ (by unfold interactive; rw [F.ok.scope]; rfl))
    refine so_meth1 (f := 120) (own := J :: own) n_so n_ad F (hY σ₂) T₁₃ R₁₄ rfl rfl rfl rfl rfl no_done (PEs.cons (PE.var (v := .int d.k)) PEs.nil) fun rs s₁₅ B₁₅ l₁₅ T₁₅ R₁₅ d₁₅ => ?_
    obtain ⟨rk, rfl, dk⟩ := dens_one d₁₅
    refine done_ (n := n + 3) M2.rd (by omega) hN2 hd hnp (fun y hy => by rw [hsu] at hy; rw [M2.keys]; exact mem_keys8.mpr (mem_suc.mp hy).1) (hA.add _) T₁₅ R₁₅ dk fun s₁₆ B₁₆ l₁₆ T₁₆ R₁₆ => ?_
    rw [hsu] at R₁₆
    have M3 := M2.step h8 hR0 hkx hknt (fun y hy => List.mem_of_mem_take hy)
    rw [← htk] at M3
    refine wpAny_execs_nil ⟨B₁₆, _, _, ((((l₉.trans lel).trans l₁₃).trans l₁₅).trans l₁₆), ⟨rfl, _, _, M3, rfl⟩, ?_⟩
    have R₁₇ := (R₁₆.swap).keep (gTab' needs x rounds ring xs (i + 1)) ⟨rfl, rfl, rfl, rfl, rfl, rfl, by
      show some _ = some _
      rw [List.replicate_succ', List.map_append]; rfl, trivial⟩
    exact R₁₇.perm (List.Perm.append_left _ List.perm_middle)
  · rintro B₇ ρ' R' s₈ le₇ T₇ ⟨rfl, σ₂, ys, M2, rfl⟩ hR
    rw [List.take_length] at M2
    refine wpAny_execs_cons (st_assign (v := .list ((rounds ++ [xs]).map TL)) F (hX σ₂) T₇ hR (PE.ite (b := true) (PT.and3 ?_ ?_ ?_) (fun _ => ?_) (fun h => nomatch h)) (by rfl) fun s₉ B₉ l₉ T₉ R₉ => ?_)
    · exact PT.cmp (PE.callT (id := "type") PE.blt (PEs.cons (PE.var (v := TL xs)) PEs.nil) (Fn.type (T' := "tuple") (fun B s r own R d => by obtain ⟨a, its, m, rfl, b, _⟩ := den_tuple.mp d; exact ⟨_, R.base _ _ b, rfl⟩) (by decide))) (PE.blt (v := .type "tuple")) (Cmp.isP rfl)
    · exact PT.cast' (PT.cmp (PE.var (v := .tuple [])) (PE.tuple PEs.nil) (Cmp.eqK (.tuple .int) ⟨[], rfl, fun _ h => nomatch h⟩ ⟨[], rfl, fun _ h => nomatch h⟩)) rfl
    · exact PT.cast' (PT.cmp (PE.bool (b := false)) (PE.var (v := .list ((List.replicate xs.length true).map V.bool))) Cmp.notInB) (by simp)
    · refine PE.cast (PE.bin (PE.var (v := .list (rounds.map TL))) (PE.list (PEs.cons (PE.var (v := TL xs)) PEs.nil)) (Bin.addL ?_)) ?_
      · simp; unfold sizeLine; omega
      · simp
    · exact wpAny_execs_nil (kk σ₂ ys s₉ B₉ ((le6.trans le₇).trans l₉) T₉ M2.close (R₉.keep (wTab needs x (rounds ++ [xs]) ring) ⟨rfl, rfl, rfl, rfl, trivial⟩))
end
end Mine

namespace Mine
section
variable {w : World} {os : OsState} {n : Nat} {sc : Scope} {ρ : Str → Option V} {Ω : List Item} {A : Around} {env : Env} {B : Bs} {own R : List Item} {s : Shared} {E : Value → Shared → Prop}
theorem groupOf_nil_iff {needs : List (List Int)} {xs come : List Int} (h : sortI xs = groupOf needs come) : (groupOf needs come).isEmpty = xs.isEmpty := by
  rw [← h]
  have := (List.mergeSort_perm xs fun a b => decide (a ≤ b)).length_eq
  unfold sortI
  cases xs with
  | nil =>
    cases q : ([] : List Int).mergeSort fun a b => decide (a ≤ b) with
    | nil => rfl
    | cons b m => rw [q] at this; simp at this
  | cons a l =>
    cases q : (a :: l).mergeSort fun a b => decide (a ≤ b) with
    | nil => rw [q] at this; simp at this
    | cons b m => rfl
theorem run_call {needs : List (List Int)} (h8 : Eight needs) {A : Around} {B : Bs} {own : List Item} {s : Shared} {rs : List Value} {E : Value → Shared → Prop} (hA : Rm (n + 5) A own) (T : TopB w B) (R : Rep w os B own s) (d : dens w B [LL needs] rs) :
    wpAny (model pg w) A (call (.ref 192) rs) (fun r s' => ∃ ring rounds, RunOk needs ring rounds ∧ Post w os B own (.list [.bool ring, .list (rounds.map TL)]) r s') E s := by
  obtain ⟨r0, rfl, d0⟩ := dens_one d
  refine call_gen (n := n + 4) (r := ⟨"_law_run", fdef 18, .none, .none⟩) rfl ["needs"] [LL needs] hA T R (by decide) (fun doc pm cd ct nm E' Q' hq => ?_) (by decide) (by decide) rfl rfl rfl ?_
  · have : bindArgs (mkFd "_law_run" (psOf (fdef 18)) (bodyOf (fdef 18)) (scOf (fdef 18)) .none .none doc pm cd ct nm) ⟨[r0], []⟩ = pure ([(("needs" : Str), r0)]) := by rfl
    exact wpAny_of_eq this (hq _ _ [r0] (Le.refl _) R d)
  intro env s₁ B₁ E' hE le₁ T₁ F hA' R₁
  have hd : Hd (A.deeper env) env := hA.head
  refine run_adds (rest := (bodyOf (fdef 18)).drop 3) h8 F hA' T₁ rfl R₁ fun h σ s₂ B₂ l₂ T₂ hks hAd R₂ => ?_
  obtain ⟨B₃, l₃, T₃, R₃⟩ := phase2 (own := frameI env env.cells (tab (rTab needs h.x)) ++ own) T₂ R₂.swap
  refine wpAny_execs_cons (run_try (n := n) h8 hAd hks F hd hA' T₃ R₃.swap fun r ring s₄ B₄ l₄ T₄ hro hrr R₄ => ?_)
  have M0 : Mid needs (σ.ready r) r [] [] [] σ.free := Mid.init h8 hAd hks
  refine wpAny_execs_cons (st_while (fun m B' ρ' R' => ∃ σ' come comeS xs rounds, Mid needs σ' r come [] [] xs ∧ Shut needs come ∧ (∀ y, y ∈ come ↔ y ∈ comeS) ∧ roundsGo needs m (rounds.map sortI) comeS = roundsL needs ∧ missing comeS < m ∧ rounds.length + m = 9 ∧ ρ' = tab (wTab needs h.x rounds ring) ∧ R' = σ'.items2 h.x h.dx ++ own) 9 T₄ R₄
    ⟨σ.ready r, [], [], σ.free, [], M0, ⟨by simp, (fun _ h => by cases h), (fun _ h => by cases h)⟩, (fun _ => Iff.rfl), (by unfold roundsL; rfl), by decide +kernel, rfl, rfl, rfl⟩ ?_)
  rintro m B₅ ρ₅ R₅ s₅ E₅ l₅ T₅ ⟨σ₅, come, comeS, xs, rounds, M5, hS, hcc, hgo, hmiss, hrl, rfl, rfl⟩ hR₅
  have hX : ∀ σ : St, RmE (n + 4) _ env (σ.items2 h.x h.dx ++ own) := fun σ => hA'.app
  have hxl := mid_len M5
  have hgrp : sortI xs = groupOf needs comeS := M5.group.trans (groupOf_congr hcc)
  refine wpAny_isTrue_value (so_meth0 (f := 106) n_so n_ad F (hX σ₅) T₅ hR₅ rfl rfl rfl rfl rfl no_active fun s₆ B₆ l₆ T₆ R₆ => ?_) rfl
  refine is_active (n := n + 3) M5.rd (by omega) (hA' _) T₆ R₆ fun s₇ B₇ l₇ T₇ R₇ => wpAny_truthy_bool ?_
  have hact : σ₅.active xs = !xs.isEmpty := by
    unfold St.active
    have : ¬ σ₅.fin < σ₅.out := by rw [M5.fin, M5.out]; simp
    simp [this]
  rw [hact]
  obtain ⟨f, rfl⟩ : ∃ f, m = f + 1 := ⟨m - 1, by omega⟩
  have hgo' := hgo
  unfold roundsGo at hgo'
  rw [groupOf_nil_iff hgrp] at hgo'
  have le7 : Le B B₇ := (((le₁.trans l₂).trans (l₃.trans l₄)).trans l₅).trans (l₆.trans l₇)
  cases hxe : xs.isEmpty with
  | true =>
    rw [hxe, if_pos rfl] at hgo'
    simp only [Bool.not_true, Bool.false_eq_true, if_false]
    refine wpAny_execs_nil (wpAny_execs_cons (st_return (v := .list [.bool ring, .list (rounds.map TL)]) F (hX σ₅) T₇ R₇.swap (PE.list (PEs.cons PE.var (PEs.cons PE.var PEs.nil))) fun r₈ s₈ B₈ l₈ T₈ R₈ d₈ => ?_))
    exact ⟨ring, rounds, ⟨hgo', hro, hrr⟩, B₈, le7.trans l₈, R₈.app.app, d₈⟩
  | false =>
    rw [hxe, if_neg (by decide)] at hgo'
    simp only [Bool.not_false, if_true]
    have hge : (groupOf needs comeS).isEmpty = false := by rw [groupOf_nil_iff hgrp, hxe]
    refine run_round (n := n) h8 M5 hS (by omega) F hA' T₇ R₇.swap fun σ' ys s₈ B₈ l₈ T₈ M8 R₈ => ?_
    refine ⟨f, B₈, _, _, Nat.lt_succ_self f, (l₅.trans (l₆.trans l₇)).trans l₈, ⟨σ', come ++ xs, comeS ++ groupOf needs comeS, ys, rounds ++ [xs], M8, Shut.more (Rnd.of hS M5), fun y => ?_, ?_, ?_, ?_, rfl, rfl⟩, R₈⟩
    · rw [List.mem_append, List.mem_append, hcc, ← hgrp]
      unfold sortI
      rw [(List.mergeSort_perm xs _).mem_iff]
    · rw [List.map_append, List.map_cons, List.map_nil, hgrp]; exact hgo'
    · have := missing_less hge; omega
    · simp; omega
end
end Mine

namespace Mine
section
variable {w : World} {os : OsState} {n : Nat} {sc : Scope} {ρ : Str → Option V} {Ω : List Item}
theorem dc_put {A : Around} {B : Bs} {s : Shared} {E : Value → Shared → Prop} {D : Addr} {l : List (Int × V)} {pre post : List Item} {k : Int} {v : V} {rk r : Value} {Q : Unit → Shared → Prop} (T : TopB w B) (R : Rep w os B (pre ++ dcItem D l :: post) s) (dk : den w B (.int k) rk) (d : den w B v r) (hsz : l.length ≤ 1000)
    (kk : ∀ s', Rep w os B (pre ++ dcItem D (storedV l k v) :: post) s' → Q () s') : wpAny (model pg w) A (dictSet D rk r) Q E s := by
  obtain ⟨t, rfl⟩ := den_int.mp dk
  obtain ⟨kvs, hD, dd, _⟩ := dc_at T R (D := D) (l := l) (by simp)
  refine wpAny_dictSet_pairs (knd := kI w) (hsz := by rw [dd.length]; unfold sizeLine; omega) (isKey k t) hD fun h' hD' hs => ?_
  obtain ⟨o, es, ep, ho, h1, h2, h3, h4, h5⟩ := hD'
  exact kk _ (Rep.write (i' := dcItem D (storedV l k v)) R _ (fun b o hb e => hs.extBut b o hb e) rfl ho ⟨_, ⟨es, ep, h1, h2, h3, h4, h5⟩, dd.stored d⟩)
def storeAll (l : List (Int × V)) : List (Int × V) := l.foldl (fun acc p => storedV acc p.1 p.2) []
theorem storeAll_snoc (l : List (Int × V)) (p : Int × V) : storeAll (l ++ [p]) = storedV (storeAll l) p.1 p.2 := by unfold storeAll; rw [List.foldl_append]; rfl
theorem storedV_length (l : List (Int × V)) (k : Int) (v : V) : (storedV l k v).length ≤ l.length + 1 := by
  unfold storedV; split <;> simp
theorem storeAll_length (l : List (Int × V)) : (storeAll l).length ≤ l.length := by
  refine revInd (P := fun l => (storeAll l).length ≤ l.length) (Nat.le_refl _) (fun l x ih => ?_) l
  rw [storeAll_snoc]
  have := storedV_length (storeAll l) x.1 x.2
  simp; omega
/-- the turns of a dict comprehension of one clause, without tests -/
theorem dcomp_loop {α : Type} {kx vx iter : Expr} {t : Str} {px : Pos} {scope : Scope} {pos : Pos} (xs : List α) (emb : α → V) (gk : α → Int) (g : α → V)
    (hk : ∀ x ∈ xs, PE w os n Ω (relabelS scope sc) (seen scope ρ (only t (emb x))) kx (.int (gk x)))
    (hg : ∀ x ∈ xs, PE w os n Ω (relabelS scope sc) (seen scope ρ (only t (emb x))) vx (g x))
    (ht : scope.names.lookup t = some .local ∨ scope.names.lookup t = some .cell) (hsz : xs.length ≤ 500)
    {A : Around} {env : Env} {B : Bs} {own : List Item} {s : Shared} {R : Result → Shared → Prop} {cs cl : List (Str × Addr)} {L I D : Addr} {J : Nat → Item}
    (hA : Rm n A own) (T : TopB w B) (ek : EnvOk env sc) (sees : Sees Ω own env ρ) (C : CompIn scope sc env cs cl) (W : Iter w os B I (xs.map emb) J)
    (hR : Rep w os B (J 0 :: dcItem D [] :: (frameI (compEnv scope env L (cs ++ cl)) cs noV ++ own)) s)
    (k : ∀ s' B' ρ', Le B B' → Rep w os B' (dcItem D (storeAll (xs.map fun x => (gk x, g x))) :: (frameI (compEnv scope env L (cs ++ cl)) cs ρ' ++ own)) s' → R (.ok .next) s') :
    codeAny (model pg w) A (.compLoop (.DictComp kx vx [⟨.Name t px, iter, [], 0⟩] scope pos) 0 (.ref I) (.ref D) (compEnv scope env L (cs ++ cl))) R s := by
  have hkind : (compEnv scope env L (cs ++ cl)).kindOf t = some .local ∨ t ∈ cs.map (·.1) := by
    rcases ht with ht | ht
    · left
      rw [compEnv_kind C.esc, relabelS_names, lookup_map_kind' ht]; rfl
    · right; exact C.all t (mem_of_kinds ht)
  have hdom : ∀ v x, scope.names.lookup x = some .free → only t v x = Option.none := by
    intro v x hx
    unfold only upd
    split
    · rename_i e; subst e
      rcases ht with ht | ht <;> rw [ht] at hx <;> cases hx
    · rfl
  refine codeAny_compLoop_testsD (fun m s' => ∃ i B' ρ', m = xs.length + 1 - i ∧ i ≤ xs.length ∧ Le B B' ∧ (ρ' = noV ∨ ∃ v, ρ' = only t v) ∧
      Rep w os B' (J i :: dcItem D (storeAll ((xs.take i).map fun x => (gk x, g x))) :: (frameI (compEnv scope env L (cs ++ cl)) cs ρ' ++ own)) s') ?_ (xs.length + 1)
    ⟨0, B, noV, rfl, Nat.zero_le _, Le.refl B, .inl rfl, by simpa [storeAll] using hR⟩
  rintro m s' ⟨i, B', ρ', rfl, hi, le, hρ, R'⟩
  rcases Nat.lt_or_ge i xs.length with hlt | hge
  · have hx : (xs.map emb)[i]? = some (emb xs[i]) := by simp [hlt]
    have hmem : xs[i] ∈ xs := List.getElem_mem _
    have htake : xs.take (i + 1) = xs.take i ++ [xs[i]] := by rw [List.take_add_one]; simp [hlt]
    refine W.next i _ A B' _ s' _ _ hx hA.handled le R' fun r s₁ d R₁ => ?_
    have hupd : upd ρ' t (emb xs[i]) = only t (emb xs[i]) := by
      rcases hρ with rfl | ⟨v, rfl⟩
      · rfl
      · exact upd_only
    refine assign_rep (pre := [J (i + 1), dcItem D (storeAll ((xs.take i).map fun x => (gk x, g x)))]) (C.frOk L) hkind (by simpa using R₁) d fun s₂ R₂ => ?_
    rw [hupd] at R₂
    have S₂ := C.sees (ρ := ρ) L (pre := [J (i + 1), dcItem D (storeAll ((xs.take i).map fun x => (gk x, g x)))]) sees (hdom (emb xs[i]))
    refine wpAny_tests_nil ?_
    rw [if_pos rfl]
    refine (hk xs[i] hmem).use (hA.more fun i hi => by simp [hi]) (T.mono le) (C.envOk ek L) S₂ R₂ fun rk s₃ B₃ l₃ T₃ R₃ d₃ => ?_
    refine (hg xs[i] hmem).use (hA.more fun i hi => by simp [hi]) T₃ (C.envOk ek L) S₂ R₃ fun rv s₄ B₄ l₄ T₄ R₄ d₄ => ?_
    have hlen : (storeAll ((xs.take i).map fun x => (gk x, g x))).length ≤ 1000 := by
      have := storeAll_length ((xs.take i).map fun x => (gk x, g x))
      rw [List.length_map, List.length_take] at this
      omega
    have R₅ : Rep w os B₄ ([J (i + 1)] ++ dcItem D (storeAll ((xs.take i).map fun x => (gk x, g x))) :: (frameI (compEnv scope env L (cs ++ cl)) cs (only t (emb xs[i])) ++ own)) s₄ := by simpa using R₄
    refine dc_put T₄ R₅ (den.mono l₄ _ d₃) d₄ hlen fun s₅ R₆ => ?_
    refine ⟨xs.length + 1 - (i + 1), by omega, i + 1, B₄, only t (emb xs[i]), rfl, hlt, (le.trans l₃).trans l₄, .inr ⟨emb xs[i], rfl⟩, ?_⟩
    rw [htake, List.map_append, List.map_cons, List.map_nil, storeAll_snoc]
    exact R₆
  · have hi' : i = xs.length := by omega
    subst hi'
    rw [List.take_length] at R'
    refine W.done A B' _ s' _ _ hA.handled le (by simpa using R') fun s₁ R₁ => ?_
    exact k s₁ B' ρ' le R₁
/-- a dict comprehension of one clause, without tests -/
theorem PE.dcomp {α : Type} {kx vx iter : Expr} {t : Str} {px : Pos} {scope : Scope} {pos : Pos} (xs : List α) (emb : α → V) (gk : α → Int) (g : α → V)
    (hi : PI w os n Ω sc ρ iter (xs.map emb))
    (hk : ∀ x ∈ xs, PE w os n Ω (relabelS scope sc) (seen scope ρ (only t (emb x))) kx (.int (gk x)))
    (hg : ∀ x ∈ xs, PE w os n Ω (relabelS scope sc) (seen scope ρ (only t (emb x))) vx (g x))
    (hsz : xs.length ≤ 500) (ht : scope.names.lookup t = some .local ∨ scope.names.lookup t = some .cell) (hok : compOk scope sc ρ = true)
    (hs : ∀ env x, foldedSetIterable iter env x = pure x := by intro _ _; rfl) :
    PE w os n Ω sc ρ (.DictComp kx vx [⟨.Name t px, iter, [], 0⟩] scope pos) (.dict ((storeAll (xs.map fun x => (gk x, g x))).map (·.1)) ((storeAll (xs.map fun x => (gk x, g x))).map (·.2))) := by
  intro A env B own s E hA T ek sees R
  obtain ⟨o1, o2, o3⟩ := compOk_parts hok
  rw [arm_eval_DictComp]
  refine wpAny_comprehension_free (use := Option.none) (cl := clGo env.cells scope.names []) rfl (hs env) (closure_is fun x hx => cells_of_sees sees ek.scope (o2 x hx).1 (o2 x hx).2) o1 (hnames_of o3) ?_
  refine hi A env B own s E _ hA T ek sees R fun s₂ B₂ I J l₂ W R₂ => ?_
  refine wpAny_newObj_type ?_
  have R₃ := R₂.new (dcItem s₂.heap.objs.size []) s₂.toks (fun b o e => Heap.get?_push_of_some _ e) (get?_size _) (Heap.get?_push_size _ rfl) (o := { cls := .type "dict", data := .dict #[] }) (by
    obtain ⟨o, es, ep, h0, h1, h2, h3, h4, h5⟩ := Heap.DictOf.new (knd := kI w) s₂.heap
    rw [Heap.get?_push_size _ rfl] at h0; cases h0
    exact ⟨[], ⟨es, ep, h1, h2, h3, h4, h5⟩, rfl⟩)
  refine newEnv_rep R₃ o3 fun L cs s₄ c1 c2 c3 R₄ => ?_
  have C : CompIn scope sc env cs (clGo env.cells scope.names []) := ⟨c1, c2, c3, o3, o1, ek.scope, fun x c hx hc => clGo_lookup hx hc, fun x hx => (o2 x hx).1⟩
  have R₅ : Rep w os B₂ (J 0 :: dcItem s₂.heap.objs.size [] :: (frameI (compEnv scope env L (cs ++ clGo env.cells scope.names [])) cs noV ++ own)) s₄ := by
    refine R₄.perm ?_
    rw [frame_new (L := L)]
    simp only [List.cons_append]
    show (nsItem L _ :: (cellsI cs _ ++ dcItem _ [] :: J 0 :: own)).Perm (J 0 :: dcItem _ [] :: nsItem L _ :: (cellsI cs _ ++ own))
    refine List.Perm.trans (List.Perm.cons _ (List.perm_middle.trans (List.Perm.cons _ List.perm_middle))) ?_
    refine (List.Perm.swap _ _ _).trans ?_
    refine (List.Perm.cons _ (List.Perm.swap _ _ _)).trans ?_
    exact List.Perm.swap _ _ _
  have fin : codeAny (model pg w) A (.compLoop (.DictComp kx vx [⟨.Name t px, iter, [], 0⟩] scope pos) 0 (.ref I) (.ref s₂.heap.objs.size) (compEnv scope env L (cs ++ clGo env.cells scope.names []))) (compPost (model pg w) A E Option.none (Post w os B own (.dict ((storeAll (xs.map fun x => (gk x, g x))).map (·.1)) ((storeAll (xs.map fun x => (gk x, g x))).map (·.2)))) (.ref s₂.heap.objs.size) L) s₄ := by
    refine dcomp_loop xs emb gk g hk hg ht hsz hA (T.mono l₂) ek (cs := cs) (L := L) sees C W R₅ fun s' B' ρ' l' R' => ?_
    have R1 : Rep w os B' (nsItem L (locOf (compEnv scope env L (cs ++ clGo env.cells scope.names [])) ρ') :: dcItem s₂.heap.objs.size (storeAll (xs.map fun x => (gk x, g x))) :: (cellsI cs ρ' ++ own)) s' := R'.perm (List.Perm.swap _ _ _)
    obtain ⟨es, hns, _⟩ := nsItem_ns R1 (List.mem_cons_self ..)
    refine ⟨_, hns, fun h' hs => ?_⟩
    have R2 := R1.drop0 (h' := h') s'.toks (fun b o hb e => hs.extBut b o hb e)
    have R3 : Rep w os B' (dcItem s₂.heap.objs.size (storeAll (xs.map fun x => (gk x, g x))) :: own) { s' with heap := h' } := R2.sub (List.Sublist.cons_cons _ (List.sublist_append_right ..))
    obtain ⟨o, ho, ⟨kvs, hp, dk⟩, R4⟩ := R3.freeze
    have hn := R3.off (dcItem s₂.heap.objs.size (storeAll (xs.map fun x => (gk x, g x)))) (by simp)
    obtain ⟨_, _, _, z⟩ := dc_at (D := s₂.heap.objs.size) (T.mono (l₂.trans l')) R3 (List.mem_cons_self ..)
    refine ⟨_, (l₂.trans l').trans (Le.put hn), R4, den_dict.mpr ⟨_, o, kvs, rfl, Bs.put_self .., hp, dk.keys, (dk.mono (Le.put hn)).vals, z⟩⟩
  exact codeAny_compStart_dict fin (W.self 0 A B₂ _ s₄ _ _ R₅ fin)
end
end Mine

namespace Mine
theorem turn_two0 (elt t1 i1 t2 i2 : Expr) (scope : Scope) (pos : Pos) (it acc : Value) (env : Env) :
    compTurn (.ListComp elt [⟨t1, i1, [], 0⟩, ⟨t2, i2, [], 0⟩] scope pos) 0 it acc env = (do
      standAt i1.pos
      match ← pyNext it with
      | none => pure (.done .next)
      | some v =>
        letOwnedTupleGo t1 it v
        assign t1 env v
        let x ← eval i2 env
        standAt i2.pos
        let x ← foldedSetIterable i2 env x
        let _ ← runOwn (.compStart (.ListComp elt [⟨t1, i1, [], 0⟩, ⟨t2, i2, [], 0⟩] scope pos) 1 (← holding [x] (pyIter x)) acc env) env
        again (.compLoop (.ListComp elt [⟨t1, i1, [], 0⟩, ⟨t2, i2, [], 0⟩] scope pos) 0 it acc env)) := by rfl
theorem turn_two1 (elt t1 i1 t2 i2 : Expr) (scope : Scope) (pos : Pos) (it acc : Value) (env : Env) :
    compTurn (.ListComp elt [⟨t1, i1, [], 0⟩, ⟨t2, i2, [], 0⟩] scope pos) 1 it acc env = (standAt i2.pos >>= fun _ => pyNext it >>= fun r => match r with
      | none => pure (.done .next)
      | some v => letOwnedTupleGo t2 it v >>= fun _ => assign t2 env v >>= fun _ =>
        (eval elt env >>= fun x => call (.builtin "list.append") [acc, x] >>= fun _ => pure ()) >>= fun _ =>
          again (.compLoop (.ListComp elt [⟨t1, i1, [], 0⟩, ⟨t2, i2, [], 0⟩] scope pos) 1 it acc env)) := by rfl
section
variable {w : World} {A : Around} {R : Result → Shared → Prop} {s : Shared}
theorem two1_loop {elt t1 i1 t2 i2 : Expr} {scope : Scope} {pos : Pos} {it acc : Value} {env : Env} (I : Nat → Shared → Prop)
    (turn : ∀ n s, I n s → wpAny (model pg w) A (pyNext it) (fun r s₁ => match r with
      | none => R (.ok .next) s₁
      | some v => wpAny (model pg w) A (assign t2 env v) (fun _ s₂ => wpAny (model pg w) A (eval elt env) (fun x s₃ =>
          wpAny (model pg w) A (call (.builtin "list.append") [acc, x]) (fun _ s₄ => ∃ m, m < n ∧ I m s₄) (notedBy (model pg w) A env fun e s' => R (.error e) s') s₃) (notedBy (model pg w) A env fun e s' => R (.error e) s') s₂) (notedBy (model pg w) A env fun e s' => R (.error e) s') s₁) (notedBy (model pg w) A env fun e s' => R (.error e) s') s)
    (n : Nat) (h : I n s) (ht : ∀ v, letOwnedTupleGo t2 it v = pure () := by intro _; rfl) :
    codeAny (model pg w) A (.compLoop (.ListComp elt [⟨t1, i1, [], 0⟩, ⟨t2, i2, [], 0⟩] scope pos) 1 it acc env) R s := by
  refine codeAny_loop rfl I (fun n s hI => ?_) n h
  show wpAny _ A ((compTurn (.ListComp elt [⟨t1, i1, [], 0⟩, ⟨t2, i2, [], 0⟩] scope pos) 1 it acc env).onRaise (fun x => do noteFrame x env; theTreesLotGoes x)) _ _ s
  refine wpAny_noted ?_
  rw [turn_two1]
  refine wpAny_bind (wpAny_standAt (wpAny_bind (wpAny_mono (turn n s hI) (fun r s₁ h₁ => ?_) fun _ _ h' => h')))
  cases r with
  | none => exact wpAny_pure h₁
  | some v =>
    refine wpAny_bind (wpAny_of_eq (ht v) ?_)
    refine wpAny_bind (wpAny_mono h₁ (fun _ s₂ h₂ => ?_) fun _ _ h' => h')
    exact wpAny_bind (wpAny_bind (wpAny_mono h₂ (fun x s₄ h₄ => wpAny_bind (wpAny_mono h₄ (fun _ s₅ h₅ => wpAny_pure (wpAny_pure ⟨rfl, h₅⟩)) fun _ _ h' => h')) fun _ _ h' => h'))
theorem two_start1 {elt t1 i1 t2 i2 : Expr} {scope : Scope} {pos : Pos} {it acc : Value} {env : Env}
    (h0 : codeAny (model pg w) A (.compLoop (.ListComp elt [⟨t1, i1, [], 0⟩, ⟨t2, i2, [], 0⟩] scope pos) 1 it acc env) R s)
    (h : wpAny (model pg w) A (pyIter it) (fun it' s' => codeAny (model pg w) A (.compLoop (.ListComp elt [⟨t1, i1, [], 0⟩, ⟨t2, i2, [], 0⟩] scope pos) 1 it' acc env) R s')
      (notedBy (model pg w) A env fun x s' => R (.error x) s') s) :
    codeAny (model pg w) A (.compStart (.ListComp elt [⟨t1, i1, [], 0⟩, ⟨t2, i2, [], 0⟩] scope pos) 1 it acc env) R s := by
  refine codeAny_of_tree ?_
  show wpAny _ _ ((compStart (.ListComp elt [⟨t1, i1, [], 0⟩, ⟨t2, i2, [], 0⟩] scope pos) 1 it acc env).onRaise (fun x => do noteFrame x env; standAt theWindowsPlace)) _ _ s
  refine wpAny_notedAt ?_
  unfold compStart
  show wpAny _ _ (ask >>= _) _ _ s
  refine wpAny_bind (wpAny_askSetting (wpAny_ite ?_))
  split
  · first
      | exact wpAny_bind (wpAny_pure (wpAny_pure (And.intro rfl h0)))
      | exact wpAny_pure (And.intro rfl h0)
  · first
      | exact wpAny_bind (wpAny_rule (wpAny_bind (wpAny_standAt (wpAny_bind (wpAny_mono h (fun it' s' h' => wpAny_pure (And.intro rfl h')) fun _ _ x => x)))))
      | (refine wpAny_bind (wpAny_rule ?_); show wpAny _ _ (standAt i2.pos >>= _) _ _ s; exact wpAny_bind (wpAny_standAt (wpAny_bind (wpAny_mono h (fun it' s' h' => wpAny_pure (And.intro rfl h')) fun _ _ x => x))))
theorem two0_loop {elt t1 i1 t2 i2 : Expr} {scope : Scope} {pos : Pos} {it acc : Value} {env : Env} (I : Nat → Shared → Prop)
    (turn : ∀ n s (E' : Value → Shared → Prop), I n s → wpAny (model pg w) A (pyNext it) (fun r s₁ => match r with
      | none => R (.ok .next) s₁
      | some v => wpAny (model pg w) A (assign t1 env v) (fun _ s₂ => wpAny (model pg w) A (eval i2 env) (fun x s₃ => wpAny (model pg w) A (pyIter x) (fun it' s₄ =>
          codeAny (model pg w) A (.compStart (.ListComp elt [⟨t1, i1, [], 0⟩, ⟨t2, i2, [], 0⟩] scope pos) 1 it' acc env) (fun r s₅ => match r with | .ok _ => ∃ m, m < n ∧ I m s₅ | .error e => cameBackBy (model pg w) A env E' e s₅) s₄) E' s₃) E' s₂) E' s₁) E' s)
    (n : Nat) (h : I n s) (ht : ∀ v, letOwnedTupleGo t1 it v = pure () := by intro _; rfl) (hf : ∀ x, foldedSetIterable i2 env x = pure x := by intro _; rfl) :
    codeAny (model pg w) A (.compLoop (.ListComp elt [⟨t1, i1, [], 0⟩, ⟨t2, i2, [], 0⟩] scope pos) 0 it acc env) R s := by
  refine codeAny_loop rfl I (fun n s hI => ?_) n h
  show wpAny _ A ((compTurn (.ListComp elt [⟨t1, i1, [], 0⟩, ⟨t2, i2, [], 0⟩] scope pos) 0 it acc env).onRaise (fun x => do noteFrame x env; theTreesLotGoes x)) _ _ s
  refine wpAny_noted ?_
  rw [turn_two0]
  refine wpAny_bind (wpAny_standAt (wpAny_bind (wpAny_mono (turn n s _ hI) (fun r s₁ h₁ => ?_) fun _ _ h' => h')))
  cases r with
  | none => exact wpAny_pure h₁
  | some v =>
    refine wpAny_bind (wpAny_of_eq (ht v) ?_)
    refine wpAny_bind (wpAny_mono h₁ (fun _ s₂ h₂ => ?_) fun _ _ h' => h')
    refine wpAny_bind (wpAny_mono h₂ (fun x s₃ h₃ => wpAny_bind (wpAny_standAt (wpAny_bind (wpAny_of_eq (hf x) ?_)))) fun _ _ h' => h')
    refine wpAny_bind (wpAny_holding (wpAny_mono h₃ (fun it' s₄ h₄ => ?_) fun _ _ h' => h'))
    refine wpAny_bind (wpAny_runOwn (h := Option.none) (codeAny_mono h₄ fun r s₅ h₅ => ?_))
    cases r with
    | ok f => exact wpAny_pure ⟨rfl, h₅⟩
    | error e => exact h₅
end
end Mine

namespace Mine
/-- what is kept of one thing: the thing, its row, its octet -/
structure Ent where
  k : Int
  row : List Int
  oct : Int
def rowOf (S : List Ent) (j : Int) : List Int := ((S.find? fun e => e.k == j).map Ent.row).getD []
def octOf (S : List Ent) (j : Int) : Int := ((S.find? fun e => e.k == j).map Ent.oct).getD 0
def rowUp (needs : List (List Int)) (S : List Ent) (k : Nat) (l : List Int) : List Int := nd needs k ++ l.flatMap fun j => dedupL (rowOf S j)
def octUp (S : List Ent) (l : List Int) : Int := l.foldl (fun c j => Builtin.bitOr (Builtin.bitOr c (octOf S j)) (2 ^ j.toNat)) 0
def keep1 (needs : List (List Int)) (S : List Ent) (k : Int) : List Ent := S ++ [⟨k, rowUp needs S k.toNat (nd needs k.toNat), octUp S (nd needs k.toNat)⟩]
def keepAll (needs : List (List Int)) (ks : List Int) : List Ent := ks.foldl (keep1 needs) []
def rowsD (S : List Ent) : List (Int × V) := S.map fun e => (e.k, IL e.row)
def octsD (S : List Ent) : List (Int × V) := S.map fun e => (e.k, .int e.oct)
theorem keepAll_snoc (needs : List (List Int)) (ks : List Int) (k : Int) : keepAll needs (ks ++ [k]) = keep1 needs (keepAll needs ks) k := by unfold keepAll; rw [List.foldl_append]; rfl
theorem keepAll_keys (needs : List (List Int)) (ks : List Int) : (keepAll needs ks).map Ent.k = ks := by
  refine revInd (P := fun ks => (keepAll needs ks).map Ent.k = ks) rfl (fun ks k ih => ?_) ks
  rw [keepAll_snoc]; unfold keep1; rw [List.map_append, ih]; rfl
theorem look_d (g : Ent → V) : ∀ (S : List Ent) (j : Int), (S.map fun e => (e.k, g e)).lookup j = (S.find? fun e => e.k == j).map g
  | [], _ => rfl
  | e :: S, j => by
    rw [List.map_cons, List.lookup_cons, List.find?_cons]
    by_cases q : j = e.k
    · subst q; simp
    · have h1 : (j == e.k) = false := by simpa using q
      have h2 : (e.k == j) = false := by simpa using fun h => q h.symm
      rw [h1, h2]; exact look_d g S j
theorem find_key {S : List Ent} {j : Int} (h : j ∈ S.map Ent.k) : ∃ e ∈ S, (S.find? fun e => e.k == j) = some e := by
  obtain ⟨e, he, rfl⟩ := List.mem_map.mp h
  cases q : S.find? fun x => x.k == e.k with
  | some x => exact ⟨x, List.mem_of_find?_eq_some q, rfl⟩
  | none => have := List.find?_eq_none.mp q e he; simp at this
theorem find_nokey {S : List Ent} {j : Int} (h : j ∉ S.map Ent.k) : (S.find? fun e => e.k == j) = Option.none :=
  List.find?_eq_none.mpr fun e he q => h (List.mem_map.mpr ⟨e, he, by simpa using q⟩)
theorem rows_look {S : List Ent} {e : Ent} {j : Int} (h : j ∈ S.map Ent.k) : (rowsD (S ++ [e])).lookup j = some (IL (rowOf S j)) := by
  obtain ⟨x, _, q⟩ := find_key h
  unfold rowsD rowOf; rw [look_d (fun e => IL e.row), List.find?_append, q]; rfl
theorem octs_look {S : List Ent} {e : Ent} {j : Int} (h : j ∈ S.map Ent.k) : (octsD (S ++ [e])).lookup j = some (.int (octOf S j)) := by
  obtain ⟨x, _, q⟩ := find_key h
  unfold octsD octOf; rw [look_d (fun e => .int e.oct), List.find?_append, q]; rfl
theorem rows_last {S : List Ent} {e : Ent} (h : e.k ∉ S.map Ent.k) : (rowsD (S ++ [e])).lookup e.k = some (IL e.row) := by
  unfold rowsD; rw [look_d (fun e => IL e.row), List.find?_append, find_nokey h]; simp
theorem octs_last {S : List Ent} {e : Ent} (h : e.k ∉ S.map Ent.k) : (octsD (S ++ [e])).lookup e.k = some (.int e.oct) := by
  unfold octsD; rw [look_d (fun e => .int e.oct), List.find?_append, find_nokey h]; simp
theorem store_new (g : Ent → V) {S : List Ent} {k : Int} {v : V} (h : k ∉ S.map Ent.k) : storedV (S.map fun e => (e.k, g e)) k v = (S.map fun e => (e.k, g e)) ++ [(k, v)] := by
  refine storedV_new ?_
  rw [look_d, find_nokey h]; rfl
theorem store_last (g : Ent → V) {S : List Ent} {k : Int} {u v : V} (h : k ∉ S.map Ent.k) : storedV ((S.map fun e => (e.k, g e)) ++ [(k, u)]) k v = (S.map fun e => (e.k, g e)) ++ [(k, v)] := by
  unfold storedV
  rw [if_pos (by rw [List.any_append]; simp)]
  rw [List.map_append]
  congr 1
  · rw [List.map_map]
    refine List.map_congr_left fun e he => ?_
    have : e.k ≠ k := fun q => h (List.mem_map.mpr ⟨e, he, q⟩)
    simp [this]
  · simp
/-- the order in which things come: each once, its needs ahead -/
def Good (needs : List (List Int)) (ks : List Int) : Prop := ∀ l k r, ks = l ++ k :: r → In8 k ∧ k ∉ l ∧ ∀ j ∈ nd needs k.toNat, j ∈ l
theorem Good.nodup {needs : List (List Int)} {ks : List Int} (h : Good needs ks) : ks.Nodup := by
  have : ∀ l, (∃ r, ks = l ++ r) → l.Nodup := fun l => revInd (P := fun l => (∃ r, ks = l ++ r) → l.Nodup) (fun _ => List.nodup_nil) (fun l x ih ⟨r, hr⟩ => by
    have hr' : ks = l ++ x :: r := by simpa using hr
    refine List.nodup_append.mpr ⟨ih ⟨_, hr'⟩, by simp, fun a ha b hb => ?_⟩
    obtain rfl := List.mem_singleton.mp hb
    exact fun q => (h l b r hr').2.1 (q ▸ ha)) l
  exact this ks ⟨[], by simp⟩
theorem Good.len {needs : List (List Int)} {ks : List Int} (h : Good needs ks) : ks.length ≤ 8 := few8 h.nodup fun x hx => by
  obtain ⟨l, r, e⟩ := List.append_of_mem hx
  exact (h l x r e).1
theorem dedupL_mem (ns : List Int) (x : Int) : x ∈ dedupL ns ↔ x ∈ ns := by
  refine revInd (P := fun ns => ∀ x, x ∈ dedupL ns ↔ x ∈ ns) (fun x => Iff.rfl) (fun ns t ih x => ?_) ns x
  rw [dedupL_snoc]
  split
  · rename_i h
    have ht : t ∈ ns := (ih t).mp (has_iff.mp h)
    rw [ih, List.mem_append]
    constructor
    · exact .inl
    · rintro (h | h)
      · exact h
      · obtain rfl := List.mem_singleton.mp h; exact ht
  · rw [List.mem_append, List.mem_append, ih]
theorem dedupL_nodup (ns : List Int) : (dedupL ns).Nodup := by
  refine revInd (P := fun ns => (dedupL ns).Nodup) List.nodup_nil (fun ns t ih => ?_) ns
  rw [dedupL_snoc]
  split
  · exact ih
  · rename_i h
    refine List.nodup_append.mpr ⟨ih, by simp, fun a ha b hb q => ?_⟩
    obtain rfl := List.mem_singleton.mp hb
    exact h (has_iff.mpr (q ▸ ha))
/-- rows hold none but the eight; they are short -/
structure Rows8 (S : List Ent) : Prop where
  small : ∀ e ∈ S, ∀ x ∈ e.row, In8 x
  short : ∀ e ∈ S, e.row.length ≤ 100
  oct : ∀ e ∈ S, 0 ≤ e.oct ∧ e.oct < 256
theorem bitOr_nat (a b : Nat) : Builtin.bitOr (a : Int) (b : Int) = ((a ||| b : Nat) : Int) := by
  have h1 : ∀ a : Nat, decide (0 ≤ Builtin.bitNot (a : Int)) = false := fun a => by unfold Builtin.bitNot; exact decide_eq_false (by omega)
  have h2 : ∀ a : Nat, (Builtin.bitNot (Builtin.bitNot (a : Int))).toNat = a := fun a => by unfold Builtin.bitNot; omega
  unfold Builtin.bitOr Builtin.bitAnd
  rw [h1, h1]
  dsimp only
  rw [h2, h2]
  unfold Builtin.bitNot; omega
/-- a bit of an octet -/
def bit (o : Int) (x : Int) : Bool := o.toNat.testBit x.toNat
theorem octUp_snoc (S : List Ent) (l : List Int) (j : Int) : octUp S (l ++ [j]) = Builtin.bitOr (Builtin.bitOr (octUp S l) (octOf S j)) (2 ^ j.toNat) := by unfold octUp; rw [List.foldl_append]; rfl
theorem rowUp_snoc (needs : List (List Int)) (S : List Ent) (k : Nat) (l : List Int) (j : Int) : rowUp needs S k (l ++ [j]) = rowUp needs S k l ++ dedupL (rowOf S j) := by unfold rowUp; rw [List.flatMap_append]; simp
theorem Rows8.octOf {S : List Ent} (h : Rows8 S) (j : Int) : 0 ≤ octOf S j ∧ octOf S j < 256 := by
  unfold Mine.octOf
  cases q : S.find? fun e => e.k == j with
  | none => exact ⟨by simp, by simp⟩
  | some e => exact h.oct e (List.mem_of_find?_eq_some q)
theorem Rows8.rowOf {S : List Ent} (h : Rows8 S) (j : Int) : ∀ x ∈ rowOf S j, In8 x := by
  unfold Mine.rowOf
  cases q : S.find? fun e => e.k == j with
  | none => intro x hx; cases hx
  | some e => exact h.small e (List.mem_of_find?_eq_some q)
theorem Rows8.rowLen {S : List Ent} (h : Rows8 S) (j : Int) : (Mine.rowOf S j).length ≤ 100 := by
  unfold Mine.rowOf
  cases q : S.find? fun e => e.k == j with
  | none => simp
  | some e => exact h.short e (List.mem_of_find?_eq_some q)
theorem Rows8.dedup {S : List Ent} (h : Rows8 S) (j : Int) : (dedupL (Mine.rowOf S j)).length ≤ 8 :=
  few8 (dedupL_nodup _) fun x hx => h.rowOf j x ((dedupL_mem _ _).mp hx)
theorem octUp_spec {S : List Ent} (h : Rows8 S) (l : List Int) : (∀ j ∈ l, In8 j) → (0 ≤ octUp S l ∧ octUp S l < 256) ∧ ∀ x : Int, 0 ≤ x → bit (octUp S l) x = l.any fun j => bit (octOf S j) x || j == x := by
  refine revInd (P := fun l => (∀ j ∈ l, In8 j) → (0 ≤ octUp S l ∧ octUp S l < 256) ∧ ∀ x : Int, 0 ≤ x → bit (octUp S l) x = l.any fun j => bit (octOf S j) x || j == x) (fun _ => ⟨⟨Int.le_refl 0, by show (0 : Int) < 256; decide⟩, fun x _ => ?_⟩) (fun l j ih hl => ?_) l
  · show (0 : Nat).testBit _ = _; simp
  · obtain ⟨⟨a, b⟩, c⟩ := ih fun i hi => hl i (by simp [hi])
    obtain ⟨o1, o2⟩ := h.octOf j
    have hj := hl j (by simp)
    have e : octUp S (l ++ [j]) = ((((octUp S l).toNat ||| (octOf S j).toNat) ||| 2 ^ j.toNat : Nat) : Int) := by
      rw [octUp_snoc]
      obtain ⟨m1, e1⟩ := Int.eq_ofNat_of_zero_le a
      obtain ⟨m2, e2⟩ := Int.eq_ofNat_of_zero_le o1
      have e3 : ((2 : Int) ^ j.toNat) = (((2 ^ j.toNat : Nat)) : Int) := by simp
      rw [e1, e2, e3, bitOr_nat, bitOr_nat]; rfl
    refine ⟨?_, fun x hx => ?_⟩
    · rw [e]
      have h1 : (octUp S l).toNat < 2 ^ 8 := by omega
      have h2 : (octOf S j).toNat < 2 ^ 8 := by omega
      have h3 : 2 ^ j.toNat < 2 ^ 8 := Nat.pow_lt_pow_right (by decide) (by have := hj; omega)
      have := Nat.or_lt_two_pow (Nat.or_lt_two_pow h1 h2) h3
      omega
    · have e' : bit (octUp S (l ++ [j])) x = (bit (octUp S l) x || (bit (octOf S j) x || j == x)) := by
        rw [e]
        show Nat.testBit _ _ = _
        rw [Int.toNat_natCast, Nat.testBit_or, Nat.testBit_or, Nat.testBit_two_pow, Bool.or_assoc]
        have : decide (j.toNat = x.toNat) = (j == x) := by
          rw [Bool.eq_iff_iff]; simp; have := hj; omega
        rw [this]; rfl
      rw [e', c x hx, List.any_append]; simp
theorem rowUp_len {needs : List (List Int)} (h8 : Eight needs) {S : List Ent} (h : Rows8 S) (k : Nat) (l : List Int) : (rowUp needs S k l).length ≤ 8 + 8 * l.length := by
  refine revInd (P := fun l => (rowUp needs S k l).length ≤ 8 + 8 * l.length) (by unfold rowUp; simpa using nd_few h8 k) (fun l j ih => ?_) l
  rw [rowUp_snoc, List.length_append, List.length_append]
  have := h.dedup j
  simp; omega
theorem nd_small {needs : List (List Int)} (h8 : Eight needs) (k : Nat) : ∀ x ∈ nd needs k, In8 x := by
  unfold nd
  rw [List.getD_eq_getElem?_getD]
  cases e : needs[k]? with
  | none => intro x hx; cases hx
  | some r => exact h8.small r (List.mem_of_getElem? e)
theorem keep1_ok {needs : List (List Int)} (h8 : Eight needs) {S : List Ent} (h : Rows8 S) (k : Int) : Rows8 (keep1 needs S k) := by
  have hl := nd_few h8 k.toNat
  have hs := nd_small h8 k.toNat
  refine ⟨fun e he => ?_, fun e he => ?_, fun e he => ?_⟩ <;> rcases List.mem_append.mp he with he | he
  · exact h.small e he
  · obtain rfl := List.mem_singleton.mp he
    intro x hx
    rcases List.mem_append.mp hx with hx | hx
    · exact hs x hx
    · obtain ⟨j, hj, hx⟩ := List.mem_flatMap.mp hx
      exact h.rowOf j x ((dedupL_mem _ _).mp hx)
  · exact h.short e he
  · obtain rfl := List.mem_singleton.mp he
    have := rowUp_len h8 h k.toNat (nd needs k.toNat)
    show (rowUp needs S k.toNat (nd needs k.toNat)).length ≤ 100
    omega
  · exact h.oct e he
  · obtain rfl := List.mem_singleton.mp he
    exact (octUp_spec h _ hs).1
theorem keepAll_ok {needs : List (List Int)} (h8 : Eight needs) (ks : List Int) : Rows8 (keepAll needs ks) :=
  revInd (P := fun ks => Rows8 (keepAll needs ks)) ⟨(fun _ h => nomatch h), (fun _ h => nomatch h), (fun _ h => nomatch h)⟩ (fun ks k ih => by rw [keepAll_snoc]; exact keep1_ok h8 ih k) ks
end Mine

namespace Mine
def forBody : Stmt → List Stmt
  | .For _ _ b .. => b
  | _ => []
abbrev kSc : Scope := scOf (fdef 20)
abbrev kGrp : List Stmt := forBody ((bodyOf (fdef 20)).getD 1 (.Pass default))
abbrev kBody : List Stmt := forBody (kGrp.getD 0 (.Pass default))
def kpI (D1 D2 : Addr) (S : List Ent) : List Item := [dcItem D1 (rowsD S), dcItem D2 (octsD S)]
abbrev kTab (needs rounds : List (List Int)) (D1 D2 : Addr) : List (Str × V) := [("needs", LL needs), ("rounds", .list (rounds.map TL)), ("rows", .exact (.ref D1)), ("octets", .exact (.ref D2))]
abbrev kTab1 (needs rounds : List (List Int)) (D1 D2 : Addr) (g : List Int) : List (Str × V) := [("needs", LL needs), ("rounds", .list (rounds.map TL)), ("rows", .exact (.ref D1)), ("octets", .exact (.ref D2)), ("group", TL g)]
abbrev kTab2 (needs rounds : List (List Int)) (D1 D2 : Addr) (g : List Int) (k : Int) : List (Str × V) := [("needs", LL needs), ("rounds", .list (rounds.map TL)), ("rows", .exact (.ref D1)), ("octets", .exact (.ref D2)), ("group", TL g), ("k", .int k)]
section
variable {w : World} {os : OsState} {n : Nat} {sc : Scope} {ρ ρ' : Str → Option V} {Ω : List Item} {A : Around} {env : Env} {B : Bs} {own R : List Item} {s : Shared} {E : Value → Shared → Prop}
/-- the frame's names are known otherwise -/
theorem Rep.retype {cs : List (Str × Addr)} (h : Rep w os B (frameI env cs ρ ++ R) s) (hρ : ∀ x v', ρ' x = some v' → ∃ v, ρ x = some v ∧ ∀ r, den w B v r → den w B v' r) : Rep w os B (frameI env cs ρ' ++ R) s := by
  have ea : ∀ ρ : Str → Option V, (frameI env cs ρ ++ R).map Item.addr = (env.locals :: cs.map (·.2)) ++ R.map Item.addr := fun ρ => by
    rw [List.map_append]; unfold frameI cellsI; rw [List.map_cons, List.map_map]; rfl
  have key : ∀ j ∈ frameI env cs ρ' ++ R, ∃ i ∈ frameI env cs ρ ++ R, j.addr = i.addr ∧ ∀ o, i.P w B o → j.P w B o := by
    intro j hj
    rcases List.mem_append.mp hj with hj | hj
    · rcases List.mem_cons.mp hj with rfl | hj
      · refine ⟨nsItem env.locals (locOf env ρ), by simp [frameI], rfl, fun o ⟨es, ep, e1, e2, e3⟩ => ⟨es, ep, e1, e2, fun x v' hx => ?_⟩⟩
        unfold locOf at hx
        split at hx
        · rename_i hk
          obtain ⟨v, hv, hd⟩ := hρ x v' hx
          obtain ⟨r, hr, dr⟩ := e3 x v (by unfold locOf; rw [if_pos hk]; exact hv)
          exact ⟨r, hr, hd r dr⟩
        · cases hx
      · obtain ⟨c, hc, rfl⟩ := List.mem_map.mp hj
        refine ⟨cellItem c.2 (ρ c.1), List.mem_append_left _ (List.mem_cons_of_mem _ (List.mem_map.mpr ⟨c, hc, rfl⟩)), rfl, fun o ⟨r, e1, e2⟩ => ⟨r, e1, fun x hx => ?_⟩⟩
        obtain ⟨v, hv, hd⟩ := hρ c.1 x hx
        obtain ⟨y, hy, dy⟩ := e2 v hv
        exact ⟨y, hy, hd y dy⟩
    · exact ⟨j, List.mem_append_right _ hj, rfl, fun _ p => p⟩
  refine ⟨h.base, fun j hj => ?_, fun j hj => ?_, ?_, h.gens, h.os⟩
  · obtain ⟨i, hi, e, p⟩ := key j hj
    obtain ⟨o, ho, q⟩ := h.has i hi
    exact ⟨o, by rw [e]; exact ho, p o q⟩
  · obtain ⟨i, hi, e, p⟩ := key j hj
    rw [e]; exact h.off i hi
  · have h1 : ((frameI env cs ρ ++ R).map Item.addr).Pairwise (· ≠ ·) := List.pairwise_map.mpr h.apart
    rw [ea ρ, ← ea ρ'] at h1
    exact List.pairwise_map.mp h1
/-- d[k] = r, as a target -/
theorem assign_dc {x y : Str} {p q sp : Pos} {D : Addr} {l : List (Int × V)} {k : Int} {v : V} {pre post : List Item} {r : Value} {Q : Unit → Shared → Prop} (F : FnEnv env sc) (hA : RmE n A env R) (T : TopB w B) (h : Rep w os B (frameI env env.cells ρ ++ R) s) (hR : R = pre ++ dcItem D l :: post)
    (hx : ρ x = some (.exact (.ref D))) (hkx : isVar sc x = true) (hy : ρ y = some (.int k)) (hky : isVar sc y = true) (d : den w B v r) (hsz : l.length ≤ 1000)
    (kk : ∀ s' B', Le B B' → TopB w B' → Rep w os B' (frameI env env.cells ρ ++ (pre ++ dcItem D (storedV l k v) :: post)) s' → Q () s')
    (hdx : (x == ("__debug__" : Str)) = false := by decide) (hdy : (y == ("__debug__" : Str)) = false := by decide) :
    wpAny (model pg w) A (assign (.Subscript (.Name x p) (.Name y q) sp) env r) Q E s := by
  rw [assign_Subscript]
  refine wpAny_bind (wpAny_holding ((PE.name hx (isVar_or hkx) hdx).use (hA _) T F.ok F.sees0 h fun r₁ s₁ B₁ l₁ T₁ R₁ d₁ => ?_))
  refine wpAny_bind (wpAny_holding ((PE.name hy (isVar_or hky) hdy).use (hA _) T₁ F.ok F.sees0 R₁ fun r₂ s₂ B₂ l₂ T₂ R₂ d₂ => ?_))
  rw [den_exact.mp d₁]
  refine wpAny_bind (wpAny_standAt (wpAny_bind (wpAny_holding ?_)))
  rw [hR, ← List.append_assoc] at R₂
  refine dc_set T₂ R₂ d₂ (den.mono (l₁.trans l₂) _ d) hsz fun s₃ R₃ => wpAny_release ?_
  rw [List.append_assoc] at R₃
  exact kk s₃ B₂ (l₁.trans l₂) T₂ R₃
/-- d[k] = e -/
theorem st_dcset {x y : Str} {p q sp pos : Pos} {e : Expr} {D : Addr} {l : List (Int × V)} {k : Int} {v : V} {pre post : List Item} {Q : Flow → Shared → Prop} (Ω : List Item) (hΩ : ∀ i ∈ Ω, i ∈ R) (F : FnEnv env sc) (hA : RmE n A env R) (T : TopB w B) (h : Rep w os B (frameI env env.cells ρ ++ R) s) (hR : R = pre ++ dcItem D l :: post)
    (hx : ρ x = some (.exact (.ref D))) (hkx : isVar sc x = true) (hy : ρ y = some (.int k)) (hky : isVar sc y = true) (he : PE w os n Ω sc ρ e v) (hsz : l.length ≤ 1000)
    (kk : ∀ s' B', Le B B' → TopB w B' → Rep w os B' (frameI env env.cells ρ ++ (pre ++ dcItem D (storedV l k v) :: post)) s' → Q .next s')
    (hs : swapsWith e (some (.Subscript (.Name x p) (.Name y q) sp)) pos.line env = pure false := by rfl)
    (hdx : (x == ("__debug__" : Str)) = false := by decide) (hdy : (y == ("__debug__" : Str)) = false := by decide) :
    wpAny (model pg w) A (exec (.Assign [.Subscript (.Name x p) (.Name y q) sp] e pos) env) Q E s := by
  refine wpAny_Assign_Subscript (he.use (hA _) T F.ok (F.sees1 hΩ) h fun r₀ s₀ B₀ l₀ T₀ R₀ d₀ => ?_) hs
  refine (PE.name hx (isVar_or hkx) hdx).use (hA _) T₀ F.ok F.sees0 R₀ fun r₁ s₁ B₁ l₁ T₁ R₁ d₁ => ?_
  refine (PE.name hy (isVar_or hky) hdy).use (hA _) T₁ F.ok F.sees0 R₁ fun r₂ s₂ B₂ l₂ T₂ R₂ d₂ => ?_
  rw [den_exact.mp d₁]
  rw [hR, ← List.append_assoc] at R₂
  refine dc_set T₂ R₂ d₂ (den.mono (l₁.trans l₂) _ d₀) hsz fun s₃ R₃ => ?_
  rw [List.append_assoc] at R₃
  exact kk s₃ B₂ ((l₀.trans l₁).trans l₂) T₂ R₃
theorem rowsD_snoc (S : List Ent) (e : Ent) : rowsD (S ++ [e]) = rowsD S ++ [(e.k, IL e.row)] := by unfold rowsD; rw [List.map_append]; rfl
theorem octsD_snoc (S : List Ent) (e : Ent) : octsD (S ++ [e]) = octsD S ++ [(e.k, .int e.oct)] := by unfold octsD; rw [List.map_append]; rfl
theorem rowsD_len (S : List Ent) : (rowsD S).length = S.length := by unfold rowsD; rw [List.length_map]
theorem octsD_len (S : List Ent) : (octsD S).length = S.length := by unfold octsD; rw [List.length_map]
/-- one thing is kept -/
theorem kept_one {needs rounds : List (List Int)} (h8 : Eight needs) {S : List Ent} {k : Int} {g : List Int} {D1 D2 : Addr} {X : List Item} {Q : Flow → Shared → Prop} (hk : In8 k) (hnew : k ∉ S.map Ent.k) (hin : ∀ j ∈ nd needs k.toNat, j ∈ S.map Ent.k) (hS : Rows8 S) (hl : S.length ≤ 8)
    (F : FnEnv env kSc) (hA : RmE (n + 1) A env own) (T : TopB w B) (h : Rep w os B (frameI env env.cells (tab (kTab2 needs rounds D1 D2 g k)) ++ (X ++ (kpI D1 D2 S ++ own))) s)
    (kk : ∀ s' B', Le B B' → TopB w B' → Rep w os B' (frameI env env.cells (tab (kTab2 needs rounds D1 D2 g k)) ++ (X ++ (kpI D1 D2 (keep1 needs S k) ++ own))) s' → Q .next s') : wpAny (model pg w) A (execs kBody env) Q E s := by
  have hX : ∀ Y : List Item, RmE (n + 1) A env (X ++ (Y ++ own)) := fun Y => (hA.app (X := Y)).app (X := X)
  have hkl : k.toNat < needs.length := by rw [h8.len]; have := hk; omega
  have hnl := nd_few h8 k.toNat
  refine wpAny_execs_cons (Assign_Tuple (PE.use (v := .tuple [IL (nd needs k.toNat), .int 0]) (PE.tuple (PEs.cons (PE.sliceAll (PE.itemLL' PE.var PE.var hk.1 hkl (by rw [h8.len]; decide)) (by rw [List.length_map]; exact Nat.le_trans hnl (by decide))) (PEs.cons PE.int PEs.nil))) (hX (kpI D1 D2 S) _) T F.ok F.sees0 h fun r₁ s₁ B₁ l₁ T₁ R₁ d₁ => ?_) rfl ?_)
  · refine assign2 (v1 := IL (nd needs k.toNat)) (v2 := .int 0) (hA (tab [])).handled R₁ (.inl d₁) fun r1 r2 s₂ R₂ e1 e2 => ?_
    refine assign_dc (k := k) (v := IL (nd needs k.toNat)) (D := D1) (l := rowsD S) (pre := X) (post := dcItem D2 (octsD S) :: own) F (hX _) T₁ R₂ (by simp [kpI]) rfl rfl rfl rfl e1 (by rw [rowsD_len]; omega) fun s₃ B₃ l₃ T₃ R₃ => ?_
    refine assign_dc (k := k) (v := .int 0) (D := D2) (l := octsD S) (pre := X ++ [dcItem D1 (storedV (rowsD S) k (IL (nd needs k.toNat)))]) (post := own) F (R := X ++ ([dcItem D1 (storedV (rowsD S) k (IL (nd needs k.toNat))), dcItem D2 (octsD S)] ++ own)) (hX _) T₃ R₃ (by simp) rfl rfl rfl rfl (den.mono l₃ _ e2) (by rw [octsD_len]; omega) fun s₄ B₄ l₄ T₄ R₄ => ?_
    have R₅ : Rep w os B₄ (frameI env env.cells (tab (kTab2 needs rounds D1 D2 g k)) ++ (X ++ (kpI D1 D2 (S ++ [⟨k, rowUp needs S k.toNat [], octUp S []⟩]) ++ own))) s₄ := by
      have e : kpI D1 D2 (S ++ [⟨k, rowUp needs S k.toNat [], octUp S []⟩]) = [dcItem D1 (storedV (rowsD S) k (IL (nd needs k.toNat))), dcItem D2 (storedV (octsD S) k (.int 0))] := by
        unfold kpI
        rw [rowsD_snoc, octsD_snoc]
        have q1 : storedV (rowsD S) k (IL (nd needs k.toNat)) = rowsD S ++ [(k, IL (nd needs k.toNat))] := store_new (fun e => IL e.row) hnew
        have q2 : storedV (octsD S) k (.int 0) = octsD S ++ [(k, .int 0)] := store_new (fun e => .int e.oct) hnew
        rw [q1, q2]
        unfold rowUp octUp
        simp
      rw [e]
      simpa using R₄
    refine wpAny_execs_cons (st_forW [] (nd needs k.toNat) V.int (fun i B' ρ' R' => ρ' = tab (kTab2 needs rounds D1 D2 g k) ∧ R' = X ++ (kpI D1 D2 (S ++ [⟨k, rowUp needs S k.toNat ((nd needs k.toNat).take i), octUp S ((nd needs k.toNat).take i)⟩]) ++ own)) (fun _ h => nomatch h) F (hX _) T₄ R₅
      (PI.list (PE.itemLL' PE.var PE.var hk.1 hkl (by rw [h8.len]; decide))) (by rfl) (fun B' _ => ⟨rfl, rfl⟩) ?_ ?_)
    · rintro i j B₆ ρ' R' J s₆ E' hE hj le₆ T₆ ⟨rfl, rfl⟩ R₆
      have hjm : j ∈ nd needs k.toNat := List.mem_of_getElem? hj
      have hj8 := nd_small h8 k.toNat j hjm
      have hjS := hin j hjm
      have htk : (nd needs k.toNat).take (i + 1) = (nd needs k.toNat).take i ++ [j] := by rw [List.take_add_one, hj]; rfl
      generalize hl1 : (nd needs k.toNat).take i = li at R₆ htk
      have hli : li.length ≤ 8 := by rw [← hl1, List.length_take]; omega
      have hru := rowUp_len h8 hS k.toNat li
      have hde := hS.dedup j
      have hro := hS.rowLen j
      rw [htk, rowUp_snoc, octUp_snoc]
      generalize hrw : rowUp needs S k.toNat li = rw' at R₆ hru ⊢
      generalize hoc : octUp S li = oc at R₆ ⊢
      have hXX : ∀ Y : List Item, RmE (n + 1) A env (J :: (X ++ (Y ++ own))) := fun Y => (hX Y).add
      have hΩ : ∀ (S' : List Ent), ∀ i ∈ kpI D1 D2 S', i ∈ J :: (X ++ (kpI D1 D2 S' ++ own)) := fun S' i hi => List.mem_cons_of_mem _ (List.mem_append_right _ (List.mem_append_left _ hi))
      have hv1 : PE w os (n + 1) (kpI D1 D2 (S ++ [Ent.mk k rw' oc])) kSc (upd (tab (kTab2 needs rounds D1 D2 g k)) "need" (.int j)) (match (forBody (kBody.getD 1 (.Pass default))).getD 0 (.Pass default) with | .Assign _ e _ => e | _ => default) (IL (rw' ++ dedupL (rowOf S j))) := by
        refine PE.cast (v := .list (rw'.map V.int ++ (dedupL (rowOf S j)).map V.int)) ?_ (by rw [← List.map_append])
        refine PE.bin (PE.dc (D := D1) (l := rowsD (S ++ [Ent.mk k rw' oc])) (k := k) (v := IL rw') rfl rfl (by simp [kpI]) PE.var (rows_last (e := ⟨k, rw', oc⟩) hnew)) ?_ (Bin.addL (by rw [List.length_map, List.length_map]; unfold sizeLine; omega))
        exact PE.callD (a := 178) rfl rfl rfl (PEs.cons (PE.dc (D := D1) (l := rowsD (S ++ [Ent.mk k rw' oc])) (k := j) (v := IL (rowOf S j)) rfl rfl (by simp [kpI]) PE.var (rows_look hjS)) PEs.nil) (dedup_fn _ (by unfold sizeLine; omega))
      refine wpAny_execs_cons (st_dcset (kpI D1 D2 (S ++ [Ent.mk k rw' oc])) (k := k) (v := IL (rw' ++ dedupL (rowOf S j))) (D := D1) (l := rowsD (S ++ [Ent.mk k rw' oc])) (pre := J :: X) (post := dcItem D2 (octsD (S ++ [Ent.mk k rw' oc])) :: own) (R := J :: (X ++ (kpI D1 D2 (S ++ [Ent.mk k rw' oc]) ++ own))) (hΩ (S ++ [Ent.mk k rw' oc])) F (hXX (kpI D1 D2 (S ++ [Ent.mk k rw' oc]))) T₆ R₆ (by simp [kpI]) rfl rfl rfl rfl hv1 (by rw [rowsD_len]; simp; omega) fun s₇ B₇ l₇ T₇ R₇ => ?_)
      have R₈ : Rep w os B₇ (frameI env env.cells (upd (tab (kTab2 needs rounds D1 D2 g k)) "need" (.int j)) ++ (J :: (X ++ (kpI D1 D2 (S ++ [Ent.mk k (rw' ++ dedupL (rowOf S j)) oc]) ++ own)))) s₇ := by
        have q1 : storedV (rowsD (S ++ [Ent.mk k rw' oc])) k (IL (rw' ++ dedupL (rowOf S j))) = rowsD (S ++ [Ent.mk k (rw' ++ dedupL (rowOf S j)) oc]) := by
          rw [rowsD_snoc, rowsD_snoc]; exact store_last (fun e => IL e.row) hnew
        have q2 : octsD (S ++ [Ent.mk k rw' oc]) = octsD (S ++ [Ent.mk k (rw' ++ dedupL (rowOf S j)) oc]) := by rw [octsD_snoc, octsD_snoc]
        rw [q1, q2] at R₇
        simpa [kpI] using R₇
      generalize rw' ++ dedupL (rowOf S j) = rw2 at R₈ ⊢
      have hv2 : PE w os (n + 1) (kpI D1 D2 (S ++ [Ent.mk k rw2 oc])) kSc (upd (tab (kTab2 needs rounds D1 D2 g k)) "need" (.int j)) (match (forBody (kBody.getD 1 (.Pass default))).getD 1 (.Pass default) with | .Assign _ e _ => e | _ => default) (.int (Builtin.bitOr (Builtin.bitOr oc (octOf S j)) (2 ^ j.toNat))) := by
        refine PE.bin (PE.bin (PE.dc (D := D2) (l := octsD (S ++ [Ent.mk k rw2 oc])) (k := k) (v := .int oc) rfl rfl (by simp [kpI]) PE.var (octs_last (e := ⟨k, rw2, oc⟩) hnew)) (PE.dc (D := D2) (l := octsD (S ++ [Ent.mk k rw2 oc])) (k := j) (v := .int (octOf S j)) rfl rfl (by simp [kpI]) PE.var (octs_look hjS)) Bin.bor) ?_ Bin.bor
        exact PE.bin PE.int PE.var (Bin.pow2 hj8.1 (by have := hj8.2; omega))
      refine wpAny_execs_cons (st_dcset (kpI D1 D2 (S ++ [Ent.mk k rw2 oc])) (k := k) (v := .int (Builtin.bitOr (Builtin.bitOr oc (octOf S j)) (2 ^ j.toNat))) (D := D2) (l := octsD (S ++ [Ent.mk k rw2 oc])) (pre := J :: (X ++ [dcItem D1 (rowsD (S ++ [Ent.mk k rw2 oc]))])) (post := own) (R := J :: (X ++ (kpI D1 D2 (S ++ [Ent.mk k rw2 oc]) ++ own))) (hΩ (S ++ [Ent.mk k rw2 oc])) F (hXX (kpI D1 D2 (S ++ [Ent.mk k rw2 oc]))) T₇ R₈ (by simp [kpI]) rfl rfl rfl rfl hv2 (by rw [octsD_len]; simp; omega) fun s₉ B₉ l₉ T₉ R₉ => ?_)
      refine wpAny_execs_nil ⟨B₉, tab (kTab2 needs rounds D1 D2 g k), _, l₇.trans l₉, ⟨rfl, rfl⟩, ?_⟩
      have R₁₀ := R₉.keep (kTab2 needs rounds D1 D2 g k) ⟨rfl, rfl, rfl, rfl, rfl, rfl, trivial⟩
      have q1 : storedV (octsD (S ++ [⟨k, rw2, oc⟩])) k (.int (Builtin.bitOr (Builtin.bitOr oc (octOf S j)) (2 ^ j.toNat))) = octsD (S ++ [⟨k, rw2, Builtin.bitOr (Builtin.bitOr oc (octOf S j)) (2 ^ j.toNat)⟩]) := by
        rw [octsD_snoc, octsD_snoc]; exact store_last (fun e => .int e.oct) hnew
      have q2 : rowsD (S ++ [⟨k, rw2, oc⟩]) = rowsD (S ++ [⟨k, rw2, Builtin.bitOr (Builtin.bitOr oc (octOf S j)) (2 ^ j.toNat)⟩]) := by rw [rowsD_snoc, rowsD_snoc]
      rw [q1, q2] at R₁₀
      simpa [kpI] using R₁₀
    · rintro B₆ ρ' R' s₆ le₆ T₆ ⟨rfl, rfl⟩ R₆
      rw [List.take_length] at R₆
      exact wpAny_execs_nil (kk s₆ B₆ (((l₁.trans l₃).trans l₄).trans le₆) T₆ R₆)
  · have he : env = { env with scope := kSc } := by rw [← F.ok.scope]
    rw [he]; rfl
end
end Mine

namespace Mine
theorem split_at {α : Type} {xs : List α} {i : Nat} {x : α} (h : xs[i]? = some x) : xs = xs.take i ++ x :: xs.drop (i + 1) := by
  obtain ⟨hi, rfl⟩ := List.getElem?_eq_some_iff.mp h
  rw [← List.drop_eq_getElem_cons hi, List.take_append_drop]
theorem storeAll_nodup (l : List (Int × V)) : (l.map (·.1)).Nodup → storeAll l = l := by
  refine revInd (P := fun l => (l.map (·.1)).Nodup → storeAll l = l) (fun _ => rfl) (fun l p ih h => ?_) l
  rw [List.map_append, List.nodup_append] at h
  rw [storeAll_snoc, ih h.1]
  refine storedV_new ?_
  cases q : l.lookup p.1 with
  | none => rfl
  | some v =>
    exfalso
    have : ∀ {l : List (Int × V)} {x : Int} {v : V}, l.lookup x = some v → x ∈ l.map (·.1) := by
      intro l
      induction l with
      | nil => intro x v h; cases h
      | cons a l ih =>
        intro x v h
        rw [List.lookup_cons] at h
        by_cases e : x = a.1
        · simp [e]
        · have : (x == a.1) = false := by simpa using e
          rw [this] at h
          exact List.mem_cons_of_mem _ (ih h)
    exact h.2.2 p.1 (this q) p.1 (by simp) rfl
theorem zip_map_lookup (f : Int → V) : ∀ (ks : List Int) (k : Int), k ∈ ks → (ks.zip (ks.map f)).lookup k = some (f k)
  | [], _, h => by cases h
  | x :: ks, k, h => by
    rw [List.map_cons, List.zip_cons_cons, List.lookup_cons]
    by_cases e : k = x
    · subst e; simp
    · have : (k == x) = false := by simpa using e
      rw [this]
      exact zip_map_lookup f ks k ((List.mem_cons.mp h).resolve_left e)
theorem ents_map (g : Ent → V) (f : Int → V) : ∀ {S : List Ent}, (∀ e ∈ S, g e = f e.k) → S.map g = (S.map Ent.k).map f
  | [], _ => rfl
  | e :: S, h => by rw [List.map_cons, List.map_cons, List.map_cons, h e (by simp), ents_map g f fun x hx => h x (by simp [hx])]
theorem ent_find {S : List Ent} (hN : (S.map Ent.k).Nodup) {e : Ent} (he : e ∈ S) : (S.find? fun x => x.k == e.k) = some e := by
  induction S with
  | nil => cases he
  | cons x S ih =>
    rw [List.map_cons, List.nodup_cons] at hN
    rw [List.find?_cons]
    rcases List.mem_cons.mp he with rfl | he
    · simp
    · have : x.k ≠ e.k := fun q => hN.1 (q ▸ List.mem_map.mpr ⟨e, he, rfl⟩)
      have : (x.k == e.k) = false := by simpa using this
      rw [this]
      exact ih hN.2 he
/-- the kept rows and writings, by value -/
def rowsV (S : List Ent) (ks : List Int) : V := .dict ks (ks.map fun k => IL (rowOf S k))
def octsV (S : List Ent) (ks : List Int) : V := .dict ks (ks.map fun k => .int (octOf S k))
def writV (S : List Ent) (ks : List Int) : V := .dict ks (ks.map fun k => b64 (octOf S k))
theorem rowsV_eq {S : List Ent} (hN : (S.map Ent.k).Nodup) : V.dict ((rowsD S).map (·.1)) ((rowsD S).map (·.2)) = rowsV S (S.map Ent.k) := by
  unfold rowsD rowsV
  rw [List.map_map, List.map_map]
  congr 1
  refine ents_map (fun e => IL e.row) _ fun e he => ?_
  unfold rowOf; rw [ent_find hN he]; rfl
theorem octsV_eq {S : List Ent} (hN : (S.map Ent.k).Nodup) : V.dict ((octsD S).map (·.1)) ((octsD S).map (·.2)) = octsV S (S.map Ent.k) := by
  unfold octsD octsV
  rw [List.map_map, List.map_map]
  congr 1
  refine ents_map (fun e => .int e.oct) _ fun e he => ?_
  unfold octOf; rw [ent_find hN he]; rfl
section
variable {w : World} {os : OsState} {n : Nat} {sc : Scope} {ρ : Str → Option V} {Ω : List Item} {A : Around} {env : Env} {B : Bs} {own R : List Item} {s : Shared} {E : Value → Shared → Prop}
/-- an own dict is frozen -/
theorem dc_freeze {D : Addr} {l : List (Int × V)} (T : TopB w B) (R : Rep w os B (dcItem D l :: own) s) : ∃ B', Le B B' ∧ Rep w os B' own s ∧ den w B' (.dict (l.map (·.1)) (l.map (·.2))) (.ref D) := by
  obtain ⟨o, ho, ⟨kvs, hp, dk⟩, R4⟩ := R.freeze
  have hn := R.off (dcItem D l) (by simp)
  obtain ⟨_, _, _, z⟩ := dc_at (D := D) (l := l) T R (List.mem_cons_self ..)
  exact ⟨_, Le.put hn, R4, den_dict.mpr ⟨D, o, kvs, rfl, Bs.put_self .., hp, dk.keys, (dk.mono (Le.put hn)).vals, z⟩⟩
theorem Fn.bytesL {ns : List Int} (hr : ∀ x ∈ ns, 0 ≤ x ∧ x < 256) (hsz : ns.length ≤ sizeLine) : Fn w os n (.type "bytes") [IL ns] (.bytes (byteArr ns)) := by
  intro A B own s rs E hA T R d
  obtain ⟨r, rfl, d1⟩ := dens_one d
  obtain ⟨a, its, m, rfl, g, hl, ds⟩ := listAt R d1
  refine call_bytes_ints (vs := its.toList) (ns := ns) hl (dens.ints.mp ds) hr (by rw [ds.length, List.length_map]; exact hsz) hA.handled fun h' t kk hk => ?_
  exact ⟨B, Le.refl B, R.grow kk hk, den_bytes.mpr ⟨_, rfl⟩⟩
theorem kept_fn (needs rounds : List (List Int)) (h8 : Eight needs) (hg : Good needs rounds.flatten) : Fn w os (n + 4) (.ref 202) [LL needs, .list (rounds.map TL)] (.list [rowsV (keepAll needs rounds.flatten) rounds.flatten, writV (keepAll needs rounds.flatten) rounds.flatten]) := by
  intro A B own s rs E hA T R d
  obtain ⟨r, r', rfl⟩ : ∃ r r', rs = [r, r'] := by
    obtain ⟨r, rs', rfl, d1, d2⟩ := dens_cons.mp d
    obtain ⟨r', rfl, d3⟩ := dens_one d2
    exact ⟨r, r', rfl⟩
  refine call_def (n := n + 3) (r := ⟨"_law_kept", fdef 20, .none, .none⟩) rfl ["needs", "rounds"] [LL needs, .list (rounds.map TL)] hA T R d (by decide) (fun doc pm cd ct nm => by rfl) (by decide) (by decide) rfl rfl rfl ?_
  intro env s₁ E' F hA' R₁
  replace F : FnEnv env kSc := F
  -- rows, octets = {}, {}
  refine wpAny_execs_cons (Assign_Tuple (Tuple_ (args_cons (wpAny_Dict_empty (args_cons (wpAny_Dict_empty (args_nil ?_)) rfl)) rfl)) rfl ?_)
  case refine_2 =>
    have he : env = { env with scope := kSc } := by rw [← F.ok.scope]
    rw [he]; rfl
  have newD : ∀ {own : List Item} {B : Bs} {s : Shared}, Rep w os B own s → Rep w os B (dcItem s.heap.objs.size [] :: own) { s with heap := s.heap.push { cls := .type "dict", data := .dict #[] } } := fun {own B s} R =>
    R.new (dcItem s.heap.objs.size []) s.toks (fun b o e => Heap.get?_push_of_some _ e) (get?_size _) (Heap.get?_push_size _ rfl) (o := { cls := .type "dict", data := .dict #[] }) (by
      obtain ⟨o, es, ep, h0, h1, h2, h3, h4, h5⟩ := Heap.DictOf.new (knd := kI w) s.heap
      rw [Heap.get?_push_size _ rfl] at h0; cases h0
      exact ⟨[], ⟨es, ep, h1, h2, h3, h4, h5⟩, rfl⟩)
  have R₂ := newD R₁
  generalize hD1 : s₁.heap.objs.size = D1 at R₂ ⊢
  have R₃ := newD R₂
  generalize hs2 : ({ s₁ with heap := s₁.heap.push { cls := .type "dict", data := .dict #[] } } : Shared) = s₂ at R₂ R₃ ⊢
  generalize hD2 : s₂.heap.objs.size = D2 at R₃ ⊢
  refine wpAny_newObj_type ?_
  have P₃ := R₃.newTuple (xs := [.exact (.ref D1), .exact (.ref D2)]) (its := #[.ref D1, .ref D2]) s₂.toks (dens_cons.mpr ⟨_, _, rfl, den_exact.mpr rfl, dens_cons.mpr ⟨_, _, rfl, den_exact.mpr rfl, dens_nil.mpr rfl⟩⟩)
  obtain ⟨B₄, l₄, R₄, d₄⟩ := P₃
  refine assign2 (v1 := .exact (.ref D1)) (v2 := .exact (.ref D2)) (hA' (tab [])).handled R₄ (.inl d₄) fun r1 r2 s₅ R₅ e1 e2 => ?_
  refine assign_rep (pre := [dcItem D2 [], dcItem D1 []]) F.fr (F.var (isVar_or (by rfl))) (by simpa using R₅) e1 fun s₆ R₆ => ?_
  refine assign_rep (pre := [dcItem D2 [], dcItem D1 []]) F.fr (F.var (isVar_or (by rfl))) R₆ e2 fun s₇ R₇ => ?_
  have T₄ := T.mono l₄
  have R₈ : Rep w os B₄ (frameI env env.cells (tab (kTab needs rounds D1 D2)) ++ (kpI D1 D2 (keepAll needs []) ++ own)) s₇ := by
    refine Rep.keep (ρ := upd (upd (parV ["needs", "rounds"] [LL needs, .list (rounds.map TL)]) "rows" (.exact (.ref D1))) "octets" (.exact (.ref D2))) ?_ (kTab needs rounds D1 D2) ⟨rfl, rfl, rfl, rfl, trivial⟩
    refine R₇.perm ?_
    generalize frameI env env.cells (upd (upd (parV ["needs", "rounds"] [LL needs, .list (rounds.map TL)]) "rows" (.exact (.ref D1))) "octets" (.exact (.ref D2))) = P
    refine (List.perm_append_comm.append_right own).trans ?_
    rw [List.append_assoc]
    exact List.Perm.append_left P (List.Perm.swap _ _ _)
  -- the loops
  refine wpAny_execs_cons (st_forW [] rounds TL (fun i B' ρ' R' => ρ' = tab (kTab needs rounds D1 D2) ∧ R' = kpI D1 D2 (keepAll needs (rounds.take i).flatten) ++ own) (fun _ h => nomatch h) F hA'.app T₄ R₈ (PI.list PE.var) (by rfl) (fun B' _ => ⟨rfl, by simp⟩) ?_ ?_)
  · rintro i g B₉ ρ' R' J s₉ E₉ hE hgi le₉ T₉ ⟨rfl, rfl⟩ R₉
    have hri : rounds.flatten = (rounds.take i).flatten ++ (g ++ (rounds.drop (i + 1)).flatten) :=
      (congrArg List.flatten (split_at hgi)).trans (by rw [List.flatten_append, List.flatten_cons])
    have htk : (rounds.take (i + 1)).flatten = (rounds.take i).flatten ++ g := by rw [List.take_add_one, hgi]; simp
    rw [htk]
    generalize (rounds.take i).flatten = done at R₉ hri
    generalize (rounds.drop (i + 1)).flatten = rest at hri
    have R₁₀ := R₉.keep (kTab1 needs rounds D1 D2 g) ⟨rfl, rfl, rfl, rfl, rfl, trivial⟩
    refine wpAny_execs_cons (st_forW [] g V.int (fun j B' ρ' R' => ρ' = tab (kTab1 needs rounds D1 D2 g) ∧ R' = J :: (kpI D1 D2 (keepAll needs (done ++ g.take j)) ++ own)) (fun _ h => nomatch h) F hA'.app.add T₉ R₁₀ (PI.tuple PE.var) (by rfl) (fun B' _ => ⟨rfl, by simp⟩) ?_ ?_)
    · rintro j k B₁₁ ρ' R' J' s₁₁ E₁₁ hE' hkj le₁₁ T₁₁ ⟨rfl, rfl⟩ R₁₁
      have hsplit : rounds.flatten = (done ++ g.take j) ++ k :: (g.drop (j + 1) ++ rest) := by
        rw [hri, List.append_assoc]
        exact congrArg (done ++ ·) ((congrArg (· ++ rest) (split_at hkj)).trans (by rw [List.append_assoc, List.cons_append]))
      have htk2 : done ++ g.take (j + 1) = (done ++ g.take j) ++ [k] := by rw [List.take_add_one, hkj]; simp
      rw [htk2, keepAll_snoc]
      generalize done ++ g.take j = dn at R₁₁ hsplit
      obtain ⟨g1, g2, g3⟩ := hg _ _ _ hsplit
      have hdl : dn.length ≤ 8 := by
        have := hg.len
        rw [hsplit, List.length_append] at this; omega
      have hkeys := keepAll_keys needs dn
      have hlen : (keepAll needs dn).length ≤ 8 := by
        have : ((keepAll needs dn).map Ent.k).length ≤ 8 := by rw [hkeys]; exact hdl
        rwa [List.length_map] at this
      have R₁₂ := R₁₁.keep (kTab2 needs rounds D1 D2 g k) ⟨rfl, rfl, rfl, rfl, rfl, rfl, trivial⟩
      refine kept_one (X := [J', J]) (n := n + 2) h8 g1 (by rw [hkeys]; exact g2) (by rw [hkeys]; exact g3) (keepAll_ok h8 dn) hlen F hA' T₁₁ R₁₂ fun s₁₃ B₁₃ l₁₃ T₁₃ R₁₃ => ?_
      exact ⟨B₁₃, _, _, l₁₃, ⟨rfl, rfl⟩, R₁₃.keep (kTab1 needs rounds D1 D2 g) ⟨rfl, rfl, rfl, rfl, rfl, trivial⟩⟩
    · rintro B₁₁ ρ' R' s₁₁ le₁₁ T₁₁ ⟨rfl, rfl⟩ R₁₁
      rw [List.take_length] at R₁₁
      exact wpAny_execs_nil ⟨B₁₁, _, _, le₁₁, ⟨rfl, rfl⟩, R₁₁.keep (kTab needs rounds D1 D2) ⟨rfl, rfl, rfl, rfl, trivial⟩⟩
  · rintro B₉ ρ' R' s₉ le₉ T₉ ⟨rfl, rfl⟩ R₉
    rw [List.take_length] at R₉
    have hkeys := keepAll_keys needs rounds.flatten
    have hok := keepAll_ok h8 rounds.flatten
    have hN : ((keepAll needs rounds.flatten).map Ent.k).Nodup := by rw [hkeys]; exact hg.nodup
    have hlen := hg.len
    generalize keepAll needs rounds.flatten = S at R₉ hkeys hok hN ⊢
    -- both dicts are frozen
    have R₁₀ : Rep w os B₉ (dcItem D1 (rowsD S) :: dcItem D2 (octsD S) :: (frameI env env.cells (tab (kTab needs rounds D1 D2)) ++ own)) s₉ := R₉.perm (by
      generalize frameI env env.cells (tab (kTab needs rounds D1 D2)) = P
      rw [← List.append_assoc]
      exact (List.perm_append_comm (l₁ := P) (l₂ := kpI D1 D2 S)).append_right own)
    obtain ⟨B₁₁, l₁₁, R₁₁, d₁₁⟩ := dc_freeze T₉ R₁₀
    obtain ⟨B₁₂, l₁₂, R₁₂, d₁₂⟩ := dc_freeze (T₉.mono l₁₁) R₁₁
    rw [rowsV_eq hN, hkeys] at d₁₁
    rw [octsV_eq hN, hkeys] at d₁₂
    have T₁₂ := T₉.mono (l₁₁.trans l₁₂)
    have R₁₃ : Rep w os B₁₂ (frameI env env.cells (tab [("rows", rowsV S rounds.flatten), ("octets", octsV S rounds.flatten)]) ++ own) s₉ := by
      refine R₁₂.retype fun x v' hx => ?_
      unfold tab at hx ⊢
      rw [List.lookup_cons] at hx
      by_cases q : x = "rows"
      · subst q
        simp at hx; subst hx
        exact ⟨.exact (.ref D1), rfl, fun r dr => (den_exact.mp dr) ▸ den.mono l₁₂ _ d₁₁⟩
      · have : (x == ("rows" : Str)) = false := by simpa using q
        rw [this] at hx
        by_cases q2 : x = "octets"
        · subst q2
          simp at hx; subst hx
          exact ⟨.exact (.ref D2), rfl, fun r dr => (den_exact.mp dr) ▸ d₁₂⟩
        · have : (x == ("octets" : Str)) = false := by simpa using q2
          rw [List.lookup_cons, this] at hx; simp at hx
    generalize hks : rounds.flatten = ks at R₁₃ d₁₁ d₁₂ hkeys hlen ⊢
    have hnd : ks.Nodup := by rw [← hks]; exact hg.nodup
    refine wpAny_execs_cons (st_return (v := .list [rowsV S ks, writV S ks]) F hA' T₁₂ R₁₃ (PE.list (PEs.cons PE.var (PEs.cons ?_ PEs.nil))) fun r₁₄ s₁₄ B₁₄ l₁₄ T₁₄ R₁₄ d₁₄ => ?_)
    · have e : writV S ks = .dict ((storeAll (ks.map fun k => (k, b64 (octOf S k)))).map (·.1)) ((storeAll (ks.map fun k => (k, b64 (octOf S k)))).map (·.2)) := by
        have h1 : (ks.map fun k => (k, b64 (octOf S k))).map (·.1) = ks := by rw [List.map_map]; simp [Function.comp_def]
        rw [storeAll_nodup _ (by rw [h1]; exact hnd), h1, List.map_map]; rfl
      rw [e]
      refine PE.dcomp ks V.int (fun k => k) (fun k => b64 (octOf S k)) (PI.keys (PE.var (v := octsV S ks))) (fun k hk => PE.var) (fun k hk => ?_) (by omega) (by decide) (by rfl)
      have ho := hok.octOf k
      have hb := b64_fn (w := w) (os := os) (n := n) ⟨(octOf S k).toNat, by omega⟩
      have hc : (((⟨(octOf S k).toNat, by omega⟩ : Fin 256) : Nat) : Int) = octOf S k := by show (((octOf S k).toNat : Nat) : Int) = _; omega
      rw [hc] at hb
      refine PE.callD (a := 171) rfl rfl rfl (PEs.cons (v := .bytes (byteArr [octOf S k])) (PE.callT (id := "bytes") PE.blt (PEs.cons (v := IL [octOf S k]) (PE.list (PEs.cons (PE.item (PE.var (v := octsV S ks)) PE.var (Itm.dict (zip_map_lookup _ ks k hk))) PEs.nil)) PEs.nil) (Fn.bytesL (fun x hx => ?_) (by simp; unfold sizeLine; omega))) PEs.nil) hb
      obtain rfl := List.mem_singleton.mp hx
      exact ho
    · exact ⟨B₁₄, (((l₄.trans le₉).trans l₁₁).trans l₁₂).trans l₁₄, R₁₄.app, d₁₄⟩
end
end Mine

namespace Mine
-- how things come
theorem mem_groupOf {needs : List (List Int)} {come : List Int} {k : Int} : k ∈ groupOf needs come ↔ In8 k ∧ k ∉ come ∧ ∀ j ∈ nd needs k.toNat, j ∈ come := by
  unfold groupOf
  rw [List.mem_map]
  constructor
  · rintro ⟨a, ha, rfl⟩
    obtain ⟨h8, hp⟩ := List.mem_filter.mp ha
    rw [Bool.and_eq_true] at hp
    have h8 := List.mem_range.mp h8
    refine ⟨⟨by omega, by omega⟩, fun h => ?_, fun j hj => ?_⟩
    · have := has_iff.mpr h
      rw [this] at hp; simp at hp
    · have h2 := List.filter_eq_nil_iff.mp (List.isEmpty_iff.mp hp.2) j (by simpa using hj)
      refine has_iff.mp ?_
      cases q : has come j with
      | true => rfl
      | false => rw [q] at h2; exact absurd rfl h2
  · rintro ⟨h8, h1, h2⟩
    refine ⟨k.toNat, List.mem_filter.mpr ⟨List.mem_range.mpr (by have := h8; omega), ?_⟩, by have := h8; omega⟩
    have e : ((k.toNat : Nat) : Int) = k := by have := h8; omega
    rw [e, Bool.and_eq_true]
    refine ⟨?_, List.isEmpty_iff.mpr (List.filter_eq_nil_iff.mpr fun j hj => ?_)⟩
    · cases q : has come k with
      | false => rfl
      | true => exact absurd (has_iff.mp q) h1
    · rw [has_iff.mpr (h2 j hj)]; decide
theorem groupOf_nodup (needs : List (List Int)) (come : List Int) : (groupOf needs come).Nodup := by
  unfold groupOf
  exact List.pairwise_map.mpr (List.Pairwise.imp (fun h e => h (by omega)) ((List.nodup_range).filter _))
/-- group by group -/
def Lay (needs : List (List Int)) (rounds : List (List Int)) : Prop := ∀ l g r, rounds = l ++ g :: r → g.Nodup ∧ ∀ k ∈ g, In8 k ∧ k ∉ l.flatten ∧ ∀ j ∈ nd needs k.toNat, j ∈ l.flatten
theorem split_snoc {α : Type} {l r m : List α} {x y : α} (h : m ++ [y] = l ++ x :: r) : (∃ r', m = l ++ x :: r') ∨ (m = l ∧ y = x ∧ r = []) := by
  rcases List.eq_nil_or_concat r with rfl | ⟨r', z, rfl⟩
  · right
    have := List.append_inj' h rfl
    exact ⟨this.1, by simpa using this.2, rfl⟩
  · left
    have e : l ++ x :: (r' ++ [z]) = (l ++ x :: r') ++ [z] := by simp
    rw [List.concat_eq_append, e] at h
    exact ⟨r', (List.append_inj' h rfl).1⟩
theorem Lay.snoc {needs : List (List Int)} {rounds : List (List Int)} (h : Lay needs rounds) : Lay needs (rounds ++ [groupOf needs rounds.flatten]) := by
  intro l g r e
  rcases split_snoc e with ⟨r', e⟩ | ⟨rfl, rfl, _⟩
  · exact h l g r' e
  · exact ⟨groupOf_nodup .., fun k hk => mem_groupOf.mp hk⟩
theorem Lay.good {needs : List (List Int)} {rounds : List (List Int)} : Lay needs rounds → Good needs rounds.flatten := by
  refine revInd (P := fun rounds => Lay needs rounds → Good needs rounds.flatten) (fun _ l k r e => by simp at e) (fun rs g ih h => ?_) rounds
  have hrs : Good needs rs.flatten := ih fun l g' r e => h l g' (r ++ [g]) (by rw [e]; simp)
  obtain ⟨h1, h2⟩ := h rs g [] rfl
  have e0 : (rs ++ [g]).flatten = rs.flatten ++ g := by simp
  rw [e0]
  have key : ∀ m, (∃ t, g = m ++ t) → Good needs (rs.flatten ++ m) := fun m => revInd (P := fun m => (∃ t, g = m ++ t) → Good needs (rs.flatten ++ m)) (fun _ => by rw [List.append_nil]; exact hrs) (fun m x ihm ⟨t, ht⟩ => by
    have hg := ihm ⟨x :: t, by rw [ht]; simp⟩
    intro l k r e
    rw [← List.append_assoc] at e
    rcases split_snoc e with ⟨r', e⟩ | ⟨rfl, rfl, _⟩
    · exact hg l k r' e
    · have hx : x ∈ g := by rw [ht]; simp
      obtain ⟨a, b, c⟩ := h2 x hx
      refine ⟨a, fun hm => ?_, fun j hj => List.mem_append_left _ (c j hj)⟩
      rcases List.mem_append.mp hm with hm | hm
      · exact b hm
      · rw [ht, List.append_assoc] at h1
        exact (List.nodup_append.mp h1).2.2 x hm x (by simp) rfl) m
  exact key g ⟨[], by simp⟩
theorem mem_sortI {x : Int} {l : List Int} : x ∈ sortI l ↔ x ∈ l := (List.mergeSort_perm l _).mem_iff
theorem mem_flat_sort {x : Int} : ∀ {rs : List (List Int)}, x ∈ (rs.map sortI).flatten ↔ x ∈ rs.flatten
  | [] => Iff.rfl
  | r :: rs => by rw [List.map_cons, List.flatten_cons, List.flatten_cons, List.mem_append, List.mem_append, mem_sortI, mem_flat_sort]
theorem Lay.unsort {needs : List (List Int)} {rounds : List (List Int)} (h : Lay needs (rounds.map sortI)) : Lay needs rounds := by
  intro l g r e
  obtain ⟨h1, h2⟩ := h (l.map sortI) (sortI g) (r.map sortI) (by rw [e]; simp)
  refine ⟨(List.mergeSort_perm g _).nodup_iff.mp h1, fun k hk => ?_⟩
  obtain ⟨a, b, c⟩ := h2 k (mem_sortI.mpr hk)
  exact ⟨a, fun q => b (mem_flat_sort.mpr q), fun j hj => mem_flat_sort.mp (c j hj)⟩
theorem roundsGo_spec {needs : List (List Int)} : ∀ (f : Nat) (rounds : List (List Int)), Lay needs rounds → missing rounds.flatten < f → Lay needs (roundsGo needs f rounds rounds.flatten) ∧ groupOf needs (roundsGo needs f rounds rounds.flatten).flatten = []
  | 0, _, _, h => absurd h (Nat.not_lt_zero _)
  | f + 1, rounds, hL, hm => by
    unfold roundsGo
    cases hg : (groupOf needs rounds.flatten).isEmpty with
    | true => rw [if_pos rfl]; exact ⟨hL, List.isEmpty_iff.mp hg⟩
    | false =>
      rw [if_neg (by decide)]
      have e : rounds.flatten ++ groupOf needs rounds.flatten = (rounds ++ [groupOf needs rounds.flatten]).flatten := by simp
      have := missing_less hg
      rw [e] at this ⊢
      exact roundsGo_spec f _ hL.snoc (by omega)
theorem roundsL_spec (needs : List (List Int)) : Lay needs (roundsL needs) ∧ groupOf needs (roundsL needs).flatten = [] :=
  roundsGo_spec 9 [] (fun l g r e => by simp at e) (by show missing [] < 9; decide +kernel)
-- what one comes to
inductive Reach (needs : List (List Int)) : Int → Int → Prop
  | base {k x : Int} : x ∈ nd needs k.toNat → Reach needs k x
  | step {k j x : Int} : j ∈ nd needs k.toNat → Reach needs j x → Reach needs k x
theorem reach_iff {needs : List (List Int)} {k x : Int} : Reach needs k x ↔ x ∈ nd needs k.toNat ∨ ∃ j ∈ nd needs k.toNat, Reach needs j x := by
  constructor
  · intro h; cases h with
    | base h => exact .inl h
    | step h1 h2 => exact .inr ⟨_, h1, h2⟩
  · rintro (h | ⟨j, h1, h2⟩)
    · exact .base h
    · exact .step h1 h2
theorem Reach.trans {needs : List (List Int)} {k j x : Int} (h : Reach needs k j) (hx : x ∈ nd needs j.toNat) : Reach needs k x := by
  induction h with
  | base h => exact .step h (.base hx)
  | step h _ ih => exact .step h (ih hx)
theorem rowOf_app {S T : List Ent} {j : Int} (h : j ∈ S.map Ent.k) : rowOf (S ++ T) j = rowOf S j ∧ octOf (S ++ T) j = octOf S j := by
  obtain ⟨x, _, q⟩ := find_key h
  unfold rowOf octOf
  rw [List.find?_append, q]; exact ⟨rfl, rfl⟩
theorem rowOf_last {S : List Ent} {e : Ent} (h : e.k ∉ S.map Ent.k) : rowOf (S ++ [e]) e.k = e.row ∧ octOf (S ++ [e]) e.k = e.oct := by
  unfold rowOf octOf
  rw [List.find?_append, find_nokey h]; simp
theorem kept_reach {needs : List (List Int)} (h8 : Eight needs) (ks : List Int) : Good needs ks → ∀ k ∈ ks, ∀ x, (x ∈ rowOf (keepAll needs ks) k ↔ Reach needs k x) ∧ (0 ≤ x → (bit (octOf (keepAll needs ks) k) x = true ↔ Reach needs k x)) := by
  refine revInd (P := fun ks => Good needs ks → ∀ k ∈ ks, ∀ x, (x ∈ rowOf (keepAll needs ks) k ↔ Reach needs k x) ∧ (0 ≤ x → (bit (octOf (keepAll needs ks) k) x = true ↔ Reach needs k x))) (fun _ k h => by cases h) (fun ks k ih hg k' hk' x => ?_) ks
  have hgk : Good needs ks := fun l a r e => hg l a (r ++ [k]) (by rw [e]; simp)
  have hkeys := keepAll_keys needs ks
  rw [keepAll_snoc]
  unfold keep1
  obtain ⟨g1, g2, g3⟩ := hg ks k [] rfl
  rcases List.mem_append.mp hk' with h | h
  · obtain ⟨e1, e2⟩ := rowOf_app (S := keepAll needs ks) (T := [⟨k, rowUp needs (keepAll needs ks) k.toNat (nd needs k.toNat), octUp (keepAll needs ks) (nd needs k.toNat)⟩]) (j := k') (by rw [hkeys]; exact h)
    rw [e1, e2]
    exact ih hgk k' h x
  · obtain rfl := List.mem_singleton.mp h
    obtain ⟨e1, e2⟩ := rowOf_last (S := keepAll needs ks) (e := ⟨k', rowUp needs (keepAll needs ks) k'.toNat (nd needs k'.toNat), octUp (keepAll needs ks) (nd needs k'.toNat)⟩) (by rw [hkeys]; exact g2)
    rw [e1, e2, reach_iff]
    refine ⟨?_, fun hx => ?_⟩
    · show x ∈ rowUp needs (keepAll needs ks) k'.toNat (nd needs k'.toNat) ↔ _
      unfold rowUp
      rw [List.mem_append, List.mem_flatMap]
      refine or_congr Iff.rfl ⟨fun ⟨j, hj, hm⟩ => ⟨j, hj, (ih hgk j (g3 j hj) x).1.mp ((dedupL_mem _ _).mp hm)⟩, fun ⟨j, hj, hr⟩ => ⟨j, hj, (dedupL_mem _ _).mpr ((ih hgk j (g3 j hj) x).1.mpr hr)⟩⟩
    · show bit (octUp (keepAll needs ks) (nd needs k'.toNat)) x = true ↔ _
      rw [(octUp_spec (keepAll_ok h8 ks) _ (nd_small h8 _)).2 x hx, List.any_eq_true]
      constructor
      · rintro ⟨j, hj, hb⟩
        rcases Bool.or_eq_true_iff.mp hb with hb | hb
        · exact .inr ⟨j, hj, ((ih hgk j (g3 j hj) x).2 hx).mp hb⟩
        · have : j = x := by simpa using hb
          exact .inl (this ▸ hj)
      · rintro (h | ⟨j, hj, hr⟩)
        · exact ⟨x, h, by simp⟩
        · exact ⟨j, hj, by rw [((ih hgk j (g3 j hj) x).2 hx).mpr hr]; rfl⟩
theorem mem_furtherOf {needs : List (List Int)} {reached further : List Int} (hin : ∀ x ∈ further, In8 x) {x : Int} : x ∈ furtherOf needs reached further ↔ In8 x ∧ x ∉ reached ∧ ∃ one ∈ further, x ∈ nd needs one.toNat := by
  unfold furtherOf
  rw [List.mem_map]
  constructor
  · rintro ⟨a, ha, rfl⟩
    obtain ⟨h8, hp⟩ := List.mem_filter.mp ha
    rw [Bool.and_eq_true] at hp
    have h8 := List.mem_range.mp h8
    refine ⟨⟨by omega, by omega⟩, fun h => ?_, ?_⟩
    · have := has_iff.mpr h
      rw [this] at hp; simp at hp
    · cases q : further.filter fun one => has (nd needs one.toNat) (a : Int) with
      | nil => rw [q] at hp; simp at hp
      | cons b l =>
        have hb : b ∈ further.filter fun one => has (nd needs one.toNat) (a : Int) := by rw [q]; simp
        obtain ⟨b1, b2⟩ := List.mem_filter.mp hb
        exact ⟨b, b1, has_iff.mp b2⟩
  · rintro ⟨h8, h1, one, ho, hx⟩
    have e : ((x.toNat : Nat) : Int) = x := by have := h8; omega
    refine ⟨x.toNat, List.mem_filter.mpr ⟨List.mem_range.mpr (by have := h8; omega), ?_⟩, e⟩
    rw [e, Bool.and_eq_true]
    refine ⟨?_, ?_⟩
    · cases q : has reached x with
      | false => rfl
      | true => exact absurd (has_iff.mp q) h1
    · have hb : one ∈ further.filter fun one => has (nd needs one.toNat) x := List.mem_filter.mpr ⟨ho, has_iff.mpr hx⟩
      cases q : further.filter fun one => has (nd needs one.toNat) x with
      | nil => rw [q] at hb; cases hb
      | cons b l => rfl
theorem reachedGo_spec {needs : List (List Int)} (h8 : Eight needs) {k : Int} : ∀ (f : Nat) (r fu : List Int), (r ++ fu).Nodup → (∀ x ∈ r ++ fu, In8 x) → (∀ x ∈ r ++ fu, Reach needs k x) → (∀ x ∈ nd needs k.toNat, x ∈ r ++ fu) → (∀ y ∈ r, ∀ x ∈ nd needs y.toNat, x ∈ r ++ fu) → missing r < f →
    (reachedGo needs f r fu).Nodup ∧ ∀ x, x ∈ reachedGo needs f r fu ↔ Reach needs k x
  | 0, _, _, _, _, _, _, _, h => absurd h (Nat.not_lt_zero _)
  | f + 1, r, fu, h1, h2, h3, h4, h5, h6 => by
    unfold reachedGo
    cases hfu : fu.isEmpty with
    | true =>
      rw [if_pos rfl]
      have : fu = [] := List.isEmpty_iff.mp hfu
      subst this
      rw [List.append_nil] at h1 h3 h4
      refine ⟨h1, fun x => ⟨h3 x, fun hr => ?_⟩⟩
      have key : ∀ a y, Reach needs a y → (∀ z ∈ nd needs a.toNat, z ∈ r) → y ∈ r := by
        intro a y hr
        induction hr with
        | base h => intro ha; exact ha _ h
        | step h _ ih => intro ha; exact ih fun z hz => by have := h5 _ (ha _ h) z hz; rwa [List.append_nil] at this
      exact key k x hr h4
    | false =>
      rw [if_neg (by decide)]
      obtain ⟨n1, n2, n3⟩ := List.nodup_append.mp h1
      have hin : ∀ x ∈ fu, In8 x := fun x hx => h2 x (List.mem_append_right _ hx)
      have hmm := missing_many n2 (fun x hx hr => n3 x hr x hx rfl) hin
      have hpos : 0 < fu.length := by cases fu with
        | nil => cases hfu
        | cons a l => simp
      refine reachedGo_spec h8 f (r ++ fu) _ ?_ ?_ ?_ ?_ ?_ (by omega)
      · exact List.nodup_append.mpr ⟨h1, furtherOf_nodup .., fun a ha b hb q => (mem_furtherOf hin).mp hb |>.2.1 (q ▸ ha)⟩
      · intro x hx
        rcases List.mem_append.mp hx with hx | hx
        · exact h2 x hx
        · exact ((mem_furtherOf hin).mp hx).1
      · intro x hx
        rcases List.mem_append.mp hx with hx | hx
        · exact h3 x hx
        · obtain ⟨_, _, one, ho, hn⟩ := (mem_furtherOf hin).mp hx
          exact (h3 one (List.mem_append_right _ ho)).trans hn
      · intro x hx; exact List.mem_append_left _ (h4 x hx)
      · intro y hy x hx
        rcases List.mem_append.mp hy with hy | hy
        · exact List.mem_append_left _ (h5 y hy x hx)
        · by_cases q : x ∈ r ++ fu
          · exact List.mem_append_left _ q
          · exact List.mem_append_right _ ((mem_furtherOf hin).mpr ⟨nd_small h8 _ x hx, q, y, hy, hx⟩)
theorem nd_nodup {needs : List (List Int)} (h8 : Eight needs) (k : Nat) : (nd needs k).Nodup := by
  unfold nd
  rw [List.getD_eq_getElem?_getD]
  cases e : needs[k]? with
  | none => exact List.nodup_nil
  | some r => exact h8.nodup r (List.mem_of_getElem? e)
theorem reachedL_spec {needs : List (List Int)} (h8 : Eight needs) (k : Int) : (reachedL needs k.toNat).Nodup ∧ ∀ x, x ∈ reachedL needs k.toNat ↔ Reach needs k x :=
  reachedGo_spec h8 9 [] (nd needs k.toNat) (nd_nodup h8 _) (nd_small h8 _) (fun x hx => .base hx) (fun x hx => hx) (fun y hy => by cases hy) (by decide +kernel)
end Mine

namespace Mine
-- the ring
theorem no_order {su : Int → List Int} {U : Int → Prop} (hU : ∀ x, U x → ∃ j, U j ∧ x ∈ su j) (F : List Int) : (∀ (i : Nat) v, F[i]? = some v → ∀ c ∈ su v, c ∈ F.take i) → (∀ x, U x → x ∈ F) → ∀ x, ¬ U x := by
  refine revInd (P := fun F => (∀ (i : Nat) v, F[i]? = some v → ∀ c ∈ su v, c ∈ F.take i) → (∀ x, U x → x ∈ F) → ∀ x, ¬ U x) (fun _ h x hx => by cases h x hx) (fun F v ih h1 h2 => ?_) F
  refine ih (fun i u hu c hc => ?_) fun x hx => ?_
  · obtain ⟨hi, _⟩ := List.getElem?_eq_some_iff.mp hu
    have := h1 i u (by rw [List.getElem?_append_left hi]; exact hu) c hc
    rwa [List.take_append_of_le_length (Nat.le_of_lt hi)] at this
  · rcases List.mem_append.mp (h2 x hx) with h | h
    · exact h
    · obtain ⟨j, hj, hxj⟩ := hU x hx
      obtain ⟨i, hi, e⟩ := List.getElem_of_mem (h2 j hj)
      have := h1 i j (List.getElem?_eq_some_iff.mpr ⟨hi, e⟩) x hxj
      rw [List.take_append_of_le_length (by rw [List.length_append] at hi; simp at hi; omega)] at this
      exact List.mem_of_mem_take this
theorem all_come {needs : List (List Int)} (h8 : Eight needs) {ks F : List Int} (h : Order (sucOf needs) (keys8 8) F) (hg : groupOf needs ks = []) : ∀ x, In8 x → x ∈ ks := by
  intro x hx
  by_cases q : x ∈ ks
  · exact q
  · exfalso
    refine no_order (su := sucOf needs) (U := fun x => In8 x ∧ x ∉ ks) (fun y ⟨hy, hn⟩ => ?_) F h.2 (fun y hy => h.1 y (mem_keys8.mpr hy.1)) x ⟨hx, q⟩
    have hng : y ∉ groupOf needs ks := by rw [hg]; simp
    by_cases hall : ∀ j ∈ nd needs y.toNat, j ∈ ks
    · exact absurd (mem_groupOf.mpr ⟨hy, hn, hall⟩) hng
    · simp only [Classical.not_forall] at hall
      obtain ⟨j, hj, hjn⟩ := hall
      exact ⟨j, ⟨nd_small h8 _ j hj, hjn⟩, mem_suc.mpr ⟨hy, hj⟩⟩
theorem ring_out {needs : List (List Int)} {ks C : List Int} (hk : Good needs ks) (hr : Ring (sucOf needs) C) : ∀ v ∈ C, v ∉ ks := by
  have key : ∀ l, (∃ r, ks = l ++ r) → ∀ v ∈ C, v ∉ l := fun l => revInd (P := fun l => (∃ r, ks = l ++ r) → ∀ v ∈ C, v ∉ l) (fun _ v _ h => by cases h) (fun l x ih ⟨r, e⟩ v hv hm => by
    have e' : ks = l ++ x :: r := by rw [e]; simp
    have ih' := ih ⟨x :: r, e'⟩
    rcases List.mem_append.mp hm with hm | hm
    · exact ih' v hv hm
    · obtain rfl := List.mem_singleton.mp hm
      obtain ⟨u, hu, hvu⟩ := hr.2 v hv
      exact ih' u hu ((hk l v r e').2.2 u (mem_suc.mp hvu).2)) l
  exact key ks ⟨[], by simp⟩
theorem nodup_le : ∀ {l m : List Int}, l.Nodup → (∀ x ∈ l, x ∈ m) → l.length ≤ m.length
  | [], _, _, _ => Nat.zero_le _
  | a :: l, m, h, hs => by
    rw [List.nodup_cons] at h
    have ha := hs a (by simp)
    have := nodup_le (l := l) (m := m.erase a) h.2 (fun x hx => (List.mem_erase_of_ne (show x ≠ a from fun e => h.1 (e ▸ hx))).mpr (hs x (by simp [hx])))
    rw [List.length_erase_of_mem ha] at this
    have : 0 < m.length := List.length_pos_of_mem ha
    simp; omega
theorem len8_iff {ks : List Int} (hn : ks.Nodup) (h8 : ∀ x ∈ ks, In8 x) : (∀ x, In8 x → x ∈ ks) ↔ 8 ≤ ks.length := by
  have hm := missing_many (r := []) hn (fun _ _ => by simp) h8
  have e : missing [] = 8 := by decide +kernel
  rw [e, List.nil_append] at hm
  constructor
  · intro h
    have := nodup_le (keys8_nodup 8) fun x hx => h x (mem_keys8.mp hx)
    simpa [keys8] using this
  · intro h x hx
    by_cases q : x ∈ ks
    · exact q
    · have := missing_one q hx
      omega
theorem ring_iff {needs : List (List Int)} (h8 : Eight needs) {ring : Bool} {rounds : List (List Int)} (hr : RunOk needs ring rounds) : ring = decide ((roundsL needs).flatten.length < 8) := by
  obtain ⟨_, h1, h2⟩ := hr
  obtain ⟨hL, hG⟩ := roundsL_spec needs
  have hg := hL.good
  have h8' : ∀ x ∈ (roundsL needs).flatten, In8 x := fun x hx => by
    obtain ⟨l, r, e⟩ := List.append_of_mem hx
    exact (hg l x r e).1
  cases ring with
  | false =>
    obtain ⟨F, hF⟩ := h1 rfl
    have := (len8_iff hg.nodup h8').mp (all_come h8 hF hG)
    exact (decide_eq_false (by omega)).symm
  | true =>
    obtain ⟨C, hC⟩ := h2 rfl
    obtain ⟨c, hc⟩ := List.exists_mem_of_ne_nil C hC.1
    have hout := ring_out hg hC c hc
    obtain ⟨u, _, hcu⟩ := hC.2 c hc
    have : ¬ 8 ≤ (roundsL needs).flatten.length := fun h => hout ((len8_iff hg.nodup h8').mpr h c (mem_suc.mp hcu).1)
    exact (decide_eq_true (by omega)).symm
-- lists with the same members
theorem sortI_congr {a b : List Int} (ha : a.Nodup) (hb : b.Nodup) (h : ∀ x, x ∈ a ↔ x ∈ b) : sortI a = sortI b := by
  have hp : a.Perm b := (List.perm_ext_iff_of_nodup ha hb).mpr h
  refine sortI_eq ((List.mergeSort_perm b _).trans hp.symm) ?_
  have h1 : (sortI b).Pairwise fun a b : Int => decide (a ≤ b) = true := List.pairwise_mergeSort (fun a b c h1 h2 => by simp at *; omega) (fun a b => by simp; omega) b
  exact h1.imp fun h => by simpa using h
theorem sortI_inj {a b : List Int} (h : sortI a = sortI b) : ∀ x, x ∈ a ↔ x ∈ b := fun x => by rw [← mem_sortI, h, mem_sortI]
theorem dedupL_app {l : List Int} (l' : List Int) : (∀ x ∈ l', x ∈ l) → dedupL (l ++ l') = dedupL l := by
  refine revInd (P := fun l' => (∀ x ∈ l', x ∈ l) → dedupL (l ++ l') = dedupL l) (fun _ => by rw [List.append_nil]) (fun l' t ih h => ?_) l'
  rw [← List.append_assoc, dedupL_snoc, ih fun x hx => h x (by simp [hx])]
  have : (dedupL l).any (· == t) = true := has_iff.mpr ((dedupL_mem _ _).mpr (h t (by simp)))
  rw [if_pos this]
theorem onceL_eq (row : List Int) : onceL row = dedupL row := by
  refine revInd (P := fun row => onceL row = dedupL row) rfl (fun row t ih => ?_) row
  rw [dedupL_snoc, ← ih]
  have hmem : ∀ x, x ∈ onceL row ↔ x ∈ row := fun x => by rw [ih]; exact dedupL_mem _ _
  have h1 : ((List.range row.length).filter fun i => !((row ++ [t]).take i).any (· == (row ++ [t]).getD i 0)).map (fun i => (row ++ [t]).getD i 0) = onceL row := by
    unfold onceL
    have e : ((List.range row.length).filter fun i => !((row ++ [t]).take i).any (· == (row ++ [t]).getD i 0)) = (List.range row.length).filter fun i => !(row.take i).any (· == row.getD i 0) := by
      refine List.filter_congr fun i hi => ?_
      have hi := List.mem_range.mp hi
      rw [List.take_append_of_le_length (Nat.le_of_lt hi)]
      simp [List.getElem?_append_left hi]
    rw [e]
    refine List.map_congr_left fun i hi => ?_
    have hi := List.mem_range.mp (List.mem_filter.mp hi).1
    simp [List.getElem?_append_left hi]
  have h2 : onceL (row ++ [t]) = onceL row ++ (if row.any (· == t) then [] else [t]) := by
    rw [← h1]
    conv => lhs; unfold onceL
    rw [List.length_append, show row.length + [t].length = row.length + 1 from rfl, List.range_succ, List.filter_append, List.map_append]
    congr 1
    have e1 : (row ++ [t]).getD row.length 0 = t := by simp
    have e2 : (row ++ [t]).take row.length = row := by simp
    rw [List.filter_cons, e1, e2]
    cases row.any (· == t) <;> simp
  rw [h2]
  by_cases q : t ∈ row
  · have a1 : row.any (· == t) = true := has_iff.mpr q
    have a2 : (onceL row).any (· == t) = true := has_iff.mpr ((hmem t).mpr q)
    rw [if_pos a1, if_pos a2, List.append_nil]
  · have a1 : ¬ row.any (· == t) = true := fun h => q (has_iff.mp h)
    have a2 : ¬ (onceL row).any (· == t) = true := fun h => q ((hmem t).mp (has_iff.mp h))
    rw [if_neg a1, if_neg a2]
theorem rem_all : ∀ (as t : List Int), t.Nodup → as.Nodup → ((∃ u, as.foldlM rem1 t = some u ∧ u = []) ↔ ∀ x, x ∈ as ↔ x ∈ t)
  | [], t, _, _ => by
    constructor
    · rintro ⟨u, h, rfl⟩ x
      have : t = [] := by simpa using h
      rw [this]
    · intro h
      have : t = [] := List.eq_nil_iff_forall_not_mem.mpr fun x hx => by cases (h x).mpr hx
      exact ⟨[], by rw [this]; rfl, rfl⟩
  | a :: as, t, ht, ha => by
    rw [List.nodup_cons] at ha
    rw [List.foldlM_cons]
    by_cases q : a ∈ t
    · have e : rem1 t a = some (t.erase a) := by unfold rem1; rw [if_pos (show t.any (· == a) = true from has_iff.mpr q)]
      rw [e]
      show (∃ u, as.foldlM rem1 (t.erase a) = some u ∧ u = []) ↔ _
      rw [rem_all as (t.erase a) (ht.erase a) ha.2]
      constructor
      · intro h x
        rw [List.mem_cons, h x, List.Nodup.mem_erase_iff ht]
        constructor
        · rintro (rfl | h)
          · exact q
          · exact h.2
        · intro hx
          by_cases e : x = a
          · exact .inl e
          · exact .inr ⟨e, hx⟩
      · intro h x
        rw [List.Nodup.mem_erase_iff ht, ← h x, List.mem_cons]
        constructor
        · intro hx
          exact ⟨fun e => ha.1 (e ▸ hx), .inr hx⟩
        · rintro ⟨h1, h2 | h2⟩
          · exact absurd h2 h1
          · exact h2
    · have e : rem1 t a = Option.none := by unfold rem1; rw [if_neg (show ¬ t.any (· == a) = true from fun h => q (has_iff.mp h))]
      rw [e]
      constructor
      · rintro ⟨u, h, _⟩; cases h
      · intro h; exact absurd ((h a).mp (by simp)) q
theorem compareB_iff (xs ys : List Int) : compareB xs ys = true ↔ ∀ x, x ∈ xs ↔ x ∈ ys := by
  have h := rem_all (dedupL xs) (dedupL ys) (dedupL_nodup ys) (dedupL_nodup xs)
  have h2 : (∀ x, x ∈ dedupL xs ↔ x ∈ dedupL ys) ↔ ∀ x, x ∈ xs ↔ x ∈ ys := by
    constructor <;> intro h x <;> have := h x <;> rw [dedupL_mem, dedupL_mem] at * <;> exact this
  rw [← h2, ← h]
  unfold compareB
  cases q : (dedupL xs).foldlM rem1 (dedupL ys) with
  | none => simp
  | some u => simp [List.isEmpty_iff]
-- the octet
theorem octet_sum : ∀ b : Fin 256, (((List.range 8).filter fun j => Nat.testBit b j).map fun j : Nat => (2 : Int) ^ j).sum = ((b : Nat) : Int) := by decide +kernel
theorem reached_sum {o : Int} (h0 : 0 ≤ o) (h1 : o < 256) {l : List Int} (hn : l.Nodup) (h8 : ∀ x ∈ l, In8 x) (h : ∀ x, 0 ≤ x → (bit o x = true ↔ x ∈ l)) : ((sortI l).map fun j : Int => (2 : Int) ^ j.toNat).sum = o := by
  have e : sortI l = ((List.range 8).filter fun j => o.toNat.testBit j).map fun j : Nat => (j : Int) := by
    have hnd : (((List.range 8).filter fun j => o.toNat.testBit j).map fun j : Nat => (j : Int)).Nodup := List.pairwise_map.mpr (List.Pairwise.imp (fun h e => h (by omega)) ((List.nodup_range).filter _))
    refine sortI_eq ((List.perm_ext_iff_of_nodup hnd hn).mpr fun x => ?_) ?_
    · rw [List.mem_map]
      constructor
      · rintro ⟨j, hj, rfl⟩
        refine (h _ (by omega)).mp ?_
        have := (List.mem_filter.mp hj).2
        unfold bit
        simpa using this
      · intro hx
        have := h8 x hx
        have hb := (h x this.1).mpr hx
        exact ⟨x.toNat, List.mem_filter.mpr ⟨List.mem_range.mpr (by omega), hb⟩, by omega⟩
    · refine List.pairwise_map.mpr (List.Pairwise.imp (R := (· ≤ ·)) (fun h => by omega) ?_)
      exact (List.pairwise_le_range).filter _
  rw [e, List.map_map]
  have := octet_sum ⟨o.toNat, by omega⟩
  have e2 : (((⟨o.toNat, by omega⟩ : Fin 256) : Nat) : Int) = o := by show ((o.toNat : Nat) : Int) = o; omega
  rw [e2] at this
  exact this
end Mine

namespace Mine
section
variable {w : World} {os : OsState} {n : Nat} {sc : Scope} {ρ : Str → Option V} {Ω : List Item}
theorem relabel_local {scope : Scope} {t : Str} (h : scope.names.lookup t = some .local) : (relabelS scope sc).names.lookup t = some .local := by
  rw [relabelS_names, lookup_map_kind' h]; rfl
theorem upd_dom {scope : Scope} {t : Str} {v : V} {ρ' : Str → Option V} (h : scope.names.lookup t = some .local) (hd : ∀ x, scope.names.lookup x = some .free → ρ' x = Option.none) : ∀ x, scope.names.lookup x = some .free → upd ρ' t v x = Option.none := by
  intro x hx
  unfold upd
  split
  · rename_i e; rw [e, h] at hx; cases hx
  · exact hd x hx
/-- the turns of «[k for group in .. for k in group]» -/
theorem flat_loop {iter : Expr} {t1 t2 : Str} {p1 p2 p3 p4 : Pos} {scope : Scope} {pos : Pos} (xss : List (List Int)) (h1 : scope.names.lookup t1 = some .local) (h2 : scope.names.lookup t2 = some .local) (hd1 : (t1 == ("__debug__" : Str)) = false) (hd2 : (t2 == ("__debug__" : Str)) = false) (hsz : xss.flatten.length ≤ sizeLine)
    {A : Around} {env : Env} {B : Bs} {own : List Item} {s : Shared} {R : Result → Shared → Prop} {cs cl : List (Str × Addr)} {L I D : Addr} {J : Nat → Item}
    (hA : Rm n A own) (T : TopB w B) (ek : EnvOk env sc) (sees : Sees Ω own env ρ) (C : CompIn scope sc env cs cl) (W : Iter w os B I (xss.map fun g => IL g) J)
    (hR : Rep w os B (J 0 :: lstItem D [] :: (frameI (compEnv scope env L (cs ++ cl)) cs noV ++ own)) s)
    (k : ∀ s' B' ρ', Le B B' → Rep w os B' (lstItem D (xss.flatten.map V.int) :: (frameI (compEnv scope env L (cs ++ cl)) cs ρ' ++ own)) s' → R (.ok .next) s') :
    codeAny (model pg w) A (.compLoop (.ListComp (.Name t2 p3) [⟨.Name t1 p1, iter, [], 0⟩, ⟨.Name t2 p2, .Name t1 p4, [], 0⟩] scope pos) 0 (.ref I) (.ref D) (compEnv scope env L (cs ++ cl))) R s := by
  have hv1 := C.var (env := env) L (.inl h1)
  have hv2 := C.var (env := env) L (.inl h2)
  generalize hCE : compEnv scope env L (cs ++ cl) = CE at hR k hv1 hv2 ⊢
  have frOk : FrOk CE cs := hCE ▸ C.frOk L
  have eOk : EnvOk CE (relabelS scope sc) := hCE ▸ C.envOk ek L
  have hsees : ∀ (pre : List Item) (ρ' : Str → Option V), (∀ x, scope.names.lookup x = some .free → ρ' x = Option.none) → Sees Ω (pre ++ frameI CE cs ρ' ++ own) CE (seen scope ρ ρ') := fun pre ρ' hd => hCE ▸ C.sees (ρ := ρ) L (pre := pre) sees hd
  have hup : ∀ (pre : List Item) (ρ' : Str → Option V), Rm n A (pre ++ frameI CE cs ρ' ++ own) := fun pre ρ' => hA.more fun i hi => by simp [hi]
  refine two0_loop (fun m s' => ∃ i B' ρ', m = xss.length + 1 - i ∧ i ≤ xss.length ∧ Le B B' ∧ (∀ x, scope.names.lookup x = some .free → ρ' x = Option.none) ∧
      Rep w os B' (J i :: lstItem D ((xss.take i).flatten.map V.int) :: (frameI CE cs ρ' ++ own)) s') ?_ (xss.length + 1)
    ⟨0, B, noV, rfl, Nat.zero_le _, Le.refl B, fun _ _ => rfl, by simpa using hR⟩
  rintro m s' E' ⟨i, B', ρ', rfl, hi, le, hd, R'⟩
  rcases Nat.lt_or_ge i xss.length with hlt | hge
  · have hx : (xss.map fun g => IL g)[i]? = some (IL xss[i]) := by simp [hlt]
    have htake : (xss.take (i + 1)).flatten = (xss.take i).flatten ++ xss[i] := by
      rw [List.take_add_one, List.getElem?_eq_getElem hlt, List.flatten_append]
      simp only [Option.toList_some, List.flatten_cons, List.flatten_nil, List.append_nil]
    have hlen : (xss.take i).flatten.length + xss[i].length ≤ sizeLine := by
      have : xss.flatten.length = (xss.take (i + 1)).flatten.length + (xss.drop (i + 1)).flatten.length := by rw [← List.length_append, ← List.flatten_append, List.take_append_drop]
      rw [htake, List.length_append] at this
      omega
    refine W.next i _ A B' _ s' _ _ hx hA.handled le R' fun r s₁ d R₁ => ?_
    generalize hg : xss[i] = g at d hlen htake ⊢
    generalize hdn : (xss.take i).flatten = dn at R₁ hlen htake
    refine assign_rep (pre := [J (i + 1), lstItem D (dn.map V.int)]) frOk hv1 (by simpa using R₁) d fun s₂ R₂ => ?_
    have hd2' := upd_dom (v := IL g) h1 hd
    have pe1 : PE w os n Ω (relabelS scope sc) (seen scope ρ (upd ρ' t1 (IL g))) (.Name t1 p4) (IL g) := PE.name (by simp [seen, upd]) (.inl (relabel_local h1)) hd1
    refine PI.list pe1 A CE B' _ s₂ E' _ (hup _ _) (T.mono le) eOk (hsees _ _ hd2') R₂ fun s₃ B₃ I2 J2 l₃ W2 R₃ => ?_
    have fin : codeAny (model pg w) A (.compLoop (.ListComp (.Name t2 p3) [⟨.Name t1 p1, iter, [], 0⟩, ⟨.Name t2 p2, .Name t1 p4, [], 0⟩] scope pos) 1 (.ref I2) (.ref D) CE) (fun r s₅ => match r with | .ok _ => ∃ m, m < xss.length + 1 - i ∧ ∃ i B' ρ', m = xss.length + 1 - i ∧ i ≤ xss.length ∧ Le B B' ∧ (∀ x, scope.names.lookup x = some .free → ρ' x = Option.none) ∧ Rep w os B' (J i :: lstItem D ((xss.take i).flatten.map V.int) :: (frameI CE cs ρ' ++ own)) s₅ | .error e => cameBackBy (model pg w) A CE E' e s₅) s₃ := by
      refine two1_loop (fun m s' => ∃ j B'' ρ'', m = g.length + 1 - j ∧ j ≤ g.length ∧ Le B₃ B'' ∧ (∀ x, scope.names.lookup x = some .free → ρ'' x = Option.none) ∧ Rep w os B'' (J2 j :: ([J (i + 1), lstItem D ((dn ++ g.take j).map V.int)] ++ frameI CE cs ρ'' ++ own)) s') ?_ (g.length + 1)
        ⟨0, B₃, _, rfl, Nat.zero_le _, Le.refl _, hd2', by simpa using R₃⟩
      rintro m s₄ ⟨j, B₄, ρ₄, rfl, hj, le₄, hd₄, R₄⟩
      rcases Nat.lt_or_ge j g.length with hlj | hgj
      · have hx2 : (g.map V.int)[j]? = some (V.int g[j]) := by simp [hlj]
        have htk2 : dn ++ g.take (j + 1) = (dn ++ g.take j) ++ [g[j]] := by rw [List.take_add_one, List.getElem?_eq_getElem hlj, List.append_assoc]; rfl
        refine W2.next j _ A B₄ _ s₄ _ _ hx2 hA.handled le₄ R₄ fun r₅ s₅ d₅ R₅ => ?_
        refine assign_rep (pre := [J2 (j + 1), J (i + 1), lstItem D ((dn ++ g.take j).map V.int)]) frOk hv2 (by simpa using R₅) d₅ fun s₆ R₆ => ?_
        have hd₆ := upd_dom (v := V.int g[j]) h2 hd₄
        have pe2 : PE w os n Ω (relabelS scope sc) (seen scope ρ (upd ρ₄ t2 (V.int g[j]))) (.Name t2 p3) (V.int g[j]) := PE.name (by simp [seen, upd]) (.inl (relabel_local h2)) hd2
        refine pe2.use (hup _ _) (T.mono ((le.trans l₃).trans le₄)) eOk (hsees _ _ hd₆) R₆ fun r₇ s₇ B₇ l₇ T₇ R₇ d₇ => ?_
        obtain ⟨o, ho, its, mm, rfl, ds⟩ := R₇.has (lstItem D ((dn ++ g.take j).map V.int)) (by simp)
        have hl7 : its.size ≤ sizeLine := by
          rw [ds.size, List.length_map, List.length_append, List.length_take]; omega
        refine append_at ho (fun h' hs ho' => ?_) hl7
        refine ⟨g.length + 1 - (j + 1), by omega, j + 1, B₇, _, rfl, hlj, le₄.trans l₇, hd₆, ?_⟩
        have e1 : [J2 (j + 1), J (i + 1), lstItem D ((dn ++ g.take j).map V.int)] ++ frameI CE cs (upd ρ₄ t2 (V.int g[j])) ++ own = [J2 (j + 1), J (i + 1)] ++ lstItem D ((dn ++ g.take j).map V.int) :: (frameI CE cs (upd ρ₄ t2 (V.int g[j])) ++ own) := by simp
        refine (R₇.writeAt e1 (i' := lstItem D ((dn ++ g.take (j + 1)).map V.int)) s₇.toks (fun b o hb e => hs.extBut b o hb e) rfl ho' ⟨_, _, rfl, ?_⟩)
        rw [htk2, List.map_append, Array.toList_push]
        exact ds.append (dens_cons.mpr ⟨r₇, [], rfl, d₇, dens_nil.mpr rfl⟩)
      · have hj' : j = g.length := by omega
        subst hj'
        rw [List.take_length] at R₄
        refine W2.done A B₄ _ s₄ _ _ hA.handled le₄ (by simpa using R₄) fun s₅ R₅ => ?_
        refine ⟨xss.length + 1 - (i + 1), by omega, i + 1, B₄, ρ₄, rfl, hlt, (le.trans l₃).trans le₄, hd₄, ?_⟩
        rw [htake]
        simpa using R₅
    exact two_start1 fin (W2.self 0 A B₃ _ s₃ _ _ R₃ fin)
  · have hi' : i = xss.length := by omega
    subst hi'
    rw [List.take_length] at R'
    refine W.done A B' _ s' _ _ hA.handled le (by rw [List.length_map]; exact R') fun s₁ R₁ => ?_
    exact k s₁ B' ρ' le R₁
/-- «[k for group in .. for k in group]» -/
theorem PE.flat {iter : Expr} {t1 t2 : Str} {p1 p2 p3 p4 : Pos} {scope : Scope} {pos : Pos} (xss : List (List Int)) (hi : PI w os n Ω sc ρ iter (xss.map fun g => IL g)) (h1 : scope.names.lookup t1 = some .local) (h2 : scope.names.lookup t2 = some .local) (hsz : xss.flatten.length ≤ sizeLine) (hok : compOk scope sc ρ = true)
    (hs : ∀ env x, foldedSetIterable iter env x = pure x := by intro _ _; rfl) (hd1 : (t1 == ("__debug__" : Str)) = false := by decide) (hd2 : (t2 == ("__debug__" : Str)) = false := by decide) :
    PE w os n Ω sc ρ (.ListComp (.Name t2 p3) [⟨.Name t1 p1, iter, [], 0⟩, ⟨.Name t2 p2, .Name t1 p4, [], 0⟩] scope pos) (IL xss.flatten) := by
  intro A env B own s E hA T ek sees R
  obtain ⟨o1, o2, o3⟩ := compOk_parts hok
  rw [eval_ListComp]
  refine wpAny_comprehension_free (use := Option.none) (cl := clGo env.cells scope.names []) rfl (hs env) (closure_is fun x hx => cells_of_sees sees ek.scope (o2 x hx).1 (o2 x hx).2) o1 (hnames_of o3) ?_
  refine hi A env B own s E _ hA T ek sees R fun s₂ B₂ I J l₂ W R₂ => ?_
  refine wpAny_newObj_type ?_
  have R₃ := R₂.new (lstItem s₂.heap.objs.size []) s₂.toks (fun b o e => Heap.get?_push_of_some _ e) (get?_size _) (Heap.get?_push_size _ rfl) (o := listOf ([] : List Value).toArray 0) ⟨_, _, rfl, dens_nil.mpr rfl⟩
  refine newEnv_rep R₃ o3 fun L cs s₄ c1 c2 c3 R₄ => ?_
  have C : CompIn scope sc env cs (clGo env.cells scope.names []) := ⟨c1, c2, c3, o3, o1, ek.scope, fun x c hx hc => clGo_lookup hx hc, fun x hx => (o2 x hx).1⟩
  have R₅ : Rep w os B₂ (J 0 :: lstItem s₂.heap.objs.size [] :: (frameI (compEnv scope env L (cs ++ clGo env.cells scope.names [])) cs noV ++ own)) s₄ := by
    refine R₄.perm ?_
    rw [frame_new (L := L)]
    simp only [List.cons_append]
    show (nsItem L _ :: (cellsI cs _ ++ lstItem _ [] :: J 0 :: own)).Perm (J 0 :: lstItem _ [] :: nsItem L _ :: (cellsI cs _ ++ own))
    refine List.Perm.trans (List.Perm.cons _ (List.perm_middle.trans (List.Perm.cons _ List.perm_middle))) ?_
    refine (List.Perm.swap _ _ _).trans ?_
    refine (List.Perm.cons _ (List.Perm.swap _ _ _)).trans ?_
    exact List.Perm.swap _ _ _
  have fin := flat_loop (p1 := p1) (p2 := p2) (p3 := p3) (p4 := p4) (pos := pos) (iter := iter) xss h1 h2 hd1 hd2 hsz (L := L) (R := compPost (model pg w) A E Option.none (Post w os B own (IL xss.flatten)) (.ref s₂.heap.objs.size) L) hA (T.mono l₂) ek sees C W R₅ fun s' B' ρ' l' R' => by
    obtain ⟨m', hns, h⟩ := comp_end (L := L) (rest := cellsI cs ρ') R'
    exact ⟨m', hns, fun h' hs => (h h' hs).trans (l₂.trans l')⟩
  exact codeAny_compStart_list fin (W.self 0 A B₂ _ s₄ _ _ R₅ fin)
end
end Mine

namespace Mine
-- the needs
def numbersOf (xs : List Int) : List Int := xs.take 5 ++ [32, 129, 2, 3, 24].drop (xs.take 5).length ++ [0, 32, 96]
def bitsOf (x : Int) : List Int := ((List.range 8).filter fun j : Nat => (x.fdiv (2 ^ j)).fmod 2 == 1).map fun j : Nat => (j : Int)
def needsOf (xs : List Int) : List (List Int) := (numbersOf xs).map bitsOf
theorem numbersOf_len (xs : List Int) : (numbersOf xs).length = 8 := by
  unfold numbersOf
  rw [List.length_append, List.length_append, List.length_drop]
  have : (xs.take 5).length ≤ 5 := by rw [List.length_take]; omega
  simp at this ⊢; omega
theorem bitsOf_nodup (x : Int) : (bitsOf x).Nodup := List.pairwise_map.mpr (List.Pairwise.imp (fun h e => h (by omega)) ((List.nodup_range).filter _))
theorem bitsOf_small (x : Int) : ∀ y ∈ bitsOf x, In8 y := by
  intro y hy
  obtain ⟨j, hj, rfl⟩ := List.mem_map.mp hy
  have := List.mem_range.mp (List.mem_filter.mp hj).1
  exact ⟨by omega, by omega⟩
theorem needsOf_eight (xs : List Int) : Eight (needsOf xs) where
  len := by unfold needsOf; rw [List.length_map, numbersOf_len]
  few := fun r hr => by obtain ⟨x, _, rfl⟩ := List.mem_map.mp hr; exact few8 (bitsOf_nodup x) (bitsOf_small x)
  small := fun r hr => by obtain ⟨x, _, rfl⟩ := List.mem_map.mp hr; exact bitsOf_small x
  nodup := fun r hr => by obtain ⟨x, _, rfl⟩ := List.mem_map.mp hr; exact bitsOf_nodup x
theorem eqb_self : ∀ (k : K) (x : V), HasK k x → V.eqb x x = true
  | .int, x, h => by obtain ⟨i, rfl⟩ := h; simp [V.eqb]
  | .bool, x, h => by obtain ⟨i, rfl⟩ := h; simp [V.eqb]
  | .bytes, x, h => by obtain ⟨i, rfl⟩ := h; simp [V.eqb]
  | .list k, x, h => by obtain ⟨xs, rfl, h⟩ := h; simp only [V.eqb]; exact go k xs h
  | .tuple k, x, h => by obtain ⟨xs, rfl, h⟩ := h; simp only [V.eqb]; exact go k xs h
where
  go (k : K) : ∀ (xs : List V), (∀ y ∈ xs, HasK k y) → V.eqbs xs xs = true
    | [], _ => by simp only [V.eqbs]
    | x :: xs, h => by simp only [V.eqbs]; rw [eqb_self k x (h x (by simp)), go k xs fun y hy => h y (by simp [hy])]; rfl
theorem hasK_map {α : Type} {k : K} {f : α → V} {xs : List α} (h : ∀ x ∈ xs, HasK k (f x)) : HasK (.list k) (.list (xs.map f)) := ⟨_, rfl, fun y hy => by obtain ⟨x, hx, rfl⟩ := List.mem_map.mp hy; exact h x hx⟩
theorem eqbs_ints : ∀ {a b : List Int}, V.eqbs (a.map V.int) (b.map V.int) = decide (a = b)
  | [], [] => by simp [V.eqbs]
  | [], _ :: _ => by simp [V.eqbs]
  | _ :: _, [] => by simp [V.eqbs]
  | x :: a, y :: b => by
    rw [List.map_cons, List.map_cons]
    simp only [V.eqbs, V.eqb]
    rw [eqbs_ints, Bool.eq_iff_iff]; simp
theorem eqb_IL {a b : List Int} : V.eqb (IL a) (IL b) = decide (a = b) := by simp only [V.eqb]; exact eqbs_ints
section
variable {w : World} {os : OsState} {n : Nat} {sc : Scope} {ρ : Str → Option V} {Ω : List Item} {A : Around} {env : Env} {B : Bs} {own R : List Item} {s : Shared} {E : Value → Shared → Prop}
/-- data of one kind are not unlike -/
theorem PT.ne_self {l r : Expr} {pos : Pos} {x y : V} (k : K) (hl : PE w os n Ω sc ρ l x) (hr : PE w os n Ω sc ρ r y) (hk : HasK k x) (e : x = y) (hnb : k ≠ .bytes := by intro h; cases h) (hd : k.depth ≤ 64 := by decide) (hm : behindInMarks .NotEq r = false := by with_unfolding_all rfl) : PT w os n Ω sc ρ (.Compare l [.NotEq] [r] pos) false := by
  subst e
  have := PT.cmp (pos := pos) hl hr (Cmp.neK k hk hk hnb hd) hm
  rw [eqb_self k _ hk] at this
  exact this
theorem Bin.mul16 {a : Int} : Bin w os n .Mult (.int a) (.int 16) (.int (a * 16)) := by
  intro A B own s r r' E hA T R d d'
  obtain ⟨t, rfl⟩ := den_int.mp d; obtain ⟨u, rfl⟩ := den_int.mp d'
  exact P.mul_int (.now (R.toks _) (den_int.mpr ⟨_, rfl⟩))
theorem Fn.sum {ns : List Int} : Fn w os n (.builtin "sum") [IL ns] (.int ns.sum) := by
  intro A B own s rs E hA T R d
  obtain ⟨r, rfl, d1⟩ := dens_one d
  obtain ⟨a, its, m, rfl, g, hl, ds⟩ := listAt R d1
  have hi := dens.ints.mp ds
  obtain ⟨xs, hx⟩ := hi.allInts.items
  have hl' : s.heap.IsList a (intItems xs) := by rw [← hx]; simpa using hl
  refine sum_intListG hA.handled hl' fun h' tk t' hk => ?_
  have e1 : ns = xs.toList.map (·.1) := by
    rw [← nums_intItems, ← hx]
    exact (show numsOf its.toList.toArray.toList = ns from hi.numsOf).symm
  have e2 : preSum (numAt xs) xs.size = ns.sum := by
    rw [preSum_eq, List.take_of_length_le (by simp), e1]
  rw [e2]
  exact ⟨B, Le.refl B, R.grow tk hk, den_int.mpr ⟨_, rfl⟩⟩
/-- a call of a def, whatever it hands back -/
theorem ev_callD {x : Str} {p pos : Pos} {a : Addr} {e : Expr} {es : List Expr} {vs : List V} {Q : Value → Shared → Prop} (hf : gTab.lookup x = some (.exact (.ref a))) (hk : sc.names.lookup x = some .globalImplicit) (ha : (fTab.lookup a).isSome = true)
    (hs : PEs w os n Ω sc ρ (e :: es) vs) (hA : Rm n A own) (T : TopB w B) (ek : EnvOk env sc) (sees : Sees Ω own env ρ) (R : Rep w os B own s)
    (h : ∀ rs s' B', Le B B' → TopB w B' → Rep w os B' own s' → dens w B' vs rs → wpAny (model pg w) A (call (.ref a) rs) Q E s') (hd : (x == ("__debug__" : Str)) = false := by decide)
    (he : ∀ env, starEach (e :: es) env = (false, eval e env) :: starEach es env := by intro _; rfl) : wpAny (model pg w) A (eval (.Call (.Name x p) (e :: es) [] pos) env) Q E s := by
  refine wpAny_Call_NameR ((PE.glob (w := w) (os := os) (n := n) (ρ := ρ) hf hk hd).use hA T ek sees R fun r s₁ B₁ l₁ T₁ R₁ d₁ => ?_)
  rw [den_exact.mp d₁]
  obtain ⟨rec, hrec⟩ := Option.isSome_iff_exists.mp ha
  obtain ⟨doc, pm, cd, ct, nm, ⟨hfd, _⟩⟩ := T₁.fns a rec hrec
  refine callWith_def (o := { cls := .type "function", data := .func (mkFd rec.q (psOf rec.st) (bodyOf rec.st) (scOf rec.st) rec.df rec.kd doc pm cd ct nm) }) rfl (wpAny_mono (hs A env B₁ own s₁ E pos hA T₁ ek sees R₁) (fun rs s₂ ⟨B₂, l₂, R₂, d₂⟩ => ?_) fun _ _ e => e) (he env)
  exact ⟨R₂.base _ _ (l₂ _ _ hfd), h rs s₂ B₂ (l₁.trans l₂) (T₁.mono l₂) R₂ d₂⟩
/-- «for one, other in ..» -/
abbrev two (t1 t2 : Str) (v1 v2 : V) : Str → Option V := upd (only t1 v1) t2 v2
theorem Binds.pair {α : Type} {scope : Scope} {t1 t2 : Str} {p1 p2 p : Pos} {kk : Nat} {e1 e2 : α → V} (h1 : scope.names.lookup t1 = some .local) (h2 : scope.names.lookup t2 = some .local) :
    Binds w os scope sc (.Tuple [.Name t1 p1, .Name t2 p2] kk p) (fun x => .list [e1 x, e2 x]) (fun x => two t1 t2 (e1 x) (e2 x)) := by
  intro x A env B own pre s cs cl L ρ' r Q E hh C hρ R d k
  refine assign2 hh R (.inr d) fun r1 r2 s₂ R₂ d1 d2 => ?_
  refine assign_rep (C.frOk L) (C.var L (.inl h1)) R₂ d1 fun s₃ R₃ => assign_rep (C.frOk L) (C.var L (.inl h2)) R₃ d2 fun s₄ R₄ => k s₄ ?_
  have hupd : upd (upd ρ' t1 (e1 x)) t2 (e2 x) = two t1 t2 (e1 x) (e2 x) := by
    rcases hρ with rfl | ⟨y, rfl⟩
    · rfl
    · funext z
      unfold two only upd
      by_cases q2 : z = t2
      · simp [q2]
      · by_cases q1 : z = t1
        · simp [q1, q2]
        · simp [q1, q2]
  rw [hupd] at R₄
  exact R₄
theorem two_dom {scope : Scope} {t1 t2 : Str} (h1 : scope.names.lookup t1 = some .local) (h2 : scope.names.lookup t2 = some .local) (v1 v2 : V) : ∀ x, scope.names.lookup x = some .free → two t1 t2 v1 v2 x = Option.none :=
  upd_dom h2 (only_dom (.inl h1) v1)
/-- a map -/
theorem PE.map {α : Type} {elt iter : Expr} {t : Str} {px : Pos} {scope : Scope} {pos : Pos} (xs : List α) (emb : α → V) (g : α → V)
    (hi : PI w os n Ω sc ρ iter (xs.map emb))
    (hg : ∀ x ∈ xs, PE w os n Ω (relabelS scope sc) (seen scope ρ (only t (emb x))) elt (g x))
    (hsz : xs.length ≤ sizeLine) (ht : scope.names.lookup t = some .local ∨ scope.names.lookup t = some .cell) (hok : compOk scope sc ρ = true)
    (hs : ∀ env x, foldedSetIterable iter env x = pure x := by intro _ _; rfl) : PE w os n Ω sc ρ (.ListComp elt [⟨.Name t px, iter, [], 0⟩] scope pos) (.list (xs.map g)) :=
  PE.cast (PE.comp xs emb (fun _ => true) g hi (fun _ _ => PTs.nil) (fun x hx _ => hg x hx) hsz ht hok hs) (by rw [List.filter_eq_self.mpr fun _ _ => rfl])
theorem PE.mapP {α : Type} {elt iter : Expr} {t1 t2 : Str} {p1 p2 p : Pos} {kk : Nat} {scope : Scope} {pos : Pos} (xs : List α) (e1 e2 : α → V) (g : α → V)
    (hi : PI w os n Ω sc ρ iter (xs.map fun x => .list [e1 x, e2 x]))
    (hg : ∀ x ∈ xs, PE w os n Ω (relabelS scope sc) (seen scope ρ (two t1 t2 (e1 x) (e2 x))) elt (g x))
    (hsz : xs.length ≤ sizeLine) (h1 : scope.names.lookup t1 = some .local) (h2 : scope.names.lookup t2 = some .local) (hok : compOk scope sc ρ = true)
    (hs : ∀ env x, foldedSetIterable iter env x = pure x := by intro _ _; rfl) : PE w os n Ω sc ρ (.ListComp elt [⟨.Tuple [.Name t1 p1, .Name t2 p2] kk p, iter, [], 0⟩] scope pos) (.list (xs.map g)) :=
  PE.cast (PE.compG xs _ (fun x => two t1 t2 (e1 x) (e2 x)) (fun _ => true) g hi (fun _ _ => PTs.nil) (fun x hx _ => hg x hx) (Binds.pair h1 h2) (fun x => two_dom h1 h2 _ _) (.tup ..) hsz hok hs) (by rw [List.filter_eq_self.mpr fun _ _ => rfl])
end
end Mine

namespace Mine
abbrev lSc : Scope := scOf (fdef 23)
abbrev reV (N : List (List Int)) (k : Int) : V := IL (sortI (reachedL N k.toNat))
abbrev reachV (N : List (List Int)) (come : List Int) : V := .dict come (come.map fun k => reV N k)
/-- what the second half of the law leans on -/
structure LawFacts (N : List (List Int)) (S : List Ent) (ks come : List Int) : Prop where
  few : come.length ≤ 8
  in8 : ∀ k ∈ come, In8 k
  nodup : come.Nodup
  sub : ∀ k ∈ come, k ∈ ks
  row : ∀ k, (rowOf S k).length ≤ 100
  ded : ∀ k, (dedupL (rowOf S k)).length ≤ 8
  oct : ∀ k, 0 ≤ octOf S k ∧ octOf S k < 256
  relen : ∀ k : Int, (sortI (reachedL N k.toNat)).length ≤ 8
  rein : ∀ k : Int, ∀ x ∈ sortI (reachedL N k.toNat), In8 x
  sum : ∀ k ∈ come, ((sortI (reachedL N k.toNat)).map fun j : Int => (2 : Int) ^ j.toNat).sum = octOf S k
  same : ∀ k ∈ come, sortI (dedupL (rowOf S k)) = sortI (reachedL N k.toNat)
  cmp : ∀ a ∈ come, ∀ b ∈ come, compareB (rowOf S a) (rowOf S b) = decide (sortI (reachedL N a.toNat) = sortI (reachedL N b.toNat))
theorem dictOf_nodup {come : List Int} (h : come.Nodup) (f : Int → V) : V.dict ((storeAll (come.map fun k => (k, f k))).map (·.1)) ((storeAll (come.map fun k => (k, f k))).map (·.2)) = .dict come (come.map f) := by
  have h1 : (come.map fun k => (k, f k)).map (·.1) = come := by rw [List.map_map]; simp [Function.comp_def]
  rw [storeAll_nodup _ (by rw [h1]; exact h), h1, List.map_map]; rfl
def prevI (come : List Int) (k : Nat) : Int := come.getD (if k = 0 then come.length - 1 else k - 1) 0
def pairsL (come : List Int) : List (Int × Int) := ((List.range come.length).map fun k => (prevI come k, come.getD k 0)) ++ (List.range come.length).map fun k => (come.getD k 0, prevI come k)
abbrev pairV (p : Int × Int) : V := .list [.int p.1, .int p.2]
theorem getD_mem {come : List Int} {k : Nat} (h : k < come.length) : come.getD k 0 ∈ come := by
  rw [List.getD_eq_getElem?_getD, List.getElem?_eq_getElem h]; exact List.getElem_mem h
theorem prevI_mem {come : List Int} {k : Nat} (h : k < come.length) : prevI come k ∈ come := by
  unfold prevI; exact getD_mem (by split <;> omega)
theorem pairsL_mem {come : List Int} {p : Int × Int} (h : p ∈ pairsL come) : p.1 ∈ come ∧ p.2 ∈ come := by
  rcases List.mem_append.mp h with h | h <;> obtain ⟨k, hk, rfl⟩ := List.mem_map.mp h
  · exact ⟨prevI_mem (List.mem_range.mp hk), getD_mem (List.mem_range.mp hk)⟩
  · exact ⟨getD_mem (List.mem_range.mp hk), prevI_mem (List.mem_range.mp hk)⟩
theorem pairsL_len (come : List Int) : (pairsL come).length = 2 * come.length := by unfold pairsL; simp; omega
section
variable {w : World} {os : OsState} {n : Nat} {sc : Scope} {ρ : Str → Option V} {Ω : List Item} {A : Around} {env : Env} {B : Bs} {own R : List Item} {s : Shared} {E : Value → Shared → Prop}
/-- d[k] of a frozen dict over known keys -/
theorem PE.dk {o i : Expr} {pos : Pos} {ks : List Int} {f : Int → V} {k : Int} (ho : PE w os n Ω sc ρ o (.dict ks (ks.map f))) (hi : PE w os n Ω sc ρ i (.int k)) (hk : k ∈ ks)
    (hs : ∀ o i', subscripted i false o i' = operate [o, i'] (getItem o i') := by intro _ _; rfl) : PE w os n Ω sc ρ (.Subscript o i pos) (f k) :=
  PE.item ho hi (Itm.dict (zip_map_lookup f ks k hk)) hs
/-- come[k - 1] -/
theorem PE.prev {v a b : Expr} {p pos : Pos} {come : List Int} {k : Nat} (hv : PE w os n Ω sc ρ v (IL come)) (ha : PE w os n Ω sc ρ a (.int (k : Int))) (hb : PE w os n Ω sc ρ b (.int 1)) (hk : k < come.length) (hl : come.length ≤ 8)
    (hs : ∀ o i, subscripted (.BinOp a .Sub b p) false o i = operate [o, i] (getItem o i) := by intro _ _; rfl) : PE w os n Ω sc ρ (.Subscript v (.BinOp a .Sub b p) pos) (.int (prevI come k)) := by
  refine PE.item hv (PE.bin ha hb Bin.sub) ?_ hs
  unfold prevI
  by_cases q : k = 0
  · subst q
    refine Itm.listNeg (by decide) (by rw [List.length_map]; omega) ?_ (by decide)
    rw [List.length_map, if_pos rfl]
    have : (((0 : Nat) : Int) - 1 + (come.length : Int)).toNat = come.length - 1 := by omega
    rw [this, List.getElem?_map, List.getElem?_eq_getElem (by omega)]
    simp [show come.length - 1 < come.length by omega]
  · refine Itm.list (by omega) ?_ (by omega)
    rw [if_neg q]
    have : ((k : Int) - 1).toNat = k - 1 := by omega
    rw [this, List.getElem?_map, List.getElem?_eq_getElem (by omega)]
    simp [show k - 1 < come.length by omega]
theorem Itm.sign {i : Int} (h0 : 0 ≤ i) (h1 : i < 64) : Itm w os n (.bytes abcd.toArray) (.int i) (.int (sign i)) :=
  Itm.bytes h0 (by have : abcd.length = 64 := rfl; omega) (by decide)
theorem law_tail {N : List (List Int)} {S : List Ent} {ks come : List Int} (h8 : Eight N) (LF : LawFacts N S ks come) {Q : Flow → Shared → Prop} (F : FnEnv env lSc) (hA : RmE (n + 3) A env own) (T : TopB w B)
    (h : Rep w os B (frameI env env.cells (tab [("needs", LL N), ("come", IL come), ("rows", rowsV S ks), ("writings", writV S ks)]) ++ own) s)
    (kk : ∀ r s', Post w os B own (.bool true) r s' → Q (.ret r) s') : wpAny (model pg w) A (execs ((bodyOf (fdef 23)).drop 7) env) Q E s := by
  have hcz : come.length ≤ sizeLine := Nat.le_trans LF.few (by decide)
  have hc5 : come.length ≤ 500 := Nat.le_trans LF.few (by decide)
  -- reached
  refine wpAny_execs_cons (st_assign (v := reachV N come) F hA T h ?_ (by rfl) (fun s₁ B₁ l₁ T₁ R₁ => ?_) (swaps_cell F (by rfl)))
  · rw [show reachV N come = _ from (dictOf_nodup LF.nodup fun k => reV N k).symm]
    refine PE.dcomp come V.int (fun k => k) (fun k => reV N k) (PI.list PE.var) (fun k hk => PE.var) (fun k hk => ?_) hc5 (by decide) (by rfl)
    have h8k := LF.in8 k hk
    have hf := reached_fn (w := w) (os := os) (n := n + 2) N h8 k.toNat (by omega)
    rw [show (((k.toNat : Nat)) : Int) = k by omega] at hf
    exact PE.callD (a := 212) rfl rfl rfl (PEs.cons PE.var (PEs.cons PE.var PEs.nil)) hf
  -- alphabet
  refine wpAny_execs_cons (st_assign (v := .bytes abcd.toArray) F hA T₁ R₁ (PE.bytes (b := abcd)) (by rfl) (fun s₂ B₂ l₂ T₂ R₂ => ?_) (swaps_cell F (by rfl)))
  have R₂' := R₂.keep [("come", IL come), ("rows", rowsV S ks), ("writings", writV S ks), ("reached", reachV N come), ("alphabet", .bytes abcd.toArray)] ⟨rfl, rfl, rfl, rfl, rfl, trivial⟩
  -- octets
  refine wpAny_execs_cons (st_assign (v := .dict come (come.map fun k => .int (octOf S k))) F hA T₂ R₂' ?_ (by rfl) (fun s₃ B₃ l₃ T₃ R₃ => ?_) (swaps_cell F (by rfl)))
  · rw [← dictOf_nodup LF.nodup fun k => .int (octOf S k)]
    refine PE.dcomp come V.int (fun k => k) (fun k => .int (octOf S k)) (PI.list PE.var) (fun k hk => PE.var) (fun k hk => ?_) hc5 (by decide) (by rfl)
    refine PE.cast (v := .int ((sortI (reachedL N k.toNat)).map fun j : Int => (2 : Int) ^ j.toNat).sum) ?_ (by rw [LF.sum k hk])
    refine PE.callB (id := "sum") PE.blt (PEs.cons (v := IL ((sortI (reachedL N k.toNat)).map fun j : Int => (2 : Int) ^ j.toNat)) ?_ PEs.nil) Fn.sum
    refine PE.cast (PE.map (sortI (reachedL N k.toNat)) V.int (fun j => .int (2 ^ j.toNat)) (PI.list (PE.dk (f := fun k => reV N k) (PE.var (v := reachV N come)) PE.var hk)) (fun j hj => ?_) (Nat.le_trans (LF.relen k) (by decide)) (by decide) (by rfl)) (by unfold IL; rw [List.map_map]; rfl)
    have hj8 := LF.rein k j hj
    exact PE.bin PE.int PE.var (Bin.pow2 hj8.1 (by omega))
  -- the writings
  refine wpAny_execs_cons (st_if (b := false) F hA T₃ R₃ ?_ fun s₄ B₄ l₄ T₄ R₄ => ?_)
  · refine PT.ne_self (.list .bytes) (PE.map come V.int (fun k => b64 (octOf S k)) (PI.list PE.var) (fun k hk => PE.dk (f := fun k => b64 (octOf S k)) (PE.var (v := writV S ks)) PE.var (LF.sub k hk)) hcz (by decide) (by rfl))
      (PE.map come V.int (fun k => b64 (octOf S k)) (PI.list PE.var) (fun k hk => ?_) hcz (by decide) (by rfl)) (hasK_map fun k _ => ⟨_, rfl⟩) rfl
    have ho := LF.oct k
    have o1 : 0 ≤ (octOf S k).fdiv 4 ∧ (octOf S k).fdiv 4 < 64 ∧ 0 ≤ (octOf S k).fmod 4 ∧ (octOf S k).fmod 4 < 4 := by
      have := ops4 ⟨(octOf S k).toNat, by omega⟩
      rw [show ((((⟨(octOf S k).toNat, by omega⟩ : Fin 256) : Nat)) : Int) = octOf S k by show (((octOf S k).toNat : Nat) : Int) = _; omega] at this
      exact ⟨this.1.1, this.1.2, this.2.1, this.2.2⟩
    refine PE.callT (id := "bytes") PE.blt (PEs.cons (v := IL [sign ((octOf S k).fdiv 4), sign ((octOf S k).fmod 4 * 16), 61, 61]) (PE.list (PEs.cons ?_ (PEs.cons ?_ (PEs.cons PE.int (PEs.cons PE.int PEs.nil))))) PEs.nil) (Fn.bytesL (fun x hx => ?_) (show 4 ≤ sizeLine by decide))
    · exact PE.item PE.var (PE.bin (PE.dk (f := fun k => .int (octOf S k)) (PE.var (v := .dict come (come.map fun k => .int (octOf S k)))) PE.var hk) PE.int (Bin.div (by decide) (by decide))) (Itm.sign o1.1 o1.2.1)
    · exact PE.item PE.var (PE.bin (PE.bin (PE.dk (f := fun k => .int (octOf S k)) (PE.var (v := .dict come (come.map fun k => .int (octOf S k)))) PE.var hk) PE.int (Bin.mod (by decide))) PE.int Bin.mul16) (Itm.sign (by omega) (by omega))
    · have hs : ∀ i : Int, 0 ≤ i → i < 64 → 0 ≤ sign i ∧ sign i < 256 := fun i h0 h1 => by
        have := sign_in ⟨i.toNat, by omega⟩
        rw [show ((((⟨i.toNat, by omega⟩ : Fin 64) : Nat)) : Int) = i by show ((i.toNat : Nat) : Int) = _; omega] at this
        exact this
      simp only [List.mem_cons, List.not_mem_nil, or_false] at hx
      rcases hx with rfl | rfl | rfl | rfl
      · exact hs _ o1.1 o1.2.1
      · exact hs _ (by omega) (by omega)
      · decide
      · decide
  refine wpAny_execs_nil ?_
  have R₄' := R₄.keep [("come", IL come), ("rows", rowsV S ks), ("reached", reachV N come)] ⟨rfl, rfl, rfl, trivial⟩
  -- plain
  have pr : ∀ {scope : Scope} {ρ : Str → Option V} {o i : Expr} {pos : Pos} {k : Int}, PE w os (n + 3) [] scope ρ o (rowsV S ks) → PE w os (n + 3) [] scope ρ i (.int k) → k ∈ come → (∀ o i', subscripted i false o i' = operate [o, i'] (getItem o i')) → PE w os (n + 3) [] scope ρ (.Subscript o i pos) (IL (rowOf S k)) :=
    fun h1 h2 hk hs => PE.dk (f := fun k => IL (rowOf S k)) h1 h2 (LF.sub _ hk) hs
  refine wpAny_execs_cons (st_assignComp come V.int (fun _ => true) (fun k => IL (dedupL (rowOf S k ++ (rowOf S k).reverse))) F hA T₄ R₄' (PI.list PE.var) (fun k hk => PTs.nil) (fun k hk _ => ?_) hcz (by rfl) (by rfl) (by decide) (by rfl) fun s₅ B₅ l₅ T₅ R₅ => ?_)
  · have hrl := LF.row k
    refine PE.callD (a := 178) rfl rfl rfl (PEs.cons (v := IL (rowOf S k ++ (rowOf S k).reverse)) ?_ PEs.nil) (dedup_fn _ (by rw [List.length_append, List.length_reverse]; unfold sizeLine; omega))
    refine PE.cast (PE.bin (pr PE.var PE.var hk (by intro _ _; rfl)) (PE.sliceRev (pr PE.var PE.var hk (by intro _ _; rfl)) (PE.neg PE.int) (by rw [List.length_map]; unfold sizeLine; omega)) (Bin.addL (by rw [List.length_reverse, List.length_map]; unfold sizeLine; omega))) (by rw [← List.map_reverse, ← List.map_append])
  have ep : V.list ((come.filter fun _ => true).map fun k => IL (dedupL (rowOf S k ++ (rowOf S k).reverse))) = .list (come.map fun k => IL (dedupL (rowOf S k))) := by
    rw [List.filter_eq_self.mpr fun _ _ => rfl]
    congr 1
    exact List.map_congr_left fun k _ => by rw [dedupL_app _ fun x hx => by simpa using hx]
  rw [ep] at R₅
  refine wpAny_execs_cons (st_if (b := false) F hA T₅ R₅ ?_ fun s₆ B₆ l₆ T₆ R₆ => ?_)
  · refine PT.or (b := false) (c := false) ?_ fun _ => ?_
    · refine PT.ne_self (.list (.list .int)) PE.var (PE.map come V.int (fun k => IL (onceL (rowOf S k))) (PI.list PE.var) (fun k hk => ?_) hcz (by decide) (by rfl)) (hasK_map (f := fun k => IL (dedupL (rowOf S k))) fun k _ => hasK_IL _) (by
        congr 1; exact List.map_congr_left fun k _ => by rw [onceL_eq])
      exact PE.callD (a := 197) rfl rfl rfl (PEs.cons (pr PE.var PE.var hk (by intro _ _; rfl)) PEs.nil) (once_fn _ (Nat.le_trans (LF.row k) (by decide)))
    · refine PT.ne_self (.list (.list .int)) (PE.map come (fun k => IL (dedupL (rowOf S k))) (fun k => IL (sortI (dedupL (rowOf S k)))) (PI.list PE.var) (fun k hk => ?_) hcz (by decide) (by rfl)) (PE.map come V.int (fun k => reV N k) (PI.list PE.var) (fun k hk => PE.dk (f := fun k => reV N k) (PE.var (v := reachV N come)) PE.var hk) hcz (by decide) (by rfl)) (hasK_map fun k _ => hasK_IL _) (by
        congr 1; exact List.map_congr_left fun k hk => by rw [LF.same k hk])
      exact PE.callB (id := "sorted") PE.blt (PEs.cons PE.var PEs.nil) (Fn.sorted (.inl rfl) (by have := LF.ded k; omega))
  refine wpAny_execs_nil ?_
  have R₆' := R₆.keep [("come", IL come), ("rows", rowsV S ks), ("reached", reachV N come)] ⟨rfl, rfl, rfl, trivial⟩
  -- pairs
  have hcz' := hcz
  unfold sizeLine at hcz'
  have pg' : ∀ {scope : Scope} {ρ : Str → Option V} {o i : Expr} {pos : Pos} {k : Nat}, PE w os (n + 3) [] scope ρ o (IL come) → PE w os (n + 3) [] scope ρ i (.int (k : Int)) → k < come.length → (∀ o i', subscripted i false o i' = operate [o, i'] (getItem o i')) → PE w os (n + 3) [] scope ρ (.Subscript o i pos) (.int (come.getD k 0)) :=
    fun h1 h2 hk hs => PE.itemI h1 h2 hk hcz hs
  refine wpAny_execs_cons (st_assign (v := .list ((pairsL come).map pairV)) F hA T₆ R₆' ?_ (by rfl) fun s₇ B₇ l₇ T₇ R₇ => ?_)
  · refine PE.cast (PE.bin (PE.map (List.range come.length) (fun i : Nat => V.int (i : Int)) (fun k => pairV (prevI come k, come.getD k 0)) (PI.range (N := come.length) PE.blt (PE.lenI PE.var hcz) hcz) (fun k hk => ?_) (by rw [List.length_range]; exact hcz) (by decide) (by rfl))
      (PE.map (List.range come.length) (fun i : Nat => V.int (i : Int)) (fun k => pairV (come.getD k 0, prevI come k)) (PI.range (N := come.length) PE.blt (PE.lenI PE.var hcz) hcz) (fun k hk => ?_) (by rw [List.length_range]; exact hcz) (by decide) (by rfl))
      (Bin.addL (by rw [List.length_map, List.length_map, List.length_range]; unfold sizeLine; have := LF.few; omega))) (by unfold pairsL; rw [List.map_append, List.map_map, List.map_map]; rfl)
    · exact PE.list (PEs.cons (PE.prev PE.var PE.var PE.int (List.mem_range.mp hk) LF.few) (PEs.cons (pg' PE.var PE.var (List.mem_range.mp hk) (by intro _ _; rfl)) PEs.nil))
    · exact PE.list (PEs.cons (pg' PE.var PE.var (List.mem_range.mp hk) (by intro _ _; rfl)) (PEs.cons (PE.prev PE.var PE.var PE.int (List.mem_range.mp hk) LF.few) PEs.nil))
  have R₇' := R₇.keep [("rows", rowsV S ks), ("reached", reachV N come), ("pairs", .list ((pairsL come).map pairV))] ⟨rfl, rfl, rfl, trivial⟩
  have hpz : (pairsL come).length ≤ sizeLine := by rw [pairsL_len]; have := LF.few; unfold sizeLine; omega
  -- told
  refine wpAny_execs_cons (st_assignCompG (pairsL come) pairV (fun p => two "one" "other" (.int p.1) (.int p.2)) (fun _ => true) (fun p => .bool (compareB (rowOf S p.1) (rowOf S p.2))) F hA T₇ R₇' (PI.list PE.var) (fun p hp => PTs.nil) (fun p hp _ => ?_) (Binds.pair (by rfl) (by rfl)) (fun p => two_dom (by rfl) (by rfl) _ _) (.tup ..) hpz (by rfl) (by rfl) (by rfl) (fun s₈ B₈ l₈ T₈ R₈ => ?_) (by intro _ _; rfl))
  · obtain ⟨m1, m2⟩ := pairsL_mem hp
    exact PE.callD (a := 185) rfl rfl rfl (PEs.cons (pr PE.var PE.var m1 (by intro _ _; rfl)) (PEs.cons (pr PE.var PE.var m2 (by intro _ _; rfl)) PEs.nil)) (compare_fn (n := n + 1) _ _ (Nat.le_trans (LF.row _) (by decide)) (Nat.le_trans (LF.row _) (by decide)))
  rw [List.filter_eq_self.mpr fun _ _ => rfl] at R₈
  refine wpAny_execs_cons (st_return (v := .bool true) F hA T₈ R₈ ?_ fun r₉ s₉ B₉ l₉ T₉ R₉ d₉ => ?_)
  · have hk1 : HasK (.list .bool) (.list ((pairsL come).map fun p => .bool (compareB (rowOf S p.1) (rowOf S p.2)))) := hasK_map fun p _ => ⟨_, rfl⟩
    have he : V.list ((pairsL come).map fun p => .bool (compareB (rowOf S p.1) (rowOf S p.2))) = .list ((pairsL come).map fun p => .bool (V.eqb (reV N p.1) (reV N p.2))) := by
      congr 1
      exact List.map_congr_left fun p hp => by rw [eqb_IL, LF.cmp _ (pairsL_mem hp).1 _ (pairsL_mem hp).2]
    refine PE.cast (PE.cmp (PE.var (v := .list ((pairsL come).map fun p => .bool (compareB (rowOf S p.1) (rowOf S p.2))))) (PE.mapP (pairsL come) (fun p => .int p.1) (fun p => .int p.2) (fun p => .bool (V.eqb (reV N p.1) (reV N p.2))) (PI.list PE.var) (fun p hp => ?_) hpz (by rfl) (by rfl) (by rfl)) (Cmp.eqK (.list .bool) hk1 (he ▸ hk1))) (by rw [← he, eqb_self (.list .bool) _ hk1])
    obtain ⟨m1, m2⟩ := pairsL_mem hp
    exact PE.cmp (PE.dk (f := fun k => reV N k) (PE.var (v := reachV N come)) PE.var m1) (PE.dk (f := fun k => reV N k) (PE.var (v := reachV N come)) PE.var m2) (Cmp.eqK (.list .int) (hasK_IL _) (hasK_IL _))
  · exact kk r₉ s₉ ⟨B₉, ((((l₁.trans l₂).trans l₃).trans (l₄.trans l₅)).trans ((l₆.trans l₇).trans l₈)).trans l₉, R₉.app, d₉⟩
end
end Mine

namespace Mine
theorem lawFacts {N rounds : List (List Int)} (h8 : Eight N) (hr : rounds.map sortI = roundsL N) : LawFacts N (keepAll N rounds.flatten) rounds.flatten (roundsL N).flatten ∧ Good N rounds.flatten ∧ (∀ g ∈ rounds, g.length ≤ 8) ∧ rounds.length ≤ 100 := by
  obtain ⟨hL, hG⟩ := roundsL_spec N
  have hg := hL.good
  have hL' : Lay N rounds := Lay.unsort (hr ▸ hL)
  have hg' := hL'.good
  have hmem : ∀ k, k ∈ (roundsL N).flatten ↔ k ∈ rounds.flatten := fun k => by rw [← hr]; exact mem_flat_sort
  have h8' : ∀ x ∈ (roundsL N).flatten, In8 x := fun x hx => by
    obtain ⟨l, r, e⟩ := List.append_of_mem hx
    exact (hg l x r e).1
  have hok := keepAll_ok h8 rounds.flatten
  have hre := reachedL_spec h8
  have hin : ∀ k x, Reach N k x → In8 x := fun k x h => by
    induction h with
    | base h => exact nd_small h8 _ _ h
    | step _ _ ih => exact ih
  have hkr : ∀ k ∈ (roundsL N).flatten, ∀ x, (x ∈ rowOf (keepAll N rounds.flatten) k ↔ Reach N k x) ∧ (0 ≤ x → (bit (octOf (keepAll N rounds.flatten) k) x = true ↔ Reach N k x)) := fun k hk => kept_reach h8 _ hg' k ((hmem k).mp hk)
  have hin' : ∀ k : Int, ∀ x ∈ sortI (reachedL N k.toNat), In8 x := fun k x hx => hin k x (((hre k).2 x).mp (mem_sortI.mp hx))
  have hsn : ∀ k : Int, (sortI (reachedL N k.toNat)).Nodup := fun k => (List.mergeSort_perm _ _).nodup_iff.mpr (hre k).1
  have hgl : ∀ l g r, rounds = l ++ g :: r → g.length ≤ 8 := fun l g r e => few8 (hL' l g r e).1 fun x hx => ((hL' l g r e).2 x hx).1
  refine ⟨⟨hg.len, h8', hg.nodup, fun k hk => (hmem k).mp hk, hok.rowLen, hok.dedup, hok.octOf, fun k => few8 (hsn k) (hin' k), hin', fun k hk => ?_, fun k hk => ?_, fun a ha b hb => ?_⟩, hg', fun g h => ?_, ?_⟩
  · exact reached_sum (hok.octOf k).1 (hok.octOf k).2 (hre k).1 (fun x hx => hin k x (((hre k).2 x).mp hx)) fun x hx => (((hkr k hk x).2 hx).trans ((hre k).2 x).symm)
  · exact sortI_congr (dedupL_nodup _) (hre k).1 fun x => by rw [dedupL_mem, (hkr k hk x).1, (hre k).2]
  · rw [Bool.eq_iff_iff, compareB_iff, decide_eq_true_iff]
    have : (∀ x, x ∈ rowOf (keepAll N rounds.flatten) a ↔ x ∈ rowOf (keepAll N rounds.flatten) b) ↔ ∀ x, x ∈ reachedL N a.toNat ↔ x ∈ reachedL N b.toNat :=
      forall_congr' fun x => by rw [(hkr a ha x).1, (hkr b hb x).1, (hre a).2, (hre b).2]
    rw [this]
    exact ⟨sortI_congr (hre a).1 (hre b).1, sortI_inj⟩
  · obtain ⟨l, r, e⟩ := List.append_of_mem h
    exact hgl l g r e
  · have h1 : ∀ (f : Nat) (rs : List (List Int)) (c : List Int), (roundsGo N f rs c).length ≤ rs.length + f := by
      intro f
      induction f with
      | zero => intro rs c; exact Nat.le_refl _
      | succ f ih =>
        intro rs c
        unfold roundsGo
        split
        · omega
        · have := ih (rs ++ [groupOf N c]) (c ++ groupOf N c)
          rw [List.length_append] at this
          simp at this; omega
    have h2 := congrArg List.length hr
    rw [List.length_map] at h2
    have := h1 9 [] []
    unfold roundsL at h2
    rw [h2]; simp at this; omega
section
variable {w : World} {os : OsState} {n : Nat} {sc : Scope} {ρ : Str → Option V} {Ω : List Item}
theorem law_fn (xs : List Int) (h63 : xs.length ≤ 63) : Fn w os (n + 6) (.ref 217) [IL xs] (.bool true) := by
  intro A B own s rs E hA T R d
  obtain ⟨r0, rfl, d0⟩ := dens_one d
  refine call_def (n := n + 5) (r := ⟨"law", fdef 23, .none, .none⟩) rfl ["script"] [IL xs] hA T R d (by decide) (fun doc pm cd ct nm => by rfl) (by decide) (by decide) rfl rfl rfl ?_
  intro env s₁ E' F hA' R₁
  replace F : FnEnv env lSc := F
  have hN := needsOf_eight xs
  have h5 : (xs.take 5).length ≤ 5 := by rw [List.length_take]; omega
  -- cut
  refine wpAny_execs_cons (st_assign (v := IL (xs.take 5)) F hA' T R₁ (PE.sliceToI (k := 5) PE.var PE.int (by unfold sizeLine; omega)) (by rfl) fun s₂ B₂ l₂ T₂ R₂ => ?_)
  -- numbers
  refine wpAny_execs_cons (st_assign (v := IL (numbersOf xs)) F hA' T₂ R₂ ?_ (by rfl) fun s₃ B₃ l₃ T₃ R₃ => ?_)
  · refine PE.cast (PE.bin (PE.bin (PE.var (v := IL (xs.take 5))) (PE.sliceFrom (k := (xs.take 5).length) (xs := ([32, 129, 2, 3, 24] : List Int).map V.int) (PE.list (PEs.cons PE.int (PEs.cons PE.int (PEs.cons PE.int (PEs.cons PE.int (PEs.cons PE.int PEs.nil)))))) (PE.lenI PE.var (by unfold sizeLine; omega)) (by decide)) (Bin.addL (by rw [List.length_map, List.length_drop, List.length_map]; unfold sizeLine; simp at h5 ⊢; omega)))
      (PE.list (vs := ([0, 32, 96] : List Int).map V.int) (PEs.cons PE.int (PEs.cons PE.int (PEs.cons PE.int PEs.nil)))) (Bin.addL (by rw [List.length_append, List.length_map, List.length_drop, List.length_map]; unfold sizeLine; simp at h5 ⊢; omega))) (by unfold numbersOf IL; rw [List.map_append, List.map_append, List.map_drop])
  -- needs
  have hnl := numbersOf_len xs
  refine wpAny_execs_cons (st_assign (v := LL (needsOf xs)) F hA' T₃ R₃ ?_ (by rfl) (fun s₄ B₄ l₄ T₄ R₄ => ?_) (swaps_cell F (by rfl)))
  · refine PE.cast (PE.map (numbersOf xs) V.int (fun x => IL (bitsOf x)) (PI.list (PE.var (v := IL (numbersOf xs)))) (fun x hx => ?_) (by rw [hnl]; decide) (by decide) (by rfl)) (by unfold needsOf LL; rw [List.map_map]; rfl)
    refine PE.cast (PE.comp (List.range 8) (fun i : Nat => V.int (i : Int)) (fun j => (x.fdiv (2 ^ j)).fmod 2 == 1) (fun i : Nat => V.int (i : Int)) (PI.range (N := 8) PE.blt PE.int (by decide)) (fun j hj => PTs.one ?_) (fun j hj _ => PE.var) (by decide) (by decide) (by rfl)) (by unfold bitsOf IL; rw [List.map_map]; rfl)
    have hj8 : j < 8 := List.mem_range.mp hj
    have hpow : ((2 : Int) ^ j).natAbs < 1073741824 ∧ (2 : Int) ^ j ≠ 0 := by
      have : ∀ j : Fin 8, ((2 : Int) ^ (j : Nat)).natAbs < 1073741824 ∧ (2 : Int) ^ (j : Nat) ≠ 0 := by decide +kernel
      exact this ⟨j, hj8⟩
    exact PT.cmp (PE.bin (PE.bin (PE.var (v := .int x)) (PE.bin PE.int (PE.var (v := .int (j : Int))) (Bin.pow2 (by omega) (by omega))) (Bin.div (b := 2 ^ j) hpow.2 hpow.1)) PE.int (Bin.mod (by decide))) PE.int Cmp.eqI
  have R₄' := R₄.keep [("needs", LL (needsOf xs))] ⟨rfl, trivial⟩
  generalize needsOf xs = N at R₄' hN ⊢
  -- ring, rounds
  refine wpAny_execs_cons (Assign_Tuple (ev_callD (a := 192) (vs := [LL N]) rfl rfl rfl (PEs.cons PE.var PEs.nil) (hA' _) T₄ F.ok F.sees0 R₄' fun rs₅ s₅ B₅ l₅ T₅ R₅ d₅ => ?_) rfl rfl)
  refine wpAny_mono (run_call (n := n) hN (hA' _) T₅ R₅ d₅) (fun r₆ s₆ h₆ => ?_) fun _ _ e => e
  obtain ⟨ring, rounds, hro, B₆, l₆, R₆, d₆⟩ := h₆
  have T₆ := T₅.mono l₆
  refine assign2 (v1 := .bool ring) (v2 := .list (rounds.map TL)) (hA' (tab [])).handled R₆ (.inr d₆) fun r1 r2 s₇ R₇ e1 e2 => ?_
  refine assign_rep (pre := []) F.fr (F.var (isVar_or (by rfl))) (by simpa using R₇) e1 fun s₈ R₈ => assign_rep (pre := []) F.fr (F.var (isVar_or (by rfl))) R₈ e2 fun s₉ R₉ => ?_
  have R₉' : Rep w os B₆ (frameI env env.cells (tab [("needs", LL N), ("ring", .bool ring), ("rounds", .list (rounds.map TL))]) ++ own) s₉ := Rep.keep (by simpa using R₉) [("needs", LL N), ("ring", .bool ring), ("rounds", .list (rounds.map TL))] ⟨rfl, rfl, rfl, trivial⟩
  obtain ⟨LF, hgood, hgl, hrl⟩ := lawFacts hN hro.1
  have hring := ring_iff hN hro
  have hcz : (roundsL N).flatten.length ≤ sizeLine := Nat.le_trans LF.few (by decide)
  -- come
  refine wpAny_execs_cons (st_assign (v := IL (roundsL N).flatten) F hA' T₆ R₉' (PE.flat (roundsL N) (PI.list (PE.callD (a := 207) rfl rfl rfl (PEs.cons PE.var PEs.nil) (rounds_fn N hN))) (by rfl) (by rfl) hcz (by rfl)) (by rfl) (fun s₁₀ B₁₀ l₁₀ T₁₀ R₁₀ => ?_) (swaps_cell F (by rfl)))
  have R₁₀' := R₁₀.keep [("needs", LL N), ("ring", .bool ring), ("rounds", .list (rounds.map TL)), ("come", IL (roundsL N).flatten)] ⟨rfl, rfl, rfl, rfl, trivial⟩
  refine wpAny_execs_cons (st_if (b := false) F hA' T₁₀ R₁₀' ?_ fun s₁₁ B₁₁ l₁₁ T₁₁ R₁₁ => ?_)
  · refine PT.or (b := false) (c := false) ?_ fun _ => ?_
    · refine PT.ne_self (.list (.list .int)) (PE.map rounds TL (fun g => IL (sortI g)) (PI.list PE.var) (fun g hg => ?_) (by unfold sizeLine; omega) (by decide) (by rfl)) (PE.callD (a := 207) rfl rfl rfl (PEs.cons PE.var PEs.nil) (rounds_fn N hN)) (hasK_map fun g _ => hasK_IL _) (by rw [← hro.1]; unfold LL; rw [List.map_map]; rfl)
      exact PE.callB (id := "sorted") PE.blt (PEs.cons PE.var PEs.nil) (Fn.sorted (.inr rfl) (by have := hgl g hg; omega))
    · refine PT.ne_self .bool PE.var (PE.cmp (PE.lenI PE.var hcz) PE.int Cmp.lt) ⟨_, rfl⟩ (by
        rw [hring]; congr 1
        rw [Bool.eq_iff_iff, decide_eq_true_iff, decide_eq_true_iff]; omega)
  refine wpAny_execs_nil ?_
  -- rows, writings
  refine wpAny_execs_cons (st_assign2 (v1 := rowsV (keepAll N rounds.flatten) rounds.flatten) (v2 := writV (keepAll N rounds.flatten) rounds.flatten) F hA' T₁₁ R₁₁ (PE.callD (a := 202) rfl rfl rfl (PEs.cons PE.var (PEs.cons PE.var PEs.nil)) (kept_fn (n := n + 1) N rounds hN hgood)) (.inr rfl) (by rfl) (by rfl) fun s₁₂ B₁₂ l₁₂ T₁₂ R₁₂ => ?_)
  have R₁₂' := R₁₂.keep [("needs", LL N), ("come", IL (roundsL N).flatten), ("rows", rowsV (keepAll N rounds.flatten) rounds.flatten), ("writings", writV (keepAll N rounds.flatten) rounds.flatten)] ⟨rfl, rfl, rfl, rfl, trivial⟩
  refine law_tail (n := n + 2) hN LF F hA' T₁₂ R₁₂' fun r s' hp => ?_
  exact hp.trans ((((l₂.trans l₃).trans l₄).trans (l₅.trans l₆)).trans ((l₁₀.trans l₁₁).trans l₁₂))
end
end Mine

namespace Mine
/-- what is seen of the state behind the top -/
def seenFn (h : Heap) (a : Addr) : Option (Value × Option Addr × Nat × List (Option Value) × Str × Arguments × FuncBody × Scope × (Addr × List (Str × Addr) × Value × Value × Option Addr × Addr × Option Str)) :=
  match h.get? a with
  | some ⟨c, d, .func f, sl⟩ => some (c, d, sl.size, sl.toList, f.qualname, f.params, f.body, f.scope, f.globals, f.closure, f.defaults, f.kwdefaults, f.annotations, f.builtins,
      match f.code with
      | .ref c => (match h.get? c with
        | some ⟨_, _, .fields vs, _⟩ => (match (vs[1]? : Option Value) with | some (.str x _) => some x | _ => none)
        | _ => none)
      | _ => none)
  | _ => none
def goodFn (r : FnRec) : Option (Value × Option Addr × Nat × List (Option Value) × Str × Arguments × FuncBody × Scope × (Addr × List (Str × Addr) × Value × Value × Option Addr × Addr × Option Str)) :=
  some (.type "function", none, 0, [], r.q, psOf r.st, .stmts (bodyOf r.st), scOf r.st, mainGlobals, [], r.df, r.kd, none, builtinsNs, some r.q)
theorem fn_of {h : Heap} {a : Addr} {r : FnRec} (e : seenFn h a = goodFn r) : ∃ doc pm cd ct nm, FnAt h.get? a (mkFd r.q (psOf r.st) (bodyOf r.st) (scOf r.st) r.df r.kd doc pm cd ct nm) := by
  unfold seenFn goodFn at e
  split at e
  · rename_i c d f sl ho
    simp only [Option.some.injEq, Prod.mk.injEq] at e
    obtain ⟨rfl, rfl, e3, e4, e5, e6, e7, e8, e9, e10, e11, e12, e13, e14, e15⟩ := e
    have hsl : sl = #[] := Array.toList_inj.mp (by simpa using e4)
    subst hsl
    obtain ⟨nm, q, ps, bd, sc, gl, cl, df, kd, doc, pm, an, cd, ct, bl⟩ := f
    dsimp only at e5 e6 e7 e8 e9 e10 e11 e12 e13 e14 e15
    subst e5 e6 e7 e8 e9 e10 e11 e12 e13 e14
    refine ⟨doc, pm, cd, ct, nm, ho, ?_⟩
    cases cd with
    | ref c =>
      dsimp only at e15
      split at e15
      · rename_i c' d' vs' sl' hc
        split at e15
        · rename_i x t hv
          cases e15
          exact ⟨c, _, vs', t, rfl, hc, rfl, hv⟩
        · cases e15
      · cases e15
    | _ => cases e15
  · cases e
/-- a value without its token -/
def bareV : Value → Value
  | .int i _ => .int i 0
  | .bytes b _ => .bytes b 0
  | v => v
def goodV : V → Option Value
  | .int i => some (.int i 0)
  | .bytes b => some (.bytes b 0)
  | .exact (.ref a) => some (.ref a)
  | _ => none
theorem den_bare {w : World} {B : Bs} {v : V} {o : Option Value} {r : Value} (hg : goodV v = some r) (e : o.map bareV = goodV v) : ∃ r, o = some r ∧ den w B v r := by
  cases o with
  | none => rw [hg] at e; cases e
  | some x =>
    refine ⟨x, rfl, ?_⟩
    cases v with
    | int i =>
      simp only [goodV, Option.map_some, Option.some.injEq] at e
      cases x <;> simp [bareV] at e
      subst e; exact den_int.mpr ⟨_, rfl⟩
    | bytes b =>
      simp only [goodV, Option.map_some, Option.some.injEq] at e
      cases x <;> simp [bareV] at e
      subst e; exact den_bytes.mpr ⟨_, rfl⟩
    | exact y =>
      cases y <;> simp only [goodV] at hg <;> try cases hg
      simp only [goodV, Option.map_some, Option.some.injEq] at e
      cases x <;> simp [bareV] at e
      subst e; exact den_exact.mpr rfl
    | _ => cases hg

def gNames : List Str := ["_wall", "_NODE_OUT", "_NODE_DONE", "_NodeInfo", "CycleError", "TopologicalSorter", "_buffer", "_truth", "_B64", "b2a_base64", "b64encode", "_deduplicate_unhashable", "_compare_args_orderless", "_law_run", "_law_once", "_law_kept", "_law_rounds", "_law_reached"]
abbrev o40 : Obj := { cls := .type "type", data := .cls { name := "_NodeInfo", bases := [.type "object"], mro := [.ref 40, .type "object"], ns := 39, qualname := "_NodeInfo", hasDict := false, slotNames := ["node", "npredecessors", "successors"] }, slots := #[none, none, some (.str "_NodeInfo" 202), some (.str "_NodeInfo" 210), some (.builtin "object.__new__"), some (.bool false)] }
abbrev ent (P : Params) (x : Str) (t : Nat) (v : Value) : DictEntry := { hash := PyData.keyHash P x, key := .str x t, val := v }
abbrev o39 (P : Params) : Obj := { cls := .type "dict", data := .dict #[ent P "__module__" 209 (.str "cpy313.graphlib" 194), ent P "__firstlineno__" 213 (.int 7 212), ent P "__slots__" 217 (.ref 29), ent P "__init__" 225 (.ref 36), ent P "__static_attributes__" 229 (.ref 37),
  ent P "node" 231 (.ref 41), ent P "npredecessors" 233 (.ref 42), ent P "successors" 235 (.ref 43), ent P "__doc__" 236 .none] 5 }
abbrev oMd (x : Str) (t : Nat) (i : Int) : Obj := { cls := .type "member_descriptor", data := .fields #[.str x t, .ref 40, .builtin "proto.slot", .builtin "proto.slot#set", .int i 0] }
abbrev o137 : Obj := excClassObj "TopologicalSorter" "TopologicalSorter" 137 136 [.type "object"] [.type "object"] true [] [] false none none none none (some (.str "TopologicalSorter" 257)) (some (.str "TopologicalSorter" 265)) (some (.bool true)) "object.__new__"
abbrev o55 : Obj := excClassObj "CycleError" "CycleError" 55 54 [.type "ValueError"] veMro true [] [] false none none (some (.ref 46)) none (some (.str "CycleError" 239)) (some (.str "CycleError" 247)) (some (.bool true)) "ValueError.__new__"
abbrev oTup (o : Option Obj) : Option (List Value) := match o with
  | some ⟨_, _, .seq xs _, _⟩ => some xs.toList
  | _ => none
theorem tup_of {o : Option Obj} (e : oTup o = some [.none]) : ∃ o' k, o = some o' ∧ o'.data = .seq #[.none] k := by
  unfold oTup at e
  split at e
  · rename_i c d xs k sl
    cases xs; cases e
    exact ⟨_, _, rfl, rfl⟩
  · cases e
def litA : List Addr := [40, 39, 41, 42, 43, 137, 55]
def litO (P : Params) : List (Addr × Obj) := [(40, o40), (39, o39 P), (41, oMd "node" 230 2), (42, oMd "npredecessors" 232 1), (43, oMd "successors" 234 0), (137, o137), (55, o55)]
def nsList : List Addr := [mainGlobals, builtinsNs, cStatics, 136, 54]
def obsT (s : Shared) := (nsList.map s.heap.isNs, s.heap.bltView, gTab.map (fun p => (s.heap.nsMap mainGlobals p.1).map bareV), gNo.map (s.heap.nsMap mainGlobals),
  s.heap.nsMap cStatics "sys.recursionlimit", fTab.map (fun p => seenFn s.heap p.1), [oTup (s.heap.get? 66), oTup (s.heap.get? 164)], litA.map s.heap.get?,
  tsTab.map (fun p => s.heap.nsMap 136 p.1), tsNo.map (s.heap.nsMap 136), s.heap.nsMap 54 "__init__", (s.heap.get? sysModules).isSome)
def valT (w : World) := (nsList.map (fun _ => true), bltViewBooted, gTab.map (fun p => goodV p.2), gNo.map (fun _ => (none : Option Value)),
  (none : Option Value), fTab.map (fun p => goodFn p.2), [some [Value.none], some [Value.none]], (litO w.params).map (fun p => some p.2),
  tsTab.map (fun p => some p.2), tsNo.map (fun _ => (none : Option Value)), (none : Option Value), true)
end Mine

namespace Mine
theorem mem_of_lookup {α β : Type} [BEq α] [LawfulBEq α] {a : α} {b : β} : ∀ {l : List (α × β)}, l.lookup a = some b → (a, b) ∈ l
  | [], e => by cases e
  | (x, y) :: l, e => by
    rw [List.lookup_cons] at e
    split at e
    · rename_i q; cases e; rw [eq_of_beq q]; exact List.mem_cons_self
    · exact List.mem_cons_of_mem _ (mem_of_lookup e)
theorem map_eq {α β : Type} {f g : α → β} {l : List α} (e : l.map f = l.map g) : ∀ a ∈ l, f a = g a := List.map_inj_left.mp e
theorem gTab_good : ∀ p ∈ gTab, ∃ r, goodV p.2 = some r := by
  intro p hp
  have : gTab.all (fun p => (goodV p.2).isSome) = true := by rfl
  exact Option.isSome_iff_exists.mp (List.all_eq_true.mp this p hp)
abbrev niK (P : Params) (f : FuncData) : Frag := [(40, o40), (39, o39 P), (41, oMd "node" 230 2), (42, oMd "npredecessors" 232 1), (43, oMd "successors" 234 0), (36, { cls := .type "function", data := .func f })]
theorem niFacts (P : Params) (f : FuncData) : NiFacts (niK P f) where
  makes := by kernel_rfl
  init := by kernel_rfl
  fn := by kernel_rfl
  ga := by kernel_rfl
  gh := by kernel_rfl
  sa := by kernel_rfl
  over := by kernel_rfl
  keep := by kernel_rfl
  node := ⟨41, fun od => by kernel_rfl, by kernel_rfl, by kernel_rfl, by kernel_rfl⟩
  npred := ⟨42, fun od => by kernel_rfl, by kernel_rfl, by kernel_rfl, by kernel_rfl⟩
  succ := ⟨43, fun od => by kernel_rfl, by kernel_rfl, by kernel_rfl, by kernel_rfl⟩
theorem topB_of {w : World} {s : Shared} (e : obsT s = valT w) : TopB w s.heap.get? := by
  unfold obsT valT at e
  simp only [Prod.mk.injEq] at e
  obtain ⟨e1, e2, e3, e4, e5, e6, e7, e8, e9, e10, e11, e12⟩ := e
  have ns : ∀ a ∈ nsList, s.heap.Ns a (s.heap.nsMap a) := fun a ha => .of_isNs (map_eq e1 a ha)
  have fns : ∀ a r, fTab.lookup a = some r → ∃ doc pm cd ct nm, FnAt s.heap.get? a (mkFd r.q (psOf r.st) (bodyOf r.st) (scOf r.st) r.df r.kd doc pm cd ct nm) :=
    fun a r h => fn_of (map_eq e6 (a, r) (mem_of_lookup h))
  have lit : ∀ p ∈ litO w.params, s.heap.get? p.1 = some p.2 := by
    have : litA = (litO w.params).map (·.1) := rfl
    rw [this, List.map_map] at e8
    exact map_eq e8
  simp only [List.cons.injEq] at e7
  refine ⟨?_, ?_, ?_, fns, ?_, ?_, ?_, ?_, ?_, ?_, ?_⟩
  · obtain ⟨o, es, ep, h1, h2, h3, h4⟩ := ns mainGlobals (by simp [nsList])
    refine ⟨o, es, ep, h1, h2, h3, fun x v hx => ?_, fun x hx => (h4 x).trans (map_eq e4 x hx)⟩
    have hm := mem_of_lookup hx
    obtain ⟨r, hr⟩ := gTab_good _ hm
    obtain ⟨y, hy, d⟩ := den_bare (w := w) (B := s.heap.get?) hr (map_eq e3 _ hm)
    exact ⟨y, (h4 x).trans hy, d⟩
  · obtain ⟨o, es, ep, h1, h2, h3, h4⟩ := ns builtinsNs (by simp [nsList])
    exact ⟨o, es, ep, h1, h2, h3, fun x hx => (h4 x).trans (Heap.of_bltView (map_eq e1 builtinsNs (by simp [nsList])) e2 x hx)⟩
  · obtain ⟨o, es, ep, h1, h2, h3, h4⟩ := ns cStatics (by simp [nsList])
    exact ⟨o, es, ep, h1, h2, h3, (h4 _).trans e5⟩
  · rintro a (rfl | rfl)
    · exact tup_of e7.1
    · exact tup_of e7.2.1
  · exact ⟨_, _, _, _, _, _, _, _, _, _, _, _, lit (137, o137) (by simp [litO])⟩
  · obtain ⟨o, es, ep, h1, h2, h3, h4⟩ := ns 136 (by simp [nsList])
    exact ⟨o, es, ep, h1, h2, h3, fun x v hx => (h4 x).trans (map_eq e9 _ (mem_of_lookup hx)), fun x hx => (h4 x).trans (map_eq e10 x hx)⟩
  · exact ⟨_, _, _, _, _, _, _, _, _, _, _, _, _, _, lit (55, o55) (by simp [litO])⟩
  · obtain ⟨o, es, ep, h1, h2, h3, h4⟩ := ns 54 (by simp [nsList])
    exact ⟨o, es, ep, h1, h2, h3, (h4 _).trans e11⟩
  · obtain ⟨doc, pm, cd, ct, nm, hf, _⟩ := fns 36 ⟨"_NodeInfo.__init__", inClass 1 (fdef 4), .none, .none⟩ rfl
    have key : ∀ f, s.heap.get? 36 = some { cls := .type "function", data := .func f } → ∃ K : Frag, (∀ a o, K.lookup a = some o → s.heap.get? a = some o) ∧ NiFacts K := fun f hf => ⟨niK w.params f, fun a o h => ?_, niFacts w.params f⟩
    · exact key _ hf
    have hm := mem_of_lookup h
    simp only [niK, List.mem_cons, Prod.mk.injEq, List.not_mem_nil, or_false] at hm
    rcases hm with ⟨rfl, rfl⟩ | ⟨rfl, rfl⟩ | ⟨rfl, rfl⟩ | ⟨rfl, rfl⟩ | ⟨rfl, rfl⟩ | ⟨rfl, rfl⟩
    · exact lit (40, _) (by simp [litO])
    · exact lit (39, _) (by simp [litO])
    · exact lit (41, _) (by simp [litO])
    · exact lit (42, _) (by simp [litO])
    · exact lit (43, _) (by simp [litO])
    · exact hf
  · obtain ⟨o, h⟩ := Option.isSome_iff_exists.mp e12
    exact ⟨o, h⟩
end Mine

namespace Mine
def vq : Program := { pg with main := { pg.main with body := [fdef 23] } }
theorem top_left : LeftO pg vq gNames (fun _ => true) obsT valT 3100 := fun w => by kernel_rfl
end Mine

namespace Mine
def posOf : Stmt → Pos
  | .FunctionDef _ _ _ _ _ _ _ _ _ p => p
  | _ => default
abbrev lawD : DefRec := ⟨"law", psOf (fdef 23), bodyOf (fdef 23), scOf (fdef 23), posOf (fdef 23)⟩
abbrev lawR : OpenRow := PySem.Challenge.rw_ny0250_02.row
theorem law_walk (LF : ∀ w os xs, xs.length ≤ 63 → Fn w os 6 (.ref 217) [IL xs] (.bool true)) : WalkX vq gNames (fun _ _ => True) obsT valT lawR.toRowW lawD [] (fun f vs => PySem.call f vs) := by
  intro w s₀ s₁ mg mb G Y a o pm cd doc dV kV ho hd hcd hD hmg hg args vals as L hpre hlay hrd hwl hlo
  have T := (topB_of Y).mono (B' := s₁.heap.get?) L.keeps
  have ea : a = 217 := by
    obtain ⟨o1, es, ep, h1, h2, h3, h4, _⟩ := T.glo
    obtain ⟨r, hr, dr⟩ := h4 "law" (.exact (.ref 217)) rfl
    obtain ⟨o2, es2, ep2, k1, k2, k3, k4⟩ := G.T.g
    rw [h1] at k1; cases k1
    rw [h2] at k2; cases k2
    have := (k4 "law").trans hmg
    rw [hr, den_exact.mp dr] at this
    cases this; rfl
  subst ea
  clear ho hd hcd hD hmg G
  wrow_args hpre hlay hrd hwl hlo
  rename_i ns _ _ _ _ _ _ _ b its _ hL _ _ _ hI _ hc _
  have hb := PySem.W.X.script_obj L hL
  have h63 : ns.length ≤ 63 := by omega
  have R : Rep w s₁.os s₁.heap.get? [] s₁ := ⟨fun _ _ e => e, fun _ h => (nomatch h), fun _ h => (nomatch h), .nil, hg, rfl⟩
  have hA : Rm 6 callerA [] := ⟨rfl, by decide +kernel, by decide +kernel, ⟨[], rfl, fun _ h => (nomatch h)⟩⟩
  have d : dens w s₁.heap.get? [IL ns] [.ref b] := dens_cons.mpr ⟨_, _, rfl, den_list.mpr ⟨b, _, 0, rfl, hb, dens.ints.mpr (by simpa using hI)⟩, dens_nil.mpr rfl⟩
  refine wpAny_mono (LF w s₁.os ns h63 callerA _ [] s₁ [.ref b] (fun _ _ => False) hA T R d) (fun v s' p => ?_) fun _ _ h => h.elim
  obtain ⟨B', le, R', dv⟩ := p
  rw [den_bool.mp dv]
  refine GoodW.toG ⟨.inl ⟨_, .bool true, [], rfl, fun _ => rfl, .bool true, postW_of (by wrow_shape) (by wtm_val) (by first | rfl | w_fin), fun _ => ⟨List.nodup_nil, fun _ h => (nomatch h)⟩⟩, ?_, R'.os, R'.gens⟩
  exact fun b o e => R'.base _ _ (le _ _ e)
theorem law_holds (LF : ∀ w os xs, xs.length ≤ 63 → Fn w os 6 (.ref 217) [IL xs] (.bool true)) (said : lawR.wellSaid = true) (hw : lawR.toRowW.promised) : lawR.Holds :=
  holds_openX (q := vq) (loose := gNames) (Xt := fun _ => true) (XP := fun _ _ => True) (Yf := obsT) (Ya := valT) (d := lawD) (kwd := []) (N := 3100) top_left (fun _ _ => trivial) (fun _ _ _ _ _ => trivial)
    (by kernel_rfl) (by kernel_rfl) (by kernel_rfl) (fun _ _ => recFacts_nil rfl) (by kernel_rfl) said (by decide +kernel) ⟨rfl, rfl, rfl, rfl, rfl, by decide +kernel⟩ hw (law_walk LF)
theorem law_said : PySem.Challenge.rw_ny0250_02.wellSaid = true := by kernel_rfl
theorem law_promised : lawR.toRowW.promised := by w_witness2
theorem law_end (LF : ∀ w os xs, xs.length ≤ 63 → Fn w os 6 (.ref 217) [IL xs] (.bool true)) : PySem.Challenge.rw_ny0250_02.Holds :=
  holds_law law_said fun said => law_holds LF said law_promised
end Mine

theorem PySem.Challenge.cw_ny0250_02_holds : PySem.Challenge.rw_ny0250_02.Holds :=
  Mine.law_end fun _ _ xs h => Mine.law_fn (n := 0) xs h
