import PyProof.Rows.All
import Wide.All
import OpenK.AllK
import Wide.FinOn
import PySem.Challenge.RW_ij0021_01
set_option Elab.async false
set_option linter.all false
set_option genSizeOf false
set_option genInjectivity false

section
namespace Mine
theorem noT {p : Prop} (h : false = true) : p := nomatch h
theorem noF {p : Prop} (h : true = false) : p := nomatch h
theorem vs1 {α : Type} {l : List α} (h : l.length = 1) : ∃ a, l = [a] := by
  cases l with
  | nil => exact nomatch h
  | cons a l => cases l with
    | nil => exact ⟨a, rfl⟩
    | cons _ _ => exact nomatch h
theorem vs2 {α : Type} {l : List α} (h : l.length = 2) : ∃ a b, l = [a, b] := by
  cases l with
  | nil => exact nomatch h
  | cons a l => obtain ⟨b, rfl⟩ := vs1 (Nat.succ.inj h); exact ⟨a, b, rfl⟩
theorem vs3 {α : Type} {l : List α} (h : l.length = 3) : ∃ a b c, l = [a, b, c] := by
  cases l with
  | nil => exact nomatch h
  | cons a l => obtain ⟨b, c, rfl⟩ := vs2 (Nat.succ.inj h); exact ⟨a, b, c, rfl⟩
theorem vs4 {α : Type} {l : List α} (h : l.length = 4) : ∃ a b c d, l = [a, b, c, d] := by
  cases l with
  | nil => exact nomatch h
  | cons a l => obtain ⟨b, c, d, rfl⟩ := vs3 (Nat.succ.inj h); exact ⟨a, b, c, d, rfl⟩
theorem vs5 {α : Type} {l : List α} (h : l.length = 5) : ∃ a b c d e, l = [a, b, c, d, e] := by
  cases l with
  | nil => exact nomatch h
  | cons a l => obtain ⟨b, c, d, e, rfl⟩ := vs4 (Nat.succ.inj h); exact ⟨a, b, c, d, e, rfl⟩
theorem vs6 {α : Type} {l : List α} (h : l.length = 6) : ∃ a b c d e f, l = [a, b, c, d, e, f] := by
  cases l with
  | nil => exact nomatch h
  | cons a l => obtain ⟨b, c, d, e, f, rfl⟩ := vs5 (Nat.succ.inj h); exact ⟨a, b, c, d, e, f, rfl⟩
end Mine
end

section
open PySem PySem.W PyProof.Rows
set_option genSizeOf false
set_option genInjectivity false
namespace Mine

/-- plain data, as a tree -/
inductive D where
  | none
  | bool (b : Bool)
  | int (i : Int)
  | str (x : List Nat)
  | tup (ds : List D)
  | lst (ds : List D)
  | box (a : Nat)
  | own (a : Nat)
  | meth (a : Nat)

/-- a plain list, a plain tuple -/
noncomputable def PL (h : Heap) (a : Addr) (vs : List Value) : Prop := ∃ n, h.get? a = some { cls := .type "list", data := .seq vs.toArray n }
noncomputable def PT (h : Heap) (a : Addr) (vs : List Value) : Prop := ∃ n, h.get? a = some { cls := .type "tuple", data := .seq vs.toArray n }
theorem PL.is {h : Heap} {a : Addr} {vs : List Value} (x : PL h a vs) : h.IsList a vs.toArray := let ⟨n, e⟩ := x; ⟨_, e, rfl, n, rfl⟩
theorem PT.is {h : Heap} {a : Addr} {vs : List Value} (x : PT h a vs) : h.IsTuple a vs.toArray := let ⟨n, e⟩ := x; ⟨_, e, rfl, n, rfl⟩
/-- a bound append of the list at l stands at a -/
noncomputable def MethAt (h : Heap) (a l : Addr) : Prop :=
  h.get? a = some { cls := .type "builtin_function_or_method", data := .fields #[.builtin "list.append", .ref l] }

noncomputable abbrev lim : Nat := 100000
noncomputable abbrev sv (x : List Nat) (t : Tok) : Value := .str ⟨x.toArray⟩ t

mutual
/-- the value v bears the data in the heap; Z: addresses that may change -/
noncomputable def Vr (Z : Addr → Prop) (h : Heap) : D → Value → Prop
  | .none, v => v = .none
  | .bool b, v => v = .bool b
  | .int i, v => ∃ t, v = .int i t
  | .str x, v => ∃ t, v = sv x t ∧ x.length ≤ lim
  | .tup ds, v => ∃ a vs, v = .ref a ∧ ¬ Z a ∧ ds.length ≤ lim ∧ PT h a vs ∧ VL Z h ds vs
  | .lst ds, v => ∃ a vs, v = .ref a ∧ ¬ Z a ∧ ds.length ≤ lim ∧ PL h a vs ∧ VL Z h ds vs
  | .box a, v => v = .ref a ∧ ¬ Z a ∧ ∃ vs, PL h a vs
  | .own a, v => v = .ref a
  | .meth l, v => ∃ a, v = .ref a ∧ ¬ Z a ∧ MethAt h a l
noncomputable def VL (Z : Addr → Prop) (h : Heap) : List D → List Value → Prop
  | [], vs => vs = []
  | d :: ds, vs => ∃ v us, vs = v :: us ∧ Vr Z h d v ∧ VL Z h ds us
end

/-- all is kept but what may change -/
noncomputable def Kp (Z : Addr → Prop) (h h' : Heap) : Prop := ∀ b o, ¬ Z b → h.get? b = some o → h'.get? b = some o

theorem PT.kp {Z : Addr → Prop} {h h' : Heap} {a : Addr} {vs} (K : Kp Z h h') (z : ¬ Z a) : PT h a vs → PT h' a vs
  | ⟨n, e⟩ => ⟨n, K _ _ z e⟩
theorem PL.kp {Z : Addr → Prop} {h h' : Heap} {a : Addr} {vs} (K : Kp Z h h') (z : ¬ Z a) : PL h a vs → PL h' a vs
  | ⟨n, e⟩ => ⟨n, K _ _ z e⟩

mutual
theorem Vr.kp {Z : Addr → Prop} {h h' : Heap} (K : Kp Z h h') : ∀ (d : D) {v : Value}, Vr Z h d v → Vr Z h' d v
  | .none, _, e => e
  | .bool _, _, e => e
  | .int _, _, e => e
  | .str _, _, e => e
  | .tup ds, _, ⟨a, vs, e, z, n, t, l⟩ => ⟨a, vs, e, z, n, PT.kp K z t, VL.kp K ds l⟩
  | .lst ds, _, ⟨a, vs, e, z, n, t, l⟩ => ⟨a, vs, e, z, n, PL.kp K z t, VL.kp K ds l⟩
  | .box _, _, ⟨e, z, vs, t⟩ => ⟨e, z, vs, PL.kp K z t⟩
  | .own _, _, e => e
  | .meth _, _, ⟨a, e, z, t⟩ => ⟨a, e, z, K _ _ z t⟩
theorem VL.kp {Z : Addr → Prop} {h h' : Heap} (K : Kp Z h h') : ∀ (ds : List D) {vs : List Value}, VL Z h ds vs → VL Z h' ds vs
  | [], _, e => e
  | d :: ds, _, ⟨v, us, e, x, y⟩ => ⟨v, us, e, Vr.kp K d x, VL.kp K ds y⟩
end

mutual
/-- more may change, more lists of one's own -/
theorem Vr.more {Z Z' : Addr → Prop} {h : Heap} (hZ : ∀ b o, h.get? b = some o → Z' b → Z b) : ∀ (d : D) {v : Value}, Vr Z h d v → Vr Z' h d v
  | .none, _, e => e
  | .bool _, _, e => e
  | .int _, _, e => e
  | .str _, _, e => e
  | .tup ds, _, ⟨a, vs, e, z, n, t, l⟩ => ⟨a, vs, e, fun q => z (hZ a _ t.choose_spec q), n, t, VL.more hZ ds l⟩
  | .lst ds, _, ⟨a, vs, e, z, n, t, l⟩ => ⟨a, vs, e, fun q => z (hZ a _ t.choose_spec q), n, t, VL.more hZ ds l⟩
  | .box _, _, ⟨e, z, vs, t⟩ => ⟨e, fun q => z (hZ _ _ t.choose_spec q), vs, t⟩
  | .own _, _, e => e
  | .meth _, _, ⟨a, e, z, t⟩ => ⟨a, e, fun q => z (hZ a _ t q), t⟩
theorem VL.more {Z Z' : Addr → Prop} {h : Heap} (hZ : ∀ b o, h.get? b = some o → Z' b → Z b) : ∀ (ds : List D) {vs : List Value}, VL Z h ds vs → VL Z' h ds vs
  | [], _, e => e
  | d :: ds, _, ⟨v, us, e, x, y⟩ => ⟨v, us, e, Vr.more hZ d x, VL.more hZ ds y⟩
end

theorem VL.length {Z : Addr → Prop} {h : Heap} : ∀ {ds : List D} {vs : List Value}, VL Z h ds vs → vs.length = ds.length
  | [], _, e => by cases e; rfl
  | _ :: _, _, ⟨_, _, e, _, y⟩ => by subst e; exact congrArg (· + 1) (VL.length y)
theorem VL.get {Z : Addr → Prop} {h : Heap} : ∀ {ds : List D} {vs : List Value}, VL Z h ds vs → ∀ {i : Nat} {d : D}, ds[i]? = some d → ∃ v, vs[i]? = some v ∧ Vr Z h d v
  | [], _, _, _, _, q => by simp at q
  | _ :: _, _, ⟨v, us, e, x, y⟩, 0, d, q => by subst e; simp at q; subst q; exact ⟨v, by simp, x⟩
  | _ :: _, _, ⟨v, us, e, x, y⟩, i + 1, d, q => by
    subst e
    have := VL.get y (i := i) (d := d) (by simpa using q)
    simpa using this
theorem VL.take {Z : Addr → Prop} {h : Heap} : ∀ {ds : List D} {vs : List Value} (n : Nat), VL Z h ds vs → VL Z h (ds.take n) (vs.take n)
  | _, _, 0, _ => rfl
  | [], _, n + 1, e => by cases e; rfl
  | _ :: _, _, n + 1, ⟨v, us, e, x, y⟩ => by subst e; exact ⟨v, us.take n, rfl, x, VL.take n y⟩
theorem VL.drop {Z : Addr → Prop} {h : Heap} : ∀ {ds : List D} {vs : List Value} (n : Nat), VL Z h ds vs → VL Z h (ds.drop n) (vs.drop n)
  | _, _, 0, e => e
  | [], _, n + 1, e => by cases e; rfl
  | _ :: _, _, n + 1, ⟨v, us, e, x, y⟩ => by subst e; exact VL.drop n y
theorem VL.append {Z : Addr → Prop} {h : Heap} : ∀ {ds es : List D} {vs us : List Value}, VL Z h ds vs → VL Z h es us → VL Z h (ds ++ es) (vs ++ us)
  | [], _, _, _, e, y => by cases e; exact y
  | _ :: _, _, _, _, ⟨v, us, e, x, y⟩, z => by subst e; exact ⟨v, _, rfl, x, VL.append y z⟩
theorem VL.reverse {Z : Addr → Prop} {h : Heap} : ∀ {ds : List D} {vs : List Value}, VL Z h ds vs → VL Z h ds.reverse vs.reverse
  | [], _, e => by cases e; rfl
  | d :: ds, _, ⟨v, us, e, x, y⟩ => by
    subst e
    rw [List.reverse_cons, List.reverse_cons]
    exact VL.append (VL.reverse y) ⟨v, [], rfl, x, rfl⟩
end Mine
end

section
open PySem PySem.W PyProof.Rows
set_option genSizeOf false
set_option genInjectivity false
namespace Mine

structure Gb where
  prog : Program
  w : World
  P : Addr
  hB : Heap
  os : OsState
  mg : Str → Option Value

noncomputable abbrev Gb.M (g : Gb) : Model := model g.prog g.w

noncomputable def TabOk (g : Gb) (h : Heap) : Prop := ∃ ps, h.get? g.P = some (tabObj ps) ∧ TriplesOk ps.toList

/-- nothing that stood is touched -/
structure Ge (s s' : Shared) : Prop where
  kp : ∀ b o, s.heap.get? b = some o → s'.heap.get? b = some o
  gens : s'.gens = s.gens
  os : s'.os = s.os
theorem Ge.refl (s : Shared) : Ge s s := ⟨fun _ _ e => e, rfl, rfl⟩
theorem Ge.trans {s s' s'' : Shared} (a : Ge s s') (b : Ge s' s'') : Ge s s'' := ⟨fun c o e => b.kp c o (a.kp c o e), b.gens.trans a.gens, b.os.trans a.os⟩
theorem Ge.tok (s : Shared) (k : Nat) : Ge s { s with toks := k } := ⟨fun _ _ e => e, rfl, rfl⟩
theorem Ge.push (s : Shared) (o : Obj) (k : Nat) : Ge s { s with heap := s.heap.push o, toks := k } := ⟨fun _ _ e => Heap.get?_push_of_some o e, rfl, rfl⟩
theorem Ge.vr {Z : Addr → Prop} {s s' : Shared} (x : Ge s s') {d : D} {v : Value} (e : Vr Z s.heap d v) : Vr Z s'.heap d v := Vr.kp (fun b o _ q => x.kp b o q) d e
theorem Ge.vl {Z : Addr → Prop} {s s' : Shared} (x : Ge s s') {ds : List D} {vs : List Value} (e : VL Z s.heap ds vs) : VL Z s'.heap ds vs := VL.kp (fun b o _ q => x.kp b o q) ds e

/-- all stands as it stood, but the one table of nested code and what is volatile -/
structure Gw (g : Gb) (V : Addr → Prop) (s s' : Shared) : Prop where
  kp : ∀ b o, ¬ V b → s.heap.get? b = some o → s'.heap.get? b = some o
  fr : ∀ b o, b ≠ g.P → s.heap.get? b = some o → ∃ sl, s'.heap.get? b = some { o with slots := sl }
  tab : TabOk g s.heap → TabOk g s'.heap
  gens : AllBare s.gens → AllBare s'.gens
  os : s'.os = s.os
theorem Ge.gw {g : Gb} {V : Addr → Prop} {s s' : Shared} (x : Ge s s') : Gw g V s s' :=
  ⟨fun b o _ e => x.kp b o e, fun b o _ e => ⟨o.slots, x.kp b o e⟩, fun ⟨ps, e, t⟩ => ⟨ps, x.kp _ _ e, t⟩, fun y => x.gens ▸ y, x.os⟩
theorem Gw.refl {g : Gb} {V : Addr → Prop} (s : Shared) : Gw g V s s := (Ge.refl s).gw
theorem Gw.trans {g : Gb} {V : Addr → Prop} {s s' s'' : Shared} (a : Gw g V s s') (b : Gw g V s' s'') : Gw g V s s'' :=
  ⟨fun c o n e => b.kp c o n (a.kp c o n e), fun c o n e => by
    obtain ⟨sl, h⟩ := a.fr c o n e
    obtain ⟨sl', h'⟩ := b.fr c _ n h
    exact ⟨sl', h'⟩, b.tab ∘ a.tab, b.gens ∘ a.gens, b.os.trans a.os⟩
theorem Gw.vr {g : Gb} {V Z : Addr → Prop} {s s' : Shared} (x : Gw g V s s') (hV : ∀ b, V b → Z b) {d : D} {v : Value} (e : Vr Z s.heap d v) : Vr Z s'.heap d v :=
  Vr.kp (fun b o z q => x.kp b o (fun e => z (hV b e)) q) d e
theorem Gw.vl {g : Gb} {V Z : Addr → Prop} {s s' : Shared} (x : Gw g V s s') (hV : ∀ b, V b → Z b) {ds : List D} {vs : List Value} (e : VL Z s.heap ds vs) : VL Z s'.heap ds vs :=
  VL.kp (fun b o z q => x.kp b o (fun e => z (hV b e)) q) ds e

/-- the tree yields the data, and all else stands -/
noncomputable def Yd (g : Gb) (A : Around) (Z : Addr → Prop) (s : Shared) (t : Sem Value) (d : D) : Prop :=
  ∀ (Q E : Value → Shared → Prop), (∀ v s', Vr Z s'.heap d v → Ge s s' → Q v s') → wpAny g.M A t Q E s

/-- what may change holds nothing that is not there -/
noncomputable def Zok (Z : Addr → Prop) (h : Heap) : Prop := ∀ b, Z b → ∃ o, h.get? b = some o
theorem Zok.new {Z : Addr → Prop} {h : Heap} (z : Zok Z h) : ¬ Z h.objs.size := fun q => by
  obtain ⟨o, e⟩ := z _ q
  exact Nat.lt_irrefl _ (Heap.lt_size e)

section
variable {g : Gb} {A : Around} {Z : Addr → Prop} {s : Shared}

theorem Yd.list {t : Sem Value} {vs : List Value} {ds : List D} (z : Zok Z s.heap) (l : VL Z s.heap ds vs) (n : ds.length ≤ lim)
    (h : ∀ (Q E : Value → Shared → Prop), Q (.ref s.heap.objs.size) { s with heap := s.heap.push { cls := .type "list", data := .seq vs.toArray } } → wpAny g.M A t Q E s) :
    Yd g A Z s t (.lst ds) := fun Q E k => h Q E (k _ _ ⟨_, vs, rfl, z.new, n, ⟨_, Heap.get?_push_size _ rfl⟩, (Ge.push s _ _).vl l⟩ (Ge.push s _ _))
theorem Yd.tuple {t : Sem Value} {vs : List Value} {ds : List D} (z : Zok Z s.heap) (l : VL Z s.heap ds vs) (n : ds.length ≤ lim)
    (h : ∀ (Q E : Value → Shared → Prop), Q (.ref s.heap.objs.size) { s with heap := s.heap.push { cls := .type "tuple", data := .seq vs.toArray } } → wpAny g.M A t Q E s) :
    Yd g A Z s t (.tup ds) := fun Q E k => h Q E (k _ _ ⟨_, vs, rfl, z.new, n, ⟨_, Heap.get?_push_size _ rfl⟩, (Ge.push s _ _).vl l⟩ (Ge.push s _ _))

/-- n times the list -/
noncomputable def rep (ds : List D) : Nat → List D
  | 0 => []
  | n + 1 => ds ++ rep ds n
noncomputable def repN (x : List Nat) : Nat → List Nat
  | 0 => []
  | n + 1 => x ++ repN x n

/-- a step's answer, if it has one -/
noncomputable def Hp (x : Option (Prop × D)) (Q : D → Prop) : Prop := match x with
  | some c => c.1 ∧ Q c.2
  | none => False
theorem Hp.of {x : Option (Prop × D)} {Q : D → Prop} (h : Hp x Q) : ∃ p d, x = some (p, d) ∧ p ∧ Q d := by
  cases x with
  | none => exact h.elim
  | some c => exact ⟨c.1, c.2, rfl, h.1, h.2⟩
theorem no {α : Type} {c : α} {p : Prop} (h : (none : Option α) = some c) : p := nomatch h
noncomputable def D.int? : D → Option Int
  | .int i => some i
  | _ => .none
noncomputable def D.str? : D → Option (List Nat)
  | .str i => some i
  | _ => .none
noncomputable def D.lst? : D → Option (List D)
  | .lst i => some i
  | _ => .none
noncomputable def D.tup? : D → Option (List D)
  | .tup i => some i
  | _ => .none
noncomputable def D.bool? : D → Option Bool
  | .bool i => some i
  | _ => .none
noncomputable def D.box? : D → Option Nat
  | .box i => some i
  | _ => .none
noncomputable def D.none? : D → Option Unit
  | .none => some ()
  | _ => .none
theorem int_of {d : D} {i} (h : d.int? = some i) : d = .int i := by cases d <;> first | (cases h; rfl) | exact no h
theorem str_of {d : D} {i} (h : d.str? = some i) : d = .str i := by cases d <;> first | (cases h; rfl) | exact no h
theorem lst_of {d : D} {i} (h : d.lst? = some i) : d = .lst i := by cases d <;> first | (cases h; rfl) | exact no h
theorem tup_of {d : D} {i} (h : d.tup? = some i) : d = .tup i := by cases d <;> first | (cases h; rfl) | exact no h
theorem bool_of {d : D} {i} (h : d.bool? = some i) : d = .bool i := by cases d <;> first | (cases h; rfl) | exact no h
theorem box_of {d : D} {i} (h : d.box? = some i) : d = .box i := by cases d <;> first | (cases h; rfl) | exact no h
theorem none_of {d : D} {i} (h : d.none? = some i) : d = .none := by cases d <;> first | rfl | exact no h
/-- both of their kinds -/
noncomputable def two {α γ δ : Type} (p : D → Option α) (q : D → Option γ) (f : α → γ → Option δ) (a b : D) : Option δ := (p a).bind fun x => (q b).bind fun y => f x y
theorem two_of {α γ δ : Type} {p : D → Option α} {q : D → Option γ} {f : α → γ → Option δ} {a b : D} {c : δ} (h : two p q f a b = some c) : ∃ x y, p a = some x ∧ q b = some y ∧ f x y = some c := by
  obtain ⟨x, h1, h2⟩ := Option.bind_eq_some_iff.mp h
  obtain ⟨y, h3, h4⟩ := Option.bind_eq_some_iff.mp h2
  exact ⟨x, y, h1, h3, h4⟩
theorem or_of {α : Type} {x y : Option α} {c : α} (h : x.or y = some c) : x = some c ∨ y = some c := by
  cases x with
  | none => exact .inr h
  | some _ => exact .inl h
noncomputable def dAdd (a b : D) : Option (Prop × D) := (two D.int? D.int? (fun x y => some (True, .int (x + y))) a b).or
  ((two D.str? D.str? (fun x y => some (x.length + y.length ≤ lim, .str (x ++ y))) a b).or (two D.lst? D.lst? (fun x y => some (x.length + y.length ≤ lim, .lst (x ++ y))) a b))
noncomputable def dMul (a b : D) : Option (Prop × D) := (two D.str? D.int? (fun x n => some (x.length = 1 ∧ 0 ≤ n ∧ n ≤ 1000, .str (repN x n.toNat))) a b).or
  (two D.lst? D.int? (fun x n => some (x.length ≤ 100 ∧ n ≤ 1000 ∧ -1000 ≤ n, .lst (rep x n.toNat))) a b)
noncomputable def dInt (f : Int → Int → Prop × Int) (a b : D) : Option (Prop × D) := two D.int? D.int? (fun x y => some ((f x y).1, .int (f x y).2)) a b
noncomputable abbrev iSub (a b : Int) : Prop × Int := (True, a - b)
noncomputable abbrev iMod (a b : Int) : Prop × Int := (b ≠ 0, a.fmod b)
noncomputable abbrev iDiv (a b : Int) : Prop × Int := (b = 14, a.fdiv b)
noncomputable abbrev iPow (a b : Int) : Prop × Int := (a = 10 ∧ b = 8, 100000000)
theorem rep_len (ds : List D) (n : Nat) : (rep ds n).length = n * ds.length := by
  induction n with
  | zero => simp [rep]
  | succ n ih => rw [rep, List.length_append, ih, Nat.succ_mul, Nat.add_comm]
theorem repN_len (ds : List Nat) (n : Nat) : (repN ds n).length = n * ds.length := by
  induction n with
  | zero => simp [repN]
  | succ n ih => rw [repN, List.length_append, ih, Nat.succ_mul, Nat.add_comm]

theorem str_app (x y : List Nat) : (⟨x.toArray⟩ : Str) ++ (⟨y.toArray⟩ : Str) = ⟨(x ++ y).toArray⟩ := by
  show Str.mk (x.toArray ++ y.toArray) = _
  rw [List.append_toArray]
theorem rep_vl {h : Heap} {ds : List D} {vs : List Value} (l : VL Z h ds vs) : ∀ n, VL Z h (rep ds n) (List.replicate n vs).flatten
  | 0 => rfl
  | n + 1 => by
    rw [List.replicate_succ, List.flatten_cons]
    exact VL.append l (rep_vl l n)
theorem fold_rep (x : Array Nat) (n : Nat) (a : Array Nat) : (List.replicate n x).foldl (· ++ ·) a = a ++ (repN x.toList n).toArray := by
  induction n generalizing a with
  | zero => simp [repN]
  | succ n ih => rw [List.replicate_succ, List.foldl_cons, ih, repN, ← List.append_toArray, Array.append_assoc]
theorem fold_repV (x : Array Value) (n : Nat) (a : Array Value) : (List.replicate n x).foldl (· ++ ·) a = a ++ (List.replicate n x.toList).flatten.toArray := by
  induction n generalizing a with
  | zero => simp
  | succ n ih => rw [List.replicate_succ, List.foldl_cons, ih, List.replicate_succ, List.flatten_cons, ← List.append_toArray, Array.append_assoc]

theorem add_lsts {l b : Addr} {vs ws : List Value} {Q E : Value → Shared → Prop} (hl : PL s.heap l vs) (hb : PL s.heap b ws) (hsz : vs.length + ws.length ≤ 100000)
    (h : Q (.ref s.heap.objs.size) { s with heap := s.heap.push { cls := .type "list", data := .seq (vs ++ ws).toArray } }) :
    wpAny g.M A (binaryOp .Add (.ref l) (.ref b)) Q E s := by
  obtain ⟨n, ho⟩ := hl
  obtain ⟨n2, ho2⟩ := hb
  refine concat_meets ⟨_, ho, rfl⟩ ⟨_, ho2, rfl⟩ noFill_list_add seq_list_add PySem.F.slot_list_add PySem.F.entry_list_add (PySem.F.args_list_add_2 _ _)
    (list_addW l b vs.toArray ws.toArray n n2 none none #[] #[] (by rw [sizeLine_eq]; simp; lia)) ⟨ho, ho2, ?_⟩
  rw [List.append_toArray]
  exact h
end
end Mine
end

section
open PySem PySem.W PyProof.Rows
namespace Mine
section
variable {g : Gb} {A : Around} {Z : Addr → Prop} {s : Shared}

theorem mul_lst {l : Addr} {vs : List Value} {x : Int} {u : Tok} {Q E : Value → Shared → Prop} (hl : PL s.heap l vs) (h0 : vs.length ≤ 1000) (h1 : x ≤ 1000) (hlo : -(2 ^ 63 : Int) ≤ x)
    (h : Q (.ref s.heap.objs.size) { s with heap := s.heap.push { cls := .type "list", data := .seq (List.replicate x.toNat vs).flatten.toArray } }) :
    wpAny g.M A (binaryOp .Mult (.ref l) (.int x u)) Q E s := by
  obtain ⟨k, hl⟩ := hl
  have e : (List.foldl (fun x1 x2 => x1 ++ x2) #[] (List.replicate (if vs.toArray.isEmpty = true then 0 else x.toNat) vs.toArray)) = (List.replicate x.toNat vs).flatten.toArray := by
    rw [fold_repV]
    cases vs with
    | nil => simp
    | cons v vs => simp
  have hm : vs.length * x.toNat ≤ 1000 * 1000 := Nat.mul_le_mul h0 (by lia)
  refine wpAny_binaryOp_repeat_ref (T := "list") (U := "int") (by decide) ⟨_, hl, rfl⟩ (fun s' => typeIs_int s' x u) noFill_list_mul PySem.F.fills_int_mul PySem.F.slot_int_rmul repeat_list PySem.F.slot_int_index.lookup
    (call_meets PySem.F.slot_int_rmul (typeIs_int s x u) PySem.F.entry_int_rmul (PySem.F.args_int_rmul_2 _ _) (int___rmul___int_list x u l vs.toArray k)
      ⟨hl, rfl, ⟨_, hl, rfl⟩, call_meets PySem.F.slot_list_mul ⟨_, hl, rfl⟩ PySem.F.entry_list_mul (PySem.F.args_list_mul_2 _ _)
        (AutoListH.list___mul___list_int_3 l vs.toArray k x u (by simp [Builtin.List.listFitsIndex]; lia) (by rw [List.size_toArray]; lia) (by simp [Builtin.List.listTooLong, sizeLine]; lia))
        ⟨hl, ?_⟩⟩)
  rw [e]
  exact h

theorem mulOk_one {c : Nat} {n : Int} (h0 : 0 ≤ n) (h1 : n ≤ 1000) : MulOk ⟨#[c]⟩ n := by
  refine ⟨by simp; lia, fun h _ => ?_, fun _ _ => ?_⟩
  · have hn : 1 ≤ n := by lia
    have : (2 ^ 63 - 1) / n ≥ 1 := by
      rw [ge_iff_le, Int.le_ediv_iff_mul_le (by lia)]
      lia
    show ¬ ((1 : Int) > (2 ^ 63 - 1) / n)
    lia
  · show decide _ = false
    simp [Str.length, sizeLine]
    lia
theorem txt_mul {x : List Nat} {n : Int} (h : x.length = 1) (h0 : 0 ≤ n) : Txt.mul ⟨x.toArray⟩ n = ⟨(repN x n.toNat).toArray⟩ := by
  unfold Txt.mul
  by_cases a : n < 1
  · have : n = 0 := by lia
    subst this
    rw [if_pos a]; rfl
  · rw [if_neg a]
    by_cases b : n = 1
    · subst b
      simp [repN]
    · rw [if_neg (by simp [b, Str.length, h])]
      show Str.mk _ = _
      rw [fold_rep]
      simp

theorem add_ok (z : Zok Z s.heap) {a b d : D} {p : Prop} {va vb : Value} (x : Vr Z s.heap a va) (y : Vr Z s.heap b vb) (e : dAdd a b = some (p, d)) (k : p) : Yd g A Z s (binaryOp .Add va vb) d := by
  rcases or_of e with e | e
  · obtain ⟨i, j, p, q, e⟩ := two_of e
    cases int_of p; cases int_of q; cases e; obtain ⟨t, rfl⟩ := x; obtain ⟨u, rfl⟩ := y
    exact fun Q E h => PySem.P.add_int (h _ _ ⟨_, rfl⟩ (.tok s _))
  · rcases or_of e with e | e
    · obtain ⟨i, j, p, q, e⟩ := two_of e
      cases e
      cases str_of p; cases str_of q; obtain ⟨t, rfl, _⟩ := x; obtain ⟨u, rfl, _⟩ := y
      exact fun Q E h => PySem.SB.add (fun t' n => h _ _ ⟨t', by rw [str_app], by rw [List.length_append]; exact k⟩ (.tok s _)) (by rw [sizeLine_eq]; exact Nat.le_trans k (by decide))
    · obtain ⟨i, j, p, q, e⟩ := two_of e
      cases e
      cases lst_of p; cases lst_of q
      obtain ⟨l, vs, rfl, _, _, hl, al⟩ := x
      obtain ⟨l', vs', rfl, _, _, hl', al'⟩ := y
      exact .list z (VL.append al al') (by rw [List.length_append]; exact k) fun Q E h => add_lsts hl hl' (by rw [al.length, al'.length]; exact k) h
theorem mul_ok (z : Zok Z s.heap) {a b d : D} {p : Prop} {va vb : Value} (x : Vr Z s.heap a va) (y : Vr Z s.heap b vb) (e : dMul a b = some (p, d)) (k : p) : Yd g A Z s (binaryOp .Mult va vb) d := by
  rcases or_of e with e | e
  · obtain ⟨i, j, p, q, e⟩ := two_of e
    cases e
    obtain ⟨k1, k2, k3⟩ := k
    cases str_of p; cases int_of q; obtain ⟨t, rfl, _⟩ := x; obtain ⟨u, rfl⟩ := y
    obtain ⟨c, rfl⟩ := List.length_eq_one_iff.mp k1
    exact fun Q E h => PySem.SB.mul (mulOk_one k2 k3) fun t' m => h _ _ ⟨t', congrArg (Value.str · t') (txt_mul (x := [c]) k1 k2), by rw [repN_len, k1]; show _ ≤ 100000; lia⟩ (.tok s _)
  · obtain ⟨i, j, p, q, e⟩ := two_of e
    cases e
    cases lst_of p; cases int_of q
    obtain ⟨l, vs, rfl, _, _, hl, al⟩ := x
    obtain ⟨u, rfl⟩ := y
    refine .list z (rep_vl al _) ?_ fun Q E h => mul_lst hl (by rw [al.length]; lia) k.2.1 (by have := k.2.2; lia) h
    rw [rep_len]
    exact Nat.le_trans (Nat.mul_le_mul (show j.toNat ≤ 1000 by lia) k.1) (by decide)
theorem dInt_of {f : Int → Int → Prop × Int} {a b d : D} {p : Prop} {va vb : Value} (x : Vr Z s.heap a va) (y : Vr Z s.heap b vb) (e : dInt f a b = some (p, d)) : ∃ i j t u, va = .int i t ∧ vb = .int j u ∧ d = .int (f i j).2 ∧ p = (f i j).1 := by
  obtain ⟨i, j, p, q, e⟩ := two_of e
  cases e
  cases int_of p; cases int_of q; obtain ⟨t, rfl⟩ := x; obtain ⟨u, rfl⟩ := y
  exact ⟨i, j, t, u, rfl, rfl, rfl, rfl⟩
theorem sub_ok {a b d : D} {p : Prop} {va vb : Value} (x : Vr Z s.heap a va) (y : Vr Z s.heap b vb) (e : dInt iSub a b = some (p, d)) (_k : p) : Yd g A Z s (binaryOp .Sub va vb) d := by
  obtain ⟨i, j, t, u, rfl, rfl, rfl, rfl⟩ := dInt_of x y e
  exact fun Q E h => PyProof.Rows.sub_int' (h _ _ ⟨_, rfl⟩ (.tok s _))
theorem mod_ok {a b d : D} {p : Prop} {va vb : Value} (x : Vr Z s.heap a va) (y : Vr Z s.heap b vb) (e : dInt iMod a b = some (p, d)) (k : p) : Yd g A Z s (binaryOp .Mod va vb) d := by
  obtain ⟨i, j, t, u, rfl, rfl, rfl, rfl⟩ := dInt_of x y e
  exact fun Q E h => PyProof.Rows.mod_int' k (h _ _ ⟨_, rfl⟩ (.tok s _))
theorem div_ok {a b d : D} {p : Prop} {va vb : Value} (x : Vr Z s.heap a va) (y : Vr Z s.heap b vb) (e : dInt iDiv a b = some (p, d)) (k : p) : Yd g A Z s (binaryOp .FloorDiv va vb) d := by
  obtain ⟨i, j, t, u, rfl, rfl, rfl, rfl⟩ := dInt_of x y e
  have k : j = 14 := k
  subst k
  exact fun Q E h => PyProof.Rows.floordiv_int (by decide) (h _ _ ⟨_, rfl⟩ (.tok s _)) (.inl (PyProof.noPylong_of_log2 (by decide +kernel)))
theorem pow_ok {a b d : D} {p : Prop} {va vb : Value} (x : Vr Z s.heap a va) (y : Vr Z s.heap b vb) (e : dInt iPow a b = some (p, d)) (k : p) : Yd g A Z s (binaryOp .Pow va vb) d := by
  obtain ⟨i, j, t, u, rfl, rfl, rfl, rfl⟩ := dInt_of x y e
  obtain ⟨rfl, rfl⟩ := k
  exact fun Q E h => PyProof.Rows.pow_int (by decide) (by decide +kernel) (h _ _ ⟨_, rfl⟩ (.tok s _))
end
end Mine
end

section
open PySem PySem.W PyProof.Rows
namespace Mine
/-- two lists of texts and boxes are the same -/
noncomputable def part : D → D → Bool
  | .str x, b => match b with
    | .str y => x == y
    | _ => false
  | .box x, b => match b with
    | .box y => x == y
    | _ => false
  | _, _ => false
noncomputable def parts : List D → List D → Bool
  | [], b => b.isEmpty
  | x :: a, b => match b with
    | y :: b => part x y && parts a b
    | [] => false
noncomputable def int1 : D → Option Int
  | .int i => some i
  | _ => none
noncomputable def str1 : D → Option (List Nat)
  | .str i => some i
  | _ => none
noncomputable def allOf {α : Type} (f : D → Option α) : List D → Option (List α)
  | [] => some []
  | d :: r => match f d with
    | some x => (allOf f r).map (x :: ·)
    | none => none
noncomputable def ceq : D → D → Option Bool
  | .int a, b => match b with
    | .int b => some (a == b)
    | _ => none
  | .str a, b => match b with
    | .str b => some (a == b)
    | _ => none
  | .bool a, b => match b with
    | .bool b => some (a == b)
    | _ => none
  | .box _, b => match b with
    | .str _ => some false
    | _ => none
  | _, _ => none
noncomputable def cne : D → D → Option Bool
  | .str a, b => match b with
    | .str b => some (!(a == b))
    | _ => none
  | .bool a, b => match b with
    | .bool b => some (!(a == b))
    | _ => none
  | .lst a, b => match b with
    | .lst b => if parts a b = true then some false else none
    | _ => none
  | _, _ => none
noncomputable def inS (x y : List Nat) : Option Bool := match x with
  | [] => none
  | c :: r => if r.isEmpty = true then some (decide (c ∈ y)) else none
noncomputable def cin : D → D → Option Bool
  | .str x, b => match b with
    | .str y => inS x y
    | .tup xs => (allOf str1 xs).map fun ns => ns.any (· == x)
    | _ => none
  | .int i, b => match b with
    | .lst xs => (allOf int1 xs).map fun ns => ns.any (· == i)
    | .tup xs => (allOf int1 xs).map fun ns => ns.any (· == i)
    | _ => none
  | _, _ => none
noncomputable def cis : D → D → Option Bool
  | a, .none => match a with
    | .none => some true
    | .lst _ => some false
    | .str _ => some false
    | .tup _ => some false
    | _ => none
  | a, .box b => match a with
    | .box a => if a = b then some true else none
    | .str _ => some false
    | _ => none
  | _, _ => none
noncomputable def clt (f : Int → Int → Bool) : D → D → Option Bool
  | .int a, b => match b with
    | .int b => some (f a b)
    | _ => none
  | _, _ => none
noncomputable def cgt : D → D → Option Bool
  | .int a, b => match b with
    | .int b => some (decide (a > b))
    | _ => none
  | .str a, b => match b with
    | .str b => some (decide (b < a))
    | _ => none
  | _, _ => none
noncomputable def cni : D → D → Option Bool
  | .str x, b => match b with
    | .str y => (inS x y).map not
    | _ => none
  | _, _ => none
noncomputable def cop : CmpOp → D → D → Option Bool
  | .Eq => ceq
  | .NotEq => cne
  | .Lt => clt fun a b => decide (a < b)
  | .LtE => clt fun a b => decide (a ≤ b)
  | .Gt => cgt
  | .GtE => clt fun a b => decide (a ≥ b)
  | .In => cin
  | .NotIn => cni
  | .Is => cis
  | .IsNot => fun a b => (cis a b).map not
section
variable {g : Gb} {A : Around} {Z : Addr → Prop} {s : Shared}

/-- the tree yields a bool, and nothing is made -/
noncomputable def Yb (g : Gb) (A : Around) (s : Shared) (t : Sem Value) (b : Bool) : Prop := ∀ (Q E : Value → Shared → Prop), Q (.bool b) s → wpAny g.M A t Q E s

theorem ints_vl {h : Heap} {ds : List D} : ∀ {vs : List Value} {ns : List Int}, VL Z h ds vs → allOf int1 ds = some ns → IntsAre vs ns := by
  induction ds with
  | nil => intro vs ns l e; cases l; cases e; exact .nil
  | cons d r ih =>
    rintro vs ns ⟨v, us, rfl, x, y⟩ e
    cases d with
    | int i =>
      obtain ⟨t, rfl⟩ := x
      obtain ⟨ns, e1, rfl⟩ := Option.map_eq_some_iff.mp e
      exact .cons i t (ih y e1)
    | _ => exact no e
theorem strs_vl {h : Heap} {ds : List D} : ∀ {vs : List Value} {ns : List (List Nat)}, VL Z h ds vs → allOf str1 ds = some ns → ∃ ts : List Tok, vs = ns.zipWith sv ts ∧ ts.length = ns.length := by
  induction ds with
  | nil => intro vs ns l e; cases l; cases e; exact ⟨[], rfl, rfl⟩
  | cons d r ih =>
    rintro vs ns ⟨v, us, rfl, x, y⟩ e
    cases d with
    | str i =>
      obtain ⟨t, rfl, _⟩ := x
      obtain ⟨ns, e1, rfl⟩ := Option.map_eq_some_iff.mp e
      obtain ⟨ts, rfl, e4⟩ := ih y e1
      exact ⟨t :: ts, rfl, congrArg (· + 1) e4⟩
    | _ => exact no e
theorem part_eq {A : Around} {a b : D} {v w : Value} (e : part a b = true) (x : Vr Z s.heap a v) (y : Vr Z s.heap b w) : SeqAt.EqAt A s v w true := by
  cases a with
  | str i => cases b with
    | str j =>
      obtain ⟨t, rfl, _⟩ := x; obtain ⟨u, rfl, _⟩ := y
      have := SeqAt.EqAt.str_str (A := A) (s := s) (⟨i.toArray⟩ : Str) t (⟨j.toArray⟩ : Str) u
      rw [eq_of_beq e, beq_self_eq_true] at this
      rw [eq_of_beq e]
      exact this
    | _ => exact nomatch e
  | box i => cases b with
    | box j =>
      cases x.1; cases y.1
      rw [eq_of_beq e]
      exact SeqAt.EqAt.same _
    | _ => exact nomatch e
  | _ => exact nomatch e
theorem parts_eq {A : Around} {a : List D} : ∀ {b : List D} {vs ws : List Value}, parts a b = true → VL Z s.heap a vs → VL Z s.heap b ws →
    vs.length = ws.length ∧ ∀ j (h1 : j < vs.length) (h2 : j < ws.length), SeqAt.EqAt A s vs[j] ws[j] true := by
  induction a with
  | nil =>
    intro b vs ws e x y
    cases b with
    | nil => cases x; cases y; exact ⟨rfl, fun _ h1 => absurd h1 (Nat.not_lt_zero _)⟩
    | cons _ _ => exact nomatch e
  | cons d a ih =>
    intro b vs ws e x y
    cases b with
    | nil => exact nomatch e
    | cons c b =>
      obtain ⟨v, us, rfl, x, l⟩ := x
      obtain ⟨v', us', rfl, y, l'⟩ := y
      obtain ⟨e1, e2⟩ := Bool.and_eq_true_iff.mp e
      obtain ⟨z1, z2⟩ := ih e2 l l'
      refine ⟨congrArg (· + 1) z1, fun j h1 h2 => ?_⟩
      cases j with
      | zero => exact part_eq e1 x y
      | succ j => exact z2 j _ _

theorem beq_str (x y : List Nat) : ((⟨x.toArray⟩ : Str) == ⟨y.toArray⟩) = (x == y) := by
  rw [Bool.eq_iff_iff]
  simp
theorem ceq_ok (hu : A.units + 70 < cLine) {a b : D} {va vb : Value} {c : Bool} (x : Vr Z s.heap a va) (y : Vr Z s.heap b vb) (e : ceq a b = some c) : Yb g A s (compareOp .Eq va vb) c := by
  cases a with
  | int i => cases b with
    | int j => cases e; obtain ⟨t, rfl⟩ := x; obtain ⟨u, rfl⟩ := y; exact fun Q E h => PySem.P.eq_int h
    | _ => exact no e
  | str i => cases b with
    | str j => cases e; obtain ⟨t, rfl, _⟩ := x; obtain ⟨u, rfl, _⟩ := y; exact fun Q E h => PySem.P.eq_str h
    | _ => exact no e
  | bool i => cases b with
    | bool j => cases e; cases x; cases y; exact fun Q E h => PySem.EqBoolInt.of_rc (SeqAt.RcAt.bool_bool _ _) h
    | _ => exact no e
  | box i => cases b with
    | str j => cases e; obtain ⟨rfl, _, vs, p⟩ := x; obtain ⟨u, rfl, _⟩ := y; exact fun Q E h => PySem.EqBoolInt.of_rc (SeqAt.RcAt.list_str _ _ p.is (by lia)) h
    | _ => exact no e
  | _ => exact no e
theorem cne_ok (hu : A.units + 70 < cLine) {a b : D} {va vb : Value} {c : Bool} (x : Vr Z s.heap a va) (y : Vr Z s.heap b vb) (e : cne a b = some c) : Yb g A s (compareOp .NotEq va vb) c := by
  cases a with
  | str i => cases b with
    | str j => cases e; obtain ⟨t, rfl, _⟩ := x; obtain ⟨u, rfl, _⟩ := y; exact fun Q E h => PySem.P.ne_str h
    | _ => exact no e
  | bool i => cases b with
    | bool j => cases e; cases x; cases y; exact fun Q E h => PySem.EqBoolInt.of_rcne (SeqAt.RcNeAt.bool_bool _ _) h
    | _ => exact no e
  | lst i => cases b with
    | lst j =>
      have e : (if parts i j = true then some false else none) = some c := e
      by_cases hp : parts i j = true
      · rw [if_pos hp] at e; cases e
        obtain ⟨l, vs, rfl, _, _, p, al⟩ := x
        obtain ⟨l', vs', rfl, _, _, p', al'⟩ := y
        obtain ⟨z1, z2⟩ := parts_eq (A := A.in1) hp al al'
        have := SeqAt.RcNeAt.lists (A := A) (e := fun _ => true) p.is p'.is z1 (by lia) z2
        rw [List.all_eq_true.mpr fun _ _ => rfl] at this
        exact fun Q E h => PySem.EqBoolInt.of_rcne this h
      · rw [if_neg hp] at e; exact no e
    | _ => exact no e
  | _ => exact no e
theorem inS_one {x y : List Nat} {c : Bool} (e : inS x y = some c) : ∃ n, x = [n] ∧ c = decide (n ∈ y) := by
  cases x with
  | nil => exact no e
  | cons n r => cases r with
    | nil => cases e; exact ⟨n, rfl, rfl⟩
    | cons _ _ => exact no e
noncomputable def isS (x : Str) : Value → Bool
  | .str y _ => y == x
  | _ => false
theorem any_sv (x : List Nat) (ns : List (List Nat)) : ∀ (ts : List Tok), ts.length = ns.length → (ns.zipWith sv ts).any (isS ⟨x.toArray⟩) = ns.any (· == x) := by
  induction ns with
  | nil => intro ts _; rfl
  | cons n ns ih =>
    intro ts h
    cases ts with
    | nil => exact nomatch h
    | cons t ts => rw [List.zipWith_cons_cons, List.any_cons, List.any_cons, ih ts (by simpa using h), isS, beq_str]
theorem cin_ok {a b : D} {va vb : Value} {c : Bool} (x : Vr Z s.heap a va) (y : Vr Z s.heap b vb) (e : cin a b = some c) : Yb g A s (compareOp .In va vb) c := by
  cases a with
  | str i => cases b with
    | str j =>
      obtain ⟨n, rfl, rfl⟩ := inS_one e
      obtain ⟨t, rfl, _⟩ := x; obtain ⟨u, rfl, _⟩ := y; exact fun Q E h => PySem.SB.contains (by rw [Txt.contains, StrLaws.found_one]; exact h)
    | tup j =>
      obtain ⟨ns, e1, rfl⟩ := Option.map_eq_some_iff.mp e
      obtain ⟨t, rfl, _⟩ := x; obtain ⟨l, vs, rfl, _, _, p, al⟩ := y
      obtain ⟨ts, rfl, e4⟩ := strs_vl al e1
      intro Q E h
      refine SeqAt.in_tupleAt (isS ⟨i.toArray⟩) p.is (fun v hv => ?_) ?_
      · obtain ⟨k, hk, rfl⟩ := List.getElem_of_mem (List.mem_toArray.mp hv)
        rw [List.getElem_zipWith]
        exact SeqAt.EqAt.str_str _ _ _ _
      · rw [List.any_toArray, any_sv i ns ts e4]
        exact h
    | _ => exact no e
  | int i => cases b with
    | lst j =>
      obtain ⟨ns, e1, rfl⟩ := Option.map_eq_some_iff.mp e
      obtain ⟨t, rfl⟩ := x; obtain ⟨l, vs, rfl, _, _, p, al⟩ := y
      exact fun Q E h => in_list_ints p.is (ints_vl al e1) h
    | tup j =>
      obtain ⟨ns, e1, rfl⟩ := Option.map_eq_some_iff.mp e
      obtain ⟨t, rfl⟩ := x; obtain ⟨l, vs, rfl, _, _, p, al⟩ := y
      exact fun Q E h => in_tuple_ints p.is (ints_vl al e1) h
    | _ => exact no e
  | _ => exact no e
theorem cis_ok {a b : D} {va vb : Value} {c : Bool} (x : Vr Z s.heap a va) (y : Vr Z s.heap b vb) (e : cis a b = some c) (Q E : Value → Shared → Prop) :
    (Q (.bool c) s → wpAny g.M A (compareOp .Is va vb) Q E s) ∧ (Q (.bool (!c)) s → wpAny g.M A (compareOp .IsNot va vb) Q E s) := by
  cases b with
  | none =>
    cases y
    cases a with
    | none => cases e; cases x; exact ⟨wpAny_is_self rfl, wpAny_isNot_self rfl⟩
    | lst i => cases e; obtain ⟨l, vs, rfl, _⟩ := x; exact ⟨is_ref_none, isnot_ref_none⟩
    | str i => cases e; obtain ⟨t, rfl, _⟩ := x; exact ⟨is_str_none, isnot_str_none⟩
    | tup i => cases e; obtain ⟨l, vs, rfl, _⟩ := x; exact ⟨is_ref_none, isnot_ref_none⟩
    | _ => exact no e
  | box j =>
    cases y.1
    cases a with
    | box i =>
      have e : (if i = j then some true else none) = some c := e
      by_cases hp : i = j
      · rw [if_pos hp] at e; cases e; subst hp; cases x.1
        exact ⟨wpAny_is_ref_self, wpAny_isNot_ref_self⟩
      · rw [if_neg hp] at e; exact no e
    | str i => cases e; obtain ⟨t, rfl, _⟩ := x; exact ⟨wpAny_is_other rfl (fun q => nomatch q), wpAny_isNot_other rfl (fun q => nomatch q)⟩
    | _ => exact no e
  | _ => cases a <;> exact no e
theorem clt_int {f : Int → Int → Bool} {a b : D} {c : Bool} (e : clt f a b = some c) : ∃ i j, a = .int i ∧ b = .int j ∧ c = f i j := by
  cases a with
  | int i => cases b with
    | int j => cases e; exact ⟨i, j, rfl, rfl, rfl⟩
    | _ => exact no e
  | _ => exact no e

theorem cop_ok (hu : A.units + 70 < cLine) {op : CmpOp} {a b : D} {va vb : Value} {c : Bool} (x : Vr Z s.heap a va) (y : Vr Z s.heap b vb) (e : cop op a b = some c) :
    Yb g A s (compareOp op va vb) c := by
  cases op with
  | Eq => exact ceq_ok hu x y e
  | NotEq => exact cne_ok hu x y e
  | Lt => obtain ⟨i, j, rfl, rfl, rfl⟩ := clt_int e; obtain ⟨t, rfl⟩ := x; obtain ⟨u, rfl⟩ := y; exact fun Q E h => PySem.P.lt_int h
  | LtE => obtain ⟨i, j, rfl, rfl, rfl⟩ := clt_int e; obtain ⟨t, rfl⟩ := x; obtain ⟨u, rfl⟩ := y; exact fun Q E h => PySem.P.le_int h
  | Gt =>
    cases a with
    | int i => cases b with
      | int j => cases e; obtain ⟨t, rfl⟩ := x; obtain ⟨u, rfl⟩ := y; exact fun Q E h => PySem.P.gt_int h
      | _ => exact no e
    | str i => cases b with
      | str j => cases e; obtain ⟨t, rfl, _⟩ := x; obtain ⟨u, rfl, _⟩ := y; exact fun Q E h => PySem.P.gt_str h
      | _ => exact no e
    | _ => exact no e
  | GtE => obtain ⟨i, j, rfl, rfl, rfl⟩ := clt_int e; obtain ⟨t, rfl⟩ := x; obtain ⟨u, rfl⟩ := y; exact fun Q E h => PySem.P.ge_int h
  | In => exact cin_ok x y e
  | NotIn =>
    cases a with
    | str i => cases b with
      | str j =>
        obtain ⟨c', e1, rfl⟩ := Option.map_eq_some_iff.mp e
        obtain ⟨n, rfl, rfl⟩ := inS_one e1
        obtain ⟨t, rfl, _⟩ := x; obtain ⟨u, rfl, _⟩ := y
        exact fun Q E h => PySem.SB.notContains (by rw [Txt.contains, StrLaws.found_one]; exact h)
      | _ => exact no e
    | _ => exact no e
  | Is => exact fun Q E => (cis_ok x y e Q E).1
  | IsNot =>
    obtain ⟨c', e1, rfl⟩ := Option.map_eq_some_iff.mp e
    exact fun Q E => (cis_ok x y e1 Q E).2
end
end Mine
end

section
open PySem PySem.W PyProof.Rows
namespace Mine

/-- the items of a list, one's own too -/
noncomputable abbrev Own := List (Addr × List D)
noncomputable def Own.find (ω : Own) (a : Addr) : Option (List D) := match ω with
  | [] => none
  | x :: r => if x.1 = a then some x.2 else Own.find r a
noncomputable def lstOf (ω : Own) : D → Option (List D)
  | .lst ds => some ds
  | .own a => ω.find a
  | _ => none
noncomputable def seqOf (ω : Own) (d : D) : Option (List D) := (lstOf ω d).or d.tup?
noncomputable def dLen (ω : Own) (d : D) : Option Nat := ((seqOf ω d).map List.length).or (d.str?.map List.length)
/-- an item: none, no such step; some none, beyond the ends -/
noncomputable def dIdx (ω : Own) (a b : D) : Option (Option D) :=
  (two (seqOf ω) D.int? (fun xs i => some ((seqIndex? i xs.length).bind (xs[·]?))) a b).or
    (two D.str? D.int? (fun x i => some (((seqIndex? i x.length).bind (x[·]?)).map fun c => .str [c])) a b)
/-- a bound of a slice -/
noncomputable def bnd : Option D → Option (Option Int)
  | none => some none
  | some d => d.int?.map some
noncomputable def cutL {α : Type} (lo hi : Option Int) (xs : List α) : List α := (xs.drop (lo.elim 0 (clipAt xs.length))).take (hi.elim xs.length (clipAt xs.length) - lo.elim 0 (clipAt xs.length))
noncomputable def dCut (a : D) (lo hi : Option Int) : Option D := (a.lst?.map fun xs => .lst (cutL lo hi xs)).or (a.str?.map fun x => .str (cutL lo hi x))
theorem cutL_len {α : Type} (lo hi : Option Int) (xs : List α) : (cutL lo hi xs).length ≤ xs.length := by
  unfold cutL
  rw [List.length_take, List.length_drop]
  lia

/-- one's own lists stand in the heap -/
noncomputable def OwnOk (Z : Addr → Prop) (h : Heap) (ω : Own) : Prop :=
  ∀ a ds, ω.find a = some ds → Z a ∧ ∃ vs, PL h a vs ∧ VL Z h ds vs ∧ ds.length ≤ lim

section
variable {g : Gb} {A : Around} {Z : Addr → Prop} {s : Shared} {ω : Own}

theorem lst_at (W : OwnOk Z s.heap ω) {d : D} {ds : List D} {v : Value} (e : lstOf ω d = some ds) (x : Vr Z s.heap d v) : ∃ a vs, v = .ref a ∧ PL s.heap a vs ∧ VL Z s.heap ds vs ∧ ds.length ≤ lim := by
  cases d with
  | lst xs => cases e; obtain ⟨a, vs, rfl, _, n, p, l⟩ := x; exact ⟨a, vs, rfl, p, l, n⟩
  | own k =>
    cases x
    obtain ⟨_, vs, p, l, n⟩ := W k ds e
    exact ⟨k, vs, rfl, p, l, n⟩
  | _ => exact no e

theorem lim63 {n : Nat} (h : n ≤ lim) : (n : Int) < 2 ^ 63 := by
  have : n ≤ 100000 := h
  lia

theorem fits63 {i : Int} (h0 : -(2 ^ 62) ≤ i) (h1 : i ≤ 2 ^ 62) : fitsSsize i = true := by
  unfold fitsSsize
  rw [decide_eq_false (by lia), decide_eq_false (by lia)]
  rfl
theorem idx_def (i : Int) (n : Nat) : seqIndex? i n = if 0 ≤ (if i < 0 then i + n else i) ∧ (if i < 0 then i + n else i) < n then some (if i < 0 then i + n else i).toNat else none := by
  unfold seqIndex?
  simp only [Bool.and_eq_true, decide_eq_true_eq]
theorem idx_in {i : Int} {n k : Nat} (h : seqIndex? i n = some k) : -(n : Int) ≤ i ∧ i < n ∧ k = (if i < 0 then i + n else i).toNat := by
  rw [idx_def] at h
  by_cases q : 0 ≤ (if i < 0 then i + n else i) ∧ (if i < 0 then i + n else i) < n
  · rw [if_pos q] at h
    cases h
    refine ⟨?_, ?_, rfl⟩ <;> by_cases z : i < 0 <;> simp only [z, if_true, if_false] at q <;> lia
  · rw [if_neg q] at h; exact no h
theorem idx_out {i : Int} {n : Nat} (h : seqIndex? i n = none) : i < -(n : Int) ∨ (n : Int) ≤ i := by
  rw [idx_def] at h
  by_cases q : 0 ≤ (if i < 0 then i + n else i) ∧ (if i < 0 then i + n else i) < n
  · rw [if_pos q] at h; cases h
  · by_cases z : i < 0 <;> simp only [z, if_true, if_false] at q <;> lia

theorem idx_list {value slice : PySem.Expr} {l : Addr} {vs : List Value} {i : Int} {u : Tok} {Q E : Value → Shared → Prop} (hh : A.handled = none) (p : PL s.heap l vs) (n : vs.length ≤ lim)
    (hs : subscripted slice false (.ref l) (.int i u) = operate [.ref l, .int i u] (getItem (.ref l) (.int i u)))
    (h1 : ∀ k v, seqIndex? i vs.length = some k → vs[k]? = some v → Q v s)
    (h0 : seqIndex? i vs.length = none → (-(2 ^ 62) ≤ i ∧ i ≤ 2 ^ 62) ∧ ∀ h' tk e, Heap.NewExc s.heap h' e "IndexError" → E (.ref e) { s with heap := h', toks := tk }) :
    wpAny g.M A (subscriptTail value slice (.ref l) (.int i u)) Q E s := by
  refine tail_any p.is.typeIs slot_list_getitem.lookup ?_ hs
  have n : vs.length ≤ 100000 := n
  cases q : seqIndex? i vs.length with
  | none =>
    obtain ⟨⟨b1, b2⟩, k⟩ := h0 q
    exact wpAny_getItem_list_out hh p.is (by simpa using idx_out q) (by lia) (by lia) k
  | some k =>
    obtain ⟨a, b, c⟩ := idx_in q
    by_cases hi : i < 0
    · rw [if_pos hi] at c
      have hk : k < vs.length := by lia
      exact wpAny_getItem_list_neg p.is hi (by simpa using a) (by lia) (by simp [← c, hk]) (h1 k vs[k] q (by simp [hk]))
    · rw [if_neg hi] at c
      have hk : k < vs.length := by lia
      exact wpAny_getItem_list p.is (by lia) (by lia) (by simp [← c, hk]) (h1 k vs[k] q (by simp [hk]))

theorem idx_tup {value slice : PySem.Expr} {l : Addr} {vs : List Value} {i : Int} {u : Tok} {Q E : Value → Shared → Prop} (p : PT s.heap l vs) (n : vs.length ≤ lim)
    (hs : subscripted slice false (.ref l) (.int i u) = operate [.ref l, .int i u] (getItem (.ref l) (.int i u)))
    {k : Nat} {v : Value} (h0 : seqIndex? i vs.length = some k) (h2 : vs[k]? = some v) (h : Q v s) :
    wpAny g.M A (subscriptTail value slice (.ref l) (.int i u)) Q E s := by
  obtain ⟨a, b, c⟩ := idx_in h0
  have n : vs.length ≤ 100000 := n
  exact item_tupleT p.is (by lia) (by lia) h0 h2 h hs

theorem str_item {x : List Nat} {i : Int} {c : Nat} (h : (seqIndex? i x.length).bind (x[·]?) = some c) : Txt.charAt ⟨x.toArray⟩ i = some c := by
  show (seqIndex? i x.toArray.size).bind (x.toArray[·]?) = some c
  simpa using h
theorem idx_str {value slice : PySem.Expr} {x : List Nat} {t : Tok} {i : Int} {u : Tok} {Q E : Value → Shared → Prop} (hh : A.handled = none) (n : x.length ≤ lim)
    (hs : subscripted slice false (sv x t) (.int i u) = operate [sv x t, .int i u] (getItem (sv x t) (.int i u)))
    (h1 : ∀ c, (seqIndex? i x.length).bind (x[·]?) = some c → ∀ k, Q (sv [c] k) { s with toks := s.toks + 1 })
    (h0 : (seqIndex? i x.length).bind (x[·]?) = none → (-(2 ^ 62) ≤ i ∧ i ≤ 2 ^ 62) ∧ ∀ h' tk e, Heap.NewExc s.heap h' e "IndexError" → E (.ref e) { s with heap := h', toks := tk }) :
    wpAny g.M A (subscriptTail value slice (sv x t) (.int i u)) Q E s := by
  have n : x.length ≤ 100000 := n
  cases q : (seqIndex? i x.length).bind (x[·]?) with
  | none =>
    obtain ⟨⟨b1, b2⟩, k⟩ := h0 q
    refine tail_any (typeIs_str _ _ _) PySem.F.slot_str_getitem.lookup (getItem_meets (typeIs_str s _ t) (by decide) PySem.F.slot_str_getitem PySem.F.entry_str_getitem (PySem.F.args_str_getitem_2 _ _)
      (raises_str_getitem _ i t u (by rw [decide_eq_false (by lia), decide_eq_false (by lia)]; rfl) (by simpa [Str.length] using q)) ⟨hh, k⟩) hs
  | some c =>
    obtain ⟨k, k1, k2⟩ := Option.bind_eq_some_iff.mp q
    obtain ⟨a, b, _⟩ := idx_in k1
    obtain ⟨T, id, e1, e2, e3⟩ := PySem.SB.item (prog := g.prog) (w := g.w) (A := A) (E := E) (s := s) (x := ⟨x.toArray⟩) (t := t) (u := u) (i := i) (Q := Q) (fits63 (by lia) (by lia)) (by rw [str_item q]; rfl)
      (by unfold Txt.item; rw [str_item q]; exact h1 c q _)
    exact tail_any e2 e1 e3 hs
end
end Mine
end

section
open PySem PySem.W PyProof.Rows
namespace Mine
section
variable {g : Gb} {A : Around} {Z : Addr → Prop} {s : Shared} {ω : Own}

theorem cut_vl {h : Heap} {ds : List D} {vs : List Value} (l : VL Z h ds vs) (lo hi : Option Int) : VL Z h (cutL lo hi ds) (cutL lo hi vs) := by
  unfold cutL
  rw [l.length]
  exact VL.take _ (VL.drop _ l)
theorem pick_cut (vs : List Value) (lo hi : Option Int) : slicePick vs.toArray lo hi none = (cutL lo hi vs).toArray := by
  rw [slicePick_plain, cutL]
  simp only [List.size_toArray]
theorem cut_list {value slice : PySem.Expr} {l sl : Addr} {vs : List Value} {ds : List D} {vl vu : Value} {lo hi : Option Int} {ops : List Value} (z : Zok Z s.heap) (p : PL s.heap l vs) (n : ds.length ≤ lim) (al : VL Z s.heap ds vs)
    (hsl : s.heap.IsSliceOf sl vl vu .none) (pl : IsPart vl lo) (pu : IsPart vu hi) (hs : subscripted slice false (.ref l) (.ref sl) = operate ops (getItem (.ref l) (.ref sl))) :
    Yd g A Z s (subscriptTail value slice (.ref l) (.ref sl)) (.lst (cutL lo hi ds)) := by
  refine .list z (cut_vl al lo hi) (Nat.le_trans (cutL_len _ _ _) n) fun Q E h => tail_any p.is.typeIs slot_list_getitem.lookup (wpAny_getItem_list_slice p.is hsl pl pu .none (by simp) ?_ ?_) hs
  · rw [pick_cut]; exact h
  · rw [List.size_toArray, al.length, sizeLine_eq]
    have n : ds.length ≤ 100000 := n
    lia
theorem rev_list {value slice : PySem.Expr} {l sl : Addr} {vs : List Value} {ds : List D} {t : Tok} {ops : List Value} (z : Zok Z s.heap) (p : PL s.heap l vs) (n : ds.length ≤ lim) (al : VL Z s.heap ds vs)
    (hsl : s.heap.IsSliceOf sl .none .none (.int (-1) t)) (hs : subscripted slice false (.ref l) (.ref sl) = operate ops (getItem (.ref l) (.ref sl))) :
    Yd g A Z s (subscriptTail value slice (.ref l) (.ref sl)) (.lst ds.reverse) := by
  refine .list z al.reverse (by rw [List.length_reverse]; exact n) fun Q E h => tail_any p.is.typeIs slot_list_getitem.lookup (wpAny_getItem_list_slice p.is hsl .none .none (.int (-1) t) (by simp) ?_ ?_) hs
  · rw [krv_pick]; exact h
  · rw [List.size_toArray, al.length, sizeLine_eq]
    have n : ds.length ≤ 100000 := n
    lia

theorem indices_cut (x : List Nat) (lo hi : Option Int) : (PySem.Builtin.Str.strSliceIndices lo hi 1 x.length).filterMap (x.toArray[·]?) = cutL lo hi x ∧ ((PySem.Builtin.Str.strSliceIndices lo hi 1 x.length).length = x.length → cutL lo hi x = x) := by
  have e : PySem.Builtin.Str.strSliceIndices lo hi 1 x.length = (List.range (hi.elim x.length (clipAt x.length) - lo.elim 0 (clipAt x.length))).map (lo.elim 0 (clipAt x.length) + ·) := by
    rw [← sliceRange_one]
    have := sliceBounds_plain lo hi x.length
    simp only [sliceBounds, Option.getD_none, Prod.mk.injEq] at this
    rw [← this.1, ← this.2.1]
    rfl
  have e2 : (PySem.Builtin.Str.strSliceIndices lo hi 1 x.length).filterMap (x.toArray[·]?) = cutL lo hi x := by
    rw [e, pick_run, cutL]
  refine ⟨e2, fun h => ?_⟩
  have hl : (PySem.Builtin.Str.strSliceIndices lo hi 1 x.length).length = hi.elim x.length (clipAt x.length) - lo.elim 0 (clipAt x.length) := by rw [e, List.length_map, List.length_range]
  have hh : hi.elim x.length (clipAt x.length) ≤ x.length := by
    cases hi with
    | none => exact Nat.le_refl _
    | some i =>
      have := clipAt_cast x.length i
      show clipAt x.length i ≤ x.length
      lia
  have h0 : x.length = 0 ∨ lo.elim 0 (clipAt x.length) = 0 := by lia
  unfold cutL
  rcases h0 with h0 | h0
  · rw [List.length_eq_zero_iff.mp h0]; simp
  · rw [h0] at hl ⊢
    rw [List.drop_zero, List.take_of_length_le (by lia)]
theorem part_tok {v : Value} {lo : Option Int} (p : IsPart v lo) : ∃ l : Option (Int × Tok), v = partValue l ∧ l.map (·.1) = lo := by
  cases p with
  | none => exact ⟨none, rfl, rfl⟩
  | int i t => exact ⟨some (i, t), rfl, rfl⟩
theorem cut_str {value slice : PySem.Expr} {sl : Addr} {x : List Nat} {t : Tok} {vl vu : Value} {lo hi : Option Int} {ops : List Value} (n : x.length ≤ lim)
    (hsl : s.heap.IsSliceOf sl vl vu .none) (pl : IsPart vl lo) (pu : IsPart vu hi) (hs : subscripted slice false (sv x t) (.ref sl) = operate ops (getItem (sv x t) (.ref sl))) :
    Yd g A Z s (subscriptTail value slice (sv x t) (.ref sl)) (.str (cutL lo hi x)) := by
  intro Q E h
  obtain ⟨l, rfl, rfl⟩ := part_tok pl
  obtain ⟨u, rfl, rfl⟩ := part_tok pu
  obtain ⟨e1, e2⟩ := indices_cut x (l.map (·.1)) (u.map (·.1))
  have n' := Nat.le_trans (cutL_len (l.map (·.1)) (u.map (·.1)) x) n
  refine tail_any (typeIs_str _ _ _) PySem.F.slot_str_getitem.lookup (wpAny_getItem_str_slice (l := l) (u := u) (st := none) hsl rfl ?_) hs
  have key : (if ((Option.map (fun x : Int × Tok => x.1) none).getD 1 == 1 && (slicePicked ⟨x.toArray⟩ l u none).length == (⟨x.toArray⟩ : Str).length) = true then (⟨x.toArray⟩ : Str)
      else ⟨((slicePicked ⟨x.toArray⟩ l u none).filterMap ((⟨x.toArray⟩ : Str).cps[·]?)).toArray⟩) = ⟨(cutL (l.map (·.1)) (u.map (·.1)) x).toArray⟩ := by
    by_cases q : ((Option.map (fun x : Int × Tok => x.1) none).getD 1 == 1 && (slicePicked ⟨x.toArray⟩ l u none).length == (⟨x.toArray⟩ : Str).length) = true
    · rw [if_pos q]
      rw [Bool.and_eq_true] at q
      rw [e2 (by simpa [Str.length, slicePicked] using q.2)]
    · rw [if_neg q]
      exact congrArg (fun y : List Nat => (⟨y.toArray⟩ : Str)) e1
  unfold sliceMade
  refine post_val_or_str ?_
  rw [key]
  refine ⟨?_, fun t' k => h _ _ ⟨t', rfl, n'⟩ (Ge.tok s k)⟩
  rw [sizeLine_eq]
  simp only [Str.length, List.size_toArray]
  exact Nat.le_trans n' (by decide)

/-- the bounds of a slice as they lie in the heap -/
theorem cut_ok {value slice : PySem.Expr} {sl : Addr} {a d : D} {va vl vu : Value} {lo hi : Option Int} {ops : List Value} (z : Zok Z s.heap) (x : Vr Z s.heap a va) (e : dCut a lo hi = some d)
    (hsl : s.heap.IsSliceOf sl vl vu .none) (pl : IsPart vl lo) (pu : IsPart vu hi) (hs : subscripted slice false va (.ref sl) = operate ops (getItem va (.ref sl))) :
    Yd g A Z s (subscriptTail value slice va (.ref sl)) d := by
  rcases or_of e with e | e
  · obtain ⟨xs, e1, rfl⟩ := Option.map_eq_some_iff.mp e
    cases lst_of e1
    obtain ⟨l, vs, rfl, _, n, p, al⟩ := x
    exact cut_list z p n al hsl pl pu hs
  · obtain ⟨xs, e1, rfl⟩ := Option.map_eq_some_iff.mp e
    cases str_of e1
    obtain ⟨t, rfl, n⟩ := x
    exact cut_str n hsl pl pu hs

theorem seq_at (W : OwnOk Z s.heap ω) {d : D} {ds : List D} {v : Value} (e : seqOf ω d = some ds) (x : Vr Z s.heap d v) : ∃ a vs, v = .ref a ∧ (PL s.heap a vs ∨ PT s.heap a vs) ∧ VL Z s.heap ds vs ∧ ds.length ≤ lim := by
  rcases or_of e with e | e
  · obtain ⟨a, vs, e1, p, l, n⟩ := lst_at W e x
    exact ⟨a, vs, e1, .inl p, l, n⟩
  · cases tup_of e
    obtain ⟨a, vs, e1, _, n, p, l⟩ := x
    exact ⟨a, vs, e1, .inr p, l, n⟩
theorem len_ok (W : OwnOk Z s.heap ω) {a : D} {va : Value} {n : Nat} (x : Vr Z s.heap a va) (e : dLen ω a = some n) : Yd g A Z s (call (.builtin "len") [va]) (.int n) := by
  rcases or_of e with e | e
  · obtain ⟨ds, e1, rfl⟩ := Option.map_eq_some_iff.mp e
    obtain ⟨l, vs, rfl, p, al, n⟩ := seq_at W e1 x
    have e2 := al.length
    have h63 := lim63 n
    intro Q E h
    rcases p with p | p
    · exact PyProof.Rows.len_list p.is (by rw [List.size_toArray, e2]; exact h63) (by rw [List.size_toArray, e2]; exact h _ _ ⟨_, rfl⟩ (Ge.tok s _))
    · exact len_tuple p.is (by rw [List.size_toArray, e2]; exact h63) (by rw [List.size_toArray, e2]; exact h _ _ ⟨_, rfl⟩ (Ge.tok s _))
  · obtain ⟨y, e1, rfl⟩ := Option.map_eq_some_iff.mp e
    cases str_of e1
    obtain ⟨t, rfl, n⟩ := x
    have h63 := lim63 n
    have hl : (⟨y.toArray⟩ : Str).length = y.length := by simp [Str.length]
    exact fun Q E h => len_str (by rw [hl]; lia) (by rw [hl]; exact h _ _ ⟨_, rfl⟩ (Ge.tok s _))
theorem min_ok (hh : A.handled = none) {a b : Int} {t u : Tok} : Yd g A Z s (call (.builtin "min") [.int a t, .int b u]) (.int (min a b)) := fun Q E h =>
  min_two_ints hh fun h' tk hk => by
    by_cases c : b < a
    · rw [if_pos c]; exact h _ _ ⟨_, by rw [show min a b = b by lia]⟩ ⟨hk, rfl, rfl⟩
    · rw [if_neg c]; exact h _ _ ⟨_, by rw [show min a b = a by lia]⟩ ⟨hk, rfl, rfl⟩
theorem max_ok (hh : A.handled = none) {a b : Int} {t u : Tok} : Yd g A Z s (call (.builtin "max") [.int a t, .int b u]) (.int (max a b)) := fun Q E h =>
  max_two_ints hh fun h' tk hk => by
    by_cases c : b > a
    · rw [if_pos c]; exact h _ _ ⟨_, by rw [show max a b = b by lia]⟩ ⟨hk, rfl, rfl⟩
    · rw [if_neg c]; exact h _ _ ⟨_, by rw [show max a b = a by lia]⟩ ⟨hk, rfl, rfl⟩

/-- is it true? -/
noncomputable def dTru (ω : Own) : D → Option Bool
  | .bool b => some b
  | .int i => some (i != 0)
  | .none => some false
  | .str x => some (!x.isEmpty)
  | d => (lstOf ω d).map fun xs => !xs.isEmpty
theorem tru_ok (W : OwnOk Z s.heap ω) {a : D} {va : Value} {c : Bool} (x : Vr Z s.heap a va) (e : dTru ω a = some c) (Q : Bool → Shared → Prop) (E) (h : ∀ s', Ge s s' → Q c s') : wpAny g.M A (truthy va) Q E s := by
  have lst : (lstOf ω a).map (fun xs => !xs.isEmpty) = some c → wpAny g.M A (truthy va) Q E s := fun e => by
    obtain ⟨ds, e1, rfl⟩ := Option.map_eq_some_iff.mp e
    obtain ⟨l, vs, rfl, p, al, n⟩ := lst_at W e1 x
    have h63 := lim63 n
    have e2 : vs.toArray.isEmpty = ds.isEmpty := by
      have := al.length
      cases vs <;> cases ds <;> first | rfl | exact nomatch this
    exact wpAny_truthy_list p.is (by rw [List.size_toArray, al.length]; exact h63) (by rw [e2]; exact h _ (Ge.tok s _))
  cases a with
  | bool b => cases e; cases x; exact wpAny_truthy_bool (h _ (Ge.refl s))
  | int i => cases e; obtain ⟨t, rfl⟩ := x; exact PySem.P.truthy_int (h _ (Ge.refl s))
  | none => cases e; cases x; exact truthy_none (h _ (Ge.refl s))
  | str y =>
    cases e; obtain ⟨t, rfl, n⟩ := x
    have h63 := lim63 n
    have hl : (⟨y.toArray⟩ : Str).length = y.length := by simp [Str.length]
    have e3 : (((⟨y.toArray⟩ : Str).length : Int) != 0) = !y.isEmpty := by
      rw [hl]
      cases y with
      | nil => rfl
      | cons _ _ => exact bne_iff_ne.mpr (by simp; lia)
    exact PySem.P.truthy_str (by rw [hl]; lia) (by rw [e3]; exact h _ (Ge.tok s _))
  | tup _ => exact lst e
  | lst _ => exact lst e
  | box _ => exact lst e
  | own _ => exact lst e
  | meth _ => exact lst e
end
end Mine
end

section
open PySem PySem.W PyProof.Rows
set_option genSizeOf false
set_option genInjectivity false
namespace Mine

/-- what may change under one's feet: the table, the frames -/
noncomputable def vol (g : Gb) (l : List Env) (b : Addr) : Prop := b = g.P ∨ ∃ e ∈ l, e.frame = some b

/-- a frame -/
structure Fx where
  g : Gb
  env : Env
  A : Around
  s₀ : Shared
  stack : List Env
  lv : Nat
  Zc : Addr → Prop
  names : List (Str × NameKind)
  prot : List (Addr × Obj)
  gh : List (D × Value)

structure Ms where
  loc : List (Option D)
  own : Own

noncomputable def Fx.Z (F : Fx) (ω : Own) (b : Addr) : Prop := (F.Zc b ∨ vol F.g F.stack b) ∨ b = F.env.locals ∨ (∃ x, (x, b) ∈ F.env.cells) ∨ ∃ ds, ω.find b = some ds
noncomputable abbrev Fx.Gw (F : Fx) (s s' : Shared) : Prop := Mine.Gw F.g (vol F.g F.stack) s s'

noncomputable def fnNames : List Str := ["_strip_padding", "escape", "_translate", "_join_translated_parts", "_law_numbers", "_law_drawn", "_law_row", "_law_ahead", "_law_between", "_law_means", "_law_item", "_law_read", "_law_fits", "_law_takes", "_law_pattern", "_law_strip", "_law_left", "_law_amount"]
noncomputable def freeNames : List Str := ["len", "min", "max", "range", "isinstance", "str", "IndexError"]
/-- what stood when the law was called -/
structure Gl (g : Gb) : Prop where
  ns : g.hB.Ns mainGlobals g.mg
  nb : ∃ mb, g.hB.Ns builtinsNs mb ∧ ∀ x : Str, x ≠ "__name__" → mb x = bootBuiltins x
  lim : g.hB.NoLimit
  p1 : mainGlobals ≠ g.P
  p2 : builtinsNs ≠ g.P
  p3 : cStatics ≠ g.P
  free : ∀ x ∈ freeNames, g.mg x = none
  fns : ∀ f ∈ fnNames, ∃ a o fd, g.mg f = some (.ref a) ∧ g.hB.get? a = some o ∧ o.data = .func fd ∧ a ≠ g.P

structure Fok (F : Fx) : Prop where
  kind : F.env.scope.kind = .function
  glob : F.env.globals = mainGlobals
  blt : F.env.builtins = builtinsNs
  hh : F.A.handled = none
  dp : F.A.depth + 40 * F.lv + 40 ≤ 900
  un : F.A.units + 400 * F.lv + 400 ≤ 9000
  fr : F.A.frames = some F.stack
  lP : F.env.locals ≠ F.g.P
  lnew : F.s₀.heap.get? F.env.locals = none
  nms : F.env.scope.names = F.names
  bs0 : ∀ b o, b ≠ F.g.P → F.g.hB.get? b = some o → F.s₀.heap.get? b = some o
  gl : Gl F.g

noncomputable def nmGo : List (Str × NameKind) → Str → Nat → Option (Nat × NameKind)
  | [], _, _ => none
  | p :: r, x, n => bif p.1 == x then some (n, p.2) else nmGo r x (n + 1)
noncomputable abbrev Fx.nm (F : Fx) (x : Str) : Option (Nat × NameKind) := nmGo F.names x 0

theorem nmGo_kind {l : List (Str × NameKind)} {x : Str} : ∀ {n k : Nat} {d : NameKind}, nmGo l x n = some (k, d) → l.lookup x = some d := by
  induction l with
  | nil => intro n k d h; exact no h
  | cons p r ih =>
    intro n k d h
    rw [nmGo] at h
    cases q : p.1 == x with
    | true => rw [q] at h; cases h; rw [List.lookup_cons, show (x == p.1) = true by rw [eq_of_beq q]; exact beq_self_eq_true x]
    | false =>
      rw [q] at h
      have q2 : (x == p.1) = false := by
        cases q3 : x == p.1 with
        | false => rfl
        | true => rw [eq_of_beq q3, beq_self_eq_true] at q; exact nomatch q
      rw [List.lookup_cons, q2]
      exact ih h
theorem nmGo_ge {l : List (Str × NameKind)} {x : Str} : ∀ {n k : Nat} {d : NameKind}, nmGo l x n = some (k, d) → n ≤ k := by
  induction l with
  | nil => intro n k d h; exact no h
  | cons p r ih =>
    intro n k d h
    rw [nmGo] at h
    cases q : p.1 == x with
    | true => rw [q] at h; cases h; exact Nat.le_refl _
    | false => rw [q] at h; exact Nat.le_of_succ_le (ih h)
theorem nmGo_inj {l : List (Str × NameKind)} {x y : Str} : ∀ {n k : Nat} {d d' : NameKind}, nmGo l x n = some (k, d) → nmGo l y n = some (k, d') → x = y := by
  induction l with
  | nil => intro n k d d' h; exact no h
  | cons p r ih =>
    intro n k d d' h h'
    rw [nmGo] at h h'
    cases q : p.1 == x with
    | true =>
      rw [q] at h; cases h
      cases q' : p.1 == y with
      | true => rw [← eq_of_beq q, eq_of_beq q']
      | false => rw [q'] at h'; exact absurd (nmGo_ge h') (Nat.not_succ_le_self _)
    | false =>
      rw [q] at h
      cases q' : p.1 == y with
      | true => rw [q'] at h'; cases h'; exact absurd (nmGo_ge h) (Nat.not_succ_le_self _)
      | false => rw [q'] at h'; exact ih h h'

/-- the name stands for the value -/
noncomputable def Lk (env : Env) (h : Heap) (m : Str → Option Value) (x : Str) (v : Value) : NameKind → Prop
  | .local => m x = some v
  | .cell => ∃ c, env.cells.lookup x = some c ∧ h.IsCell c (some v)
  | _ => False

/-- a frame of the stack stands -/
noncomputable def FrOk (g : Gb) (h : Heap) (e : Env) : Prop := e.scope.kind ≠ .module ∧ ∃ L o, e.frame = some L ∧ L ≠ g.P ∧ h.get? L = some o ∧ ∀ vs, o.data ≠ .fields vs
theorem FrOk.gw {g : Gb} {V : Addr → Prop} {s s' : Shared} {e : Env} (x : Gw g V s s') : FrOk g s.heap e → FrOk g s'.heap e
  | ⟨k, L, o, f, p, h, n⟩ => let ⟨_, h'⟩ := x.fr _ _ p h; ⟨k, L, _, f, p, h', n⟩

structure St (F : Fx) (σ : Ms) (s : Shared) : Prop where
  ok : Fok F
  gw : F.Gw F.s₀ s
  base : ∀ b o, b ≠ F.g.P → F.g.hB.get? b = some o → s.heap.get? b = some o
  tab : TabOk F.g s.heap
  bare : AllBare s.gens
  os : s.os = F.g.os
  ns : ∃ m, s.heap.Ns F.env.locals m ∧ ∀ x k kd d, F.nm x = some (k, kd) → σ.loc[k]? = some (some d) → ∃ v, Lk F.env s.heap m x v kd ∧ Vr (F.Z σ.own) s.heap d v
  cells : ∀ x c, F.env.cells.lookup x = some c → c ≠ F.g.P ∧ c ≠ F.env.locals ∧ ∃ v, s.heap.IsCell c v
  own : OwnOk (F.Z σ.own) s.heap σ.own
  ownv : ∀ a ds, σ.own.find a = some ds → ¬ (F.Zc a ∨ vol F.g F.stack a) ∧ a ≠ F.env.locals ∧ F.s₀.heap.get? a = none ∧ ∀ x, (x, a) ∉ F.env.cells
  zok : Zok (F.Z σ.own) s.heap
  base0 : ∀ b, vol F.g F.stack b → b = F.g.P ∨ F.g.hB.get? b = none
  frs : ∀ e ∈ F.stack, FrOk F.g s.heap e
  prot : ∀ p ∈ F.prot, s.heap.get? p.1 = some p.2 ∧ ¬ F.Z σ.own p.1
  gh : ∀ p ∈ F.gh, Vr (F.Z σ.own) s.heap p.1 p.2

theorem St.kindOf {F : Fx} {σ : Ms} {s : Shared} (S : St F σ s) {x : Str} {k : Nat} {d : NameKind} (h : F.nm x = some (k, d)) : F.env.kindOf x = some d := by
  have := nmGo_kind h
  rw [← S.ok.nms] at this
  exact this
theorem Fx.volZ (F : Fx) (ω : Own) : ∀ b, vol F.g F.stack b → F.Z ω b := fun _ h => .inl (.inr h)

theorem PL.gw {g : Gb} {V : Addr → Prop} {s s' : Shared} {a : Addr} {vs : List Value} (x : Gw g V s s') (v : ¬ V a) : PL s.heap a vs → PL s'.heap a vs
  | ⟨n, e⟩ => ⟨n, x.kp _ _ v e⟩
theorem Ns.gw {g : Gb} {V : Addr → Prop} {s s' : Shared} {a : Addr} {m} (x : Gw g V s s') (v : a ≠ g.P) (n : s.heap.Ns a m) : s'.heap.Ns a m := by
  obtain ⟨o, es, ep, ho, r⟩ := n
  obtain ⟨sl, h⟩ := x.fr _ _ v ho
  exact ⟨_, es, ep, h, r⟩
theorem IsCell.gw {g : Gb} {V : Addr → Prop} {s s' : Shared} {a : Addr} {m} (x : Gw g V s s') (v : a ≠ g.P) (n : s.heap.IsCell a m) : s'.heap.IsCell a m := by
  obtain ⟨o, ho, r⟩ := n
  obtain ⟨sl, h⟩ := x.fr _ _ v ho
  exact ⟨_, h, r⟩

/-- the state stands after a step that keeps what it must -/
theorem St.step {F : Fx} {σ : Ms} {s s' : Shared} (S : St F σ s) (x : F.Gw s s') : St F σ s' where
  ok := S.ok
  gw := S.gw.trans x
  base := fun b o n e => by
    by_cases v : vol F.g F.stack b
    · rcases S.base0 b v with q | q
      · exact absurd q n
      · rw [q] at e; exact no e
    · exact x.kp b o v (S.base b o n e)
  tab := x.tab S.tab
  bare := x.gens S.bare
  os := x.os.trans S.os
  ns := by
    obtain ⟨m, n, f⟩ := S.ns
    refine ⟨m, Ns.gw x S.ok.lP n, fun y k kd d h1 h2 => ?_⟩
    obtain ⟨v, l, r⟩ := f y k kd d h1 h2
    refine ⟨v, ?_, x.vr (F.volZ _) r⟩
    cases kd with
    | «local» => exact l
    | cell =>
      obtain ⟨c, h3, h4⟩ := l
      exact ⟨c, h3, IsCell.gw x (S.cells y c h3).1 h4⟩
    | _ => exact l.elim
  cells := fun y c h => by
    obtain ⟨h1, h2, v, h3⟩ := S.cells y c h
    exact ⟨h1, h2, v, IsCell.gw x h1 h3⟩
  own := fun a ds e => by
    obtain ⟨z, vs, p, l, n⟩ := S.own a ds e
    exact ⟨z, vs, p.gw x (fun v => (S.ownv a ds e).1 (.inr v)), x.vl (F.volZ _) l, n⟩
  ownv := S.ownv
  zok := fun b z => by
    obtain ⟨o, e⟩ := S.zok b z
    by_cases q : b = F.g.P
    · obtain ⟨ps, t, _⟩ := x.tab S.tab
      exact ⟨_, q ▸ t⟩
    · obtain ⟨sl, h⟩ := x.fr b o q e
      exact ⟨_, h⟩
  base0 := S.base0
  frs := fun e m => (S.frs e m).gw x
  prot := fun p m => ⟨x.kp _ _ (fun v => (S.prot p m).2 (F.volZ _ _ v)) (S.prot p m).1, (S.prot p m).2⟩
  gh := fun p m => x.vr (F.volZ _) (S.gh p m)
end Mine
end

section
open PySem PySem.W PyProof.Rows
set_option genSizeOf false
set_option genInjectivity false
namespace Mine
noncomputable abbrev PExpr := PySem.Expr

/-- an IndexError, where it may be raised -/
noncomputable def XE (F : Fx) (X : Prop) (σ : Ms) (E : Value → Shared → Prop) : Prop :=
  X → ∀ s' h' tk x, St F σ s' → Heap.NewExc s'.heap h' x "IndexError" → E (.ref x) { s' with heap := h', toks := tk }

/-- the expression yields what K says -/
noncomputable def Je (F : Fx) (X : Prop) (σ : Ms) (e : PExpr) (K : D → Prop) : Prop := ∀ s (Q E : Value → Shared → Prop), St F σ s →
  (∀ d v s', K d → Vr (F.Z σ.own) s'.heap d v → F.Gw s s' → Q v s') → XE F X σ E → wpAny F.g.M F.A (eval e F.env) Q E s
/-- the test answers what K says -/
noncomputable def Jt (F : Fx) (X : Prop) (σ : Ms) (e : PExpr) (K : Bool → Prop) : Prop := ∀ s (Q : Bool → Shared → Prop) (E : Value → Shared → Prop), St F σ s →
  (∀ b s', K b → F.Gw s s' → Q b s') → XE F X σ E → wpAny F.g.M F.A (PySem.isTrue e F.env (eval e F.env)) Q E s
/-- the arguments -/
noncomputable def Ja (F : Fx) (X : Prop) (σ : Ms) (es : List PExpr) (K : List D → Prop) : Prop := ∀ pos s (Q : List Value → Shared → Prop) (E : Value → Shared → Prop), St F σ s →
  (∀ ds vs s', K ds → VL (F.Z σ.own) s'.heap ds vs → F.Gw s s' → Q vs s') → XE F X σ E → wpAny F.g.M F.A (spliced (backTo pos (starEach es F.env))) Q E s

theorem Ge.fx {F : Fx} {s s' : Shared} (x : Ge s s') : F.Gw s s' := x.gw
theorem Fx.grefl {F : Fx} (s : Shared) : F.Gw s s := Gw.refl s

section
variable {F : Fx} {X : Prop} {σ : Ms}

theorem Vr.step {ω : Own} {s s' : Shared} {d : D} {v : Value} (x : F.Gw s s') (e : Vr (F.Z ω) s.heap d v) : Vr (F.Z ω) s'.heap d v := Gw.vr x (F.volZ _) e
theorem VL.step {ω : Own} {s s' : Shared} {d : List D} {v : List Value} (x : F.Gw s s') (e : VL (F.Z ω) s.heap d v) : VL (F.Z ω) s'.heap d v := Gw.vl x (F.volZ _) e

theorem St.load {s : Shared} (S : St F σ s) {x : Str} {k : Nat} {kd : NameKind} {d : D} (h : F.nm x = some (k, kd)) (hd : σ.loc[k]? = some (some d)) :
    ∃ v, Vr (F.Z σ.own) s.heap d v ∧ ∀ (Q E : Value → Shared → Prop), Q v s → wpAny F.g.M F.A (loadName F.env x) Q E s := by
  obtain ⟨m, n, f⟩ := S.ns
  obtain ⟨v, l, r⟩ := f x k kd d h hd
  refine ⟨v, r, fun Q E q => ?_⟩
  have hk : F.env.kindOf x = some kd := S.kindOf h
  cases kd with
  | «local» => exact wpAny_loadName_local S.ok.kind hk n l q
  | cell =>
    obtain ⟨c, h1, h2⟩ := l
    exact wpAny_loadName_cell S.ok.kind hk h1 h2 q
  | _ => exact l.elim

theorem Je.mono {e : PExpr} {K K' : D → Prop} (h : Je F X σ e K) (k : ∀ d, K d → K' d) : Je F X σ e K' := fun s Q E S q x => h s Q E S (fun d v s' kd => q d v s' (k d kd)) x
theorem Je.weak {e : PExpr} {K : D → Prop} (h : Je F False σ e K) : Je F X σ e K := fun s Q E S q _ => h s Q E S q (fun f => f.elim)

/-- a step on what is in hand -/
theorem Je.of {e : PExpr} {K : D → Prop} {d : D} (k : K d) (h : ∀ s (Q E : Value → Shared → Prop), St F σ s → (∀ v s', Vr (F.Z σ.own) s'.heap d v → F.Gw s s' → Q v s') → wpAny F.g.M F.A (eval e F.env) Q E s) : Je F X σ e K :=
  fun s Q E S q _ => h s Q E S fun v s' r g => q d v s' k r g

theorem Je.name {x : Str} {pos : Pos} {k : Nat} {kd : NameKind} {d : D} {K : D → Prop} (h : F.nm x = some (k, kd)) (hd : σ.loc[k]? = some (some d)) (q : K d) (hb : (x == ("__debug__" : Str)) = false := by rfl) :
    Je F X σ (.Name x pos) K := .of q fun s Q E S q => by
  obtain ⟨v, r, w⟩ := S.load h hd
  exact wpAny_Name (w Q E (q v s r (F.grefl s))) hb
theorem Je.int {i : Int} {k : Nat} {pos : Pos} {K : D → Prop} (q : K (.int i)) : Je F X σ (.Constant (.int i) k pos) K :=
  .of q fun s Q E _ q => wpAny_Constant_int (q _ _ ⟨_, rfl⟩ (Ge.tok s _).fx)
theorem Je.str {x : Str} {l : List Nat} {k : Nat} {pos : Pos} {K : D → Prop} (hx : x = ⟨l.toArray⟩) (q : K (.str l)) (hl : l.length ≤ lim := by decide) : Je F X σ (.Constant (.str x) k pos) K :=
  .of q fun s Q E _ q => wpAny_Constant_str (q _ _ ⟨_, by rw [hx], hl⟩ (Ge.tok s _).fx)
theorem Je.none {k : Nat} {pos : Pos} {K : D → Prop} (q : K .none) : Je F X σ (.Constant .none k pos) K := .of q fun s Q E _ q => wpAny_Constant_none (q _ _ rfl (F.grefl s))
theorem Je.bool {b : Bool} {k : Nat} {pos : Pos} {K : D → Prop} (q : K (.bool b)) : Je F X σ (.Constant (.bool b) k pos) K := .of q fun s Q E _ q => wpAny_Constant_bool (q _ _ rfl (F.grefl s))

/-- two in a row -/
theorem Je.two {a b : PExpr} {Ka : D → Prop} {R : Value → Value → Sem Value} {s : Shared} {Q E : Value → Shared → Prop} (S : St F σ s) (x : XE F X σ E) (ha : Je F X σ a Ka)
    (h : ∀ d va s₁, Ka d → Vr (F.Z σ.own) s₁.heap d va → F.Gw s s₁ → St F σ s₁ → wpAny F.g.M F.A (eval b F.env) (fun vb s₂ => wpAny F.g.M F.A (R va vb) Q E s₂) E s₁) :
    wpAny F.g.M F.A (eval a F.env) (fun va s₁ => wpAny F.g.M F.A (eval b F.env) (fun vb s₂ => wpAny F.g.M F.A (R va vb) Q E s₂) E s₁) E s :=
  ha s _ E S (fun d va s₁ k r g => h d va s₁ k r g (S.step g)) x

noncomputable def dBin : Operator → D → D → Option (Prop × D)
  | .Add => dAdd
  | .Sub => dInt iSub
  | .Mult => dMul
  | .Mod => dInt iMod
  | .FloorDiv => dInt iDiv
  | .Pow => dInt iPow
  | _ => fun _ _ => .none
theorem bin_ok {g : Gb} {A : Around} {Z : Addr → Prop} {s : Shared} {op : Operator} (z : Zok Z s.heap) {a b d : D} {p : Prop} {va vb : Value} (x : Vr Z s.heap a va) (y : Vr Z s.heap b vb) (e : dBin op a b = some (p, d)) (k : p) :
    Yd g A Z s (binaryOp op va vb) d := by
  cases op with
  | Add => exact add_ok z x y e k
  | Sub => exact sub_ok x y e k
  | Mult => exact mul_ok z x y e k
  | Mod => exact mod_ok x y e k
  | FloorDiv => exact div_ok x y e k
  | Pow => exact pow_ok x y e k
  | _ => exact no e

theorem Je.bin {a b : PExpr} {op : Operator} {pos : Pos} {K : D → Prop} (h : Je F X σ a fun x => Je F X σ b fun y => Hp (dBin op x y) K) : Je F X σ (.BinOp a op b pos) K := fun s Q E S q x =>
  wpAny_BinOp (Je.two S x h fun d va s₁ hb r _ S₁ => hb s₁ _ E S₁ (fun d' vb s₂ k r' g' => by
    rename_i g
    obtain ⟨p, c, e1, hp, hc⟩ := Hp.of k
    exact bin_ok (S₁.step g').zok (r.step g') r' e1 hp Q E fun v s₃ r₃ g₃ => q _ v s₃ hc r₃ ((g.trans g').trans g₃.fx)) x)

theorem St.un {s : Shared} (S : St F σ s) : F.A.units + 70 < cLine := by
  have := S.ok.un
  show _ < 9900
  lia
end
end Mine
end

section
open PySem PySem.W PyProof.Rows
set_option genSizeOf false
set_option genInjectivity false
namespace Mine
section
variable {F : Fx} {X : Prop} {σ : Ms}

theorem Yb.run {s : Shared} {t : Sem Value} {c : Bool} (h : Yb F.g F.A s t c) (Q E : Value → Shared → Prop) (q : Q (.bool c) s) : wpAny F.g.M F.A t Q E s := h Q E q

theorem Je.cmp {a b : PExpr} {op : CmpOp} {pos : Pos} {K : D → Prop} (h : Je F X σ a fun x => Je F X σ b fun y => ∃ c, cop op x y = some c ∧ K (.bool c))
    (hm : behindInMarks op b = false := by with_unfolding_all rfl) : Je F X σ (.Compare a [op] [b] pos) K := fun s Q E S q x =>
  wpAny_Compare1 (Je.two S x h fun d va s₁ hb r g S₁ => hb s₁ _ E S₁ (fun d' vb s₂ k r' g' => by
    obtain ⟨c, e, kc⟩ := k
    exact cop_ok (S₁.step g').un (r.step g') r' e Q E (q _ _ s₂ kc rfl (g.trans g'))) x) hm
theorem Jt.cmp {a b : PExpr} {op : CmpOp} {pos : Pos} {K : Bool → Prop} (h : Je F X σ a fun x => Je F X σ b fun y => ∃ c, cop op x y = some c ∧ K c)
    (hm : behindInMarks op b = false := by with_unfolding_all rfl) : Jt F X σ (.Compare a [op] [b] pos) K := fun s Q E S q x =>
  wpAny_isTrue_Compare1 (Je.two (R := fun va vb => compareOp op va vb) (Q := fun c s₃ => wpAny F.g.M F.A (truthy c) Q E s₃) S x h fun d va s₁ hb r g S₁ => hb s₁ _ E S₁ (fun d' vb s₂ k r' g' => by
    obtain ⟨c, e, kc⟩ := k
    exact cop_ok (S₁.step g').un (r.step g') r' e _ E (wpAny_truthy_bool (q _ s₂ kc (g.trans g')))) x) hm
/-- a op b op' c, a test -/
theorem Jt.chain {a b c : PExpr} {op op' : CmpOp} {pos : Pos} {K : Bool → Prop}
    (h : Je F X σ a fun x => Je F X σ b fun y => ∃ t, cop op x y = some t ∧ (t = false → K false) ∧ (t = true → Je F X σ c fun z => ∃ t', cop op' y z = some t' ∧ K t'))
    (hm : lastMarks [op, op'] [b, c] = false := by with_unfolding_all rfl) : Jt F X σ (.Compare a [op, op'] [b, c] pos) K := fun s Q E S q x => by
  refine isTrue_chain (h s _ E S (fun d va s₁ hb r g => ?_) x) hm
  have S₁ := S.step g
  refine test_link (hb s₁ _ E S₁ (fun d' vb s₂ k r' g' => ?_) x)
  obtain ⟨t, e, k1, k2⟩ := k
  have S₂ := S₁.step g'
  refine cop_ok S₂.un (r.step g') r' e _ E (wpAny_truthy_bool ?_)
  cases t with
  | false => exact q _ s₂ (k1 rfl) (g.trans g')
  | true =>
    refine test_last (k2 rfl s₂ _ E S₂ (fun d'' vc s₃ k3 r'' g'' => ?_) x)
    obtain ⟨t', e', k4⟩ := k3
    have S₃ := S₂.step g''
    exact cop_ok S₃.un (r'.step g'') r'' e' _ E (wpAny_truthy_bool (q _ s₃ k4 ((g.trans g').trans g'')))
theorem Jt.not {e : PExpr} {pos : Pos} {K : Bool → Prop} (h : Jt F X σ e fun b => K (!b)) : Jt F X σ (.UnaryOp .Not e pos) K := fun s Q E S q x =>
  PyProof.Rows.isTrue_not (h s _ E S (fun b s' k g => q _ s' k g) x)
theorem Jt.and_nil {pos : Pos} {K : Bool → Prop} (h : K true) : Jt F X σ (.BoolOp .And [] pos) K := fun s Q E S q x => isTrue_and_nil (q _ s h (F.grefl s))
theorem Jt.or_nil {pos : Pos} {K : Bool → Prop} (h : K false) : Jt F X σ (.BoolOp .Or [] pos) K := fun s Q E S q x => isTrue_or_nil (q _ s h (F.grefl s))
theorem Jt.and {e : PExpr} {r : List PExpr} {pos : Pos} {K : Bool → Prop} (h : Jt F X σ e fun b => (b = false → K false) ∧ (b = true → Jt F X σ (.BoolOp .And r pos) K)) : Jt F X σ (.BoolOp .And (e :: r) pos) K := fun s Q E S q x =>
  isTrue_and (h s _ E S (fun b s₁ k g => by
    cases b with
    | false => exact q _ s₁ (k.1 rfl) g
    | true => exact k.2 rfl s₁ Q E (S.step g) (fun b' s₂ k' g' => q b' s₂ k' (g.trans g')) x) x)
theorem Jt.or {e : PExpr} {r : List PExpr} {pos : Pos} {K : Bool → Prop} (h : Jt F X σ e fun b => (b = true → K true) ∧ (b = false → Jt F X σ (.BoolOp .Or r pos) K)) : Jt F X σ (.BoolOp .Or (e :: r) pos) K := fun s Q E S q x =>
  isTrue_or (h s _ E S (fun b s₁ k g => by
    cases b with
    | true => exact q _ s₁ (k.1 rfl) g
    | false => exact k.2 rfl s₁ Q E (S.step g) (fun b' s₂ k' g' => q b' s₂ k' (g.trans g')) x) x)
theorem Jt.val {e : PExpr} {K : Bool → Prop} (h : Je F X σ e fun d => ∃ c, dTru σ.own d = some c ∧ K c)
    (he : ∀ (env : Env) whole, PySem.isTrue e env whole = (do let v ← whole; standAt e.pos; holding [v] (truthy v)) := by intro _ _; rfl) : Jt F X σ e K := fun s Q E S q x =>
  isTrue_plain (h s _ E S (fun d v s₁ k r g => by
    obtain ⟨c, e, kc⟩ := k
    exact tru_ok (S.step g).own r e Q E fun s₂ g₂ => q c s₂ kc (g.trans g₂.fx)) x) (he _ _)
theorem Je.ifexp {t a b : PExpr} {pos : Pos} {K : D → Prop} (h : Jt F X σ t fun c => (c = true → Je F X σ a K) ∧ (c = false → Je F X σ b K)) : Je F X σ (.IfExp t a b pos) K := fun s Q E S q x =>
  IfExp_ (h s _ E S (fun c s₁ k g => by
    cases c with
    | true => exact k.1 rfl s₁ Q E (S.step g) (fun d v s₂ k' r g' => q d v s₂ k' r (g.trans g')) x
    | false => exact k.2 rfl s₁ Q E (S.step g) (fun d v s₂ k' r g' => q d v s₂ k' r (g.trans g')) x) x)
/-- and, or as values: bools alone -/
theorem Je.one {op : BoolOp} {e : PExpr} {pos : Pos} {K : D → Prop} (h : Je F X σ e K) : Je F X σ (.BoolOp op [e] pos) K := fun s Q E S q x => BoolOp_one (h s Q E S q x)
theorem Je.and {e e' : PExpr} {r : List PExpr} {pos : Pos} {K : D → Prop} (h : Je F X σ e fun d => ∃ b, d = .bool b ∧ (b = false → K (.bool false)) ∧ (b = true → Je F X σ (.BoolOp .And (e' :: r) pos) K)) :
    Je F X σ (.BoolOp .And (e :: e' :: r) pos) K := fun s Q E S q x =>
  BoolOp_and (h s _ E S (fun d v s₁ k rr g => by
    obtain ⟨b, rfl, k1, k2⟩ := k
    cases rr
    refine wpAny_truthy_bool ?_
    cases b with
    | false => exact q _ _ s₁ (k1 rfl) rfl g
    | true => exact k2 rfl s₁ Q E (S.step g) (fun d v s₂ k' r g' => q d v s₂ k' r (g.trans g')) x) x)
theorem Je.neg {i : Int} {k : Nat} {p pos : Pos} {K : D → Prop} (q : K (.int (-i))) : Je F X σ (.UnaryOp .USub (.Constant (.int i) k p) pos) K :=
  .of q fun s Q E _ q => UnaryOp_ (wpAny_Constant_int (PyProof.Rows.neg_int (q _ _ ⟨_, rfl⟩ (Ge.tok s _).fx)))
theorem Je.not {e : PExpr} {pos : Pos} {K : D → Prop} (h : Je F X σ e fun d => ∃ c, dTru σ.own d = some c ∧ K (.bool (!c))) : Je F X σ (.UnaryOp .Not e pos) K := fun s Q E S q x =>
  UnaryOp_ (h s _ E S (fun d v s₁ k r g => by
    obtain ⟨c, e, kc⟩ := k
    exact not_of (tru_ok (S.step g).own r e _ E fun s₂ g₂ => q _ _ s₂ kc rfl (g.trans g₂.fx))) x)

/-- an item -/
noncomputable def Ix (X : Prop) (ω : Own) (a b : D) (K : D → Prop) : Prop := ∃ r, dIdx ω a b = some r ∧ (∀ d, r = some d → K d) ∧ (r = none → X ∧ (∃ i : Int, b = .int i ∧ -(2 ^ 62) ≤ i ∧ i ≤ 2 ^ 62) ∧ ∀ ds, a ≠ .tup ds)
theorem Je.idx {a b : PExpr} {pos : Pos} {K : D → Prop} (h : Je F X σ a fun x => Je F X σ b fun y => Ix X σ.own x y K)
    (hs : ∀ v i u, subscripted b false v (.int i u) = operate [v, .int i u] (getItem v (.int i u)) := by intro _ _ _; with_unfolding_all rfl) : Je F X σ (.Subscript a b pos) K := fun s Q E S q x =>
  Subscript_ (Je.two S x h fun d va s₁ hb r g S₁ => hb s₁ _ E S₁ (fun d' vb s₂ k r' g' => by
    obtain ⟨o, e, k1, k2⟩ := k
    have S₂ := S₁.step g'
    have r := r.step g'
    rcases or_of e with e | e
    · obtain ⟨xs, i, p1, p2, e⟩ := two_of e
      have e := Option.some.inj e
      subst e
      cases int_of p2
      obtain ⟨u, rfl⟩ := r'
      rcases or_of p1 with p1 | p1
      · obtain ⟨l, vs, rfl, p, al, n⟩ := lst_at S₂.own p1 r
        have hl := al.length
        refine idx_list S₂.ok.hh p (by rw [hl]; exact n) (hs _ _ _) (fun k v h1 h2 => ?_) (fun h0 => ?_)
        · rw [hl] at h1
          have h3 := (List.getElem?_eq_some_iff.mp h2).1
          obtain ⟨v', h4, h5⟩ := al.get (List.getElem?_eq_getElem (hl ▸ h3))
          rw [h2] at h4; cases h4
          exact q _ v s₂ (k1 _ (by rw [h1]; exact List.getElem?_eq_getElem (hl ▸ h3))) h5 (g.trans g')
        · rw [hl] at h0
          obtain ⟨kx, ⟨j, ej, b1, b2⟩, _⟩ := k2 (by rw [h0]; rfl)
          cases ej
          exact ⟨⟨b1, b2⟩, fun h' tk e z => x kx s₂ h' tk e S₂ z⟩
      · cases tup_of p1
        obtain ⟨l, vs, rfl, _, n, p, al⟩ := r
        have hl := al.length
        cases c : seqIndex? i xs.length with
        | none => exact absurd rfl ((k2 (by rw [c]; rfl)).2.2 xs)
        | some k =>
          have h3 : k < xs.length := by obtain ⟨_, _, h⟩ := idx_in c; by_cases z : i < 0 <;> simp only [z, if_true, if_false] at h <;> lia
          obtain ⟨v', h4, h5⟩ := al.get (List.getElem?_eq_getElem h3)
          exact idx_tup p (by rw [hl]; exact n) (hs _ _ _) (by rw [hl]; exact c) h4 (q _ v' s₂ (k1 _ (by rw [c]; exact List.getElem?_eq_getElem h3)) h5 (g.trans g'))
    · obtain ⟨y, i, p1, p2, e⟩ := two_of e
      have e := Option.some.inj e
      subst e
      cases int_of p2
      obtain ⟨u, rfl⟩ := r'
      cases str_of p1
      obtain ⟨t, rfl, n⟩ := r
      refine idx_str S₂.ok.hh n (hs _ _ _) (fun c h1 k => ?_) (fun h0 => ?_)
      · exact q (.str [c]) _ _ (k1 _ (by rw [h1]; rfl)) ⟨k, rfl, Nat.le_add_left 1 99999⟩ ((g.trans g').trans (Ge.tok s₂ _).fx)
      · obtain ⟨kx, ⟨j, ej, b1, b2⟩, _⟩ := k2 (by rw [h0]; rfl)
        cases ej
        exact ⟨⟨b1, b2⟩, fun h' tk e z => x kx s₂ h' tk e S₂ z⟩) x)
end
end Mine
end

section
open PySem PySem.W PyProof.Rows
set_option genSizeOf false
set_option genInjectivity false
namespace Mine
section
variable {F : Fx} {X : Prop} {σ : Ms}

/-- a bound of a slice -/
noncomputable def Jp (F : Fx) (X : Prop) (σ : Ms) : Option PExpr → (Option Int → Prop) → Prop
  | none, K => K none
  | some e, K => Je F X σ e fun d => ∃ i, d = .int i ∧ K (some i)
theorem Jp.run {e : Option PExpr} {K : Option Int → Prop} {s : Shared} {Q E : Value → Shared → Prop} (h : Jp F X σ e K) (S : St F σ s) (x : XE F X σ E)
    (q : ∀ i v s', K i → IsPart v i → F.Gw s s' → Q v s') : wpAny F.g.M F.A (evalPart e F.env) Q E s := by
  cases e with
  | none => exact evalPart_none_step (q none _ s h .none (F.grefl s))
  | some e =>
    refine evalPart_some_step (h s Q E S (fun d v s' k r g => ?_) x)
    obtain ⟨i, rfl, k⟩ := k
    obtain ⟨t, rfl⟩ := r
    exact q _ _ s' k (.int i t) g
theorem Je.cut {a : PExpr} {lo hi : Option PExpr} {p pos : Pos} {K : D → Prop} (h : Je F X σ a fun x => Jp F X σ lo fun i => Jp F X σ hi fun j => ∃ d, dCut x i j = some d ∧ K d) :
    Je F X σ (.Subscript a (.Slice lo hi Option.none p) pos) K := fun s Q E S q x => by
  refine Subscript_ (h s _ E S (fun d va s₁ hb r g => ?_) x)
  have S₁ := S.step g
  refine wpAny_Slice (hb.run S₁ x fun i vl s₂ k pl g₂ => ?_)
  have S₂ := S₁.step g₂
  refine k.run S₂ x fun j vu s₃ k pu g₃ => evalPart_none_step ?_
  obtain ⟨d', e, kd⟩ := k
  have S₃ := S₂.step g₃
  have gp := Ge.push s₃ { cls := .type "slice", data := .fields #[vl, vu, .none] } s₃.toks
  have S₄ := S₃.step gp.fx
  have r := ((r.step g₂).step g₃).step gp.fx
  have hs : ∃ ops, subscripted (.Slice lo hi Option.none p) false va (.ref s₃.heap.objs.size) = operate ops (getItem va (.ref s₃.heap.objs.size)) := ⟨_, by with_unfolding_all rfl⟩
  obtain ⟨ops, hs⟩ := hs
  exact cut_ok (s := { s₃ with heap := s₃.heap.push { cls := .type "slice", data := .fields #[vl, vu, .none] } }) S₄.zok r e (Heap.IsSliceOf.new ..) pl pu hs Q E fun v s₅ r₅ g₅ =>
    q _ v s₅ kd r₅ ((((g.trans g₂).trans g₃).trans gp.fx).trans g₅.fx)
/-- [::-1] -/
theorem Je.rev {a : PExpr} {k : Nat} {p0 p1 p pos : Pos} {K : D → Prop} (h : Je F X σ a fun x => ∃ ds, x = .lst ds ∧ K (.lst ds.reverse)) :
    Je F X σ (.Subscript a (.Slice Option.none Option.none (some (.UnaryOp .USub (.Constant (.int 1) k p0) p1)) p) pos) K := fun s Q E S q x => by
  refine Subscript_ (h s _ E S (fun d va s₁ hb r g => ?_) x)
  obtain ⟨ds, rfl, kd⟩ := hb
  obtain ⟨l, vs, rfl, z, n, pl, al⟩ := r
  refine wpAny_Slice (evalPart_none_step (evalPart_none_step (evalPart_some_step (UnaryOp_ (wpAny_Constant_int (PyProof.Rows.neg_int ?_))))))
  have gp : Ge s₁ { s₁ with heap := s₁.heap.push { cls := .type "slice", data := .fields #[.none, .none, .int (-1) (s₁.toks + 1)] }, toks := s₁.toks + 1 + 1 } := Ge.push ..
  have S₂ := (S.step g).step gp.fx
  have hs : ∃ ops, subscripted (.Slice Option.none Option.none (some (.UnaryOp .USub (.Constant (.int 1) k p0) p1)) p) false (.ref l) (.ref s₁.heap.objs.size) = operate ops (getItem (.ref l) (.ref s₁.heap.objs.size)) := ⟨_, by with_unfolding_all rfl⟩
  obtain ⟨ops, hs⟩ := hs
  exact rev_list (s := { s₁ with heap := s₁.heap.push { cls := .type "slice", data := .fields #[.none, .none, .int (-1) (s₁.toks + 1)] }, toks := s₁.toks + 1 + 1 }) (t := s₁.toks + 1) S₂.zok (PL.kp (fun b o _ e => gp.kp b o e) z pl) n (gp.vl al) (Heap.IsSliceOf.new ..) hs Q E fun v s₅ r₅ g₅ =>
    q _ v s₅ kd r₅ ((g.trans gp.fx).trans g₅.fx)

theorem Ja.nil {K : List D → Prop} (h : K []) : Ja F X σ [] K := fun pos s Q E S q x => args_nil (q [] [] s h rfl (F.grefl s))
theorem Ja.cons {e : PExpr} {r : List PExpr} {K : List D → Prop} (h : Je F X σ e fun d => Ja F X σ r fun ds => K (d :: ds)) (he : ∀ env, starEach (e :: r) env = (false, eval e env) :: starEach r env := by intro _; rfl) : Ja F X σ (e :: r) K :=
  fun pos s Q E S q x => args_cons (h s _ E S (fun d v s₁ k rv g => k pos s₁ _ E (S.step g) (fun ds vs s₂ k' rvs g' => q _ _ s₂ k' ⟨v, vs, rfl, rv.step g', rvs⟩ (g.trans g')) x) x) (he _)
theorem lim_line {n : Nat} (h : n ≤ lim) : n ≤ sizeLine := by
  rw [sizeLine_eq]
  exact Nat.le_trans h (by decide)
theorem Je.tup {es : List PExpr} {k : Nat} {pos : Pos} {K : D → Prop} (h : Ja F X σ es fun ds => ds.length ≤ lim ∧ K (.tup ds)) : Je F X σ (.Tuple es k pos) K := fun s Q E S q x =>
  wpAny_Tuple (h pos s _ E S (fun ds vs s₁ k l g => ⟨by rw [l.length]; exact lim_line k.1, by
    have gp := Ge.push s₁ { cls := .type "tuple", data := .seq vs.toArray } s₁.toks
    exact q _ _ _ k.2 ⟨_, vs, rfl, (S.step g).zok.new, k.1, ⟨_, Heap.get?_push_size _ rfl⟩, gp.vl l⟩ (g.trans gp.fx)⟩) x)
theorem Je.lst {es : List PExpr} {pos : Pos} {K : D → Prop} (h : Ja F X σ es fun ds => ds.length ≤ lim ∧ K (.lst ds)) : Je F X σ (.List es pos) K := fun s Q E S q x =>
  wpAny_List (h pos s _ E S (fun ds vs s₁ k l g => ⟨by rw [l.length]; exact lim_line k.1, by
    have gp := Ge.push s₁ { cls := .type "list", data := .seq vs.toArray } s₁.toks
    exact q _ _ _ k.2 ⟨_, vs, rfl, (S.step g).zok.new, k.1, ⟨_, Heap.get?_push_size _ rfl⟩, gp.vl l⟩ (g.trans gp.fx)⟩) x)
end
end Mine
end

section
open PySem PySem.W PyProof.Rows
set_option genSizeOf false
set_option genInjectivity false
namespace Mine

/-- an IndexError with its trace -/
noncomputable def Tr (h₀ : Heap) (x : Addr) (fl : Value) (h : Heap) : Prop := ∃ ob vs T oT ts, h.get? x = some ob ∧ ob.cls = .type "IndexError" ∧ ob.data = .fields vs ∧ vs[1]? = some (.ref T) ∧ T ≠ x ∧ h₀.get? T = none ∧
  h.get? T = some oT ∧ oT.data = .fields ts ∧ ts[3]? = some fl
/-- in flight in the frame -/
noncomputable def Rz (F : Fx) (x : Addr) (s' : Shared) : Prop := F.Gw F.s₀ s' ∧ F.s₀.heap.get? x = none ∧ F.s₀.heap.get? F.env.locals = none ∧ Tr F.s₀.heap x (rawInt F.env.locals) s'.heap
/-- out of a call -/
noncomputable def Lz (g : Gb) (l : List Env) (s : Shared) (x : Addr) (s' : Shared) : Prop := Gw g (vol g l) s s' ∧ s.heap.get? x = none ∧ Tr s.heap x .none s'.heap

theorem Gw.newer {g : Gb} {l : List Env} {e : Env} {L : Addr} {s s' : Shared} (x : Gw g (vol g (e :: l)) s s') (hf : e.frame = some L) (hn : s.heap.get? L = none) : Gw g (vol g l) s s' where
  kp := fun b o v q => x.kp b o (fun w => by
    rcases w with w | ⟨e', m, f⟩
    · exact v (.inl w)
    · rcases List.mem_cons.mp m with rfl | m
      · rw [hf] at f; cases f; rw [hn] at q; exact no q
      · exact v (.inr ⟨e', m, f⟩)) q
  fr := x.fr
  tab := x.tab
  gens := x.gens
  os := x.os

theorem Gw.upd {g : Gb} {V : Addr → Prop} {s₀ s : Shared} {T : Addr} {f : Obj → Obj} (x : Gw g V s₀ s) (hn : s₀.heap.get? T = none) (hP : T ≠ g.P) : Gw g V s₀ { s with heap := s.heap.update T f } where
  kp := fun b o v q => (Heap.get?_update_ne _ _ _ _ (fun e => by rw [← e] at hn; rw [hn] at q; exact no q)).trans (x.kp b o v q)
  fr := fun b o v q => by
    obtain ⟨sl, h⟩ := x.fr b o v q
    exact ⟨sl, (Heap.get?_update_ne _ _ _ _ (fun e => by rw [← e] at hn; rw [hn] at q; exact no q)).trans h⟩
  tab := fun t => by
    obtain ⟨ps, h, z⟩ := x.tab t
    exact ⟨ps, (Heap.get?_update_ne _ _ _ _ hP.symm).trans h, z⟩
  gens := x.gens
  os := x.os

theorem leave_rz {F : Fx} {x : Addr} {s' : Shared} {l : List Env} {M : Model} {A : Around} {Q : Unit → Shared → Prop} {E} (hs : F.stack = F.env :: l) (hf : F.env.frame = some F.env.locals) (ht : TabOk F.g F.s₀.heap) (R : Rz F x s')
    (h : ∀ s'', Lz F.g l F.s₀ x s'' → Q () s'') : wpAny M A (leaving F.env (.ref x)) Q E s' := by
  obtain ⟨G, x0, l0, ob, vs, T, oT, ts, h1, h2, h3, h4, h5, h6, h7, h8, h9⟩ := R
  have hP : T ≠ F.g.P := fun e => by
    obtain ⟨ps, e2, _⟩ := ht
    rw [← e, h6] at e2; exact no e2
  unfold leaving noteFrame
  simp only [hf]
  refine wpAny_bind (wpAny_bind (wpAny_field h1 h3 h4 ?_))
  rw [if_pos (show (Value.ref T != Value.none) = true from by simp)]
  refine wpAny_bind (wpAny_field h7 h8 h9 ?_)
  rw [if_pos (beq_self_eq_true _)]
  refine wpAny_pure ?_
  unfold setFlight
  refine wpAny_bind (wpAny_field h1 h3 h4 ?_)
  rw [if_pos (show (Value.ref T != Value.none) = true from by simp)]
  have hz : 3 < ts.size := (Array.getElem?_eq_some_iff.mp h9).1
  refine wpAny_setField h7 h8 hz (h _ ⟨?_, x0, ob, vs, T, _, _, (Heap.get?_update_ne _ _ _ _ h5.symm).trans h1, h2, h3, h4, h5, h6, Heap.get?_update_self _ h7 (Obj.isFreed_of_fields (Obj.data_mapFields h8 _)), Obj.data_mapFields h8 _, by simp [Array.getElem?_setIfInBounds, hz]⟩)
  have G' := G.upd (f := Obj.mapFields (·.setIfInBounds 3 ((none : Option Addr).elim Value.none fun f => rawInt f))) h6 hP
  rw [hs] at G'
  exact G'.newer hf l0
end Mine
end

section
open PySem PySem.W PyProof.Rows
set_option genSizeOf false
set_option genInjectivity false
namespace Mine

structure Fn where
  name : Str
  params : Arguments
  body : List Stmt
  scope : Scope

/-- the function stands at its name -/
noncomputable def FnAt (g : Gb) (fn : Fn) : Prop := ∃ a pm c doc o, g.mg fn.name = some (.ref a) ∧ g.hB.get? a = some o ∧ o.data = .func (PySem.Calls.docDef fn.name fn.params fn.body fn.scope pm (.ref c) doc) ∧
  g.hB.CodeRec (.ref c) fn.name ∧ a ≠ g.P ∧ c ≠ g.P

noncomputable def FnAtC (g : Gb) (fn : Fn) (c : Addr) : Prop := ∃ a pm doc o, g.mg fn.name = some (.ref a) ∧ g.hB.get? a = some o ∧ o.data = .func (PySem.Calls.docDef fn.name fn.params fn.body fn.scope pm (.ref c) doc) ∧
  g.hB.CodeRec (.ref c) fn.name ∧ a ≠ g.P ∧ c ≠ g.P

/-- what a call finds -/
structure Cx (g : Gb) (l : List Env) (Zc : Addr → Prop) (A : Around) (lv : Nat) (s : Shared) : Prop where
  gl : Gl g
  hh : A.handled = none
  dp : A.depth + 40 * lv + 80 ≤ 900
  un : A.units + 400 * lv + 800 ≤ 9000
  fr : A.frames = some l
  base : ∀ b o, b ≠ g.P → g.hB.get? b = some o → s.heap.get? b = some o
  tab : TabOk g s.heap
  bare : AllBare s.gens
  os : s.os = g.os
  base0 : ∀ b, vol g l b → b = g.P ∨ g.hB.get? b = none
  frs : ∀ e ∈ l, FrOk g s.heap e
  zc : ∀ b, Zc b → ∃ o, s.heap.get? b = some o
  vz : ∀ b, vol g l b → Zc b

/-- what the function of that name makes of the arguments: the answer, or (none) an IndexError -/
noncomputable def Ct (g : Gb) (lv : Nat) (f : Str) (args : List D) (r : Option D) : Prop := ∀ (l : List Env) (Zc : Addr → Prop) (A : Around) s vs a (Q E : Value → Shared → Prop), g.mg f = some (.ref a) → Cx g l Zc A lv s →
  VL Zc s.heap args vs → (∀ d v s', r = some d → Vr Zc s'.heap d v → Gw g (vol g l) s s' → Q v s') → (r = none → ∀ x s', Lz g l s x s' → E (.ref x) s') → wpAny g.M A (call (.ref a) vs) Q E s

/-- after a block -/
structure Po where
  n : Ms → Prop
  b : Ms → Prop
  r : Ms → D → Prop
noncomputable def Js (F : Fx) (X : Prop) (σ : Ms) (ss : List Stmt) (K : Po) : Prop := ∀ s (Q : Flow → Shared → Prop) (E : Value → Shared → Prop), St F σ s →
  (∀ σ' s', K.n σ' → St F σ' s' → Q .next s') → (∀ σ' s', K.b σ' → St F σ' s' → Q .brk s') → (∀ σ' d v s', K.r σ' d → Vr (F.Z σ'.own) s'.heap d v → St F σ' s' → Q (.ret v) s') →
  (X → ∀ x s', Rz F x s' → E (.ref x) s') → wpAny F.g.M F.A (execs ss F.env) Q E s
noncomputable def J1 (F : Fx) (X : Prop) (σ : Ms) (st : Stmt) (K : Po) : Prop := ∀ s (Q : Flow → Shared → Prop) (E : Value → Shared → Prop), St F σ s →
  (∀ σ' s', K.n σ' → St F σ' s' → Q .next s') → (∀ σ' s', K.b σ' → St F σ' s' → Q .brk s') → (∀ σ' d v s', K.r σ' d → Vr (F.Z σ'.own) s'.heap d v → St F σ' s' → Q (.ret v) s') →
  (X → ∀ x s', Rz F x s' → E (.ref x) s') → wpAny F.g.M F.A (exec st F.env) Q E s

section
variable {F : Fx} {X : Prop} {σ : Ms} {K : Po}
theorem Js.nil (h : K.n σ) : Js F X σ [] K := fun s Q E S qn _ _ _ => wpAny_execs_nil (qn σ s h S)
theorem Js.cons {st : Stmt} {rest : List Stmt} (h : J1 F X σ st ⟨fun σ' => Js F X σ' rest K, K.b, K.r⟩) : Js F X σ (st :: rest) K := fun s Q E S qn qb qr x =>
  wpAny_execs_cons (h s _ E S (fun σ' s' k S' => k s' Q E S' qn qb qr x) (fun σ' s' k S' => qb σ' s' k S') (fun σ' d v s' k r S' => qr σ' d v s' k r S') x)
end

/-- the frame of a plain call -/
noncomputable def mkF (g : Gb) (fn : Fn) (names : List (Str × NameKind)) (L a : Addr) (cd : Value) (A : Around) (s : Shared) (l : List Env) (Zc : Addr → Prop) (lv : Nat) : Fx :=
  { g := g, env := envOf fn.name fn.scope L a cd, A := A.deeper (envOf fn.name fn.scope L a cd), s₀ := s, stack := envOf fn.name fn.scope L a cd :: l, lv := lv, Zc := Zc, names := names, prot := [], gh := [] }

theorem nmGo_at {l : List (Str × NameKind)} {x : Str} : ∀ {n k : Nat} {d : NameKind}, nmGo l x n = some (n + k, d) → l[k]? = some (x, d) := by
  induction l with
  | nil => intro n k d h; exact no h
  | cons p r ih =>
    intro n k d h
    rw [nmGo] at h
    cases q : p.1 == x with
    | true =>
      rw [q] at h
      have h : some (n, p.2) = some (n + k, d) := h
      injection h with h; injection h with h1 h2
      have : k = 0 := by lia
      subst this
      rw [← eq_of_beq q, ← h2]; rfl
    | false =>
      rw [q] at h
      have := nmGo_ge h
      obtain ⟨j, rfl⟩ : ∃ j, k = j + 1 := ⟨k - 1, by lia⟩
      rw [show n + (j + 1) = (n + 1) + j by lia] at h
      exact ih h
theorem zip_rev {ps : List Str} : ∀ {vs : List Value}, ps.length = vs.length → ps.Nodup → ∀ {k : Nat} {x : Str}, ps[k]? = some x → (ps.zip vs).reverse.lookup x = vs[k]? := by
  induction ps with
  | nil => intro vs _ _ k x h; exact nomatch (show (none : Option Str) = some x from h)
  | cons p ps ih =>
    intro vs hl nd k x h
    cases vs with
    | nil => exact nomatch hl
    | cons v vs =>
      obtain ⟨n1, n2⟩ := List.nodup_cons.mp nd
      rw [List.zip_cons_cons, List.reverse_cons, List.lookup_append]
      cases k with
      | zero =>
        have e : p = x := by simpa using h
        subst e
        have : (ps.zip vs).reverse.lookup p = none := by
          rw [List.lookup_eq_none_iff]
          intro q m
          have h7 := (List.of_mem_zip (List.mem_reverse.mp m)).1
          simp only [bne_iff_ne, ne_eq, beq_eq_false_iff_ne]
          intro h8
          rw [h8] at n1
          exact n1 h7
        rw [this]
        simp
      | succ k =>
        rw [ih (by simpa using hl) n2 (by simpa using h)]
        have : k < vs.length := by
          have h1 := (List.getElem?_eq_some_iff.mp (show ps[k]? = some x by simpa using h)).1
          have : ps.length = vs.length := by simpa using hl
          lia
        rw [List.getElem?_cons_succ, List.getElem?_eq_getElem this]
        rfl

theorem Gl.nolim {g : Gb} (G : Gl g) {h : Heap} (base : ∀ b o, b ≠ g.P → g.hB.get? b = some o → h.get? b = some o) : h.NoLimit := by
  obtain ⟨mc, ⟨o, es, ep, h1, r⟩, h2⟩ := G.lim
  exact ⟨mc, ⟨o, es, ep, base _ _ G.p3 h1, r⟩, h2⟩

/-- a plain function by its body, its code known -/
theorem Ct.plainC {g : Gb} {fn : Fn} {c : Addr} {lv : Nat} {args : List D} {r : Option D} (ps : List Str) (rest : List (Str × NameKind)) (hat : FnAtC g fn c) (hN : fn.scope.names = ps.map (·, .local) ++ rest)
    (hl : args.length = ps.length) (nd : ps.Nodup)
    (hb : ∀ pm c doc vs, vs.length = ps.length → bindArgs (PySem.Calls.docDef fn.name fn.params fn.body fn.scope pm (.ref c) doc) ⟨vs, []⟩ = pure (ps.zip vs))
    (hloc : ∀ x ∈ ps, fn.scope.names.lookup x = some .local)
    (hcell : ∀ x ∈ fn.scope.names, x.2 ≠ .cell) (hco : fn.scope.isCoroutine = false) (hgen : fn.scope.isGenerator = false) (hk : fn.scope.kind = .function)
    (h : ∀ L a A s l Zc, s.heap.get? g.P ≠ none → Js (mkF g fn (ps.map (·, .local) ++ rest) L a (.ref c) A s l Zc lv) (r = none) ⟨args.map some ++ rest.map (fun _ => none), []⟩ fn.body ⟨fun _ => False, fun _ => False, fun _ d => r = some d⟩) : Ct g lv fn.name args r := by
  intro l Zc A s vs a Q E ha C al q x
  obtain ⟨a', pm, doc, o, h1, h2, h3, h4, h5, h6⟩ := hat
  rw [h1] at ha; cases ha
  have hvl : ps.length = vs.length := by rw [al.length, hl]
  obtain ⟨cc, oc, vc, tc, e1, e2, e3, e4⟩ := h4
  have lnew : s.heap.get? s.heap.objs.size = none := by
    cases z : s.heap.get? s.heap.objs.size with
    | none => rfl
    | some o => exact absurd (Heap.lt_size z) (Nat.lt_irrefl _)
  refine wpAny_call (call_plain (by have := C.dp; show A.depth < 1000; lia) (C.base _ _ h5 h2) h3 (C.gl.nolim C.base) ⟨cc, oc, vc, tc, e1, C.base _ _ (by cases e1; exact h6) e2, e3, e4⟩ (hb _ _ _ _ hvl.symm)
    (fun y hy => hloc _ (List.of_mem_zip hy).1) (fun h₁ Fr₁ => ?_) hco hgen hk hcell)
  have ge : Ge s { s with heap := h₁, toks := s.toks + (ps.zip vs).length } := ⟨Fr₁.keep, rfl, rfl⟩
  obtain ⟨oL, esL, epL, k1, k2, k3⟩ := id Fr₁.ns
  have hLP : s.heap.objs.size ≠ g.P := fun e => by
    obtain ⟨_, t, _⟩ := C.tab
    rw [← e, lnew] at t; exact no t
  have hZ : ∀ b o, s.heap.get? b = some o → (mkF g fn (ps.map (·, .local) ++ rest) s.heap.objs.size a (.ref c) A s l Zc lv).Z [] b → Zc b := fun b ob w3 w4 => by
    have hL : b ≠ s.heap.objs.size := fun e => by rw [e, lnew] at w3; exact no w3
    rcases w4 with (w4 | w4) | w4 | ⟨_, w4⟩ | ⟨_, w4⟩
    · exact w4
    · rcases w4 with w4 | ⟨e, m, f⟩
      · exact C.vz b (.inl w4)
      · rcases List.mem_cons.mp m with rfl | m
        · exact absurd (Option.some.inj f).symm hL
        · exact C.vz b (.inr ⟨e, m, f⟩)
    · exact absurd w4 hL
    · exact nomatch w4
    · exact no w4
  have st : St (mkF g fn (ps.map (·, .local) ++ rest) s.heap.objs.size a (.ref c) A s l Zc lv) ⟨args.map some ++ rest.map (fun _ => none), []⟩ { s with heap := h₁, toks := s.toks + (ps.zip vs).length } := by
    refine ⟨⟨hk, rfl, rfl, C.hh, ?_, ?_, ?_, hLP, lnew, hN, C.base, C.gl⟩, ge.gw, fun b o n e => Fr₁.keep _ _ (C.base b o n e), ?_, C.bare, C.os, ⟨_, Fr₁.ns, fun y k kd d z1 z2 => ?_⟩, (fun y c e => nomatch e), (fun a ds e => nomatch e), (fun a ds e => nomatch e), ?_, ?_, ?_, (fun _ m => nomatch m), fun _ m => nomatch m⟩
    · have := C.dp
      show A.depth + 1 + 40 * lv + 40 ≤ 900
      lia
    · have := C.un
      show A.units + 3 + 400 * lv + 400 ≤ 9000
      lia
    · show A.frames.map _ = _
      rw [C.fr]; rfl
    · obtain ⟨tp, t1, t2⟩ := C.tab
      exact ⟨tp, Fr₁.keep _ _ t1, t2⟩
    · have z1 : nmGo (ps.map (·, .local) ++ rest) y 0 = some (0 + k, kd) := by rw [Nat.zero_add]; exact z1
      have z3 := nmGo_at z1
      have z2 : (args.map some ++ rest.map (fun _ => (none : Option D)))[k]? = some (some d) := z2
      have z4 : k < args.length := by
        apply Classical.byContradiction
        intro z
        rw [List.getElem?_append_right (by rw [List.length_map]; lia), List.getElem?_map, Option.map_eq_some_iff] at z2
        obtain ⟨_, _, z9⟩ := z2
        exact nomatch z9
      have z5 : (ps.map (·, NameKind.local))[k]? = some (y, kd) := by
        rw [List.getElem?_append_left (by rw [List.length_map, ← hl]; exact z4)] at z3
        exact z3
      rw [List.getElem?_map, Option.map_eq_some_iff] at z5
      obtain ⟨p, z6, z7⟩ := z5
      cases z7
      have z8 : args[k]? = some d := by
        rw [List.getElem?_append_left (by rw [List.length_map]; exact z4)] at z2
        rw [List.getElem?_map, Option.map_eq_some_iff] at z2
        obtain ⟨_, z9, z10⟩ := z2
        cases z10; exact z9
      obtain ⟨v, w1, w2⟩ := al.get z8
      exact ⟨v, by show (ps.zip vs).reverse.lookup y = some v; rw [zip_rev hvl nd z6]; exact w1, ge.vr (Vr.more hZ d w2)⟩
    · intro b w
      by_cases hL : b = s.heap.objs.size
      · exact ⟨oL, by rw [hL]; exact k1⟩
      · rcases w with (w4 | w4) | w4 | ⟨_, w4⟩ | ⟨_, w4⟩
        · obtain ⟨ob, w5⟩ := C.zc b w4
          exact ⟨ob, Fr₁.keep _ _ w5⟩
        · rcases w4 with w4 | ⟨e, m, f⟩
          · obtain ⟨ob, w5⟩ := C.zc b (C.vz b (.inl w4))
            exact ⟨ob, Fr₁.keep _ _ w5⟩
          · rcases List.mem_cons.mp m with rfl | m
            · exact absurd (Option.some.inj f).symm hL
            · obtain ⟨ob, w5⟩ := C.zc b (C.vz b (.inr ⟨e, m, f⟩))
              exact ⟨ob, Fr₁.keep _ _ w5⟩
        · exact absurd w4 hL
        · exact nomatch w4
        · exact no w4
    · intro b w
      rcases w with w | ⟨e, m, f⟩
      · exact .inl w
      · rcases List.mem_cons.mp m with rfl | m
        · have := Option.some.inj f
          refine .inr ?_
          cases z : g.hB.get? b with
          | none => exact z
          | some ob =>
            by_cases hb : b = g.P
            · exact absurd ((show s.heap.objs.size = b from this).trans hb) hLP
            · have := C.base b ob hb z
              rw [← show s.heap.objs.size = b from Option.some.inj f, lnew] at this
              exact no this
        · exact C.base0 b (.inr ⟨e, m, f⟩)
    · intro e m
      rcases List.mem_cons.mp m with rfl | m
      · exact ⟨by show fn.scope.kind ≠ .module; rw [hk]; decide, _, oL, rfl, hLP, k1, fun vs q => by rw [k2] at q; exact nomatch q⟩
      · exact (C.frs e m).gw (V := vol g l) ge.gw
  refine h s.heap.objs.size a A s l Zc (fun e => by obtain ⟨_, t, _⟩ := C.tab; rw [e] at t; exact no t) _ _ _ st (fun _ _ f => f.elim) (fun _ _ f => f.elim) (fun σ' d v s' k r S' => ?_) (fun xr e s' R => ?_)
  · exact q d v s' k (Vr.more (fun b o _ z => .inl (.inl z)) d r) (S'.gw.newer rfl lnew)
  · exact leave_rz rfl rfl C.tab R fun s'' z => x xr e s'' z
/-- a plain function by its body -/
theorem Ct.plain {g : Gb} {fn : Fn} {lv : Nat} {args : List D} {r : Option D} (ps : List Str) (rest : List (Str × NameKind)) (hat : FnAt g fn) (hN : fn.scope.names = ps.map (·, .local) ++ rest)
    (hl : args.length = ps.length) (nd : ps.Nodup)
    (hb : ∀ pm c doc vs, vs.length = ps.length → bindArgs (PySem.Calls.docDef fn.name fn.params fn.body fn.scope pm (.ref c) doc) ⟨vs, []⟩ = pure (ps.zip vs))
    (hloc : ∀ x ∈ ps, fn.scope.names.lookup x = some .local)
    (hcell : ∀ x ∈ fn.scope.names, x.2 ≠ .cell) (hco : fn.scope.isCoroutine = false) (hgen : fn.scope.isGenerator = false) (hk : fn.scope.kind = .function)
    (h : ∀ L a cd A s l Zc, s.heap.get? g.P ≠ none → Js (mkF g fn (ps.map (·, .local) ++ rest) L a cd A s l Zc lv) (r = none) ⟨args.map some ++ rest.map (fun _ => none), []⟩ fn.body ⟨fun _ => False, fun _ => False, fun _ d => r = some d⟩) : Ct g lv fn.name args r := by
  obtain ⟨a, pm, c, doc, o, h1, h2, h3, h4, h5, h6⟩ := hat
  exact Ct.plainC (c := c) ps rest ⟨a, pm, doc, o, h1, h2, h3, h4, h5, h6⟩ hN hl nd hb hloc hcell hco hgen hk fun L a A s l Zc => h L a (.ref c) A s l Zc
end Mine
end

section
open PySem PySem.W PyProof.Rows
set_option genSizeOf false
set_option genInjectivity false
namespace Mine
section
variable {F : Fx} {X : Prop} {σ : Ms}

theorem Fx.lZ (F : Fx) (ω : Own) : F.Z ω F.env.locals := .inr (.inl rfl)
theorem St.chg {s : Shared} (S : St F σ s) {a : Addr} {h' : Heap} {tk : Nat} {loc' : List (Option D)} {own' : Own} (sb : Heap.SameBut a s.heap h') (aZ : F.Z σ.own a) (new : F.s₀.heap.get? a = none) (aP : a ≠ F.g.P)
    (ex : ∃ o, h'.get? a = some o ∧ ∀ vs, o.data ≠ .fields vs)
    (ns' : ∃ m, h'.Ns F.env.locals m ∧ ∀ x k kd d, F.nm x = some (k, kd) → loc'[k]? = some (some d) → ∃ v, Lk F.env h' m x v kd ∧ Vr (F.Z own') h' d v)
    (cells' : ∀ x c, F.env.cells.lookup x = some c → c ≠ F.g.P ∧ c ≠ F.env.locals ∧ ∃ v, h'.IsCell c v)
    (own'' : OwnOk (F.Z own') h' own') (hZ : ∀ b, F.Z own' b → F.Z σ.own b) (gh' : ∀ p ∈ F.gh, Vr (F.Z own') h' p.1 p.2)
    (ownv' : ∀ a ds, own'.find a = some ds → ¬ (F.Zc a ∨ vol F.g F.stack a) ∧ a ≠ F.env.locals ∧ F.s₀.heap.get? a = none ∧ ∀ x, (x, a) ∉ F.env.cells) : St F ⟨loc', own'⟩ { s with heap := h', toks := tk } where
  ok := S.ok
  gw := {
    kp := fun b o v q => (sb.2 b (fun e => by rw [← e, q] at new; exact no new.symm)).trans (S.gw.kp b o v q)
    fr := fun b o v q => by
      obtain ⟨sl, h⟩ := S.gw.fr b o v q
      exact ⟨sl, (sb.2 b (fun e => by rw [← e, q] at new; exact no new.symm)).trans h⟩
    tab := fun t => by
      obtain ⟨ps, h, z⟩ := S.gw.tab t
      exact ⟨ps, (sb.2 _ aP.symm).trans h, z⟩
    gens := S.gw.gens
    os := S.gw.os }
  base := fun b o v q => (sb.2 b (fun e => by
    have := S.ok.bs0 b o v q
    rw [← e, this] at new; exact no new.symm)).trans (S.base b o v q)
  tab := by
    obtain ⟨ps, h, z⟩ := S.tab
    exact ⟨ps, (sb.2 _ aP.symm).trans h, z⟩
  bare := S.bare
  os := S.os
  ns := ns'
  cells := cells'
  own := own''
  ownv := ownv'
  zok := fun b z => by
    by_cases e : b = a
    · obtain ⟨o, h, _⟩ := ex
      exact ⟨o, e ▸ h⟩
    · obtain ⟨o, h⟩ := S.zok b (hZ b z)
      exact ⟨o, (sb.2 b e).trans h⟩
  base0 := S.base0
  frs := fun e m => by
    obtain ⟨k, L, o, f, p, h, n⟩ := S.frs e m
    by_cases q : L = a
    · obtain ⟨o', h', n'⟩ := ex
      exact ⟨k, L, o', f, p, q ▸ h', n'⟩
    · exact ⟨k, L, o, f, p, (sb.2 L q).trans h, n⟩
  prot := fun p m => ⟨(sb.2 p.1 (fun (q : p.1 = a) => (S.prot p m).2 (by rw [q]; exact aZ))).trans (S.prot p m).1, fun z => (S.prot p m).2 (hZ _ z)⟩
  gh := gh'

theorem Fx.kpZ {s : Shared} {h' : Heap} {a : Addr} {ω : Own} (sb : Heap.SameBut a s.heap h') (aZ : F.Z ω a) : Kp (F.Z ω) s.heap h' := fun b o z e => (sb.2 b (fun q => z (q ▸ aZ))).trans e

/-- a local is stored -/
theorem St.put {s : Shared} (S : St F σ s) {x : Str} {k : Nat} {d : D} {v : Value} {h' : Heap} {tk : Nat} (hx : F.nm x = some (k, .local)) (r : Vr (F.Z σ.own) s.heap d v)
    (n : ∀ m, s.heap.Ns F.env.locals m → h'.Ns F.env.locals (fun y => if y = x then some v else m y)) (sb : Heap.SameBut F.env.locals s.heap h') : St F ⟨σ.loc.set k (some d), σ.own⟩ { s with heap := h', toks := tk } := by
  have kp := F.kpZ (ω := σ.own) sb (F.lZ _)
  obtain ⟨m, n0, f⟩ := S.ns
  refine S.chg sb (F.lZ _) S.ok.lnew S.ok.lP ?_ ⟨_, n m n0, fun y k' kd d' h1 h2 => ?_⟩ (fun y c h => ?_) (fun a ds e => ?_) (fun _ z => z) (fun p m => Vr.kp kp p.1 (S.gh p m)) S.ownv
  · obtain ⟨o, es, ep, h1, h2, _⟩ := n m n0
    exact ⟨o, h1, fun vs q => by rw [h2] at q; exact nomatch q⟩
  · by_cases e : k' = k
    · subst e
      have e2 : y = x := by
        cases kd with
        | «local» => exact nmGo_inj h1 hx
        | _ => exact nmGo_inj h1 hx
      subst e2
      rw [hx] at h1
      cases h1
      have h2 : (σ.loc.set k' (some d))[k']? = some (some d') := h2
      have h4 : k' < σ.loc.length := by
        have := (List.getElem?_eq_some_iff.mp h2).1
        simpa using this
      rw [List.getElem?_set_self h4] at h2
      cases h2
      exact ⟨v, by show (if y = y then some v else m y) = some v; rw [if_pos rfl], Vr.kp kp d r⟩
    · have h2 : (σ.loc.set k (some d))[k']? = some (some d') := h2
      rw [List.getElem?_set_ne (fun q => e q.symm)] at h2
      obtain ⟨v', l, r'⟩ := f y k' kd d' h1 h2
      refine ⟨v', ?_, Vr.kp kp d' r'⟩
      cases kd with
      | «local» =>
        show (if y = x then some v else m y) = some v'
        rw [if_neg (fun q => e (by rw [q, hx] at h1; cases h1; rfl))]
        exact l
      | cell =>
        obtain ⟨c, h3, h4⟩ := l
        exact ⟨c, h3, h4.sameBut sb (S.cells y c h3).2.1⟩
      | _ => exact l.elim
  · obtain ⟨h1, h2, v', h3⟩ := S.cells y c h
    exact ⟨h1, h2, v', h3.sameBut sb h2⟩
  · obtain ⟨z, vs, p, l, nn⟩ := S.own a ds e
    obtain ⟨nn2, pe⟩ := p
    exact ⟨z, vs, ⟨nn2, (sb.2 a (S.ownv a ds e).2.1).trans pe⟩, VL.kp kp ds l, nn⟩

theorem St.store {s : Shared} (S : St F σ s) {x : Str} {k : Nat} {d : D} {v : Value} (hx : F.nm x = some (k, .local)) (r : Vr (F.Z σ.own) s.heap d v) {Q : Unit → Shared → Prop} {E : Value → Shared → Prop}
    (q : ∀ s', St F ⟨σ.loc.set k (some d), σ.own⟩ s' → Q () s') : wpAny F.g.M F.A (storeName F.env x v) Q E s := by
  obtain ⟨m, n0, f⟩ := S.ns
  have hm : ∀ m', s.heap.Ns F.env.locals m' → m' = m := fun m' n' => by
    obtain ⟨o, es, ep, a1, a2, a3, a4⟩ := n0
    obtain ⟨o', es', ep', b1, b2, b3, b4⟩ := n'
    rw [a1] at b1
    cases b1
    rw [a2] at b2
    cases b2
    exact funext fun y => (b4 y).symm.trans (a4 y)
  refine wpAny_storeName_local (S.kindOf hx) n0 (fun h' hn hs => q _ (S.put hx r (fun m' n' => ?_) hs)) (by rw [S.ok.kind]; rfl)
  rw [hm m' n']
  exact hn

theorem J1.assign {x : Str} {p pos : Pos} {e : PExpr} {k : Nat} {K : Po} (hx : F.nm x = some (k, .local)) (h : Je F False σ e fun d => K.n ⟨σ.loc.set k (some d), σ.own⟩)
    (hs : swapsWith e (some (.Name x p)) pos.line F.env = pure false := by rfl) : J1 F X σ (.Assign [.Name x p] e pos) K := fun s Q E S qn qb qr x =>
  wpAny_Assign_Name (h s _ E S (fun d v s₁ kd r g => (S.step g).store hx r fun s₂ S₂ => qn _ s₂ kd S₂) (fun f => f.elim)) hs
end
end Mine
end

section
open PySem PySem.W PyProof.Rows
set_option genSizeOf false
set_option genInjectivity false
namespace Mine
section
variable {F : Fx} {X : Prop} {σ : Ms}

/-- the frame of a function, not of a comprehension -/
noncomputable def FunF (F : Fx) : Prop := (∃ l, F.stack = F.env :: l) ∧ F.env.frame = some F.env.locals

theorem nil_get (b : Addr) : ({} : Heap).get? b = none := by
  unfold Heap.get?
  simp
theorem frames_fun {g : Gb} {h : Heap} {l : List Env} : (∀ e ∈ l, FrOk g h e) → h.FunFrames {} l := by
  induction l with
  | nil => intro _; trivial
  | cons e r ih =>
    intro f
    obtain ⟨k, L, o, f1, _, f2, f3⟩ := f e List.mem_cons_self
    exact ⟨k, ⟨L, o, f1, nil_get L, f2, f3⟩, ih fun e' m => f e' (List.mem_cons_of_mem _ m)⟩

theorem note_push {s : Shared} {x : Addr} {ob : Obj} {vs : Array Value} {head : Value} {hn : Bool} {Q : Unit → Shared → Prop} {E : Value → Shared → Prop} (S : St F σ s) (ff : FunF F)
    (he : s.heap.get? x = some ob) (hd : ob.data = .fields vs) (hsz : 1 < vs.size)
    (h : ∀ h' T ob' oT ts, T ≠ x → s.heap.get? T = none → h'.get? x = some ob' → ob'.cls = ob.cls → ob'.data = .fields (vs.setIfInBounds 1 (.ref T)) → h'.get? T = some oT → oT.data = .fields ts → ts[3]? = some (rawInt F.env.locals) →
      (∀ b o, b ≠ x → (∀ e ∈ F.stack, e.frame ≠ some b) → s.heap.get? b = some o → h'.get? b = some o) → (∀ b o, b ≠ x → s.heap.get? b = some o → ∃ sl, h'.get? b = some { o with slots := sl }) → Q () { s with heap := h' }) :
    wpAny F.g.M F.A (do let a ← frameOf F.env; let pl ← entryPlaceOf F.env.locals hn; let b ← EntryCells.newEntry head a .none (rawInt F.env.locals) .none pl; setField (.ref x) 1 b) Q E s := by
  obtain ⟨⟨l, hl⟩, hf⟩ := ff
  have hff : s.heap.FunFrames {} F.stack := frames_fun S.frs
  have hfr : F.A.frames = some (F.env :: l) := by rw [S.ok.fr, hl]
  have hx : x ∉ F.stack.filterMap (·.frame) := fun m => by
    obtain ⟨_, o, ho, n⟩ := hff.mem m
    rw [he] at ho; cases ho
    exact n vs hd
  rw [hl] at hff
  refine wpAny_bind (wpAny_frameOf_fun hfr hff hf fun h₁ hs₁ => ?_)
  rw [← hl] at hs₁
  refine wpAny_bind (wpAny_entryPlaceOf fun pl hpl => ?_)
  unfold EntryCells.newEntry newFields
  refine wpAny_bind (wpAny_newObj_type ?_ (hpl.sizeOk5 _ _ _ _ _))
  have he₁ : h₁.get? x = some ob := (hs₁.2.1 x hx).trans he
  have he₂ := Heap.get?_push_of_some (h := h₁) { cls := .type "traceback", dict := none, data := .fields ([head, .ref F.env.locals, .none, rawInt F.env.locals, .none] ++ (if pl.isEmpty then List.replicate 6 Value.none else pl)).toArray } he₁
  have hTe : h₁.objs.size ≠ x := Nat.ne_of_gt (Heap.lt_size he₁)
  have hd₃ := Obj.data_mapFields hd (·.setIfInBounds 1 (Value.ref h₁.objs.size))
  have he₃ := Heap.get?_update_self (Obj.mapFields (·.setIfInBounds 1 (Value.ref h₁.objs.size))) he₂ (Obj.isFreed_of_fields hd₃)
  have hT₃ := (Heap.get?_update_other (h₁.push { cls := .type "traceback", dict := none, data := .fields ([head, .ref F.env.locals, .none, rawInt F.env.locals, .none] ++ (if pl.isEmpty then List.replicate 6 Value.none else pl)).toArray })
    (Obj.mapFields (·.setIfInBounds 1 (Value.ref h₁.objs.size))) (Ne.symm hTe)).trans (Heap.get?_push_size h₁ rfl)
  have keep : ∀ b o, b ≠ x → h₁.get? b = some o →
      ((h₁.push { cls := .type "traceback", dict := none, data := .fields ([head, .ref F.env.locals, .none, rawInt F.env.locals, .none] ++ (if pl.isEmpty then List.replicate 6 Value.none else pl)).toArray }).update x (Obj.mapFields (·.setIfInBounds 1 (Value.ref h₁.objs.size)))).get? b = some o := fun b o hbe hb => by
    rw [Heap.get?_update_other _ _ (Ne.symm hbe)]
    exact Heap.get?_push_of_some _ hb
  refine wpAny_setField he₂ hd hsz (h _ h₁.objs.size _ _ _ hTe ?_ he₃ (Obj.cls_mapFields _ _) hd₃ hT₃ rfl rfl (fun b o hb nf q => keep b o hb ((hs₁.2.1 b fun m => ?_).trans q)) fun b o hb q => ?_)
  · rw [hs₁.1]
    cases z : s.heap.get? s.heap.objs.size with
    | none => rfl
    | some o => exact absurd (Heap.lt_size z) (Nat.lt_irrefl _)
  · obtain ⟨e, m1, m2⟩ := List.mem_filterMap.mp m
    exact nf e m1 m2
  · obtain ⟨sl, z⟩ := hs₁.2.2 b o q
    exact ⟨sl, keep b _ hb z⟩

/-- what was not there is not there -/
theorem St.new0 {s : Shared} (S : St F σ s) {x : Addr} (h : s.heap.get? x = none) : F.s₀.heap.get? x = none := by
  cases z : F.s₀.heap.get? x with
  | none => rfl
  | some o =>
    by_cases q : x = F.g.P
    · obtain ⟨ps, t, _⟩ := S.tab
      rw [q, t] at h; exact no h.symm
    · obtain ⟨sl, t⟩ := S.gw.fr x o q z
      rw [t] at h; exact no h.symm

theorem raise_noted {s : Shared} {h1 : Heap} {tk : Nat} {x : Addr} {E : Value → Shared → Prop} (S : St F σ s) (ff : FunF F) (hx : Heap.NewExc s.heap h1 x "IndexError") (h : ∀ x s', Rz F x s' → E (.ref x) s') :
    notedBy F.g.M F.A F.env (fun e s' => cameBackBy F.g.M F.A F.env E e s') (.ref x) { s with heap := h1, toks := tk } := by
  obtain ⟨ob, t, e1, e2, e3⟩ := hx.there
  have ge : Ge s { s with heap := h1, toks := tk } := ⟨hx.keeps, rfl, rfl⟩
  have S1 := S.step ge.fx
  show wpAny F.g.M F.A (noteFrame (.ref x) F.env) _ _ _
  unfold noteFrame
  simp only [ff.2]
  refine wpAny_bind (wpAny_field e1 e3 (x := Value.none) rfl ?_)
  rw [if_neg (by decide)]
  refine note_push S1 ff e1 e3 (by simp) fun h' T ob' oT ts a1 a2 a3 a4 a5 a6 a7 a8 a9 a10 => ?_
  show wpAny F.g.M F.A (do
    if (← field (.ref x) 1) == .none then unsupported "frame.own-activation:exception-without-traceback"
    setFlight (.ref x) F.env.frame) _ _ _
  have a5' : ob'.data = .fields #[t, .ref T, .none, .none, .bool false, .none] := a5
  refine wpAny_bind (wpAny_field a3 a5' (x := .ref T) rfl ?_)
  rw [if_neg (by simp)]
  unfold setFlight
  refine wpAny_bind (wpAny_field a3 a5' (x := .ref T) rfl ?_)
  rw [if_pos (by simp), ff.2]
  have hz : 3 < ts.size := (Array.getElem?_eq_some_iff.mp a8).1
  have T1 : s.heap.get? T = none := by
    cases z : s.heap.get? T with
    | none => rfl
    | some o => rw [hx.keeps _ _ z] at a2; exact no a2.symm
  have x0 := S.new0 hx.new
  have T0 := S.new0 T1
  have xP : x ≠ F.g.P := fun q => by
    obtain ⟨ps, z, _⟩ := S.tab
    rw [← q, hx.new] at z; exact no z
  have TP : T ≠ F.g.P := fun q => by
    obtain ⟨ps, z, _⟩ := S.tab
    rw [← q, T1] at z; exact no z
  refine wpAny_setField a6 a7 hz (h x _ ⟨?_, x0, S.ok.lnew, ob', _, T, _, _, (Heap.get?_update_ne _ _ _ _ a1.symm).trans a3, a4.trans e2, a5', rfl, a1, T0, Heap.get?_update_self _ a6 (Obj.isFreed_of_fields (Obj.data_mapFields a7 _)), Obj.data_mapFields a7 _, by simp [hz]⟩)
  have G : F.Gw F.s₀ { s with heap := h', toks := tk } := {
    kp := fun b o v q => by
      have q1 := S1.gw.kp b o v q
      exact a9 b o (fun e => by rw [e, x0] at q; exact no q) (fun e m f => v (.inr ⟨e, m, f⟩)) q1
    fr := fun b o v q => by
      obtain ⟨sl, q1⟩ := S1.gw.fr b o v q
      obtain ⟨sl', q2⟩ := a10 b _ (fun e => by rw [e, x0] at q; exact no q) q1
      exact ⟨sl', q2⟩
    tab := fun _ => by
      obtain ⟨ps, z, w⟩ := S1.tab
      refine ⟨ps, a9 _ _ (fun e => xP e.symm) (fun e m f => ?_) z, w⟩
      obtain ⟨_, L, _, f1, f2, _⟩ := S1.frs e m
      rw [f] at f1; cases f1
      exact f2 rfl
    gens := S1.gw.gens
    os := S1.gw.os }
  exact G.upd T0 TP

theorem rz_noted {s : Shared} {x : Addr} {E : Value → Shared → Prop} (ff : FunF F) (ht : F.s₀.heap.get? F.g.P ≠ none) (R : Rz F x s) (h : ∀ x s', Rz F x s' → E (.ref x) s') :
    notedBy F.g.M F.A F.env (fun e s' => cameBackBy F.g.M F.A F.env E e s') (.ref x) s := by
  obtain ⟨G, x0, l0, ob, vs, T, oT, ts, h1, h2, h3, h4, h5, h6, h7, h8, h9⟩ := R
  have TP : T ≠ F.g.P := fun q => ht (q ▸ h6)
  show wpAny F.g.M F.A (noteFrame (.ref x) F.env) _ _ _
  unfold noteFrame
  simp only [ff.2]
  refine wpAny_bind (wpAny_field h1 h3 h4 ?_)
  rw [if_pos (by simp)]
  refine wpAny_bind (wpAny_field h7 h8 h9 ?_)
  rw [if_pos (beq_self_eq_true _)]
  refine wpAny_pure ?_
  show wpAny F.g.M F.A (do
    if (← field (.ref x) 1) == .none then unsupported "frame.own-activation:exception-without-traceback"
    setFlight (.ref x) F.env.frame) _ _ _
  refine wpAny_bind (wpAny_field h1 h3 h4 ?_)
  rw [if_neg (by simp)]
  unfold setFlight
  refine wpAny_bind (wpAny_field h1 h3 h4 ?_)
  rw [if_pos (by simp), ff.2]
  have hz : 3 < ts.size := (Array.getElem?_eq_some_iff.mp h9).1
  exact wpAny_setField h7 h8 hz (h x _ ⟨G.upd h6 TP, x0, l0, ob, vs, T, _, _, (Heap.get?_update_ne _ _ _ _ h5.symm).trans h1, h2, h3, h4, h5, h6, Heap.get?_update_self _ h7 (Obj.isFreed_of_fields (Obj.data_mapFields h8 _)), Obj.data_mapFields h8 _, by simp [hz]⟩)
end
end Mine
end

section
open PySem PySem.W PyProof.Rows
set_option genSizeOf false
set_option genInjectivity false
namespace Mine
section
variable {F : Fx} {X : Prop} {σ : Ms} {K : Po}

theorem St.tab0 {s : Shared} (S : St F σ s) : F.s₀.heap.get? F.g.P ≠ none → True := fun _ => trivial

theorem J1.while {Kn Kb : Ms → Prop} {Kr : Ms → D → Prop} {test : PExpr} {body : List Stmt} {pos : Pos} (ff : X → FunF F ∧ F.s₀.heap.get? F.g.P ≠ none) (I : Nat → Ms → Prop) (n₀ : Nat) (h0 : I n₀ σ)
    (h : ∀ n σ₁, I n σ₁ → Jt F X σ₁ test fun b => (b = true → Js F X σ₁ body ⟨fun σ' => ∃ m, m < n ∧ I m σ', Kn, Kr⟩) ∧ (b = false → Kn σ₁)) : J1 F X σ (.While test body [] pos) ⟨Kn, Kb, Kr⟩ := fun s Q E S qn qb qr x => by
  refine wpAny_While (codeAny_whileLoop (fun n s => ∃ σ', I n σ' ∧ St F σ' s) (fun n s ⟨σ₁, i, S₁⟩ => ?_) n₀ ⟨σ, h0, S⟩)
  refine h n σ₁ i s _ _ S₁ (fun b s₂ k g => ?_) (fun xx s' h' tk e S' ne => raise_noted S' (ff xx).1 ne (x xx))
  have S₂ := S₁.step g
  cases b with
  | false => exact wpAny_execs_nil (qn _ s₂ (k.2 rfl) S₂)
  | true =>
    rw [if_pos rfl]
    exact k.1 rfl s₂ _ _ S₂ (fun σ' s' ⟨m, lt, i'⟩ S' => ⟨m, lt, σ', i', S'⟩) (fun σ' s' k' S' => qn σ' s' k' S') (fun σ' d v s' k' r S' => qr σ' d v s' k' r S')
      (fun xx e s' R => rz_noted (ff xx).1 (ff xx).2 R (x xx))
theorem J1.mid {Kn Kb : Ms → Prop} {Kr : Ms → D → Prop} {st : Stmt} (N : Ms → Prop) (h : J1 F X σ st ⟨N, Kb, Kr⟩) (k : ∀ σ', N σ' → Kn σ') : J1 F X σ st ⟨Kn, Kb, Kr⟩ := fun s Q E S qn qb qr x => h s Q E S (fun σ' s' m S' => qn σ' s' (k σ' m) S') qb qr x
theorem J1.ite {t : PExpr} {a b : List Stmt} {pos : Pos} (h : Jt F False σ t fun c => (c = true → Js F X σ a K) ∧ (c = false → Js F X σ b K)) : J1 F X σ (.If t a b pos) K := fun s Q E S qn qb qr x =>
  wpAny_If (h s _ E S (fun c s₁ k g => by
    cases c with
    | true => exact k.1 rfl s₁ Q E (S.step g) qn qb qr x
    | false => exact k.2 rfl s₁ Q E (S.step g) qn qb qr x) (fun f => f.elim))
theorem J1.ret {e : PExpr} {pos : Pos} (h : Je F False σ e fun d => K.r σ d) : J1 F X σ (.Return (some e) pos) K := fun s Q E S qn qb qr x =>
  wpAny_Return_some (h s _ E S (fun d v s₁ k r g => qr σ d v s₁ k r (S.step g)) (fun f => f.elim))
theorem J1.brk {pos : Pos} (h : K.b σ) : J1 F X σ (.Break pos) K := fun s Q E S qn qb qr x => wpAny_Break (qb σ s h S)
theorem J1.assert {t : PExpr} {m : Option PExpr} {pos : Pos} (h : Jt F False σ t fun c => c = true ∧ K.n σ) : J1 F X σ (.Assert t m pos) K := fun s Q E S qn qb qr x =>
  wpAny_Assert_holds (h s _ E S (fun c s₁ k g => ⟨k.1, qn σ s₁ k.2 (S.step g)⟩) (fun f => f.elim))

/-- x += e and x -= e of ints -/
theorem J1.aug {x : Str} {p pos : Pos} {op : Operator} {e : PExpr} {k : Nat} {i : Int} (hx : F.nm x = some (k, .local)) (hd : σ.loc[k]? = some (some (.int i))) (ho : op = .Add ∨ op = .Sub)
    (h : Je F False σ e fun d => ∃ j, d = .int j ∧ K.n ⟨σ.loc.set k (some (.int (if op = .Add then i + j else i - j))), σ.own⟩) : J1 F X σ (.AugAssign (.Name x p) op e pos) K := fun s Q E S qn qb qr xx => by
  obtain ⟨v₀, r₀, w⟩ := S.load hx hd
  obtain ⟨t, rfl⟩ := r₀
  refine wpAny_AugAssign_Name (w _ E (h s _ E S (fun d v s₁ k g₀ g => ?_) (fun f => f.elim)))
  obtain ⟨j, rfl, hc⟩ := k
  obtain ⟨u, rfl⟩ := g₀
  have S₁ := S.step g
  have fin : ∀ i', i' = (if op = .Add then i + j else i - j) → wpAny F.g.M F.A (storeName F.env x (.int i' s₁.toks)) (fun _ => Q .next) E { s₁ with toks := s₁.toks + 1 } := fun i' e => by
    subst e
    exact (S₁.step (Ge.tok s₁ (s₁.toks + 1)).fx).store (d := .int (if op = .Add then i + j else i - j)) hx ⟨_, rfl⟩ fun s₃ S₃ => qn _ s₃ hc S₃
  rcases ho with rfl | rfl
  · exact PySem.AutoIntOps.iadd_0 (fin _ rfl)
  · exact PySem.AutoIntOps.isub_0 (fin _ rfl)
end
end Mine
end

section
open PySem PySem.W PyProof.Rows
set_option genSizeOf false
set_option genInjectivity false
namespace Mine
section
variable {F : Fx} {X : Prop} {σ : Ms} {K : D → Prop}

theorem St.builtin {s : Shared} (S : St F σ s) {f : Str} {p : Pos} {k : Nat} {v : Value} {Q E : Value → Shared → Prop} (hn : F.nm f = some (k, .globalImplicit)) (hf : f ∈ freeNames) (hb : bootBuiltins f = some v)
    (hd : (f == ("__debug__" : Str)) = false) (h1 : f ≠ "__name__") (q : Q v s) : wpAny F.g.M F.A (eval (.Name f p) F.env) Q E s := by
  obtain ⟨mb, ⟨ob, es, ep, nb, r⟩, hm⟩ := S.ok.gl.nb
  obtain ⟨og, esg, epg, ng, rg⟩ := S.ok.gl.ns
  refine PySem.Calls.Name_function_global S.ok.kind (S.kindOf hn) (PySem.Calls.loadGlobal_builtin (mg := F.g.mg) (mb := mb) ?_ (S.ok.gl.free f hf) ?_ ((hm f h1).trans hb) q) hd
  · rw [S.ok.glob]; exact ⟨og, esg, epg, S.base _ _ S.ok.gl.p1 ng, rg⟩
  · rw [S.ok.blt]; exact ⟨ob, es, ep, S.base _ _ S.ok.gl.p2 nb, r⟩

/-- a built-in function -/
theorem Je.built {f : Str} {id : String} {e : PExpr} {es : List PExpr} {p pos : Pos} {k : Nat} (hn : F.nm f = some (k, .globalImplicit)) (hf : f ∈ freeNames) (hb : bootBuiltins f = some (.builtin id))
    (hd : (f == ("__debug__" : Str)) = false) (h1 : f ≠ "__name__")
    (h : Ja F X σ (e :: es) fun ds => ∃ d, K d ∧ ∀ s vs, St F σ s → VL (F.Z σ.own) s.heap ds vs → Yd F.g F.A (F.Z σ.own) s (call (.builtin id) vs) d)
    (hp : (backTo pos (starEach es F.env)).any (·.1) = false := by rfl) (he : ∀ env, starEach (e :: es) env = (false, eval e env) :: starEach es env := by intro _; rfl) :
    Je F X σ (.Call (.Name f p) (e :: es) [] pos) K := fun s Q E S q x =>
  Call_ (S.builtin hn hf hb hd h1 (PyProof.Rows.callWith_builtin1 (h pos s _ E S (fun ds vs s₁ k l g => by
    obtain ⟨d, kd, y⟩ := k
    exact y s₁ vs (S.step g) l Q E fun v s₂ r g' => q d v s₂ kd r (g.trans g'.fx)) x) (he _) hp))
theorem free_len : ("len" : Str) ∈ freeNames := by decide
theorem Je.len {e : PExpr} {p pos : Pos} {k : Nat} (hn : F.nm "len" = some (k, .globalImplicit)) (h : Je F X σ e fun d => ∃ n : Nat, dLen σ.own d = some n ∧ K (.int n))
    (he : ∀ env, starEach [e] env = (false, eval e env) :: starEach [] env := by intro _; rfl) : Je F X σ (.Call (.Name "len" p) [e] [] pos) K :=
  .built (id := "len") hn free_len (by decide +kernel) (by decide) (by decide) (.cons (h.mono fun d ⟨n, e, k⟩ => .nil ⟨_, k, fun s vs S l => by
    obtain ⟨v, us, rfl, r, l⟩ := l
    cases l
    exact len_ok S.own r e⟩) he) (by rfl) he
end
end Mine
end

section
open PySem PySem.W PyProof.Rows
namespace Mine
noncomputable def fnGet (i : Nat) : Fn := match PySem.Challenge.pw_ij0021_01.main.body[i]? with
  | some (.FunctionDef name args body _ _ _ scope _ _ _) => ⟨name, args, body, scope⟩
  | _ => ⟨"", ⟨[], [], none, [], [], none, []⟩, [], PySem.Challenge.pw_ij0021_01.main.scope⟩
theorem Ix.in {X : Prop} {ω : Own} {a b d : D} {K : D → Prop} (e : dIdx ω a b = some (some d)) (h : K d) : Ix X ω a b K := ⟨_, e, (fun d' q => by cases q; exact h), (fun q => nomatch q)⟩
theorem Ix.out {X : Prop} {ω : Own} {a : D} {i : Int} {K : D → Prop} (e : dIdx ω a (.int i) = some none) (x : X) (h0 : -(2 ^ 62) ≤ i) (h1 : i ≤ 2 ^ 62) (nt : ∀ ds, a ≠ .tup ds) : Ix X ω a (.int i) K := ⟨_, e, (fun d' q => nomatch q), fun _ => ⟨x, ⟨i, rfl, h0, h1⟩, nt⟩⟩
theorem Hp.mk {x : Option (Prop × D)} {p : Prop} {d : D} {Q : D → Prop} (e : x = some (p, d)) (hp : p) (h : Q d) : Hp x Q := by
  subst e
  exact ⟨hp, h⟩
/-- a call of a function of the text -/
structure Cl (F : Fx) (f : Str) (ds : List D) (K : D → Prop) : Prop where
  h : ∃ lv' d, lv' < F.lv ∧ Ct F.g lv' f ds (some d) ∧ K d
theorem St.cx {F : Fx} {σ : Ms} {s : Shared} (S : St F σ s) {lv' : Nat} (h : lv' < F.lv) : Cx F.g F.stack (F.Z σ.own) F.A lv' s where
  gl := S.ok.gl
  hh := S.ok.hh
  dp := by have := S.ok.dp; lia
  un := by have := S.ok.un; lia
  fr := S.ok.fr
  base := S.base
  tab := S.tab
  bare := S.bare
  os := S.os
  base0 := S.base0
  frs := S.frs
  zc := S.zok
  vz := F.volZ _
section
variable {F : Fx} {X : Prop} {σ : Ms} {K : D → Prop} {k : Nat} {pos : Pos}
theorem Je.call {f : Str} {e : PExpr} {es : List PExpr} {p : Pos} (hn : F.nm f = some (k, .globalImplicit)) (hf : f ∈ fnNames) (hd : (f == ("__debug__" : Str)) = false) (h : Ja F X σ (e :: es) fun ds => Cl F f ds K)
    (he : ∀ env, starEach (e :: es) env = (false, eval e env) :: starEach es env) : Je F X σ (.Call (.Name f p) (e :: es) [] pos) K := fun s Q E S q x => by
  obtain ⟨a, o, fd, h1, h2, h3, h4⟩ := S.ok.gl.fns f hf
  obtain ⟨og, esg, epg, ng, rg⟩ := S.ok.gl.ns
  refine Call_ (PySem.Calls.Name_function_global S.ok.kind (S.kindOf hn) (PySem.Calls.loadGlobal_global (mg := F.g.mg) (by rw [S.ok.glob]; exact ⟨og, esg, epg, S.base _ _ S.ok.gl.p1 ng, rg⟩) h1 ?_) hd)
  refine PyProof.Rows.callWith_def h3 (h pos s _ E S (fun ds vs s₁ c l g => ⟨(S.step g).base _ _ h4 h2, ?_⟩) x) (he _)
  obtain ⟨lv', d, lt, C, kd⟩ := c.h
  exact C F.stack (F.Z σ.own) F.A s₁ vs a Q E h1 ((S.step g).cx lt) l (fun d' v s' e r g' => by cases e; exact q d v s' kd r (g.trans g')) (fun e => nomatch e)
theorem free_min : ("min" : Str) ∈ freeNames := by decide
theorem free_max : ("max" : Str) ∈ freeNames := by decide
theorem Je.min {e e' : PExpr} {p : Pos} (hn : F.nm "min" = some (k, .globalImplicit)) (h : Ja F X σ [e, e'] fun ds => ∃ i j, ds = [.int i, .int j] ∧ K (.int (min i j)))
    (he : ∀ env, starEach [e, e'] env = (false, eval e env) :: starEach [e'] env) (hp : (backTo pos (starEach [e'] F.env)).any (·.1) = false) : Je F X σ (.Call (.Name "min" p) [e, e'] [] pos) K :=
  .built (id := "min") hn free_min (by decide +kernel) (by decide) (by decide) (fun po s Q E S q x => h po s Q E S (fun ds vs s' k l g => q ds vs s' (by
    obtain ⟨i, j, rfl, kd⟩ := k
    exact ⟨_, kd, fun s vs S l => by
      obtain ⟨v, us, rfl, ⟨t, rfl⟩, ⟨w, us', rfl, ⟨u, rfl⟩, l⟩⟩ := l
      cases l
      exact min_ok S.ok.hh⟩) l g) x) hp he
theorem Je.max {e e' : PExpr} {p : Pos} (hn : F.nm "max" = some (k, .globalImplicit)) (h : Ja F X σ [e, e'] fun ds => ∃ i j, ds = [.int i, .int j] ∧ K (.int (max i j)))
    (he : ∀ env, starEach [e, e'] env = (false, eval e env) :: starEach [e'] env) (hp : (backTo pos (starEach [e'] F.env)).any (·.1) = false) : Je F X σ (.Call (.Name "max" p) [e, e'] [] pos) K :=
  .built (id := "max") hn free_max (by decide +kernel) (by decide) (by decide) (fun po s Q E S q x => h po s Q E S (fun ds vs s' k l g => q ds vs s' (by
    obtain ⟨i, j, rfl, kd⟩ := k
    exact ⟨_, kd, fun s vs S l => by
      obtain ⟨v, us, rfl, ⟨t, rfl⟩, ⟨w, us', rfl, ⟨u, rfl⟩, l⟩⟩ := l
      cases l
      exact max_ok S.ok.hh⟩) l g) x) hp he
theorem Je.nm {x : Str} (h : ∃ k kd d, F.nm x = some (k, kd) ∧ σ.loc[k]? = some (some d) ∧ (x == ("__debug__" : Str)) = false ∧ K d) : Je F X σ (.Name x pos) K := let ⟨_, _, _, a, b, c, d⟩ := h; .name a b d c
theorem Je.ln {e : PExpr} {p : Pos} (h : (∃ k, F.nm "len" = some (k, .globalImplicit)) ∧ (∀ env, starEach [e] env = (false, eval e env) :: starEach [] env) ∧ Je F X σ e fun d => ∃ n : Nat, dLen σ.own d = some n ∧ K (.int n)) : Je F X σ (.Call (.Name "len" p) [e] [] pos) K :=
  let ⟨⟨_, a⟩, b, c⟩ := h; .len a c b
theorem J1.as {P : Po} {x : Str} {p : Pos} {e : PExpr} (h : ∃ k, F.nm x = some (k, .local) ∧ swapsWith e (some (.Name x p)) pos.line F.env = pure false ∧ Je F False σ e fun d => P.n ⟨σ.loc.set k (some d), σ.own⟩) : J1 F X σ (.Assign [.Name x p] e pos) P :=
  let ⟨_, a, b, c⟩ := h; .assign a c b
theorem J1.ag {P : Po} {x : Str} {p : Pos} {e : PExpr} {op : Operator} (h : ∃ k i, F.nm x = some (k, .local) ∧ σ.loc[k]? = some (some (.int i)) ∧ (op = .Add ∨ op = .Sub) ∧
    Je F False σ e fun d => ∃ j, d = .int j ∧ P.n ⟨σ.loc.set k (some (.int (if op = .Add then i + j else i - j))), σ.own⟩) : J1 F X σ (.AugAssign (.Name x p) op e pos) P :=
  let ⟨_, _, a, b, c, d⟩ := h; .aug a b c d
theorem Jp.some {e : PExpr} {K : Option Int → Prop} (h : Je F X σ e fun d => ∃ i, d = .int i ∧ K (Option.some i)) : Jp F X σ (Option.some e) K := h
theorem Jp.none {K : Option Int → Prop} (h : K Option.none) : Jp F X σ Option.none K := h
theorem Je.s_sp (q : K (.str [32])) : Je F X σ (.Constant (.str (Str.ofString " ")) k pos) K := .str rfl q
theorem Je.s_nil (q : K (.str [])) : Je F X σ (.Constant (.str (Str.ofString "")) k pos) K := .str rfl q
end
end Mine
end

section
open PySem PySem.W PyProof.Rows
set_option genSizeOf false
set_option genInjectivity false
namespace Mine
/-- a goal for the hand -/
structure Bx (p : Prop) : Prop where
  h : p
noncomputable def onSome {α : Type} (o : Option α) (K : α → Prop) : Prop := match o with
  | some c => K c
  | none => Bx False
theorem onSome.of {α : Type} {o : Option α} {K : α → Prop} {c : α} (e : o = some c) (h : K c) : onSome o K := by subst e; exact h
theorem onSome.get {α : Type} {o : Option α} {K : α → Prop} (h : onSome o K) : ∃ c, o = some c ∧ K c := by
  cases o with
  | none => exact h.h.elim
  | some c => exact ⟨c, rfl, h⟩
/-- op on ints asks nothing -/
noncomputable def wBin (op : Operator) (x y : D) (K : D → Prop) : Prop := match op, x, y with
  | .Add, .int i, .int j => K (.int (i + j))
  | .Sub, .int i, .int j => K (.int (i - j))
  | _, _, _ => onSome (dBin op x y) fun c => c.1 ∧ K c.2
theorem wBin.get {op : Operator} {x y : D} {K : D → Prop} (h : wBin op x y K) : Hp (dBin op x y) K := by
  have gen : onSome (dBin op x y) (fun c => c.1 ∧ K c.2) → Hp (dBin op x y) K := fun h => by
    obtain ⟨c, e, h1, h2⟩ := h.get
    exact Hp.mk e h1 h2
  cases op with
  | Add => cases x with
    | int i => cases y with
      | int j => exact ⟨trivial, h⟩
      | _ => exact gen h
    | _ => exact gen h
  | Sub => cases x with
    | int i => cases y with
      | int j => exact ⟨trivial, h⟩
      | _ => exact gen h
    | _ => exact gen h
  | _ => exact gen h

/-- an item: none is beyond the ends -/
noncomputable def Wi (X : Prop) (x y : D) (K : D → Prop) : Option D → Prop
  | some d => K d
  | none => Bx (X ∧ (∃ i : Int, y = .int i ∧ -(2 ^ 62) ≤ i ∧ i ≤ 2 ^ 62) ∧ ∀ ds, x ≠ .tup ds)
theorem Wi.get {X : Prop} {ω : Own} {x y : D} {K : D → Prop} (h : onSome (dIdx ω x y) (Wi X x y K)) : Ix X ω x y K := by
  obtain ⟨r, e, k⟩ := h.get
  cases r with
  | some d => exact .in e k
  | none => exact ⟨_, e, (fun d q => nomatch q), fun _ => k.h⟩
noncomputable def subsOk : PExpr → Bool
  | .Name _ _ => true
  | .Constant _ _ _ => true
  | .BinOp _ _ _ _ => true
  | .UnaryOp _ (.Constant _ _ _) _ => true
  | _ => false
noncomputable def plainArg : PExpr → Bool
  | .Starred _ _ => false
  | _ => true
theorem plainArg.each {e : PExpr} {r : List PExpr} (z : plainArg e = true) (env : Env) : starEach (e :: r) env = (false, eval e env) :: starEach r env := by
  cases e with
  | Starred _ _ => exact nomatch z
  | _ => rfl
noncomputable def isM1 : PExpr → Bool
  | .UnaryOp .USub (.Constant (.int i) _ _) _ => i == 1
  | _ => false
theorem isM1.of {e : PExpr} (h : isM1 e = true) : ∃ k p q, e = .UnaryOp .USub (.Constant (.int 1) k p) q := by
  cases e with
  | UnaryOp op e q => cases op with
    | USub => cases e with
      | Constant c k p => cases c with
        | int i => exact ⟨k, p, q, by rw [show i = 1 from eq_of_beq h]⟩
        | _ => exact nomatch h
      | _ => exact nomatch h
    | _ => exact nomatch h
  | _ => exact nomatch h
noncomputable def noComp : PExpr → Bool
  | .ListComp _ _ _ _ => false
  | .SetComp _ _ _ _ => false
  | .DictComp _ _ _ _ _ => false
  | .List [] _ => false
  | _ => true
theorem noComp.swaps {e : PExpr} (z : noComp e = true) (t : Option PExpr) (n : Nat) (env : Env) : swapsWith e t n env = pure false := by
  cases e with
  | ListComp _ _ _ _ => exact nomatch z
  | SetComp _ _ _ _ => exact nomatch z
  | DictComp _ _ _ _ _ => exact nomatch z
  | _ => rfl
noncomputable def two? : List D → Option (Int × Int)
  | [.int i, .int j] => some (i, j)
  | _ => none
theorem two?.of {ds : List D} {p : Int × Int} (h : two? ds = some p) : ds = [.int p.1, .int p.2] := by
  cases ds with
  | nil => exact no h
  | cons a r => cases a with
    | int i => cases r with
      | nil => exact no h
      | cons b r => cases b with
        | int j => cases r with
          | nil => cases h; rfl
          | cons _ _ => exact no h
        | _ => exact no h
    | _ => exact no h

section
variable (F : Fx) (X : Prop) (σ : Ms)
noncomputable def Wt (we : PExpr → (D → Prop) → Prop) : Nat → PExpr → (Bool → Prop) → Prop
  | 0, e, K => Bx (Jt F X σ e K)
  | n + 1, e, K => match e with
    | .UnaryOp .Not e _ => Wt we n e fun b => K (!b)
    | .BoolOp .And [] _ => K true
    | .BoolOp .Or [] _ => K false
    | .BoolOp .And (e :: r) p => Wt we n e fun b => (b = false → K false) ∧ (b = true → Wt we n (.BoolOp .And r p) K)
    | .BoolOp .Or (e :: r) p => Wt we n e fun b => (b = true → K true) ∧ (b = false → Wt we n (.BoolOp .Or r p) K)
    | .Compare a [op] [b] _ => bif behindInMarks op b then Bx (Jt F X σ e K) else we a fun x => we b fun y => onSome (cop op x y) K
    | .Name _ _ => we e fun d => onSome (dTru σ.own d) K
    | .Call _ _ _ _ => we e fun d => onSome (dTru σ.own d) K
    | e => Bx (Jt F X σ e K)
noncomputable def Wp (we : PExpr → (D → Prop) → Prop) : Option PExpr → (Option Int → Prop) → Prop
  | none, K => K none
  | some e, K => we e fun d => onSome d.int? fun i => K (some i)
noncomputable def Wa (we : PExpr → (D → Prop) → Prop) : List PExpr → (List D → Prop) → Prop
  | [], K => K []
  | e :: r, K => bif plainArg e then we e fun d => Wa we r fun ds => K (d :: ds) else Bx False
noncomputable def We : Nat → PExpr → (D → Prop) → Prop
  | 0, e, K => Bx (Je F X σ e K)
  | n + 1, e, K => match e with
    | .Name x _ => bif x == ("__debug__" : Str) then Bx (Je F X σ e K) else match F.nm x with
      | some (k, _) => onSome (σ.loc[k]?.join) K
      | none => Bx (Je F X σ e K)
    | .Constant c _ _ => match c with
      | .int i => K (.int i)
      | .none => K .none
      | .bool b => K (.bool b)
      | .str x => bif decide (x.cps.size ≤ 1000) then K (.str x.cps.toList) else Bx False
      | _ => Bx (Je F X σ e K)
    | .BinOp a op b _ => We n a fun x => We n b fun y => wBin op x y K
    | .Compare a [op] [b] _ => bif behindInMarks op b then Bx (Je F X σ e K) else We n a fun x => We n b fun y => onSome (cop op x y) fun c => K (.bool c)
    | .IfExp t a b _ => Wt F X σ (We n) n t fun c => (c = true → We n a K) ∧ (c = false → We n b K)
    | .UnaryOp .USub (.Constant (.int i) _ _) _ => K (.int (-i))
    | .Tuple es _ _ => Wa (We n) es fun ds => ds.length ≤ lim ∧ K (.tup ds)
    | .List es _ => Wa (We n) es fun ds => ds.length ≤ lim ∧ K (.lst ds)
    | .Subscript a s _ => match s with
      | .Slice lo hi none _ => We n a fun x => Wp (We n) lo fun i => Wp (We n) hi fun j => onSome (dCut x i j) K
      | .Slice none none (some st) _ => bif isM1 st then We n a fun x => onSome x.lst? fun ds => K (.lst ds.reverse) else Bx (Je F X σ e K)
      | s => bif subsOk s then We n a fun x => We n s fun y => onSome (dIdx σ.own x y) (Wi X x y K) else Bx (Je F X σ e K)
    | .Call (.Name f p) (e1 :: es) [] q => bif f == ("__debug__" : Str) then Bx False else match F.nm f with
      | some (_, .globalImplicit) => bif plainArg e1 then
          (bif fnNames.contains f then Wa (We n) (e1 :: es) fun ds => Cl F f ds K
          else bif f == ("len" : Str) && es.isEmpty then We n e1 fun d => onSome (dLen σ.own d) fun k => K (.int k)
          else match es with
            | [e2] => bif plainArg e2 then
                (bif f == ("min" : Str) then Wa (We n) [e1, e2] fun ds => onSome (two? ds) fun p => K (.int (min p.1 p.2))
                else bif f == ("max" : Str) then Wa (We n) [e1, e2] fun ds => onSome (two? ds) fun p => K (.int (max p.1 p.2))
                else Bx (Je F X σ e K)) else Bx False
            | _ => Bx (Je F X σ e K))
        else Bx False
      | _ => Bx (Je F X σ e K)
    | e => Bx (Je F X σ e K)
end
section
variable {F : Fx} {X : Prop} {σ : Ms} {K : D → Prop}
theorem Wt.ok {we : PExpr → (D → Prop) → Prop} (hw : ∀ e K, we e K → Je F X σ e K) : ∀ {n : Nat} {e : PExpr} {K : Bool → Prop}, Wt F X σ we n e K → Jt F X σ e K := by
  intro n
  induction n with
  | zero => exact fun h => h.h
  | succ n ih =>
    intro e K h
    cases e with
    | UnaryOp op e p => cases op with
      | Not => exact .not (ih h)
      | _ => exact h.h
    | BoolOp op es p => cases op with
      | And => cases es with
        | nil => exact .and_nil h
        | cons e r => exact .and fun s Q E S q x => ih h s Q E S (fun b s' k g => q b s' ⟨k.1, fun z => ih (k.2 z)⟩ g) x
      | Or => cases es with
        | nil => exact .or_nil h
        | cons e r => exact .or fun s Q E S q x => ih h s Q E S (fun b s' k g => q b s' ⟨k.1, fun z => ih (k.2 z)⟩ g) x
    | Compare a ops bs p => cases ops with
      | nil => exact h.h
      | cons op ops => cases ops with
        | cons _ _ => exact h.h
        | nil => cases bs with
          | nil => exact h.h
          | cons b bs => cases bs with
            | cons _ _ => exact h.h
            | nil =>
              have h : (bif behindInMarks op b then Bx (Jt F X σ (.Compare a [op] [b] p) K) else we a fun x => we b fun y => onSome (cop op x y) K) := h
              cases z : behindInMarks op b with
              | true => rw [z] at h; exact h.h
              | false =>
                rw [z] at h
                exact .cmp ((hw _ _ h).mono fun x k => (hw _ _ k).mono fun y k => k.get) z
    | Name x p => exact .val ((hw _ _ h).mono fun d k => k.get)
    | Call f a k p => exact .val ((hw _ _ h).mono fun d k => k.get)
    | _ => exact h.h
theorem Wa.ok {we : PExpr → (D → Prop) → Prop} (hw : ∀ e K, we e K → Je F X σ e K) : ∀ {es : List PExpr} {K : List D → Prop}, Wa we es K → Ja F X σ es K := by
  intro es
  induction es with
  | nil => exact fun h => .nil h
  | cons e r ih =>
    intro K h
    have h : (bif plainArg e then we e fun d => Wa we r fun ds => K (d :: ds) else Bx False) := h
    cases z : plainArg e with
    | false => rw [z] at h; exact h.h.elim
    | true =>
      rw [z] at h
      exact .cons ((hw _ _ h).mono fun d k => ih k) (plainArg.each z)
theorem Jp.mono {o : Option PExpr} {K K' : Option Int → Prop} (h : Jp F X σ o K) (k : ∀ i, K i → K' i) : Jp F X σ o K' := by
  cases o with
  | none => exact k _ h
  | some e => exact Je.mono h fun d ⟨i, e1, k1⟩ => ⟨i, e1, k _ k1⟩
theorem Wp.ok {we : PExpr → (D → Prop) → Prop} (hw : ∀ e K, we e K → Je F X σ e K) {o : Option PExpr} {K : Option Int → Prop} (h : Wp we o K) : Jp F X σ o K := by
  cases o with
  | none => exact h
  | some e =>
    refine (hw _ _ h).mono fun d k => ?_
    obtain ⟨i, e1, k⟩ := k.get
    exact ⟨i, int_of e1, k⟩
theorem We.ok : ∀ {n : Nat} {e : PExpr} {K : D → Prop}, We F X σ n e K → Je F X σ e K := by
  intro n
  induction n with
  | zero => exact fun h => h.h
  | succ n ih =>
    intro e K h
    cases e with
    | Name x p =>
      have h : (bif x == ("__debug__" : Str) then Bx (Je F X σ (.Name x p) K) else match F.nm x with
        | some (k, _) => onSome (σ.loc[k]?.join) K
        | none => Bx (Je F X σ (.Name x p) K)) := h
      cases z : x == ("__debug__" : Str) with
      | true => rw [z] at h; exact h.h
      | false =>
        rw [z] at h
        cases y : F.nm x with
        | none => simp only [y, cond_false] at h; exact h.h
        | some q =>
          simp only [y, cond_false] at h
          obtain ⟨d, e1, k⟩ := h.get
          refine .name (k := q.1) (kd := q.2) (d := d) y ?_ k z
          cases w : σ.loc[q.1]? with
          | none => rw [w] at e1; exact nomatch e1
          | some o => rw [w] at e1; exact congrArg some e1
    | Constant c k p => cases c with
      | int i => exact .int h
      | none => exact .none h
      | bool b => exact .bool h
      | str x =>
        have h : (bif decide (x.cps.size ≤ 1000) then K (.str x.cps.toList) else Bx False) := h
        by_cases z : x.cps.size ≤ 1000
        · rw [decide_eq_true z] at h
          exact .str (l := x.cps.toList) rfl h (by rw [Array.length_toList]; exact Nat.le_trans z (by decide))
        · rw [decide_eq_false z] at h
          exact h.h.elim
      | _ => exact h.h
    | BinOp a op b p => exact .bin ((ih h).mono fun x k => (ih k).mono fun y k => k.get)
    | Compare a ops bs p => cases ops with
      | nil => exact h.h
      | cons op ops => cases ops with
        | cons _ _ => exact h.h
        | nil => cases bs with
          | nil => exact h.h
          | cons b bs => cases bs with
            | cons _ _ => exact h.h
            | nil =>
              have h : (bif behindInMarks op b then Bx (Je F X σ (.Compare a [op] [b] p) K) else We F X σ n a fun x => We F X σ n b fun y => onSome (cop op x y) fun c => K (.bool c)) := h
              cases z : behindInMarks op b with
              | true => rw [z] at h; exact h.h
              | false =>
                rw [z] at h
                exact .cmp ((ih h).mono fun x k => (ih k).mono fun y k => k.get) z
    | IfExp t a b p => exact .ifexp fun s Q E S q x => Wt.ok (fun _ _ => ih) h s Q E S (fun b s' k g => q b s' ⟨fun z => ih (k.1 z), fun z => ih (k.2 z)⟩ g) x
    | UnaryOp op e p => cases op with
      | USub => cases e with
        | Constant c k p => cases c with
          | int i => exact .neg h
          | _ => exact h.h
        | _ => exact h.h
      | _ => exact h.h
    | Tuple es k p => exact .tup (Wa.ok (fun _ _ => ih) h)
    | List es p => exact .lst (Wa.ok (fun _ _ => ih) h)
    | Subscript a s p =>
      have gen : (bif subsOk s then We F X σ n a fun x => We F X σ n s fun y => onSome (dIdx σ.own x y) (Wi X x y K) else Bx (Je F X σ (.Subscript a s p) K)) → Je F X σ (.Subscript a s p) K := fun h => by
        cases z : subsOk s with
        | false => rw [z] at h; exact h.h
        | true =>
          rw [z] at h
          refine .idx ((ih h).mono fun x k => (ih k).mono fun y k => Wi.get k) ?_
          cases s with
          | Name _ _ => intro _ _ _; rfl
          | Constant _ _ _ => intro _ _ _; rfl
          | BinOp _ _ _ _ => intro _ _ _; rfl
          | UnaryOp op e p => cases e with
            | Constant _ _ _ => intro _ _ _; rfl
            | _ => exact nomatch z
          | _ => exact nomatch z
      cases s with
      | Slice lo hi st sp => cases st with
        | none =>
          exact .cut ((ih h).mono fun x k => (Wp.ok (fun _ _ => ih) k).mono fun i k => (Wp.ok (fun _ _ => ih) k).mono fun j k => k.get)
        | some st =>
          cases lo with
          | some _ => exact gen h
          | none => cases hi with
            | some _ => exact gen h
            | none =>
              have h : (bif isM1 st then We F X σ n a fun x => onSome x.lst? fun ds => K (.lst ds.reverse) else Bx (Je F X σ (.Subscript a (.Slice none none (some st) sp) p) K)) := h
              cases z : isM1 st with
              | false => rw [z] at h; exact h.h
              | true =>
                rw [z] at h
                obtain ⟨k, p, q, rfl⟩ := isM1.of z
                refine .rev ((ih h).mono fun x k => ?_)
                obtain ⟨ds, e1, k⟩ := k.get
                exact ⟨ds, lst_of e1, k⟩
      | _ => exact gen h
    | Call f args kw q => cases f with
      | Name f p => cases args with
        | nil => exact h.h
        | cons e1 es => cases kw with
          | cons _ _ => exact h.h
          | nil =>
            have h : (bif f == ("__debug__" : Str) then Bx False else match (generalizing := false) F.nm f with
              | some (_, .globalImplicit) => bif plainArg e1 then
                  (bif fnNames.contains f then Wa (We F X σ n) (e1 :: es) fun ds => Cl F f ds K
                  else bif f == ("len" : Str) && es.isEmpty then We F X σ n e1 fun d => onSome (dLen σ.own d) fun k => K (.int k)
                  else match (generalizing := false) es with
                    | [e2] => bif plainArg e2 then
                        (bif f == ("min" : Str) then Wa (We F X σ n) [e1, e2] fun ds => onSome (two? ds) fun p => K (.int (min p.1 p.2))
                        else bif f == ("max" : Str) then Wa (We F X σ n) [e1, e2] fun ds => onSome (two? ds) fun p => K (.int (max p.1 p.2))
                        else Bx (Je F X σ (.Call (.Name f p) (e1 :: es) [] q) K)) else Bx False
                    | _ => Bx (Je F X σ (.Call (.Name f p) (e1 :: es) [] q) K))
                else Bx False
              | _ => Bx (Je F X σ (.Call (.Name f p) (e1 :: es) [] q) K)) := h
            cases z : f == ("__debug__" : Str) with
            | true => rw [z] at h; exact h.h.elim
            | false =>
              rw [z] at h
              cases y : F.nm f with
              | none => simp only [y, cond_false] at h; exact h.h
              | some r =>
                obtain ⟨k, kd⟩ := r
                cases kd with
                | globalImplicit =>
                  simp only [y, cond_false] at h
                  cases w : plainArg e1 with
                  | false => rw [w] at h; exact h.h.elim
                  | true =>
                    rw [w, cond_true] at h
                    cases v : fnNames.contains f with
                    | true =>
                      rw [v] at h
                      exact .call y (List.contains_iff_mem.mp v) z (Wa.ok (fun _ _ => ih) h) (plainArg.each w)
                    | false =>
                      rw [v, cond_false] at h
                      cases u : f == ("len" : Str) && es.isEmpty with
                      | true =>
                        rw [u] at h
                        rw [Bool.and_eq_true] at u
                        cases eq_of_beq u.1
                        cases es with
                        | cons _ _ => exact nomatch u.2
                        | nil =>
                          refine .len y ((ih h).mono fun d k => ?_) (plainArg.each w)
                          obtain ⟨m, e3, k⟩ := k.get
                          exact ⟨m, e3, k⟩
                      | false =>
                        rw [u, cond_false] at h
                        cases es with
                        | nil => exact h.h
                        | cons e2 es => cases es with
                          | cons _ _ => exact h.h
                          | nil =>
                            have h : (bif plainArg e2 then
                              (bif f == ("min" : Str) then Wa (We F X σ n) [e1, e2] fun ds => onSome (two? ds) fun p => K (.int (min p.1 p.2))
                              else bif f == ("max" : Str) then Wa (We F X σ n) [e1, e2] fun ds => onSome (two? ds) fun p => K (.int (max p.1 p.2))
                              else Bx (Je F X σ (.Call (.Name f p) [e1, e2] [] q) K)) else Bx False) := h
                            cases t : plainArg e2 with
                            | false => rw [t] at h; exact h.h.elim
                            | true =>
                              rw [t, cond_true] at h
                              have hp : (backTo q (starEach [e2] F.env)).any (·.1) = false := by rw [plainArg.each t]; rfl
                              cases s1 : f == ("min" : Str) with
                              | true =>
                                rw [s1] at h
                                cases eq_of_beq s1
                                refine .min y (fun po s Q E S q x => Wa.ok (fun _ _ => ih) h po s Q E S (fun ds vs s' k l g => q ds vs s' ?_ l g) x) (plainArg.each w) hp
                                obtain ⟨m, e3, k⟩ := k.get
                                exact ⟨_, _, two?.of e3, k⟩
                              | false =>
                                rw [s1, cond_false] at h
                                cases s2 : f == ("max" : Str) with
                                | true =>
                                  rw [s2] at h
                                  cases eq_of_beq s2
                                  refine .max y (fun po s Q E S q x => Wa.ok (fun _ _ => ih) h po s Q E S (fun ds vs s' k l g => q ds vs s' ?_ l g) x) (plainArg.each w) hp
                                  obtain ⟨m, e3, k⟩ := k.get
                                  exact ⟨_, _, two?.of e3, k⟩
                                | false => rw [s2] at h; exact h.h
                | _ => simp only [y, cond_false] at h; exact h.h
      | _ => exact h.h
    | _ => exact h.h
end
end Mine
end

section
open PySem PySem.W PyProof.Rows
set_option genSizeOf false
set_option genInjectivity false
namespace Mine
section
variable (F : Fx) (X : Prop) (m : Nat)
noncomputable def Was (σ : Ms) (x : Str) (e : PExpr) (K : Ms → Prop) (bx : Prop) : Prop := bif noComp e then match F.nm x with
    | some (k, .local) => We F False σ m e fun d => K ⟨σ.loc.set k (some d), σ.own⟩
    | _ => Bx bx
  else Bx bx
noncomputable def Wag (σ : Ms) (x : Str) (op : Operator) (e : PExpr) (K : Ms → Prop) (bx : Prop) : Prop := match F.nm x with
    | some (k, .local) => match op with
      | .Add => onSome ((σ.loc[k]?.join).bind D.int?) fun i => We F False σ m e fun d => onSome d.int? fun j => K ⟨σ.loc.set k (some (.int (i + j))), σ.own⟩
      | .Sub => onSome ((σ.loc[k]?.join).bind D.int?) fun i => We F False σ m e fun d => onSome d.int? fun j => K ⟨σ.loc.set k (some (.int (i - j))), σ.own⟩
      | _ => Bx bx
    | _ => Bx bx
/-- a block, as far as it runs by itself -/
noncomputable def Ws : Nat → List Stmt → Po → Ms → Prop
  | 0, ss, K, σ => Bx (Js F X σ ss K)
  | _ + 1, [], ⟨kn, _, _⟩, σ => kn σ
  | n + 1, st :: rest, ⟨kn, kb, kr⟩, σ => match st with
    | .Assign [.Name x p] e q => Was F m σ x e (Ws n rest ⟨kn, kb, kr⟩) (J1 F X σ st ⟨Ws n rest ⟨kn, kb, kr⟩, kb, kr⟩)
    | .AugAssign (.Name x p) op e q => Wag F m σ x op e (Ws n rest ⟨kn, kb, kr⟩) (J1 F X σ st ⟨Ws n rest ⟨kn, kb, kr⟩, kb, kr⟩)
    | .Return (some e) _ => We F False σ m e (kr σ)
    | .Break _ => kb σ
    | .Assert t _ _ => Wt F False σ (We F False σ m) m t fun c => c = true ∧ Ws n rest ⟨kn, kb, kr⟩ σ
    | .If t a b _ => Wt F False σ (We F False σ m) m t fun c => (c = true → Ws n a ⟨Ws n rest ⟨kn, kb, kr⟩, kb, kr⟩ σ) ∧ (c = false → Ws n b ⟨Ws n rest ⟨kn, kb, kr⟩, kb, kr⟩ σ)
    | st => Bx (J1 F X σ st ⟨Ws n rest ⟨kn, kb, kr⟩, kb, kr⟩)
end
section
variable {F : Fx} {X : Prop} {σ : Ms} {K : Po}
theorem J1.mono {st : Stmt} {K' : Po} (h : J1 F X σ st K) (kn : ∀ σ, K.n σ → K'.n σ) (kb : ∀ σ, K.b σ → K'.b σ) (kr : ∀ σ d, K.r σ d → K'.r σ d) : J1 F X σ st K' := fun s Q E S qn qb qr x =>
  h s Q E S (fun σ' s' k S' => qn σ' s' (kn σ' k) S') (fun σ' s' k S' => qb σ' s' (kb σ' k) S') (fun σ' d v s' k r S' => qr σ' d v s' (kr σ' d k) r S') x
theorem Js.mono {st : List Stmt} {K' : Po} (h : Js F X σ st K) (kn : ∀ σ, K.n σ → K'.n σ) (kb : ∀ σ, K.b σ → K'.b σ) (kr : ∀ σ d, K.r σ d → K'.r σ d) : Js F X σ st K' := fun s Q E S qn qb qr x =>
  h s Q E S (fun σ' s' k S' => qn σ' s' (kn σ' k) S') (fun σ' s' k S' => qb σ' s' (kb σ' k) S') (fun σ' d v s' k r S' => qr σ' d v s' (kr σ' d k) r S') x
theorem Jt.mono {e : PExpr} {K K' : Bool → Prop} (h : Jt F X σ e K) (k : ∀ d, K d → K' d) : Jt F X σ e K' := fun s Q E S q x => h s Q E S (fun d s' kd => q d s' (k d kd)) x
theorem loc_of {σ : Ms} {k : Nat} {i : Int} (h : (σ.loc[k]?.join).bind D.int? = some i) : σ.loc[k]? = some (some (.int i)) := by
  cases w : σ.loc[k]? with
  | none => rw [w] at h; exact nomatch h
  | some o => cases o with
    | none => rw [w] at h; exact nomatch h
    | some d =>
      rw [w] at h
      rw [int_of (show d.int? = some i from h)]
theorem Was.ok {m : Nat} {x : Str} {p q : Pos} {e : PExpr} {N : Ms → Prop} {bx : Prop} (h : Was F m σ x e N bx) (hb : bx → J1 F X σ (.Assign [.Name x p] e q) ⟨N, K.b, K.r⟩) : J1 F X σ (.Assign [.Name x p] e q) ⟨N, K.b, K.r⟩ := by
  unfold Was at h
  cases z : noComp e with
  | false => rw [z] at h; exact hb h.h
  | true =>
    rw [z, cond_true] at h
    cases y : F.nm x with
    | none => simp only [y] at h; exact hb h.h
    | some r =>
      obtain ⟨k, kd⟩ := r
      cases kd with
      | «local» =>
        simp only [y] at h
        exact .assign y (We.ok h) (noComp.swaps z _ _ _)
      | _ => simp only [y] at h; exact hb h.h
theorem Wag.ok {m : Nat} {x : Str} {p q : Pos} {op : Operator} {e : PExpr} {N : Ms → Prop} {bx : Prop} (h : Wag F m σ x op e N bx) (hb : bx → J1 F X σ (.AugAssign (.Name x p) op e q) ⟨N, K.b, K.r⟩) : J1 F X σ (.AugAssign (.Name x p) op e q) ⟨N, K.b, K.r⟩ := by
  unfold Wag at h
  cases y : F.nm x with
  | none => simp only [y] at h; exact hb h.h
  | some r =>
    obtain ⟨k, kd⟩ := r
    cases kd with
    | «local» =>
      simp only [y] at h
      cases op with
      | Add =>
        obtain ⟨i, e1, h⟩ := h.get
        refine .aug y (loc_of e1) (.inl rfl) ((We.ok h).mono fun d k => ?_)
        obtain ⟨j, e2, k⟩ := k.get
        exact ⟨j, int_of e2, by rw [if_pos rfl]; exact k⟩
      | Sub =>
        obtain ⟨i, e1, h⟩ := h.get
        refine .aug y (loc_of e1) (.inr rfl) ((We.ok h).mono fun d k => ?_)
        obtain ⟨j, e2, k⟩ := k.get
        exact ⟨j, int_of e2, by rw [if_neg (by decide)]; exact k⟩
      | _ => exact hb h.h
    | _ => simp only [y] at h; exact hb h.h
theorem Ws.ok {m : Nat} : ∀ {n : Nat} {σ : Ms} {ss : List Stmt} {K : Po}, Ws F X m n ss K σ → Js F X σ ss K := by
  intro n
  induction n with
  | zero => exact fun h => h.h
  | succ n ih =>
    rintro σ ss ⟨kn, kb, kr⟩ h
    cases ss with
    | nil => exact .nil h
    | cons st rest =>
      have up : J1 F X σ st ⟨Ws F X m n rest ⟨kn, kb, kr⟩, kb, kr⟩ → Js F X σ (st :: rest) ⟨kn, kb, kr⟩ := fun h => .cons (h.mono (fun _ k => ih k) (fun _ k => k) (fun _ _ k => k))
      have box : Bx (J1 F X σ st ⟨Ws F X m n rest ⟨kn, kb, kr⟩, kb, kr⟩) → Js F X σ (st :: rest) ⟨kn, kb, kr⟩ := fun h => up h.h
      cases st with
      | Assign ts e q => cases ts with
        | nil => exact box h
        | cons t ts => cases t with
          | Name x p => cases ts with
            | cons _ _ => exact box h
            | nil =>
              have h : Was F m σ x e (Ws F X m n rest ⟨kn, kb, kr⟩) (J1 F X σ (.Assign [.Name x p] e q) ⟨Ws F X m n rest ⟨kn, kb, kr⟩, kb, kr⟩) := h
              exact up (h.ok (K := ⟨kn, kb, kr⟩) fun z => z)
          | _ => exact box h
      | AugAssign t op e q => cases t with
        | Name x p =>
          have h : Wag F m σ x op e (Ws F X m n rest ⟨kn, kb, kr⟩) (J1 F X σ (.AugAssign (.Name x p) op e q) ⟨Ws F X m n rest ⟨kn, kb, kr⟩, kb, kr⟩) := h
          exact up (h.ok (K := ⟨kn, kb, kr⟩) fun z => z)
        | _ => exact box h
      | Return e q => cases e with
        | none => exact box h
        | some e =>
          have h : We F False σ m e (kr σ) := h
          exact .cons (J1.ret (K := ⟨_, kb, kr⟩) (We.ok h))
      | Break q => exact .cons (J1.brk (K := ⟨_, kb, kr⟩) h)
      | Assert t ms q =>
        have h : Wt F False σ (We F False σ m) m t (fun c => c = true ∧ Ws F X m n rest ⟨kn, kb, kr⟩ σ) := h
        exact up (J1.assert (h.ok fun _ _ => We.ok))
      | If t a b q =>
        have h : Wt F False σ (We F False σ m) m t (fun c => (c = true → Ws F X m n a ⟨Ws F X m n rest ⟨kn, kb, kr⟩, kb, kr⟩ σ) ∧ (c = false → Ws F X m n b ⟨Ws F X m n rest ⟨kn, kb, kr⟩, kb, kr⟩ σ)) := h
        exact up (J1.ite ((h.ok fun _ _ => We.ok).mono fun c k => ⟨fun z => ih (k.1 z), fun z => ih (k.2 z)⟩))
      | _ => exact box h
end
end Mine
end

section
open PySem PySem.W PySem.W.X PyProof.Rows
set_option maxRecDepth 100000
namespace Mine
local macro_rules | `(tactic| x_close) => `(tactic| (solve_by_elim))
theorem append_got {prog : Program} {w : World} {A : Around} {h : Heap} {gs : Array GenState} {d : Drawn} {tk : Nat} {os : OsState} {Q E : Value → Shared → Prop} {l : Addr} {vs : Array Value} {n : Nat} {t : Tok} (hh : A.handled = none)
    (ho : h.get? l = some { cls := .type "list", data := .seq vs n })
    (q : ∀ a h' y, y = "list.append" → Mem h h' [] [(a, { cls := .type "builtin_function_or_method", data := .fields #[.builtin y, .ref l] })] → Q (.ref a) ⟨h', gs, d, tk, os⟩) :
    wpAny (model prog w) A (call (.builtin "list.__getattribute__") [.ref l, .str (Str.ofString "append") t]) Q E ⟨h, gs, d, tk, os⟩ := by
  have y1 : (toString "list" ++ toString "." ++ toString ({ cps := { toList := [97, 112, 112, 101, 110, 100] } } : Str).toString) = "list.append" := by rfl
  x_run
end Mine
namespace Mine
open PySem
theorem attr_append {prog : Program} {w : World} {A : Around} {s : Shared} {Q E : Value → Shared → Prop} {l : Addr} {vs : Array Value} {n : Nat} (hh : A.handled = none)
    (ho : s.heap.get? l = some { cls := .type "list", data := .seq vs n })
    (q : ∀ a h' tk, (∀ b o, s.heap.get? b = some o → h'.get? b = some o) → h'.get? a = some { cls := .type "builtin_function_or_method", data := .fields #[.builtin "list.append", .ref l] } → s.heap.get? a = none → Q (.ref a) { s with heap := h', toks := tk }) :
    wpAny (model prog w) A (getAttr (.ref l) "append" true) Q E s := by
  obtain ⟨hp, g, d, tk, os⟩ := s
  have hT : ∀ (t : Nat), Shared.TypeIs ⟨hp, g, d, t, os⟩ (.ref l) "list" := fun _ => ⟨_, ho, rfl⟩
  have f3 := PySem.F.slot_list_getattribute.lookup
  have f4 := PySem.F.slot_list_getattribute.bind (.ref l)
  unfold getAttr getAttrBy
  repeat (any_goals (first | assumption | ((with_reducible show wpAny _ _ (call (Value.builtin "list.__getattribute__") _ _) _ _ _); refine append_got hh ho (fun a h' y hy D => ?_)) | wp_step))
  subst hy
  exact q a h' (tk + 1) (fun b o e => D.keep b o e (by simp [away])) (D.nw _ (.head _)).1 (D.nw _ (.head _)).2
end Mine
end

section
open PySem PySem.W PySem.W.X PyProof.Rows
set_option maxRecDepth 100000
namespace Mine
theorem bound_append {prog : Program} {w : World} {A : Around} {s : Shared} {Q E : Value → Shared → Prop} {m l : Addr} {vs : Array Value} {n : Nat} {x : Value}
    (hm : s.heap.get? m = some { cls := .type "builtin_function_or_method", data := .fields #[.builtin "list.append", .ref l] })
    (ho : s.heap.get? l = some { cls := .type "list", data := .seq vs n }) (hsz : vs.size ≤ sizeLine)
    (h : ∀ h', Heap.SameBut l s.heap h' → h'.get? l = some { cls := .type "list", data := .seq (vs.push x) (n + 1) } → Q .none { s with heap := h' }) :
    wpAny (model prog w) A (call (.ref m) [x]) Q E s := by
  refine wpAny_call (codeAny_of_tree ?_)
  show wpAny _ A.in1 (callAny (.ref m) ⟨[x], []⟩) _ _ s
  simp only [callAny]
  refine wpAny_bind (wpAny_load hm ?_)
  show wpAny _ _ (do checkBoundCall "list.append" ⟨[.ref l, x], []⟩; again (.builtin "list.append" ⟨[.ref l, x], []⟩)) _ _ s
  obtain ⟨sig, hs⟩ : ∃ sig, Manifest.signature? "list.append" = some sig := Option.isSome_iff_exists.mp (by decide +kernel)
  have hchk : Bind.checkArgs "list.append" { sig with full := s!"{Bind.lastOf "list"}.{Bind.lastOf "list.append"}" } ⟨[.ref l, x], []⟩ = pure () := by
    have : sig = (Manifest.signature? "list.append").get (by decide +kernel) := by simp [hs]
    subst this
    kernel_rfl
  have hT : s.TypeIs (.ref l) "list" := ⟨_, ho, rfl⟩
  have hk : builtinKind "list.append" = some .method := by decide +kernel
  have hv : Manifest.varargsMethods.contains "list.append" = false := by decide +kernel
  have hsub : isSubtype (.type "list") (.type "module") = pure false := by rw [isSubtype_type]; kernel_rfl
  refine wpAny_bind ?_
  unfold checkBoundCall
  simp only [hs, hk, hv]
  refine wpAny_bind (wpAny_isInstance hT hsub ?_)
  rw [if_neg (by decide)]
  have hsub2 : isSubtype (.type "list") (.type "type") = pure false := by rw [isSubtype_type]; kernel_rfl
  have hty : ∀ (Q : Bool → Shared → Prop) (E : Value → Shared → Prop), Q false s → wpAny (model prog w) A.in1 (isType (.ref l)) Q E s := fun Q E q => by
    unfold isType
    repeat (any_goals (first | assumption | wp_step))
  refine wpAny_bind (hty _ _ ?_)
  rw [if_neg (by decide)]
  refine wpAny_bind (wpAny_typeOf hT ?_)
  show wpAny _ _ (Bind.checkArgs "list.append" { sig with full := s!"{Bind.lastOf "list"}.{Bind.lastOf "list.append"}" } ⟨[.ref l, x], []⟩) _ _ s
  rw [hchk]
  refine wpAny_pure (wpAny_pure ⟨Code.quiet_builtin _ (by decide +kernel), codeAny_builtin entry_list_append ?_⟩)
  show wpAny _ _ (updateSeq l (·.push x) >>= fun _ => ret .none) _ _ s
  refine wpAny_bind (wpAny_updateSeq ho rfl (wpAny_pure (h _ (Heap.SameBut.update ..) ?_)))
  rw [Heap.get?_update_self _ ho (by rw [mapSeq_push]; rfl), mapSeq_push]
end Mine
end

section
open PySem PySem.W PyProof.Rows
set_option genSizeOf false
set_option genInjectivity false
namespace Mine
/-- the list at a has other items -/
noncomputable def Own.upd (ω : Own) (a : Addr) (ds : List D) : Own := match ω with
  | [] => []
  | x :: r => if x.1 = a then (a, ds) :: r else x :: Own.upd r a ds
theorem Own.find_upd (ω : Own) (a b : Addr) (ds : List D) : (ω.upd a ds).find b = if b = a then (ω.find a).map fun _ => ds else ω.find b := by
  induction ω with
  | nil => by_cases h : b = a <;> simp [Own.upd, Own.find, h]
  | cons x r ih =>
    unfold Own.upd
    by_cases h : x.1 = a
    · rw [if_pos h]
      by_cases q : b = a
      · subst q; simp [Own.find, h]
      · rw [if_neg q]
        simp only [Own.find]
        rw [if_neg (fun e => q e.symm), if_neg (fun e => q (e.symm.trans h))]
    · rw [if_neg h]
      simp only [Own.find]
      by_cases q : b = a
      · subst q
        rw [if_neg h, ih, if_pos rfl, if_neg h]; simp
      · by_cases z : x.1 = b
        · rw [if_pos z, if_neg q, if_pos z]
        · rw [if_neg z, ih, if_neg q, if_neg q, if_neg z]
section
variable {F : Fx} {X : Prop} {σ : Ms} {K : Po}

/-- one's own list gets other items -/
theorem St.setl {s : Shared} (S : St F σ s) {a : Addr} {ds ds' : List D} {vs' : List Value} {h' : Heap} {tk : Nat} (hf : σ.own.find a = some ds) (sb : Heap.SameBut a s.heap h') (p : PL h' a vs') (l : VL (F.Z σ.own) s.heap ds' vs') (n : ds'.length ≤ lim) :
    St F ⟨σ.loc, σ.own.upd a ds'⟩ { s with heap := h', toks := tk } := by
  have aZ : F.Z σ.own a := .inr (.inr (.inr ⟨ds, hf⟩))
  have kp := F.kpZ (ω := σ.own) sb aZ
  obtain ⟨v1, v2, v3, v4⟩ := S.ownv a ds hf
  have hZ : ∀ b, F.Z (σ.own.upd a ds') b → F.Z σ.own b := fun b z => by
    rcases z with z | z | z | ⟨es, z⟩
    · exact .inl z
    · exact .inr (.inl z)
    · exact .inr (.inr (.inl z))
    · rw [Own.find_upd] at z
      by_cases q : b = a
      · exact q ▸ aZ
      · rw [if_neg q] at z; exact .inr (.inr (.inr ⟨es, z⟩))
  have more : ∀ {d v}, Vr (F.Z σ.own) s.heap d v → Vr (F.Z (σ.own.upd a ds')) h' d v := fun {d v} r => Vr.more (fun b o _ z => hZ b z) d (Vr.kp kp d r)
  have morel : ∀ {d v}, VL (F.Z σ.own) s.heap d v → VL (F.Z (σ.own.upd a ds')) h' d v := fun {d v} r => VL.more (fun b o _ z => hZ b z) d (VL.kp kp d r)
  have aP : a ≠ F.g.P := fun q => v1 (.inr (.inl q))
  obtain ⟨m, n0, f⟩ := S.ns
  refine S.chg sb aZ v3 aP ?_ ⟨m, ?_, fun y k kd d h1 h2 => ?_⟩ (fun y c h => ?_) (fun b es e => ?_) hZ (fun p m => more (S.gh p m)) (fun b es e => ?_)
  · obtain ⟨q, e⟩ := p
    exact ⟨_, e, fun vs q => nomatch q⟩
  · exact n0.sameBut sb (fun q => v2 q.symm)
  · obtain ⟨v, l, r⟩ := f y k kd d h1 h2
    refine ⟨v, ?_, more r⟩
    cases kd with
    | «local» => exact l
    | cell =>
      obtain ⟨c, h3, h4⟩ := l
      exact ⟨c, h3, h4.sameBut sb (fun q => v4 y (q ▸ mem_of_lookup h3))⟩
    | _ => exact l.elim
  · obtain ⟨h1, h2, v, h3⟩ := S.cells y c h
    exact ⟨h1, h2, v, h3.sameBut sb (fun q => v4 y (q ▸ mem_of_lookup h))⟩
  · rw [Own.find_upd] at e
    by_cases q : b = a
    · subst q
      rw [if_pos rfl, hf] at e
      cases e
      exact ⟨.inr (.inr (.inr ⟨ds', by rw [Own.find_upd, if_pos rfl, hf]; rfl⟩)), vs', p, morel l, n⟩
    · rw [if_neg q] at e
      obtain ⟨_, vs, ⟨nn, pe⟩, l2, n2⟩ := S.own b es e
      exact ⟨.inr (.inr (.inr ⟨es, by rw [Own.find_upd, if_neg q]; exact e⟩)), vs, ⟨nn, (sb.2 b q).trans pe⟩, morel l2, n2⟩
  · rw [Own.find_upd] at e
    by_cases q : b = a
    · subst q; exact ⟨v1, v2, v3, v4⟩
    · rw [if_neg q] at e; exact S.ownv b es e

/-- a new list of one's own -/
theorem St.grow {s : Shared} (S : St F σ s) {ds : List D} {vs : List Value} {tk : Nat} (l : VL (F.Z σ.own) s.heap ds vs) (n : ds.length ≤ lim) :
    St F ⟨σ.loc, (s.heap.objs.size, ds) :: σ.own⟩ { s with heap := s.heap.push { cls := .type "list", data := .seq vs.toArray }, toks := tk } := by
  have gp := Ge.push s { cls := .type "list", data := .seq vs.toArray } tk
  have S' := S.step gp.fx
  have new : s.heap.get? s.heap.objs.size = none := by
    cases z : s.heap.get? s.heap.objs.size with
    | none => rfl
    | some o => exact absurd (Heap.lt_size z) (Nat.lt_irrefl _)
  have nZ : ¬ F.Z σ.own s.heap.objs.size := S.zok.new
  have hZ : ∀ b o, s.heap.get? b = some o → F.Z ((s.heap.objs.size, ds) :: σ.own) b → F.Z σ.own b := fun b o e z => by
    rcases z with z | z | z | ⟨es, z⟩
    · exact .inl z
    · exact .inr (.inl z)
    · exact .inr (.inr (.inl z))
    · by_cases q : s.heap.objs.size = b
      · rw [← q, new] at e; exact no e
      · rw [Own.find, if_neg q] at z; exact .inr (.inr (.inr ⟨es, z⟩))
  have more : ∀ {d v}, Vr (F.Z σ.own) s.heap d v → Vr (F.Z ((s.heap.objs.size, ds) :: σ.own)) (s.heap.push { cls := .type "list", data := .seq vs.toArray }) d v := fun {d v} r => gp.vr (Vr.more hZ d r)
  have morel : ∀ {d v}, VL (F.Z σ.own) s.heap d v → VL (F.Z ((s.heap.objs.size, ds) :: σ.own)) (s.heap.push { cls := .type "list", data := .seq vs.toArray }) d v := fun {d v} r => gp.vl (VL.more hZ d r)
  obtain ⟨m, n0, f⟩ := S.ns
  refine { ok := S.ok, gw := S'.gw, base := S'.base, tab := S'.tab, bare := S'.bare, os := S'.os, ns := ⟨m, n0.keeps gp.kp, fun y k kd d h1 h2 => ?_⟩, cells := S'.cells, own := fun b es e => ?_, ownv := fun b es e => ?_, zok := fun b z => ?_, base0 := S'.base0, frs := S'.frs, prot := fun p m => ⟨(S'.prot p m).1, fun z => (S.prot p m).2 (hZ _ _ (S.prot p m).1 z)⟩, gh := fun p m => more (S.gh p m) }
  · obtain ⟨v, l, r⟩ := f y k kd d h1 h2
    refine ⟨v, ?_, more r⟩
    cases kd with
    | «local» => exact l
    | cell =>
      obtain ⟨c, h3, h4⟩ := l
      exact ⟨c, h3, h4.keeps gp.kp⟩
    | _ => exact l.elim
  · have e : Own.find ((s.heap.objs.size, ds) :: σ.own) b = some es := e
    have z : F.Z ((s.heap.objs.size, ds) :: σ.own) b := .inr (.inr (.inr ⟨es, e⟩))
    by_cases q : s.heap.objs.size = b
    · rw [Own.find, if_pos q] at e
      cases e
      subst q
      exact ⟨z, vs, ⟨_, Heap.get?_push_size _ rfl⟩, morel l, n⟩
    · rw [Own.find, if_neg q] at e
      obtain ⟨_, ws, ⟨nn, pe⟩, l2, n2⟩ := S.own b es e
      exact ⟨z, ws, ⟨nn, gp.kp _ _ pe⟩, morel l2, n2⟩
  · have e : Own.find ((s.heap.objs.size, ds) :: σ.own) b = some es := e
    by_cases q : s.heap.objs.size = b
    · subst q
      refine ⟨fun z => nZ (.inl z), fun z => nZ (.inr (.inl z)), S.new0 new, fun x z => nZ (.inr (.inr (.inl ⟨x, z⟩)))⟩
    · rw [Own.find, if_neg q] at e
      exact S.ownv b es e
  · by_cases q : b = s.heap.objs.size
    · exact ⟨_, by rw [q]; exact Heap.get?_push_size _ rfl⟩
    · have z : F.Z σ.own b := by
        rcases z with z | z | z | ⟨es, z⟩
        · exact .inl z
        · exact .inr (.inl z)
        · exact .inr (.inr (.inl z))
        · have z : Own.find ((s.heap.objs.size, ds) :: σ.own) b = some es := z
          rw [Own.find, if_neg (fun e => q e.symm)] at z; exact .inr (.inr (.inr ⟨es, z⟩))
      obtain ⟨o, e⟩ := S.zok b z
      exact ⟨o, gp.kp _ _ e⟩
theorem Own.find_new {ω : Own} {a : Addr} {ds : List D} : Own.find ((a, ds) :: ω) a = some ds := by simp [Own.find]

/-- x = [] -/
theorem J1.newl {x : Str} {p q pos : Pos} {k : Nat} (hx : F.nm x = some (k, .local)) (h : ∀ a, σ.own.find a = none → K.n ⟨σ.loc.set k (some (.own a)), (a, []) :: σ.own⟩) : J1 F X σ (.Assign [.Name x p] (.List [] q) pos) K := fun s Q E S qn qb qr x => by
  refine wpAny_Assign_Name (wpAny_List (args_nil ⟨Nat.zero_le _, ?_⟩)) (by rfl)
  have S' := S.grow (ds := []) (vs := []) (tk := s.toks) rfl (Nat.zero_le _)
  refine S'.store (d := .own s.heap.objs.size) hx rfl fun s' S'' => qn _ s' (h _ ?_) S''
  cases z : σ.own.find s.heap.objs.size with
  | none => rfl
  | some ds => exact absurd (.inr (.inr (.inr ⟨ds, z⟩))) S.zok.new
/-- add = x.append -/
theorem J1.meth {x y : Str} {p q r pos : Pos} {k k' : Nat} {kd : NameKind} {a : Addr} {ds : List D} (hx : F.nm x = some (k, .local)) (hy : F.nm y = some (k', kd)) (hl : σ.loc[k']? = some (some (.own a))) (hf : σ.own.find a = some ds)
    (hd : (y == ("__debug__" : Str)) = false) (h : K.n ⟨σ.loc.set k (some (.meth a)), σ.own⟩) : J1 F X σ (.Assign [.Name x p] (.Attribute (.Name y q) (Str.ofString "append") r) pos) K := fun s Q E S qn qb qr x => by
  obtain ⟨v, rv, w⟩ := S.load hy hl
  cases rv
  obtain ⟨_, vs, ⟨nn, pe⟩, _, _⟩ := S.own a ds hf
  refine wpAny_Assign_Name (Attribute_name (wpAny_Name (w _ E (attr_append S.ok.hh pe fun b h' tk k1 k2 k3 => ?_)) hd)) (by rfl)
  have ge : Ge s { s with heap := h', toks := tk } := ⟨k1, rfl, rfl⟩
  refine (S.step ge.fx).store (d := .meth a) hx ⟨b, rfl, fun z => ?_, k2⟩ fun s' S'' => qn _ s' h S''
  obtain ⟨o, e⟩ := S.zok b z
  rw [k3] at e; exact no e
end
end Mine
end

section
open PySem PySem.W PyProof.Rows
set_option genSizeOf false
set_option genInjectivity false
namespace Mine
theorem callWith_meth {M : Model} {A : Around} {E : Value → Shared → Prop} {s : Shared} {pos : Pos} {u l : Addr} {env : Env} {e : PExpr} {Q : Value → Shared → Prop}
    (h : wpAny M A (spliced (backTo pos (starEach [e] env))) (fun vs s₁ => MethAt s₁.heap u l ∧ wpAny M A (call (.ref u) vs) Q E s₁) E s)
    (he : starEach [e] env = (false, eval e env) :: starEach [] env) : wpAny M A (callWith pos (.ref u) [] (backTo pos (starEach [e] env)) []) Q E s := by
  rw [he] at h ⊢
  unfold callWith
  have h2 : wpAny M A (evalArgs (.ref u) true (backTo pos ((false, eval e env) :: starEach [] env)) []) (fun x s₁ => MethAt s₁.heap u l ∧ wpAny M A (call (.ref u) ([] ++ x.pos) x.kw) Q E s₁) E s := PySem.Calls.evalArgs_plain h
  refine wpAny_bind (wpAny_holding (wpAny_mono h2 (fun x s₁ h₁ => wpAny_bind (wpAny_standAt ?_)) fun _ _ x => x))
  obtain ⟨ho, hcall⟩ := h₁
  have hp : ((backTo pos ((false, eval e env) :: starEach [] env)).any (·.1) || ([] : List (Option Str × Sem Value)).any (·.1.isNone)) = false := by rfl
  simp only [hp]
  refine wpAny_bind (m := keeperOf (.ref u)) ?_
  unfold keeperOf
  refine wpAny_bind (wpAny_load ho ?_)
  simp only [show (Value.type "builtin_function_or_method" != Value.type "method") = true by decide, show (Value.type "builtin_function_or_method" == Value.type "builtin_function_or_method" || Value.type "builtin_function_or_method" == Value.type "method-wrapper") = true by decide, if_true]
  refine wpAny_pure ?_
  exact wpAny_bind (wpAny_mono hcall (fun r s₂ hr => wpAny_bind (wpAny_holding (wpAny_point (wpAny_pure hr)))) fun _ _ x => x)
section
variable {F : Fx} {X : Prop} {σ : Ms} {K : Po}

theorem St.app {s : Shared} (S : St F σ s) {a : Addr} {ds : List D} {d : D} {v : Value} {h' : Heap} {vs : List Value} {n : Nat} (hf : σ.own.find a = some ds) (al : VL (F.Z σ.own) s.heap ds vs) (r : Vr (F.Z σ.own) s.heap d v) (hn : ds.length < lim)
    (sb : Heap.SameBut a s.heap h') (e : h'.get? a = some { cls := .type "list", data := .seq (vs.toArray.push v) n }) : St F ⟨σ.loc, σ.own.upd a (ds ++ [d])⟩ { s with heap := h' } :=
  S.setl hf sb ⟨n, by rw [e]; simp⟩ (VL.append al ⟨v, [], rfl, r, rfl⟩) (by rw [List.length_append]; exact hn)
/-- add(e) -/
theorem J1.add {x : Str} {p q pos : Pos} {k : Nat} {kd : NameKind} {e : PExpr} {a : Addr} (hx : F.nm x = some (k, kd)) (hl : σ.loc[k]? = some (some (.meth a))) (hd : (x == ("__debug__" : Str)) = false)
    (he : plainArg e = true) (hi : interactive F.env = false)
    (h : Je F False σ e fun d => ∃ ds, σ.own.find a = some ds ∧ ds.length < lim ∧ K.n ⟨σ.loc, σ.own.upd a (ds ++ [d])⟩) : J1 F X σ (.Expr (.Call (.Name x p) [e] [] q) pos) K := fun s Q E S qn qb qr xx => by
  obtain ⟨v, rv, w⟩ := S.load hx hl
  obtain ⟨m, rfl, mz, mt⟩ := rv
  refine wpAny_Expr_any (Call_ (wpAny_Name (w _ E (callWith_meth (l := a) (args_cons (h s _ E S (fun d v s₁ k r g => args_nil ?_) (fun f => f.elim)) (plainArg.each he _)) (plainArg.each he _))) hd)) hi (by rfl)
  obtain ⟨ds, hf, hn, kn⟩ := k
  have S₁ := S.step g
  obtain ⟨_, vs, ⟨nn, pe⟩, al, n2⟩ := S₁.own a ds hf
  refine ⟨g.kp _ _ (fun z => mz (F.volZ _ _ z)) mt, bound_append (g.kp _ _ (fun z => mz (F.volZ _ _ z)) mt) pe (by rw [List.size_toArray, al.length]; exact lim_line n2) fun h' sb e2 => ?_⟩
  exact qn _ _ kn (S₁.app hf al r hn sb e2)
/-- o.append(e) -/
theorem J1.append {o : PExpr} {p q pos : Pos} {e : PExpr} (he : plainArg e = true) (hi : interactive F.env = false) (hb : attributeBase o "append" F.env (eval o F.env) = eval o F.env) (hline : (p.endLine == q.line) = true)
    (h : Je F False σ o fun x => ∃ a ds, x = .own a ∧ σ.own.find a = some ds ∧ Je F False σ e fun d => ds.length < lim ∧ K.n ⟨σ.loc, σ.own.upd a (ds ++ [d])⟩) :
    J1 F X σ (.Expr (.Call (.Attribute o (Str.ofString "append") p) [e] [] q) pos) K := fun s Q E S qn qb qr xx => by
  have each := plainArg.each (r := []) he F.env
  refine wpAny_Expr_any (wpAny_Call_append hb (by rw [each]; rfl) hline (by rw [each]; rfl) (h s _ E S (fun x v s₁ k r g => ?_) (fun f => f.elim))) hi (by rfl)
  obtain ⟨a, ds, rfl, hf, k⟩ := k
  cases r
  have S₁ := S.step g
  have k2 := k s₁ (fun y s₂ => wpAny F.g.M F.A (call (.builtin "list.append") [.ref a, y]) (fun _ s₃ => Q .next s₃) E s₂) E S₁ (fun d v s₂ k r2 g2 => ?_) (fun f => f.elim)
  · obtain ⟨_, vs, ⟨nn, pe⟩, al, n2⟩ := S₁.own a ds hf
    exact ⟨a, vs.toArray, rfl, ⟨_, nn, pe, rfl, rfl, rfl⟩, k2⟩
  · obtain ⟨hn, kn⟩ := k
    have S₂ := S₁.step g2
    obtain ⟨_, vs, ⟨nn, pe⟩, al, n2⟩ := S₂.own a ds hf
    exact append_at pe (fun h' sb e2 => qn _ _ kn (S₂.app hf al r2 hn sb e2)) (by rw [List.size_toArray, al.length]; exact lim_line n2)
end
end Mine
end

section
open PySem PySem.W PyProof.Rows
set_option genSizeOf false
set_option genInjectivity false
namespace Mine
section
variable {F : Fx} {X : Prop} {σ : Ms} {K : Po}

theorem ext_ge {s : Shared} {h' : Heap} (x : Heap.ExtBut s.heap.objs.size s.heap h') : Ge s { s with heap := h' } :=
  ⟨fun b o e => x b o (Nat.ne_of_lt (Heap.lt_size e)) e, rfl, rfl⟩
/-- two values go to two names -/
theorem St.two {s : Shared} (S : St F σ s) {x y : Str} {k k' : Nat} {a b : D} {va vb : Value} {Q : Unit → Shared → Prop} {E : Value → Shared → Prop} (hx : F.nm x = some (k, .local)) (hy : F.nm y = some (k', .local))
    (ra : Vr (F.Z σ.own) s.heap a va) (rb : Vr (F.Z σ.own) s.heap b vb) (h : ∀ s', St F ⟨(σ.loc.set k (some a)).set k' (some b), σ.own⟩ s' → Q () s') :
    wpAny F.g.M F.A (storeName F.env x va) (fun _ s₁ => wpAny F.g.M F.A (storeName F.env y vb) Q E s₁) E s := by
  obtain ⟨m, n0, f⟩ := S.ns
  have hm : ∀ m', s.heap.Ns F.env.locals m' → m' = m := fun m' n' => by
    obtain ⟨o, es, ep, a1, a2, a3, a4⟩ := n0
    obtain ⟨o', es', ep', b1, b2, b3, b4⟩ := n'
    rw [a1] at b1
    cases b1
    rw [a2] at b2
    cases b2
    exact funext fun y => (b4 y).symm.trans (a4 y)
  refine wpAny_storeName_local (S.kindOf hx) n0 (fun h' hn hs => ?_) (by rw [S.ok.kind]; rfl)
  have S₁ := S.put (tk := s.toks + 1) hx ra (fun m' n' => by rw [hm m' n']; exact hn) hs
  exact S₁.store (d := b) hy (Vr.kp (F.kpZ (ω := σ.own) hs (F.lZ _)) b rb) fun s' S' => h s' S'
theorem J1.tup2 {x y : Str} {p p' tp pos : Pos} {kc : Nat} {e : PExpr} {k k' : Nat} (hx : F.nm x = some (k, .local)) (hy : F.nm y = some (k', .local)) (hk : k ≠ k')
    (hs : swapsWithSole [.Tuple [.Name x p, .Name y p'] kc tp] e pos.line F.env = pure false)
    (hw : swappedStores [.Tuple [.Name x p, .Name y p'] kc tp] e F.env = pure none ∨ swappedStores [.Tuple [.Name x p, .Name y p'] kc tp] e F.env = pure (some [x, y]))
    (h : Je F False σ e fun d => ∃ a b, d = .tup [a, b] ∧ K.n ⟨(σ.loc.set k (some a)).set k' (some b), σ.own⟩) : J1 F X σ (.Assign [.Tuple [.Name x p, .Name y p'] kc tp] e pos) K := fun s Q E S qn qb qr xx => by
  rcases hw with hw | hw
  · refine Assign_Tuple (h s _ E S (fun d v s₁ k g₀ g => ?_) (fun f => f.elim)) hs hw
    obtain ⟨a, b, rfl, kn⟩ := k
    obtain ⟨l, vs, rfl, lz, n, ⟨nn, pt⟩, al⟩ := g₀
    obtain ⟨va, us, rfl, ra, ⟨vb, us', rfl, rb, hnil⟩⟩ := al
    cases hnil
    have S₁ := S.step g
    refine assign_Tuple_tuple S.ok.hh ⟨_, pt, rfl, nn, rfl⟩ (by rfl) (by rfl) fun h' ex => ?_
    have ge := ext_ge ex
    have S₂ := S₁.step ge.fx
    show wpAny F.g.M F.A (do holding [vb] (PySem.assign (.Name x p) F.env va); do holding [] (PySem.assign (.Name y p') F.env vb); pure ()) _ _ _
    refine wpAny_bind (wpAny_holding (wpAny_assign_Name (wpAny_mono (S₂.two (Q := fun _ s' => Q .next s') hx hy (ge.vr ra) (ge.vr rb) fun s' S' => qn _ s' kn S') (fun _ s₃ h₃ => ?_) fun _ _ x => x)))
    exact wpAny_bind (wpAny_holding (wpAny_assign_Name (wpAny_mono h₃ (fun _ s₄ h₄ => wpAny_pure h₄) fun _ _ x => x)))
  · refine Assign_Tuple_swapped (h s _ E S (fun d v s₁ k g₀ g => ?_) (fun f => f.elim)) hs hw
    obtain ⟨a, b, rfl, kn⟩ := k
    obtain ⟨l, vs, rfl, lz, n, ⟨nn, pt⟩, al⟩ := g₀
    obtain ⟨va, us, rfl, ra, ⟨vb, us', rfl, rb, hnil⟩⟩ := al
    cases hnil
    have S₁ := S.step g
    refine unpackItems_tuple (items := #[va, vb]) S.ok.hh ⟨_, pt, rfl, nn, rfl⟩ fun h' ex => ?_
    have ge := ext_ge ex
    have S₂ := S₁.step ge.fx
    show wpAny F.g.M F.A (do holding [va] (bindName F.env y vb); do holding [] (bindName F.env x va); pure ()) _ _ _
    rw [List.set_comm _ _ (fun q => hk q)] at kn
    refine wpAny_bind (wpAny_holding (wpAny_bindName (wpAny_mono (S₂.two (Q := fun _ s' => Q .next s') hy hx (ge.vr rb) (ge.vr ra) fun s' S' => qn _ s' kn S') (fun _ s₃ h₃ => ?_) fun _ _ x => x)))
    exact wpAny_bind (wpAny_holding (wpAny_bindName (wpAny_mono h₃ (fun _ s₄ h₄ => wpAny_pure h₄) fun _ _ x => x)))

/-- what is frozen -/
noncomputable def fz (a : Addr) (ds : List D) : D → D
  | .own b => if b = a then .lst ds else .own b
  | d => d
noncomputable def Own.del (ω : Own) (a : Addr) (ds : List D) : Own := match ω with
  | [] => []
  | x :: r => if x.1 = a then Own.del r a ds else (x.1, x.2.map (fz a ds)) :: Own.del r a ds
theorem Own.find_del (ω : Own) (a b : Addr) (ds : List D) : (ω.del a ds).find b = if b = a then none else (ω.find b).map fun es => es.map (fz a ds) := by
  induction ω with
  | nil => by_cases h : b = a <;> simp [Own.del, Own.find, h]
  | cons x r ih =>
    unfold Own.del
    by_cases h : x.1 = a
    · rw [if_pos h, ih]
      by_cases q : b = a
      · rw [if_pos q, if_pos q]
      · rw [if_neg q, if_neg q, Own.find, if_neg (fun e => q (e.symm.trans h))]
    · rw [if_neg h, Own.find, ih]
      by_cases z : x.1 = b
      · rw [if_pos z, if_neg (fun q => h (z.trans q)), Own.find, if_pos z]; rfl
      · rw [if_neg z, Own.find, if_neg z]
theorem fz_ok {Z Z' : Addr → Prop} {h : Heap} {a : Addr} {ds : List D} (hZ : ∀ b, Z' b → Z b) (na : ¬ Z' a) {vs : List Value} (p : PL h a vs) (l : VL Z h ds vs) (n : ds.length ≤ lim) : ∀ {d v}, Vr Z h d v → Vr Z' h (fz a ds d) v := fun {d v} r => by
  have more := Vr.more (Z := Z) (Z' := Z') (h := h) (fun b o _ z => hZ b z) d r
  cases d with
  | own b =>
    show Vr Z' h (if b = a then .lst ds else .own b) v
    by_cases q : b = a
    · subst q
      rw [if_pos rfl]
      cases r
      exact ⟨b, vs, rfl, na, n, p, VL.more (fun b o _ z => hZ b z) ds l⟩
    · rw [if_neg q]; exact more
  | _ => exact more
theorem fz_all {Z Z' : Addr → Prop} {h : Heap} {a : Addr} {ds : List D} (f : ∀ {d v}, Vr Z h d v → Vr Z' h (fz a ds d) v) : ∀ {es vs}, VL Z h es vs → VL Z' h (es.map (fz a ds)) vs := by
  intro es
  induction es with
  | nil => exact fun l => l
  | cons e r ih => rintro vs ⟨v, us, rfl, x, y⟩; exact ⟨v, us, rfl, f x, ih y⟩
/-- a list is no longer one's own -/
theorem St.freeze {s : Shared} (S : St F σ s) {a : Addr} {ds : List D} (hf : σ.own.find a = some ds) : St F ⟨σ.loc.map (Option.map (fz a ds)), σ.own.del a ds⟩ s := by
  obtain ⟨v1, v2, v3, v4⟩ := S.ownv a ds hf
  have hZ : ∀ b, F.Z (σ.own.del a ds) b → F.Z σ.own b := fun b z => by
    rcases z with z | z | z | ⟨es, z⟩
    · exact .inl z
    · exact .inr (.inl z)
    · exact .inr (.inr (.inl z))
    · rw [Own.find_del] at z
      by_cases q : b = a
      · rw [if_pos q] at z; exact no z
      · rw [if_neg q, Option.map_eq_some_iff] at z
        obtain ⟨es', z, _⟩ := z
        exact .inr (.inr (.inr ⟨es', z⟩))
  have na : ¬ F.Z (σ.own.del a ds) a := fun z => by
    rcases z with z | z | ⟨x, z⟩ | ⟨es, z⟩
    · exact v1 z
    · exact v2 z
    · exact v4 x z
    · rw [Own.find_del, if_pos rfl] at z; exact no z
  obtain ⟨_, vs, p, l, n⟩ := S.own a ds hf
  have f1 : ∀ {d v}, Vr (F.Z σ.own) s.heap d v → Vr (F.Z (σ.own.del a ds)) s.heap (fz a ds d) v := fun {d v} r => fz_ok hZ na p l n r
  obtain ⟨m, n0, f⟩ := S.ns
  refine { ok := S.ok, gw := S.gw, base := S.base, tab := S.tab, bare := S.bare, os := S.os, ns := ⟨m, n0, fun y k kd d h1 h2 => ?_⟩, cells := S.cells, own := fun b es e => ?_, ownv := fun b es e => ?_, zok := fun b z => S.zok b (hZ b z), base0 := S.base0, frs := S.frs, prot := fun p m => ⟨(S.prot p m).1, fun z => (S.prot p m).2 (hZ _ z)⟩, gh := fun p m => Vr.more (fun b o _ z => hZ b z) p.1 (S.gh p m) }
  · have h2 : (σ.loc.map (Option.map (fz a ds)))[k]? = some (some d) := h2
    rw [List.getElem?_map, Option.map_eq_some_iff] at h2
    obtain ⟨o, h3, h4⟩ := h2
    rw [Option.map_eq_some_iff] at h4
    obtain ⟨d', rfl, rfl⟩ := h4
    obtain ⟨v, l, r⟩ := f y k kd d' h1 h3
    exact ⟨v, l, f1 r⟩
  · have e : (σ.own.del a ds).find b = some es := e
    have z : F.Z (σ.own.del a ds) b := .inr (.inr (.inr ⟨es, e⟩))
    rw [Own.find_del] at e
    by_cases q : b = a
    · rw [if_pos q] at e; exact no e
    · rw [if_neg q, Option.map_eq_some_iff] at e
      obtain ⟨es', e2, rfl⟩ := e
      obtain ⟨_, ws, p2, l2, n2⟩ := S.own b es' e2
      exact ⟨z, ws, p2, fz_all f1 l2, by rw [List.length_map]; exact n2⟩
  · have e : (σ.own.del a ds).find b = some es := e
    rw [Own.find_del] at e
    by_cases q : b = a
    · rw [if_pos q] at e; exact no e
    · rw [if_neg q, Option.map_eq_some_iff] at e
      obtain ⟨es', e2, rfl⟩ := e
      exact S.ownv b es' e2
theorem Js.freeze {ss : List Stmt} {a : Addr} {ds : List D} (hf : σ.own.find a = some ds) (h : Js F X ⟨σ.loc.map (Option.map (fz a ds)), σ.own.del a ds⟩ ss K) : Js F X σ ss K := fun s Q E S qn qb qr x => h s Q E (S.freeze hf) qn qb qr x
end
end Mine
end

section
open PySem PySem.W PyProof.Rows
set_option genSizeOf false
set_option genInjectivity false
namespace Mine
/-- lists, tuples and bound methods are kept -/
noncomputable def Kpl (h h' : Heap) : Prop := ∀ b o, (o.cls = .type "list" ∨ o.cls = .type "tuple" ∨ o.cls = .type "builtin_function_or_method") ∧ (∀ es n, o.data ≠ .dict es n) → h.get? b = some o → h'.get? b = some o
mutual
theorem Vr.kpl {Z : Addr → Prop} {h h' : Heap} (K : Kpl h h') : ∀ (d : D) {v : Value}, Vr Z h d v → Vr Z h' d v
  | .none, _, e => e
  | .bool _, _, e => e
  | .int _, _, e => e
  | .str _, _, e => e
  | .tup ds, _, ⟨a, vs, e, z, n, ⟨m, t⟩, l⟩ => ⟨a, vs, e, z, n, ⟨m, K _ _ ⟨.inr (.inl rfl), fun _ _ q => nomatch q⟩ t⟩, VL.kpl K ds l⟩
  | .lst ds, _, ⟨a, vs, e, z, n, ⟨m, t⟩, l⟩ => ⟨a, vs, e, z, n, ⟨m, K _ _ ⟨.inl rfl, fun _ _ q => nomatch q⟩ t⟩, VL.kpl K ds l⟩
  | .box _, _, ⟨e, z, vs, ⟨m, t⟩⟩ => ⟨e, z, vs, ⟨m, K _ _ ⟨.inl rfl, fun _ _ q => nomatch q⟩ t⟩⟩
  | .own _, _, e => e
  | .meth _, _, ⟨a, e, z, t⟩ => ⟨a, e, z, K _ _ ⟨.inr (.inr rfl), fun _ _ q => nomatch q⟩ t⟩
theorem VL.kpl {Z : Addr → Prop} {h h' : Heap} (K : Kpl h h') : ∀ (ds : List D) {vs : List Value}, VL Z h ds vs → VL Z h' ds vs
  | [], _, e => e
  | d :: ds, _, ⟨v, us, e, x, y⟩ => ⟨v, us, e, Vr.kpl K d x, VL.kpl K ds y⟩
end

/-- an iterator, in the making or under way -/
noncomputable def Itr (o : Obj) : Prop := ¬ ((o.cls = .type "list" ∨ o.cls = .type "tuple" ∨ o.cls = .type "builtin_function_or_method") ∧ ∀ es n, o.data ≠ .dict es n)
theorem Itr.cls {o : Obj} {c : String} (e : o.cls = .type c) (h : c ≠ "list" ∧ c ≠ "tuple" ∧ c ≠ "builtin_function_or_method") : Itr o := fun q => by
  rw [e] at q
  rcases q.1 with q | q | q <;> (injection q with q; subst q) <;> simp at h

noncomputable abbrev Fx.with (F : Fx) (it : Addr) (o : Obj) (d : D) (v : Value) : Fx := { F with prot := (it, o) :: F.prot, gh := (d, v) :: F.gh }
theorem Fok.with {F : Fx} (k : Fok F) {p : List (Addr × Obj)} {g : List (D × Value)} : Fok { F with prot := p, gh := g } := ⟨k.kind, k.glob, k.blt, k.hh, k.dp, k.un, k.fr, k.lP, k.lnew, k.nms, k.bs0, k.gl⟩

section
variable {F : Fx} {X : Prop} {σ : Ms} {K : Po}

/-- an iterator is made beside a value that is kept alive -/
theorem St.iter {s : Shared} (S : St F σ s) {d : D} {v : Value} {o : Obj} (r : Vr (F.Z σ.own) s.heap d v) {tk : Nat} (hf : o.isFreed = false) :
    St (F.with s.heap.objs.size o d v) σ { s with heap := s.heap.push o, toks := tk } ∧ F.s₀.heap.get? s.heap.objs.size = none ∧ ∀ p ∈ F.prot, p.1 ≠ s.heap.objs.size := by
  have gp := Ge.push s o tk
  have S' := S.step gp.fx
  refine ⟨{ ok := S'.ok.with, gw := S'.gw, base := S'.base, tab := S'.tab, bare := S'.bare, os := S'.os, ns := S'.ns, cells := S'.cells, own := S'.own, ownv := S'.ownv, zok := S'.zok, base0 := S'.base0, frs := S'.frs, prot := fun p m => ?_, gh := fun p m => ?_ }, S.new0 ?_, fun p m e => ?_⟩
  · rcases List.mem_cons.mp m with rfl | m
    · exact ⟨Heap.get?_push_size _ hf, S.zok.new⟩
    · exact S'.prot p m
  · rcases List.mem_cons.mp m with rfl | m
    · exact gp.vr r
    · exact S'.gh p m
  · cases z : s.heap.get? s.heap.objs.size with
    | none => rfl
    | some o => exact absurd (Heap.lt_size z) (Nat.lt_irrefl _)
  · have := (S.prot p m).1
    rw [e] at this
    exact Nat.lt_irrefl _ (Heap.lt_size this)
/-- the iterator is at its end -/
theorem St.iter_end {s : Shared} {it : Addr} {o : Obj} {d : D} {v : Value} (S : St (F.with it o d v) σ s) {h' : Heap} {tk : Nat} (io : Itr o) (ex : ∀ b x, b ≠ it → s.heap.get? b = some x → h'.get? b = some x) (n0 : F.s₀.heap.get? it = none) (np : ∀ p ∈ F.prot, p.1 ≠ it) :
    St F σ { s with heap := h', toks := tk } := by
  obtain ⟨e0, nz⟩ := S.prot (it, o) (.head _)
  have iP : it ≠ F.g.P := fun q => nz (.inl (.inr (.inl q)))
  have nv : ∀ b x, b ≠ it → s.heap.get? b = some x → h'.get? b = some x := ex
  have kpl : Kpl s.heap h' := fun b x c q => ex b x (fun w => by rw [w, e0] at q; cases q; exact io c) q
  have ne0 : ∀ b x, F.s₀.heap.get? b = some x → b ≠ it := fun b x q w => by rw [w, n0] at q; exact no q
  refine { ok := S.ok.with (p := F.prot) (g := F.gh), gw := { kp := fun b x w q => ex b x (ne0 b x q) (S.gw.kp b x w q), fr := fun b x w q => ?_, tab := fun t => ?_, gens := S.gw.gens, os := S.gw.os }, base := fun b x w q => ?_, tab := ?_, bare := S.bare, os := S.os, ns := ?_, cells := fun y c h => ?_, own := fun a ds q => ?_, ownv := S.ownv, zok := fun b z => ?_, base0 := S.base0, frs := fun en m => ?_, prot := fun p m => ?_, gh := fun p m => Vr.kpl kpl _ (S.gh p (.tail _ m)) }
  · obtain ⟨sl, q1⟩ := S.gw.fr b x w q
    exact ⟨sl, ex b _ (ne0 b x q) q1⟩
  · obtain ⟨ps, t1, t2⟩ := S.gw.tab t
    exact ⟨ps, ex _ _ iP.symm t1, t2⟩
  · exact ex b x (ne0 b x (S.ok.bs0 b x w q)) (S.base b x w q)
  · obtain ⟨ps, t1, t2⟩ := S.tab
    exact ⟨ps, ex _ _ iP.symm t1, t2⟩
  · obtain ⟨m, ⟨ol, es, ep, a1, a2⟩, f⟩ := S.ns
    have lne : F.env.locals ≠ it := fun w => nz (.inr (.inl w.symm))
    refine ⟨m, ⟨ol, es, ep, ex _ _ lne a1, a2⟩, fun y k kd d h1 h2 => ?_⟩
    obtain ⟨v, l, r⟩ := f y k kd d h1 h2
    refine ⟨v, ?_, Vr.kpl kpl _ r⟩
    cases kd with
    | «local» => exact l
    | cell =>
      obtain ⟨c, h3, ⟨oc, h4, h5⟩⟩ := l
      exact ⟨c, h3, oc, ex _ _ (fun w => nz (.inr (.inr (.inl ⟨y, w ▸ mem_of_lookup h3⟩)))) h4, h5⟩
    | _ => exact l.elim
  · obtain ⟨h1, h2, v, ⟨oc, h4, h5⟩⟩ := S.cells y c h
    exact ⟨h1, h2, v, oc, ex _ _ (fun w => nz (.inr (.inr (.inl ⟨y, w ▸ mem_of_lookup h⟩)))) h4, h5⟩
  · obtain ⟨z, vs, ⟨nn, p⟩, l, n⟩ := S.own a ds q
    exact ⟨z, vs, ⟨nn, kpl _ _ ⟨.inl rfl, fun _ _ q => nomatch q⟩ p⟩, VL.kpl kpl _ l, n⟩
  · obtain ⟨x, q⟩ := S.zok b z
    exact ⟨x, ex b x (fun w => nz (w ▸ z)) q⟩
  · obtain ⟨k, L, ol, f1, f2, f3, f4⟩ := S.frs en m
    exact ⟨k, L, ol, f1, f2, ex _ _ (fun w => nz (.inl (.inr (.inr ⟨en, m, w ▸ f1⟩)))) f3, f4⟩
  · have q := S.prot p (.tail _ m)
    exact ⟨ex _ _ (np p m) q.1, q.2⟩
/-- the iterator moves on -/
theorem St.iter_on {s : Shared} {it : Addr} {o o' : Obj} {d : D} {v : Value} (S : St (F.with it o d v) σ s) {h' : Heap} {tk : Nat} (io : Itr o) (ex : ∀ b x, b ≠ it → s.heap.get? b = some x → h'.get? b = some x) (n0 : F.s₀.heap.get? it = none) (np : ∀ p ∈ F.prot, p.1 ≠ it) (e : h'.get? it = some o') :
    St (F.with it o' d v) σ { s with heap := h', toks := tk } := by
  obtain ⟨e0, nz⟩ := S.prot (it, o) (.head _)
  have kpl : Kpl s.heap h' := fun b x c q => ex b x (fun w => by rw [w, e0] at q; cases q; exact io c) q
  have S' := S.iter_end (tk := tk) io ex n0 np
  refine { ok := S'.ok.with, gw := S'.gw, base := S'.base, tab := S'.tab, bare := S'.bare, os := S'.os, ns := S'.ns, cells := S'.cells, own := S'.own, ownv := S'.ownv, zok := S'.zok, base0 := S'.base0, frs := S'.frs, prot := fun p m => ?_, gh := fun p m => Vr.kpl kpl _ (S.gh p m) }
  rcases List.mem_cons.mp m with rfl | m
  · exact ⟨e, nz⟩
  · exact S'.prot p m
/-- the iterator is let go -/
theorem St.iter_off {s : Shared} {it : Addr} {o : Obj} {d : D} {v : Value} (S : St (F.with it o d v) σ s) : St F σ s :=
  { ok := S.ok.with (p := F.prot) (g := F.gh), gw := S.gw, base := S.base, tab := S.tab, bare := S.bare, os := S.os, ns := S.ns, cells := S.cells, own := S.own, ownv := S.ownv, zok := S.zok, base0 := S.base0, frs := S.frs,
    prot := fun p m => S.prot p (.tail _ m), gh := fun p m => S.gh p (.tail _ m) }

/-- a loop over a list: before the turn i the state is as I i says -/
theorem J1.forl {Kn Kb : Ms → Prop} {Kr : Ms → D → Prop} {x : Str} {p pos : Pos} {iter : PExpr} {body : List Stmt} {k : Nat} (hX : ¬ X) (hx : F.nm x = some (k, .local)) (hs : ∀ v, foldedSetIterable iter F.env v = pure v)
    (h : Je F False σ iter fun d => ∃ ds, d = .lst ds ∧ ∃ I : Nat → Ms → Prop, I 0 σ ∧ (∀ i d σ₁, ds[i]? = some d → I i σ₁ → ∀ it o v, Js (F.with it o (.lst ds) v) X ⟨σ₁.loc.set k (some d), σ₁.own⟩ body ⟨fun σ₃ => I (i + 1) σ₃, Kn, Kr⟩) ∧ ∀ σ₁, I ds.length σ₁ → Kn σ₁) :
    J1 F X σ (.For (.Name x p) iter body [] pos) ⟨Kn, Kb, Kr⟩ := fun s Q E S qn qb qr xx => by
  refine wpAny_For (h s _ E S (fun d v s₁ k' r g => ?_) (fun f => f.elim)) hs
  obtain ⟨ds, rfl, I, h0, hI, hE⟩ := k'
  have S₁ := S.step g
  obtain ⟨l, vs, rfl, lz, ln, pl, al⟩ := id r
  refine wpAny_pyIter_list pl.is ?_
  obtain ⟨S₂, n0, np⟩ := S₁.iter (o := { cls := .type "list_iterator", data := .fields #[.ref l, .int 0 0] }) (tk := s₁.toks) r rfl
  generalize hit : s₁.heap.objs.size = it at S₂ n0 np ⊢
  refine codeAny_forLoop_any (fun n s => ∃ i σ' o, i + n = ds.length ∧ I i σ' ∧ o.cls = .type "list_iterator" ∧ o.data = .fields #[.ref l, .int i 0] ∧ St (F.with it o (.lst ds) (.ref l)) σ' s) (fun n s ⟨i, σ', o, e1, hi, oc, od, S'⟩ => ?_) ds.length ⟨0, σ, _, by lia, h0, rfl, rfl, S₂⟩
  have io : Itr o := .cls oc (by decide)
  obtain ⟨l', vs', e2, lz', ln', pl', al'⟩ := S'.gh (.lst ds, .ref l) (.head _)
  cases e2
  have hl := al'.length
  have hio : s.heap.IsListIter it l i := ⟨o, (S'.prot (it, o) (.head _)).1, oc, od⟩
  by_cases hlt : i < ds.length
  · obtain ⟨v, e3, r3⟩ := al'.get (List.getElem?_eq_getElem hlt)
    refine wpAny_pyNext_list_item hio pl'.is (x := v) (by simpa using e3) fun h' hit' sb => ?_
    obtain ⟨o', f1, f2, f3⟩ := hit'
    have S₃ := S'.iter_on (tk := s.toks) io (fun b x w q => (sb.2 b w).trans q) n0 np f1
    have kpl : Kpl s.heap h' := fun b x c q => (sb.2 b (fun w => by
      have := (S'.prot (it, o) (.head _)).1
      rw [w] at q; rw [show s.heap.get? it = some o from this] at q; cases q; exact io c)).trans q
    refine wpAny_of_eq (a := ()) rfl ?_
    refine wpAny_assign_Name (S₃.store (d := ds[i]) hx (Vr.kpl kpl _ r3) fun s₄ S₄ => ?_)
    refine hI i ds[i] σ' (List.getElem?_eq_getElem hlt) hi it o' (.ref l) s₄ _ _ S₄ (fun σ₅ s₅ k5 S₅ => ⟨n - 1, by lia, i + 1, σ₅, o', by lia, k5, f2, f3, S₅⟩) (fun σ₅ s₅ k5 S₅ => qn _ _ k5 S₅.iter_off) (fun σ₅ d5 v5 s₅ k5 r5 S₅ => qr _ _ _ _ k5 r5 S₅.iter_off) (fun q => absurd q hX)
  · have ei : i = ds.length := by lia
    refine wpAny_pyNext_list_end S'.ok.hh hio pl'.is (by simp [hl]; lia) fun h' ex => ?_
    exact wpAny_execs_nil (qn σ' _ (hE σ' (ei ▸ hi)) (S'.iter_end (tk := s.toks) io (fun b x w q => ex b x w q) n0 np))
end
end Mine
end

section
open PySem PySem.W PyProof.Rows
set_option genSizeOf false
set_option genInjectivity false
namespace Mine
noncomputable abbrev rIt (x left step : Int) : Obj := { cls := .type "range_iterator", dict := none, data := .fields #[rawInt x, rawInt left, rawInt step], slots := #[] }
section
variable {F : Fx} {X : Prop} {σ : Ms} {K : Po}
theorem range_loop {x : Str} {p : Pos} {body : List Stmt} {k : Nat} {it : Addr} {a c : Int} {n : Nat} {s : Shared} {Q : Flow → Shared → Prop} {E : Value → Shared → Prop} (S : St (F.with it (rIt a n c) .none .none) σ s) (n0 : F.s₀.heap.get? it = none)
    (np : ∀ p ∈ F.prot, p.1 ≠ it) (hX : ¬ X) (hx : F.nm x = some (k, .local)) (I : Nat → Ms → Prop) (h0 : I 0 σ)
    (hI : ∀ i σ₁, i < n → I i σ₁ → ∀ it o v, Js (F.with it o .none v) X ⟨σ₁.loc.set k (some (.int (a + i * c))), σ₁.own⟩ body ⟨fun σ₃ => I (i + 1) σ₃, K.n, K.r⟩) (hE : ∀ σ₁, I n σ₁ → K.n σ₁)
    (qn : ∀ σ' s', K.n σ' → St F σ' s' → Q .next s') (qr : ∀ σ' d v s', K.r σ' d → Vr (F.Z σ'.own) s'.heap d v → St F σ' s' → Q (.ret v) s') :
    codeAny F.g.M F.A (.forLoop (.Name x p) (.ref it) body [] F.env) (fun r s' => match r with | .ok f => Q f s' | .error e => cameBackBy F.g.M F.A F.env E e s') s := by
  refine codeAny_forLoop_any (fun m s => ∃ i σ', i + m = n ∧ I i σ' ∧ St (F.with it (rIt (a + i * c) ((n : Int) - i) c) .none .none) σ' s) (fun m s ⟨i, σ', e1, hi, S'⟩ => ?_) n ⟨0, σ, by lia, h0, by simpa using S⟩
  have io : Itr (rIt (a + i * c) ((n : Int) - i) c) := .cls (c := "range_iterator") rfl (by decide)
  have hio : IsRangeIter s.heap it (a + i * c) ((n : Int) - i) c := (S'.prot _ (.head _)).1
  by_cases hlt : i < n
  · refine wpAny_pyNext_range_item hio (by lia) fun h' hit' sb => ?_
    have S₃ := S'.iter_on (tk := s.toks + 1) io (fun b x w q => (sb.2 b w).trans q) n0 np hit'
    refine wpAny_of_eq (a := ()) rfl ?_
    refine wpAny_assign_Name (S₃.store (d := .int (a + i * c)) hx ⟨_, rfl⟩ fun s₄ S₄ => ?_)
    refine hI i σ' hlt hi it _ .none s₄ _ _ S₄ (fun σ₅ s₅ k5 S₅ => ⟨m - 1, by lia, i + 1, σ₅, by lia, k5, ?_⟩) (fun σ₅ s₅ k5 S₅ => qn _ _ k5 S₅.iter_off) (fun σ₅ d5 v5 s₅ k5 r5 S₅ => qr _ _ _ _ k5 r5 S₅.iter_off) (fun q => absurd q hX)
    have e2 : a + ((i + 1 : Nat) : Int) * c = a + i * c + c := by rw [Int.natCast_add, Int.add_mul]; lia
    have e3 : (n : Int) - ((i + 1 : Nat) : Int) = (n : Int) - i - 1 := by lia
    rw [e2, e3]
    exact S₅
  · have ei : i = n := by lia
    refine wpAny_pyNext_range_end S'.ok.hh hio (by lia) fun h' ex => ?_
    exact wpAny_execs_nil (qn σ' _ (hE σ' (ei ▸ hi)) (S'.iter_end (tk := s.toks) io (fun b x w q => ex b x w q) n0 np))
theorem free_range : ("range" : Str) ∈ freeNames := by decide
theorem J1.forr {Kn Kb : Ms → Prop} {Kr : Ms → D → Prop} {x : Str} {p q r pos : Pos} {e : PExpr} {body : List Stmt} {k k' : Nat} (hX : ¬ X) (hx : F.nm x = some (k, .local)) (hn : F.nm "range" = some (k', .globalImplicit)) (he : plainArg e = true)
    (h : Je F False σ e fun d => ∃ n : Nat, d = .int n ∧ n ≤ lim ∧ ∃ I : Nat → Ms → Prop, I 0 σ ∧ (∀ i σ₁, i < n → I i σ₁ → ∀ it o v, Js (F.with it o .none v) X ⟨σ₁.loc.set k (some (.int i)), σ₁.own⟩ body ⟨fun σ₃ => I (i + 1) σ₃, Kn, Kr⟩) ∧ ∀ σ₁, I n σ₁ → Kn σ₁) :
    J1 F X σ (.For (.Name x p) (.Call (.Name "range" q) [e] [] r) body [] pos) ⟨Kn, Kb, Kr⟩ := fun s Q E S qn qb qr xx => by
  have each := plainArg.each (r := []) he F.env
  refine wpAny_For (wpAny_Call_NameR (S.builtin (v := .type "range") hn free_range (by decide +kernel) (by decide) (by decide) ?_)) (by intro _; rfl)
  have each2 : backTo r (starEach [e] F.env) = [(false, eval e F.env)] := by rw [each]; rfl
  rw [each2]
  refine PySem.callWith_type rfl (PySem.Calls.evalArgs_plain (PySem.Calls.spliced_cons (h s _ E S (fun d v s₁ kk rr g => PySem.Calls.spliced_nil ?_) (fun f => f.elim))))
  obtain ⟨n, rfl, hn63, I, h0, hI, hE⟩ := kk
  obtain ⟨t, rfl⟩ := rr
  have hn63 : n ≤ 100000 := hn63
  refine call_range_1 ?_
  refine wpAny_pyIter_range (IsRange.new ..) (small_one (by decide) (by decide) (by lia) (by lia)) ?_
  have hsz : Builtin.Range.rangeSize 0 (n : Int) 1 = (n : Int) := by rw [rangeSize_one]; split <;> lia
  rw [hsz]
  have gp := Ge.push s₁ { cls := .type "range", data := .fields #[.int 0 s₁.toks, .int (n : Int) t, .int 1 (s₁.toks + 1)] } (s₁.toks + 1 + 1)
  have S₁ := (S.step g).step gp.fx
  obtain ⟨S₂, n0, np⟩ := S₁.iter (o := rIt 0 n 1) (d := .none) (v := .none) (tk := s₁.toks + 1 + 1) rfl rfl
  exact range_loop (K := ⟨Kn, Kb, Kr⟩) S₂ n0 np hX hx I h0 (fun i σ₁ hi k1 it o v => by
    rw [show (0 : Int) + (i : Int) * 1 = i by lia]
    exact hI i σ₁ hi k1 it o v) hE qn qr
end
end Mine
end

section
open PySem PySem.W PyProof.Rows
set_option genSizeOf false
set_option genInjectivity false
namespace Mine
noncomputable def catL (xs : List (List Nat)) : List Nat := match xs with
  | [] => []
  | x :: r => x ++ catL r
theorem join_nil (ns : List (List Nat)) : Txt.join ⟨#[]⟩ (ns.map fun x => (⟨x.toArray⟩ : Str)) = ⟨(catL ns).toArray⟩ := by
  show PySem.Builtin.Str.glued _ _ = _
  unfold PySem.Builtin.Str.glued
  cases ns with
  | nil => rfl
  | cons x r =>
    have key : ∀ (l : List (List Nat)) (a : Array Nat), (l.map fun x => (⟨x.toArray⟩ : Str)).foldl (fun acc p => acc ++ (⟨#[]⟩ : Str).cps ++ p.cps) a = a ++ (catL l).toArray := by
      intro l
      induction l with
      | nil => intro a; simp [catL]
      | cons y l ih =>
        intro a
        rw [List.map_cons, List.foldl_cons, ih, catL, ← List.append_toArray]
        simp
    rw [List.map_cons, List.drop_one, List.tail_cons, key]
    show Str.mk (x.toArray ++ _) = _
    rw [catL, ← List.append_toArray]
section
variable {F : Fx} {X : Prop} {σ : Ms} {K : D → Prop}

theorem zip_map {ns : List (List Nat)} : ∀ {ts : List Tok}, ts.length = ns.length → ns.zipWith sv ts = strValues ((ns.zipWith (fun x t => ((⟨x.toArray⟩ : Str), t)) ts)) ∧ (ns.zipWith (fun x t => ((⟨x.toArray⟩ : Str), t)) ts).map (·.1) = ns.map fun x => (⟨x.toArray⟩ : Str) := by
  induction ns with
  | nil => intro ts h; exact ⟨rfl, rfl⟩
  | cons n ns ih =>
    intro ts h
    cases ts with
    | nil => exact nomatch h
    | cons t ts =>
      obtain ⟨h1, h2⟩ := ih (ts := ts) (by simpa using h)
      refine ⟨?_, ?_⟩
      · rw [List.zipWith_cons_cons, h1]; rfl
      · rw [List.zipWith_cons_cons, List.map_cons, h2]; rfl
theorem sum_cat (ns : List (List Nat)) : ((ns.map fun x => (⟨x.toArray⟩ : Str)).map (·.length)).sum = (catL ns).length := by
  induction ns with
  | nil => rfl
  | cons x r ih =>
    rw [List.map_cons, List.map_cons, List.sum_cons, ih, catL, List.length_append]
    simp [Str.length]
/-- ''.join(e) -/
theorem Je.join {e : PExpr} {k : Nat} {p0 p q : Pos} (he : plainArg e = true) (hb : attributeBase (.Constant (.str (Str.ofString "")) k p0) "join" F.env (eval (.Constant (.str (Str.ofString "")) k p0) F.env) = eval (.Constant (.str (Str.ofString "")) k p0) F.env) (hline : (p.endLine == q.line) = true)
    (h : Je F X σ e fun d => ∃ ds ns, lstOf σ.own d = some ds ∧ allOf str1 ds = some ns ∧ (catL ns).length ≤ lim ∧ K (.str (catL ns))) :
    Je F X σ (.Call (.Attribute (.Constant (.str (Str.ofString "")) k p0) (Str.ofString "join") p) [e] [] q) K := fun s Q E S q' x => by
  have each : starEach [e] F.env = [(false, eval e F.env)] := plainArg.each (r := []) he F.env
  refine Call_method1 hb each hline (wpAny_Constant_str (PySem.SB.join ?_))
  have gt := Ge.tok s (s.toks + 1)
  refine h { s with toks := s.toks + 1 } _ E (S.step gt.fx) (fun d v s₁ kk r g => ?_) x
  obtain ⟨ds, ns, e1, e2, e3, kd⟩ := kk
  have S₁ := (S.step gt.fx).step g
  obtain ⟨l, vs, rfl, pl, al, n⟩ := lst_at S₁.own e1 r
  obtain ⟨ts, rfl, hts⟩ := strs_vl al e2
  obtain ⟨z1, z2⟩ := zip_map hts
  refine ⟨l, _, rfl, z1 ▸ pl.is, _, rfl, ?_, fun t' k => ?_⟩
  · rw [z2]
    refine joinOk_of ?_
    rw [sum_cat]
    have e3 : (catL ns).length ≤ 100000 := e3
    show _ + _ * 0 ≤ _
    lia
  · rw [z2, show (Str.ofString "") = ⟨#[]⟩ from rfl, join_nil]
    exact q' _ _ _ kd ⟨t', rfl, e3⟩ ((gt.fx.trans g).trans (Ge.tok s₁ k).fx)

/-- the parts of an f-string -/
noncomputable def Wf (we : PExpr → (D → Prop) → Prop) : List PExpr → List Nat → (List Nat → Prop) → Prop
  | [], acc, K => K acc
  | e :: r, acc, K => match e with
    | .Constant (.str x) _ _ => acc.length + x.cps.size ≤ lim ∧ Wf we r (acc ++ x.cps.toList) K
    | .FormattedValue e (-1) none _ => we e fun d => onSome d.str? fun y => acc.length + y.length ≤ lim ∧ Wf we r (acc ++ y) K
    | _ => Bx False

theorem Wf.ok {we : PExpr → (D → Prop) → Prop} (hw : ∀ e K, we e K → Je F X σ e K) {s : Shared} {Q : Str → Shared → Prop} {E : Value → Shared → Prop} (x : XE F X σ E) : ∀ {es : List PExpr} {acc : List Nat} {K : List Nat → Prop} {s₁ : Shared}, Wf we es acc K → acc.length ≤ lim → St F σ s₁ → F.Gw s s₁ →
    (∀ y s₂, K y → y.length ≤ lim → F.Gw s s₂ → Q ⟨y.toArray⟩ s₂) → Joins F.g.M F.A E (evalEach es F.env) ⟨acc.toArray⟩ Q s₁ := by
  intro es
  induction es with
  | nil => intro acc K s₁ h ha S g q; exact q _ _ h ha g
  | cons e r ih =>
    intro acc K s₁ h ha S g q
    have app : ∀ (y : List Nat), (⟨acc.toArray⟩ : Str) ++ (⟨y.toArray⟩ : Str) = ⟨(acc ++ y).toArray⟩ := fun y => by
      show Str.mk (acc.toArray ++ y.toArray) = _
      rw [← List.append_toArray]
    have fit : ∀ (y : List Nat), acc.length + y.length ≤ lim → ((⟨acc.toArray⟩ : Str) ++ (⟨y.toArray⟩ : Str)).length ≤ sizeLine := fun y hy => by
      rw [app]
      simp only [Str.length, List.size_toArray, List.length_append]
      exact lim_line hy
    cases e with
    | Constant c k p => cases c with
      | str z =>
        have h : acc.length + z.cps.size ≤ lim ∧ Wf we r (acc ++ z.cps.toList) K := h
        have hz : z = ⟨z.cps.toList.toArray⟩ := rfl
        have h1 : acc.length + z.cps.toList.length ≤ lim := by rw [Array.length_toList]; exact h.1
        have gt := Ge.tok s₁ (s₁.toks + 1)
        refine wpAny_Constant_str ⟨z, _, rfl, ?_, ?_⟩
        · rw [hz]; exact fit _ h1
        · have e : (⟨acc.toArray⟩ : Str) ++ z = ⟨(acc ++ z.cps.toList).toArray⟩ := app z.cps.toList
          rw [e]
          exact ih h.2 (by rw [List.length_append]; exact h1) (S.step gt.fx) (g.trans gt.fx) q
      | _ => exact h.h.elim
    | FormattedValue e cv sp p => 
      have hc : cv = -1 ∧ sp = none := by
        cases cv with
        | ofNat n => exact h.h.elim
        | negSucc n => cases n with
          | succ n => exact h.h.elim
          | zero => cases sp with
            | some _ => exact h.h.elim
            | none => exact ⟨rfl, rfl⟩
      · obtain ⟨rfl, rfl⟩ := hc
        have h : we e fun d => onSome d.str? fun y => acc.length + y.length ≤ lim ∧ Wf we r (acc ++ y) K := h
        refine wpAny_FormattedValue_plain (hw _ _ h s₁ _ E S (fun d v s₂ k rr g2 => ?_) x)
        obtain ⟨y, e1, h1, h2⟩ := k.get
        cases str_of e1
        obtain ⟨t, rfl, _⟩ := rr
        have S₂ := S.step g2
        have gt := Ge.tok s₂ (s₂.toks + 1)
        have go : ∀ t' s₃, St F σ s₃ → F.Gw s s₃ → ∃ y' t, (Value.str ⟨y.toArray⟩ t' : Value) = .str y' t ∧ ((⟨acc.toArray⟩ : Str) ++ y').length ≤ sizeLine ∧ Joins F.g.M F.A E (evalEach r F.env) ((⟨acc.toArray⟩ : Str) ++ y') Q s₃ := fun t' s₃ S₃ g₃ =>
          ⟨_, _, rfl, fit _ h1, by rw [app]; exact ih h2 (by rw [List.length_append]; exact h1) S₃ g₃ q⟩
        refine wpAny_formatField_str (go _ _ S₂ (g.trans g2)) (go _ _ (S₂.step gt.fx) ((g.trans g2).trans gt.fx)) ?_
        simp only [Str.length, List.size_toArray]
        exact lim_line (Nat.le_trans (Nat.le_add_left _ _) h1)
    | _ => exact h.h.elim
theorem Je.fstr {we : PExpr → (D → Prop) → Prop} (hw : ∀ e K, we e K → Je F X σ e K) {v₁ v₂ : PExpr} {r : List PExpr} {pos : Pos} (h : Wf we (v₁ :: v₂ :: r) [] fun y => K (.str y)) : Je F X σ (.JoinedStr (v₁ :: v₂ :: r) pos) K := fun s Q E S q x => by
  refine wpAny_JoinedStr (Wf.ok hw x h (Nat.zero_le _) S (F.grefl s) fun y s₂ k hy g => ⟨?_, ?_⟩)
  · simp only [Str.length, List.size_toArray]
    exact lim_line hy
  · exact q _ _ _ k ⟨_, rfl, hy⟩ (g.trans (Ge.tok s₂ _).fx)
end
end Mine
end

section
open PySem PySem.W PyProof.Rows
set_option genSizeOf false
set_option genInjectivity false
namespace Mine
/-- the frame of a comprehension -/
noncomputable def Fx.comp (F : Fx) (ω : Own) (scope : Scope) (C : Addr) (s₁ : Shared) (it : Addr) (o : Obj) (d : D) (v : Value) : Fx :=
  { F with env := compEnv scope C F.env, s₀ := s₁, Zc := F.Z ω, names := scope.names, prot := [(it, o)], gh := [(d, v)] }
section
variable {F : Fx} {X : Prop} {σ : Ms} {K : D → Prop}

noncomputable abbrev noLoc (n : List (Str × NameKind)) : List (Option D) := n.map fun _ => Option.none
theorem new_at {h : Heap} : h.get? h.objs.size = none := by
  cases z : h.get? h.objs.size with
  | none => rfl
  | some o => exact absurd (Heap.lt_size z) (Nat.lt_irrefl _)
theorem new_le {h : Heap} {a : Addr} (q : h.objs.size ≤ a) : h.get? a = none := by
  cases z : h.get? a with
  | none => rfl
  | some o => exact absurd (Heap.lt_size z) (Nat.not_lt.mpr q)

theorem St.comp {s₁ : Shared} (S : St F σ s₁) {d : D} {v : Value} (r : Vr (F.Z σ.own) s₁.heap d v) {o : Obj} (of : o.isFreed = false) {scope : Scope} (hk : scope.kind = .function) {h' : Heap} {tk : Nat}
    (n : h'.Ns (s₁.heap.objs.size + 2) (fun x => ([] : List (Str × Value)).reverse.lookup x)) (sb : Heap.SameBut (s₁.heap.objs.size + 2) (((s₁.heap.push o).push { cls := .type "list", data := .seq ([] : List Value).toArray }).push { cls := .type "dict", data := .dict #[] }) h') :
    St (F.comp σ.own scope (s₁.heap.objs.size + 2) s₁ s₁.heap.objs.size o d v) ⟨scope.names.map fun _ => none, [(s₁.heap.objs.size + 1, [])]⟩ { s₁ with heap := h', toks := tk } := by
  have k1 : ∀ b x, b < s₁.heap.objs.size + 2 → ((s₁.heap.push o).push { cls := .type "list", data := .seq ([] : List Value).toArray }).get? b = some x → h'.get? b = some x := fun b x lt q => (sb.2 b (Nat.ne_of_lt lt)).trans (Heap.get?_push_of_some _ q)
  have keep : ∀ b x, s₁.heap.get? b = some x → h'.get? b = some x := fun b x q => k1 b x (Nat.lt_succ_of_lt (Nat.lt_succ_of_lt (Heap.lt_size q))) (Heap.get?_push_of_some _ (Heap.get?_push_of_some _ q))
  have ge : Ge s₁ { s₁ with heap := h', toks := tk } := ⟨keep, rfl, rfl⟩
  have S' := S.step ge.fx
  have eit : h'.get? s₁.heap.objs.size = some o := k1 _ _ (Nat.lt_succ_of_lt (Nat.lt_succ_self _)) (Heap.get?_push_of_some _ (Heap.get?_push_size _ of))
  have eacc : h'.get? (s₁.heap.objs.size + 1) = some { cls := .type "list", data := .seq ([] : List Value).toArray } := k1 _ _ (Nat.lt_succ_self _) (by
    have := Heap.get?_push_size (s₁.heap.push o) (o := { cls := .type "list", data := .seq ([] : List Value).toArray }) rfl
    rw [Heap.size_push] at this; exact this)
  have nZ : ∀ b, s₁.heap.objs.size ≤ b → ¬ F.Z σ.own b := fun b q z => by
    obtain ⟨x, e⟩ := S.zok b z
    rw [new_le q] at e; exact no e
  have le1 : s₁.heap.objs.size ≤ s₁.heap.objs.size + 1 := Nat.le_succ _
  have le2 : s₁.heap.objs.size ≤ s₁.heap.objs.size + 2 := Nat.le_add_right _ _
  have cP : s₁.heap.objs.size + 2 ≠ F.g.P := fun e => nZ _ le2 (by rw [e]; exact .inl (.inr (.inl rfl)))
  have fnd : ∀ a es, Own.find [(s₁.heap.objs.size + 1, ([] : List D))] a = some es → a = s₁.heap.objs.size + 1 ∧ es = [] := fun a es e => by
    rw [Own.find] at e
    by_cases q : s₁.heap.objs.size + 1 = a
    · rw [if_pos q] at e; exact ⟨q.symm, (Option.some.inj e).symm⟩
    · rw [if_neg q] at e; exact no e
  have hZ : ∀ b x, s₁.heap.get? b = some x → (F.comp σ.own scope (s₁.heap.objs.size + 2) s₁ s₁.heap.objs.size o d v).Z [(s₁.heap.objs.size + 1, [])] b → F.Z σ.own b := fun b x e z => by
    have lt := Heap.lt_size e
    rcases z with (z | z) | z | ⟨_, z⟩ | ⟨es, z⟩
    · exact z
    · exact F.volZ _ _ z
    · have z : b = s₁.heap.objs.size + 2 := z
      rw [z] at lt
      exact absurd lt (Nat.not_lt.mpr le2)
    · exact nomatch z
    · rw [(fnd _ _ z).1] at lt
      exact absurd lt (Nat.not_lt.mpr le1)
  obtain ⟨oC, esC, epC, c1, c2, c3⟩ := id n
  refine { ok := ⟨hk, S.ok.glob, S.ok.blt, S.ok.hh, S.ok.dp, S.ok.un, S.ok.fr, cP, new_le le2, rfl, S.base, S.ok.gl⟩, gw := ge.gw, base := S'.base, tab := S'.tab, bare := S'.bare, os := S'.os, ns := ⟨_, n, fun y k kd d' h1 h2 => ?_⟩, cells := (fun y c e => nomatch e), own := fun a es e => ?_, ownv := fun a es e => ?_, zok := fun b z => ?_, base0 := S.base0, frs := S'.frs, prot := fun p m => ?_, gh := fun p m => ?_ }
  · exact absurd h2 (by
      show ¬ (scope.names.map fun _ => (none : Option D))[k]? = some (some d')
      rw [List.getElem?_map, Option.map_eq_some_iff]
      rintro ⟨_, _, q⟩
      exact nomatch q)
  · obtain ⟨rfl, rfl⟩ := fnd a es e
    exact ⟨.inr (.inr (.inr ⟨_, e⟩)), [], ⟨_, eacc⟩, rfl, Nat.zero_le _⟩
  · obtain ⟨rfl, rfl⟩ := fnd a es e
    refine ⟨fun z => nZ _ le1 ?_, ?_, new_le le1, fun x q => nomatch q⟩
    · rcases z with z | z
      · exact z
      · exact F.volZ _ _ z
    · exact Nat.ne_of_lt (Nat.lt_succ_self _)
  · rcases z with (z | z) | z | ⟨_, z⟩ | ⟨es, z⟩
    · exact S'.zok b z
    · exact S'.zok b (F.volZ _ _ z)
    · have z : b = s₁.heap.objs.size + 2 := z
      exact ⟨oC, z ▸ c1⟩
    · exact nomatch z
    · exact ⟨_, (fnd _ _ z).1 ▸ eacc⟩
  · cases List.mem_singleton.mp m
    refine ⟨eit, fun z => ?_⟩
    rcases z with (z | z) | z | ⟨_, z⟩ | ⟨es, z⟩
    · exact nZ _ (Nat.le_refl _) z
    · exact nZ _ (Nat.le_refl _) (F.volZ _ _ z)
    · exact absurd (show s₁.heap.objs.size = s₁.heap.objs.size + 2 from z) (Nat.ne_of_lt (Nat.lt_succ_of_lt (Nat.lt_succ_self _)))
    · exact nomatch z
    · exact absurd (fnd _ _ z).1 (Nat.ne_of_lt (Nat.lt_succ_self _))
  · cases List.mem_singleton.mp m
    exact ge.vr (Vr.more hZ d r)

theorem Gw.same {g : Gb} {V : Addr → Prop} {s₀ s : Shared} {T : Addr} {h' : Heap} (x : Gw g V s₀ s) (sb : Heap.SameBut T s.heap h') (hn : s₀.heap.get? T = Option.none) (hP : T ≠ g.P) : Gw g V s₀ { s with heap := h' } where
  kp := fun b o v q => (sb.2 b (fun e => by rw [e] at q; rw [hn] at q; exact no q)).trans (x.kp b o v q)
  fr := fun b o v q => by
    obtain ⟨sl, h⟩ := x.fr b o v q
    exact ⟨sl, (sb.2 b (fun e => by rw [e] at q; rw [hn] at q; exact no q)).trans h⟩
  tab := fun t => by
    obtain ⟨ps, h, z⟩ := x.tab t
    exact ⟨ps, (sb.2 _ hP.symm).trans h, z⟩
  gens := x.gens
  os := x.os
theorem St.alive {F' : Fx} {σ' : Ms} {s : Shared} (S : St F' σ' s) {p : D × Value} (m : p ∈ F'.gh) : Vr (F'.Z σ'.own) s.heap p.1 p.2 := S.gh p m
/-- the iterator of a comprehension -/
theorem St.next {s₁ s : Shared} {ω : Own} {scope : Scope} {C it : Addr} {o o' : Obj} {d : D} {v : Value} {σ' : Ms} (S : St (F.comp ω scope C s₁ it o d v) σ' s) (io : Itr o) {h' : Heap} {tk : Nat} (ex : ∀ b x, b ≠ it → s.heap.get? b = some x → h'.get? b = some x) (n0 : s₁.heap.get? it = none) (e : h'.get? it = some o') :
    St (F.comp ω scope C s₁ it o' d v) σ' { s with heap := h', toks := tk } :=
  St.iter_on (F := { F.comp ω scope C s₁ it o d v with prot := [], gh := [] }) S io ex n0 (fun p m => nomatch m) e
theorem St.over {s₁ s : Shared} {ω : Own} {scope : Scope} {C it : Addr} {o : Obj} {d : D} {v : Value} {σ' : Ms} (S : St (F.comp ω scope C s₁ it o d v) σ' s) (io : Itr o) {h' : Heap} {tk : Nat} (ex : ∀ b x, b ≠ it → s.heap.get? b = some x → h'.get? b = some x) (n0 : s₁.heap.get? it = none) :
    St { F.comp ω scope C s₁ it o d v with prot := [], gh := [] } σ' { s with heap := h', toks := tk } :=
  St.iter_end (F := { F.comp ω scope C s₁ it o d v with prot := [], gh := [] }) S io ex n0 (fun p m => nomatch m)

/-- after the last turn -/
noncomputable def Done (F : Fx) (σ : Ms) (scope : Scope) (s₁ : Shared) (C a : Addr) (ys : List D) (s : Shared) : Prop :=
  s₁.heap.get? C = Option.none ∧ s₁.heap.get? a = Option.none ∧ ¬ F.Z σ.own C ∧ F.Gw s₁ s ∧ Vr (F.Z σ.own) s.heap (.lst ys) (.ref a) ∧ a ≠ C ∧ ∃ m, s.heap.Ns C m
theorem comp_loop {elt iter : PExpr} {x : Str} {px pos : Pos} {scope : Scope} {k : Nat} (hx : nmGo scope.names x 0 = some (k, .local)) {s₁ : Shared} (S₁ : St F σ s₁) {it l : Addr} (hit : s₁.heap.objs.size = it) {ds ys : List D} (ln : ds.length ≤ lim) (hlen : ys.length = ds.length) {R : Result → Shared → Prop}
    (hy : ∀ (i : Nat) d y, ds[i]? = some d → ys[i]? = some y → ∀ C s₁ it o v a done, Je (F.comp σ.own scope C s₁ it o (.lst ds) v) False ⟨(noLoc scope.names).set k (some d), [(a, done)]⟩ elt (fun z => z = y))
    (fin : ∀ s', Done F σ scope s₁ (it + 2) (it + 1) ys s' → R (.ok .next) s') (s₂ : Shared)
    (S₂ : St (F.comp σ.own scope (it + 2) s₁ it { cls := .type "list_iterator", data := .fields #[.ref l, .int 0 0] } (.lst ds) (.ref l)) ⟨noLoc scope.names, [(it + 1, [])]⟩ s₂) :
    codeAny F.g.M F.A (.compLoop (.ListComp elt [⟨.Name x px, iter, [], 0⟩] scope pos) 0 (.ref it) (.ref (it + 1)) (compEnv scope (it + 2) F.env)) R s₂ := by
  have n0 : s₁.heap.get? it = Option.none := hit ▸ new_at
  have nC : s₁.heap.get? (it + 2) = Option.none := hit ▸ new_le (Nat.le_add_right _ _)
  have nA : s₁.heap.get? (it + 1) = Option.none := hit ▸ new_le (Nat.le_add_right _ _)
  have nZ : ¬ F.Z σ.own (it + 2) := fun z => by
    obtain ⟨_, e⟩ := S₁.zok _ z
    rw [nC] at e; exact no e
  refine codeAny_compLoop_list (fun n s => ∃ i loc' o, i + n = ds.length ∧ (∀ d, loc'.set k (some d) = (noLoc scope.names).set k (some d)) ∧ o.cls = .type "list_iterator" ∧ o.data = .fields #[.ref l, .int (i : Nat) 0] ∧ St (F.comp σ.own scope (it + 2) s₁ it o (.lst ds) (.ref l)) ⟨loc', [(it + 1, ys.take i)]⟩ s)
    (fun n s ⟨i, loc', o, e1, hloc, oc, od, S'⟩ => ?_) ds.length ⟨0, noLoc scope.names, _, by lia, fun _ => rfl, rfl, rfl, S₂⟩
  have io : Itr o := .cls oc (by decide)
  obtain ⟨l', vs', e2, lz', ln', pl', al'⟩ := S'.gh (.lst ds, .ref l) (.head _)
  cases e2
  have hl := al'.length
  have hio : s.heap.IsListIter it l i := ⟨o, (S'.prot (it, o) (.head _)).1, oc, od⟩
  have fa : ∀ (z : List D), Own.find [(it + 1, z)] (it + 1) = some z := fun z => Own.find_new
  by_cases hlt : i < ds.length
  · obtain ⟨v, e3, r3⟩ := al'.get (List.getElem?_eq_getElem hlt)
    have hlt' : i < ys.length := hlen ▸ hlt
    refine wpAny_pyNext_list_item hio pl'.is (x := v) (by simpa using e3) fun h' hit' sb => ?_
    obtain ⟨o', f1, f2, f3⟩ := hit'
    have S₃ := S'.next (tk := s.toks) io (fun b x w q => (sb.2 b w).trans q) n0 f1
    have kpl : Kpl s.heap h' := fun b x c q => (sb.2 b (fun w => by
      have := (S'.prot (it, o) (.head _)).1
      rw [w] at q; rw [show s.heap.get? it = some o from this] at q; cases q; exact io c)).trans q
    refine wpAny_assign_Name (S₃.store (d := ds[i]) hx (Vr.kpl kpl _ r3) fun s₄ S₄ => ?_)
    have S₄ : St (F.comp σ.own scope (it + 2) s₁ it o' (.lst ds) (.ref l)) ⟨(noLoc scope.names).set k (some ds[i]), [(it + 1, ys.take i)]⟩ s₄ := by
      rw [← hloc]; exact S₄
    refine hy i ds[i] ys[i] (List.getElem?_eq_getElem hlt) (List.getElem?_eq_getElem hlt') (it + 2) s₁ it o' (.ref l) (it + 1) (ys.take i) s₄ _ _ S₄ (fun z vz s₅ hz rz g₅ => ?_) (fun f => f.elim)
    subst hz
    have S₅ := S₄.step g₅
    obtain ⟨_, us, ⟨nn, pe⟩, al5, n5⟩ := S₅.own (it + 1) (ys.take i) (fa _)
    refine append_at pe (fun h6 sb6 e6 => ?_) (by rw [List.size_toArray, al5.length]; exact lim_line n5)
    have S₆ := S₅.app (fa _) al5 rz (by rw [List.length_take]; have : ds.length ≤ lim := ln; lia) sb6 e6
    refine ⟨n - 1, by lia, i + 1, (noLoc scope.names).set k (some ds[i]), o', by lia, fun d => ?_, f2, f3, ?_⟩
    · exact List.set_set ..
    · have e7 : Own.upd [(it + 1, ys.take i)] (it + 1) (ys.take i ++ [ys[i]]) = [(it + 1, ys.take (i + 1))] := by
        rw [Own.upd, if_pos rfl, List.take_succ_eq_append_getElem hlt']
      have S₆ : St _ ⟨_, Own.upd [(it + 1, ys.take i)] (it + 1) (ys.take i ++ [ys[i]])⟩ _ := S₆
      rw [e7] at S₆
      exact S₆
  · have ei : i = ds.length := by lia
    refine wpAny_pyNext_list_end S'.ok.hh hio pl'.is (by simp [hl]; lia) fun h' ex => ?_
    have S₃ := S'.over (tk := s.toks) io (fun b x w q => ex b x w q) n0
    obtain ⟨m, nm, _⟩ := S₃.ns
    have hown : Own.find [(it + 1, ys.take i)] (it + 1) = some ys := by rw [fa, ei, ← hlen, List.take_length]
    obtain ⟨v1, v2, _, _⟩ := S₃.ownv (it + 1) ys hown
    obtain ⟨_, us, pe, al5, n5⟩ := S₃.own (it + 1) ys hown
    exact fin _ ⟨nC, nA, nZ, S₃.gw, ⟨it + 1, us, rfl, fun z => v1 (.inl z), n5, pe, VL.more (fun b o _ z => .inl (.inl z)) ys al5⟩, Nat.ne_of_lt (Nat.lt_succ_self _), m, nm⟩
/-- what Done says stands when the name is let go -/
theorem Done.off {scope : Scope} {s₁ s : Shared} {C a : Addr} {ys : List D} (S : St F σ s₁) (x : Done F σ scope s₁ C a ys s) {h' : Heap} (sb : Heap.SameBut C s.heap h') :
    F.Gw s₁ { s with heap := h' } ∧ Vr (F.Z σ.own) h' (.lst ys) (.ref a) := by
  obtain ⟨nC, nA, nZ, g, r, ac, m, ⟨oC, es, ep, c1, c2, _⟩⟩ := x
  refine ⟨Gw.same g sb nC (fun e => nZ (e ▸ .inl (.inr (.inl rfl)))), Vr.kpl (fun b o c q => (sb.2 b (fun e => ?_)).trans q) _ r⟩
  subst e
  rw [c1] at q
  cases q
  exact c.2 _ _ c2
end
end Mine
end

section
open PySem PySem.W PyProof.Rows
set_option genSizeOf false
set_option genInjectivity false
namespace Mine
section
variable {F : Fx} {X : Prop} {σ : Ms} {K : D → Prop}
/-- what a comprehension makes of each item -/
noncomputable def Each (F : Fx) (σ : Ms) (scope : Scope) (k : Nat) (elt : PExpr) (ds ys : List D) : Prop :=
  ys.length = ds.length ∧ ∀ (i : Nat) d y, ds[i]? = some d → ys[i]? = some y → ∀ C s₁ it o v a done, Je (F.comp σ.own scope C s₁ it o (.lst ds) v) False ⟨(noLoc scope.names).set k (some d), [(a, done)]⟩ elt (fun z => z = y)
theorem Je.comp {elt iter : PExpr} {x : Str} {px pos : Pos} {scope : Scope} {k : Nat} (hfree : ∀ y ∈ scope.names, y.2 ≠ .free) (hcell : ∀ y ∈ scope.names, y.2 ≠ .cell) (hkind : scope.kind = .function)
    (hnames : ∀ y ∈ scope.names, y.2 = .local → scope.names.lookup y.1 = some .local) (hx : nmGo scope.names x 0 = some (k, .local)) (hs : ∀ v, foldedSetIterable iter F.env v = pure v)
    (h : Je F X σ iter fun d => ∃ ds ys, d = .lst ds ∧ Each F σ scope k elt ds ys ∧ K (.lst ys)) :
    Je F X σ (.ListComp elt [⟨.Name x px, iter, [], 0⟩] scope pos) K := fun s Q E S q xe => by
  refine wpAny_ListComp hfree hkind hnames (h s _ E S (fun d v s₁ kk r g => ?_) xe) hs
  obtain ⟨ds, ys, rfl, ⟨hlen, hy⟩, kd⟩ := kk
  have S₁ := S.step g
  obtain ⟨l, vs, rfl, lz, ln, pl, al⟩ := id r
  refine wpAny_pyIter_list pl.is ?_
  refine wpAny_newObj_type (wpAny_newFunctionEnv hcell (by intro y hy; simp at hy) (fun h₁ hns₁ hsb₁ => ?_) hkind)
  dsimp only at hns₁ hsb₁ ⊢
  simp only [Heap.size_push] at hns₁ hsb₁ ⊢
  have S₂ := S₁.comp (o := { cls := .type "list_iterator", data := .fields #[.ref l, .int 0 0] }) (tk := s₁.toks + 0) r rfl hkind hns₁ hsb₁
  have loop := comp_loop (elt := elt) (iter := iter) (px := px) (pos := pos) hx S₁ rfl ln hlen (R := fun r s' => ∃ m, s'.heap.Ns (s₁.heap.objs.size + 2) m ∧ ∀ h', Heap.SameBut (s₁.heap.objs.size + 2) s'.heap h' →
        match r with | .ok _ => Q (.ref (s₁.heap.objs.size + 1)) { s' with heap := h' } | .error x => wpAny F.g.M F.A (passOn "comprehension.variables-let-go" x (compEnv scope (s₁.heap.objs.size + 2) F.env)) Q E { s' with heap := h' }) hy
    (fun s' D => by
      obtain ⟨m, nm⟩ := D.2.2.2.2.2.2
      refine ⟨m, nm, fun h' sb => ?_⟩
      obtain ⟨g2, r2⟩ := D.off S₁ sb
      exact q _ _ _ kd r2 (g.trans g2)) _ S₂
  exact codeAny_compStart_list loop (wpAny_pyIter_listiter (i := 0) (l := l) ⟨_, (S₂.prot _ (.head _)).1, rfl, rfl⟩ loop)

theorem St.guard {s : Shared} (S : St F σ s) {C : Addr} {o : Obj} (e : s.heap.get? C = some o) (nz : ¬ F.Z σ.own C) : St (F.with C o .none .none) σ s := by
  refine { ok := S.ok.with, gw := S.gw, base := S.base, tab := S.tab, bare := S.bare, os := S.os, ns := S.ns, cells := S.cells, own := S.own, ownv := S.ownv, zok := S.zok, base0 := S.base0, frs := S.frs, prot := fun p mm => ?_, gh := fun p mm => ?_ }
  · rcases List.mem_cons.mp mm with rfl | mm
    · exact ⟨e, nz⟩
    · exact S.prot p mm
  · rcases List.mem_cons.mp mm with rfl | mm
    · exact rfl
    · exact S.gh p mm
/-- y = [comprehension]: the name is bound before the comprehension's own goes -/
theorem J1.compas {P : Po} {elt iter : PExpr} {x y : Str} {px py pos spos : Pos} {scope : Scope} {k k' : Nat} (hsw : swapsWith (.ListComp elt [⟨.Name x px, iter, [], 0⟩] scope pos) (some (.Name y py)) spos.line F.env = pure true)
    (hfree : ∀ y ∈ scope.names, y.2 ≠ .free) (hcell : ∀ y ∈ scope.names, y.2 ≠ .cell) (hkind : scope.kind = .function)
    (hnames : ∀ y ∈ scope.names, y.2 = .local → scope.names.lookup y.1 = some .local) (hx : nmGo scope.names x 0 = some (k, .local)) (hs : ∀ v, foldedSetIterable iter F.env v = pure v) (hy' : F.nm y = some (k', .local))
    (h : Je F False σ iter fun d => ∃ ds ys, d = .lst ds ∧ Each F σ scope k elt ds ys ∧ P.n ⟨σ.loc.set k' (some (.lst ys)), σ.own⟩) :
    J1 F X σ (.Assign [.Name y py] (.ListComp elt [⟨.Name x px, iter, [], 0⟩] scope pos) spos) P := fun s Q E S qn qb qr xe => by
  rw [exec_Assign_Name_used _ _ _ _ hsw]
  refine wpAny_bind (wpAny_standAt (wpAny_bind ?_))
  show wpAny _ F.A (do let _ ← comprehension (.ListComp elt [⟨.Name x px, iter, [], 0⟩] scope pos) scope F.env _ (newList []) false (eval iter F.env) (some (PySem.assign (.Name y py) F.env))) _ _ s
  refine wpAny_bind (wpAny_mono (wpAny_comprehension_use (Q := fun _ s' => Q .next s') rfl hs hfree hkind hnames (h s _ E S (fun d v s₁ kk r g => ?_) (fun f => f.elim))) (fun _ s' hq => wpAny_pure (wpAny_pure hq)) fun _ _ e => e)
  obtain ⟨ds, ys, rfl, ⟨hlen, hy⟩, kd⟩ := kk
  have S₁ := S.step g
  obtain ⟨l, vs, rfl, lz, ln, pl, al⟩ := id r
  refine wpAny_pyIter_list pl.is ?_
  refine wpAny_newObj_type (wpAny_newFunctionEnv hcell (by intro y hy; simp at hy) (fun h₁ hns₁ hsb₁ => ?_) hkind)
  dsimp only at hns₁ hsb₁ ⊢
  simp only [Heap.size_push] at hns₁ hsb₁ ⊢
  have S₂ := S₁.comp (o := { cls := .type "list_iterator", data := .fields #[.ref l, .int 0 0] }) (tk := s₁.toks + 0) r rfl hkind hns₁ hsb₁
  have loop := comp_loop (elt := elt) (iter := iter) (px := px) (pos := pos) hx S₁ rfl ln hlen (R := fun r s' => match r with
        | .ok _ => wpAny F.g.M F.A (PySem.assign (.Name y py) F.env (.ref (s₁.heap.objs.size + 1))) (fun _ s'' => ∃ m, s''.heap.Ns (s₁.heap.objs.size + 2) m ∧ ∀ h', Heap.SameBut (s₁.heap.objs.size + 2) s''.heap h' → Q .next { s'' with heap := h' }) E s'
        | .error x => ∃ m, s'.heap.Ns (s₁.heap.objs.size + 2) m ∧ ∀ h', Heap.SameBut (s₁.heap.objs.size + 2) s'.heap h' → wpAny F.g.M F.A (passOn "comprehension.variables-let-go" x (compEnv scope (s₁.heap.objs.size + 2) F.env) : Sem Value) (fun _ s' => Q .next s') E { s' with heap := h' }) hy
    (fun s' D => by
      obtain ⟨nC, nA, nZ, g2, r2, ac, m, ⟨oC, es, ep, c1, c2, c3⟩⟩ := D
      have S₃ := S₁.step g2
      have io : Itr oC := fun q => q.2 _ _ c2
      have S₄ := S₃.guard c1 nZ
      refine wpAny_assign_Name (S₄.store (d := .lst ys) hy' r2 fun s₅ S₅ => ?_)
      have c5 := (S₅.prot _ (.head _)).1
      refine ⟨m, ⟨oC, es, ep, c5, c2, c3⟩, fun h' sb => ?_⟩
      exact qn _ _ kd (S₅.iter_end (tk := s₅.toks) io (fun b x w q => (sb.2 b w).trans q) (S₁.new0 nC) (fun p mm e => by
        have := (S₁.prot p mm).1
        rw [e, nC] at this
        exact no this))) _ S₂
  exact codeAny_compStart_list loop (wpAny_pyIter_listiter (i := 0) (l := l) ⟨_, (S₂.prot _ (.head _)).1, rfl, rfl⟩ loop)
end
end Mine
end

section
open PySem PySem.W PyProof.Rows
set_option genSizeOf false
set_option genInjectivity false
namespace Mine
/-- a drawn item: its text, its kind, its signs, what fits -/
structure It where
  t : List Nat
  k : Int
  s : List Nat
  f : List Nat
noncomputable def It.d (x : It) : D := .tup [.str x.t, .int x.k, .str x.s, .str x.f]
noncomputable def ahead : List It → Nat
  | [] => 0
  | x :: r => if x.t = [63] then ahead r + 1 else 0
theorem ahead_ok (g : Gb) (hat : FnAt g (fnGet 14)) (row : List It) : Ct g 0 (fnGet 14).name [.lst (row.map It.d)] (some (.int (ahead row))) := by
  refine Ct.plain ["row"] [("count", .local), ("item", .local)] hat rfl rfl (by decide) (fun pm c doc vs h => ?_) (by decide) (by decide) rfl rfl rfl (fun L a cd A' s l Zc hP => ?_)
  · obtain ⟨v, rfl⟩ := vs1 h
    rfl
  conv => arg 4; whnf
  refine Ws.ok (m := 30) (n := 30) ?_
  conv => whnf
  refine ⟨J1.forl (by simp) rfl (by intro _; rfl) (We.ok (n := 30) ⟨_, rfl, fun i σ => ∃ it, σ = ⟨[some (.lst (row.map It.d)), some (.int i), it], []⟩ ∧ ahead row = i + ahead (row.drop i), ⟨none, rfl, by simp⟩, ?_, ?_⟩)⟩
  · rintro i d σ₁ hi ⟨it, rfl, h1⟩ it o v
    rw [List.getElem?_map, Option.map_eq_some_iff] at hi
    obtain ⟨x, hx, rfl⟩ := hi
    refine Ws.ok (m := 30) (n := 30) ?_
    conv => whnf
    have hd : row.drop i = x :: row.drop (i + 1) := by
      obtain ⟨hl, hg⟩ := List.getElem?_eq_some_iff.mp hx
      rw [List.drop_eq_getElem_cons hl, hg]
    rw [show (Str.ofString "?").cps.toList = [63] from rfl]
    rw [hd, ahead] at h1
    by_cases hq : x.t = [63]
    · rw [hq] at h1 ⊢
      rw [if_pos rfl] at h1
      refine ⟨nofun, fun _ => ?_⟩
      conv => whnf
      exact ⟨some x.d, rfl, by lia⟩
    · have hb : (x.t == [63]) = false := beq_eq_false_iff_ne.mpr hq
      rw [if_neg hq] at h1
      rw [hb]
      refine ⟨fun _ => ?_, nofun⟩
      conv => whnf
      rw [h1]; rfl
  · rintro σ₁ ⟨it, rfl, h1⟩
    conv => whnf
    rw [List.length_map, List.drop_length] at h1
    rw [h1, List.length_map]; rfl
end Mine
end

section
open PySem PySem.W PyProof.Rows
set_option maxRecDepth 100000
namespace Mine
noncomputable def pattern (row : List It) : List Nat := catL (row.map It.t)
theorem allOf_str {α : Type} (f : α → List Nat) (l : List α) : allOf str1 (l.map fun x => D.str (f x)) = some (l.map f) := by
  induction l with
  | nil => rfl
  | cons x r ih => rw [List.map_cons, allOf, str1, ih]; rfl
theorem pattern_ok (g : Gb) (hat : FnAt g (fnGet 21)) (row : List It) (hz : (pattern row).length ≤ lim) : Ct g 0 (fnGet 21).name [.lst (row.map It.d)] (some (.str (pattern row))) := by
  refine Ct.plain ["row"] [] hat rfl rfl (by decide) (fun pm c doc vs h => ?_) (by decide) (by decide) rfl rfl rfl (fun L a cd A' s l Zc hP => ?_)
  · obtain ⟨v, rfl⟩ := vs1 h
    rfl
  conv => arg 4; whnf
  refine Ws.ok (m := 30) (n := 30) ?_
  conv => whnf
  refine ⟨Je.join (by rfl) (by rfl) (by rfl) ?_⟩
  refine Je.comp (k := 1) (by decide) (by decide) rfl (by decide) rfl (by intro _; rfl) (We.ok (n := 30) ⟨row.map It.d, row.map fun x => .str x.t, rfl, ⟨by simp, fun i d y h1 h2 C s₁ it o v a done => ?_⟩, ?_⟩)
  · rw [List.getElem?_map, Option.map_eq_some_iff] at h1 h2
    obtain ⟨x, hx, rfl⟩ := h1
    obtain ⟨x', hx', rfl⟩ := h2
    rw [hx] at hx'; cases hx'
    refine We.ok (n := 30) ?_
    conv => whnf
  · exact ⟨_, row.map It.t, rfl, allOf_str It.t row, hz, rfl⟩
end Mine
end

section
open PySem PySem.W PyProof.Rows
set_option maxRecDepth 100000
set_option genSizeOf false
set_option genInjectivity false
namespace Mine
theorem Wi.some {X : Prop} {x y d : D} {K : D → Prop} {r : Option D} (e : r = some d) (h : K d) : Wi X x y K r := by subst e; exact h
theorem ix_nat {k n : Nat} (h : k < n) : seqIndex? (k : Int) n = some k := by
  have h0 : ¬ (k : Int) < 0 := by lia
  rw [idx_def]
  simp only [h0, if_false]
  rw [if_pos (by lia)]
  rfl
theorem at_nat {α : Type} {xs : List α} {k : Nat} {x : α} (h : xs[k]? = some x) : (seqIndex? (k : Int) xs.length).bind (xs[·]?) = some x := by
  rw [ix_nat (List.getElem?_eq_some_iff.mp h).1]
  exact h
/-- a read item: a kind and signs -/
structure Rx where
  k : Int
  s : List Nat
noncomputable def Rx.d (x : Rx) : D := .tup [.int x.k, .str x.s]
noncomputable def fits : List Rx → List Nat → Bool
  | [], _ => true
  | _ :: _, [] => false
  | x :: r, c :: n => (decide (c ∈ x.s) == (x.k == 1)) && fits r n
noncomputable def fitsAt (row : List Rx) (name : List Nat) (at_ : Nat) : Bool := decide (at_ ≤ name.length) && fits row (name.drop at_)
theorem fits_len {row : List Rx} : ∀ {n : List Nat}, n.length < row.length → fits row n = false := by
  induction row with
  | nil => intro n h; exact absurd h (Nat.not_lt_zero _)
  | cons x r ih =>
    intro n h
    cases n with
    | nil => rfl
    | cons c n => rw [fits, ih (by simpa using h), Bool.and_false]
theorem fits_ok (g : Gb) (hat : FnAt g (fnGet 19)) (row : List Rx) (name : List Nat) (p : Nat) (hr : row.length ≤ lim) : Ct g 0 (fnGet 19).name [.lst (row.map Rx.d), .str name, .int p] (some (.bool (fitsAt row name p))) := by
  refine Ct.plain ["row", "name", "at"] [("k", .local), ("len", .globalImplicit), ("range", .globalImplicit)] hat rfl rfl (by decide) (fun pm c doc vs h => ?_) (by decide) (by decide) rfl rfl rfl (fun L a cd A' s l Zc hP => ?_)
  · obtain ⟨u, v, w, rfl⟩ := vs3 h
    rfl
  conv => arg 4; whnf
  refine Ws.ok (m := 30) (n := 30) ?_
  conv => whnf
  refine ⟨fun h1 => ?_, fun h1 => ?_⟩
  · conv => whnf
    have h1 : (name.length : Int) < (p : Int) + ((row.map Rx.d).length : Nat) := of_decide_eq_true h1
    rw [List.length_map] at h1
    congr 2
    unfold fitsAt
    by_cases h2 : p ≤ name.length
    · rw [fits_len (by rw [List.length_drop]; lia), Bool.and_false]
    · rw [decide_eq_false h2]; rfl
  · conv => whnf
    have h1 : ¬ (name.length : Int) < (p : Int) + ((row.map Rx.d).length : Nat) := of_decide_eq_false h1
    rw [List.length_map] at h1
    refine ⟨J1.forr (by simp) rfl rfl rfl (We.ok (n := 30) ⟨row.length, by simp, hr, fun i σ => ∃ k, σ = ⟨[some (.lst (row.map Rx.d)), some (.str name), some (.int p), k, none, none], []⟩ ∧ fits row (name.drop p) = fits (row.drop i) (name.drop (p + i)), ⟨none, rfl, by simp⟩, ?_, ?_⟩)⟩
    · rintro i σ₁ hi ⟨k, rfl, h2⟩ it o v
      have hx : (row.map Rx.d)[i]? = some row[i].d := by simp [hi]
      have hc : p + i < name.length := by lia
      refine Ws.ok (m := 30) (n := 30) ?_
      conv => whnf
      have e1 : Option.map (fun c => D.str [c]) ((seqIndex? ((p : Int) + (i : Int)) name.length).bind fun x => name[x]?) = some (.str [name[p + i]]) := by
        rw [show (p : Int) + (i : Int) = ((p + i : Nat) : Int) by lia, at_nat (List.getElem?_eq_getElem hc)]
        rfl
      have e2 : (seqIndex? (i : Int) (row.map Rx.d).length).bind ((row.map Rx.d)[·]?) = some row[i].d := at_nat hx
      rw [e1]
      conv => whnf
      rw [e2]
      conv => whnf
      rw [e2]
      conv => whnf
      have h3 : name.drop (p + i) = name[p + i] :: name.drop (p + (i + 1)) := List.drop_eq_getElem_cons hc
      have h4 : row.drop i = row[i] :: row.drop (i + 1) := List.drop_eq_getElem_cons hi
      rw [h3, h4, fits] at h2
      cases hb : (decide (name[p + i] ∈ row[i].s) == (row[i].k == 1)) with
      | true =>
        rw [hb, Bool.true_and] at h2
        refine ⟨nofun, fun _ => ?_⟩
        conv => whnf
        exact ⟨some (.int i), rfl, h2⟩
      | false =>
        rw [hb, Bool.false_and] at h2
        refine ⟨fun _ => ?_, nofun⟩
        conv => whnf
        unfold fitsAt
        rw [h2, Bool.and_false]
    · rintro σ₁ ⟨k, rfl, h2⟩
      conv => whnf
      rw [List.drop_length] at h2
      unfold fitsAt
      rw [h2, decide_eq_true (by lia : p ≤ name.length)]
      rfl
end Mine
end

section
open PySem PySem.W PyProof.Rows
set_option maxRecDepth 100000
namespace Mine
noncomputable def left (A : Int) (core : List D) (B : Int) (row : List D) (am : Int) : D :=
  if core = [] then (if 0 ≤ am ∧ am ≤ row.length then .lst (cutL (some am) none row) else .none)
  else if am < 0 ∨ am ≥ A + B then .lst core else .lst (cutL (some (min am A)) (some (row.length - max (am - A) 0)) row)
theorem left_ok (g : Gb) (hat : FnAt g (fnGet 23)) (A : Int) (core : List D) (B : Int) (row : List D) (am : Int) : Ct g 0 (fnGet 23).name [.int A, .lst core, .int B, .lst row, .int am] (some (left A core B row am)) := by
  refine Ct.plain ["ahead", "core", "behind", "row", "amount"] [("len", .globalImplicit), ("min", .globalImplicit), ("max", .globalImplicit)] hat rfl rfl (by decide) (fun pm c doc vs h => ?_) (by decide) (by decide) rfl rfl rfl (fun L a cd A' s l Zc hP => ?_)
  · obtain ⟨u, v, w, x, y, rfl⟩ := vs5 h
    rfl
  conv => arg 4; whnf
  refine Ws.ok (m := 30) (n := 30) ?_
  conv => whnf
  cases core with
  | nil =>
    refine ⟨fun _ => ?_, nofun⟩
    conv => whnf
    refine ⟨Jt.chain (Je.int (We.ok (n := 30) ?_)) (by rfl)⟩
    conv => whnf
    refine ⟨_, rfl, fun h => ⟨nofun, fun _ => ?_⟩, fun h => We.ok (n := 30) ?_⟩
    · conv => whnf
      have h : ¬ 0 ≤ am := of_decide_eq_false h
      rw [left, if_pos rfl, if_neg (fun q => h q.1)]
    · conv => whnf
      have h : 0 ≤ am := of_decide_eq_true h
      refine ⟨_, rfl, fun h2 => ?_, fun h2 => ?_⟩
      · conv => whnf
        have h2 : am ≤ row.length := of_decide_eq_true h2
        rw [left, if_pos rfl, if_pos ⟨h, h2⟩]
      · conv => whnf
        have h2 : ¬ am ≤ row.length := of_decide_eq_false h2
        rw [left, if_pos rfl, if_neg (fun q => h2 q.2)]
  | cons c r =>
    refine ⟨nofun, fun _ => ?_⟩
    conv => whnf
    refine ⟨fun h => ⟨fun _ => ?_, nofun⟩, fun h => ?_⟩
    · conv => whnf
      have h : am < 0 := of_decide_eq_true h
      rw [left, if_neg (by simp), if_pos (.inl h)]
    · conv => whnf
      have h : ¬ am < 0 := of_decide_eq_false h
      refine ⟨fun h2 => ⟨fun _ => ?_, nofun⟩, fun h2 => ?_⟩
      · conv => whnf
        have h2 : am ≥ A + B := of_decide_eq_true h2
        rw [left, if_neg (by simp), if_pos (.inr h2)]
      · conv => whnf
        have h2 : ¬ am ≥ A + B := of_decide_eq_false h2
        refine ⟨nofun, fun _ => ?_⟩
        conv => whnf
        rw [left, if_neg (by simp), if_neg (fun q => q.elim h h2)]
end Mine
end

section
open PySem PySem.W PyProof.Rows
set_option maxRecDepth 100000
namespace Mine
/-- the first place, from p on, where the row fits -/
noncomputable def place (row : List Rx) (name : List Nat) : Nat → Nat → Nat
  | 0, p => p
  | n + 1, p => if p ≤ name.length ∧ fitsAt row name p = false then place row name n (p + 1) else p
theorem place_fuel (r : List Rx) (name : List Nat) : ∀ (n m p : Nat), name.length + 1 ≤ p + n → name.length + 1 ≤ p + m → place r name n p = place r name m p := by
  intro n
  induction n with
  | zero =>
    intro m p h1 h2
    cases m with
    | zero => rfl
    | succ m => rw [place, place, if_neg (fun q => by lia)]
  | succ n ih =>
    intro m p h1 h2
    cases m with
    | zero => rw [place, place, if_neg (fun q => by lia)]
    | succ m =>
      rw [place, place]
      by_cases h : p ≤ name.length ∧ fitsAt r name p = false
      · rw [if_pos h, if_pos h]; exact ih m (p + 1) (by lia) (by lia)
      · rw [if_neg h, if_neg h]
theorem place_stop (r : List Rx) (name : List Nat) : ∀ (n p : Nat), name.length + 1 ≤ p + n → place r name n p ≤ name.length → fitsAt r name (place r name n p) = true := by
  intro n
  induction n with
  | zero => intro p h1 h2; rw [place] at h2; lia
  | succ n ih =>
    intro p h1 h2
    rw [place] at h2 ⊢
    by_cases h : p ≤ name.length ∧ fitsAt r name p = false
    · rw [if_pos h] at h2 ⊢; exact ih (p + 1) (by lia) h2
    · rw [if_neg h] at h2 ⊢
      cases z : fitsAt r name p with
      | true => rfl
      | false => exact absurd ⟨h2, z⟩ h
theorem fits_room {r : List Rx} {name : List Nat} {p : Nat} (h : fitsAt r name p = true) : p + r.length ≤ name.length := by
  unfold fitsAt at h
  rw [Bool.and_eq_true] at h
  have h1 : p ≤ name.length := of_decide_eq_true h.1
  apply Classical.byContradiction
  intro z
  rw [fits_len (by rw [List.length_drop]; lia)] at h
  exact nomatch h.2
theorem at_last {α : Type} {xs : List α} {x : α} (h : xs.getLast? = some x) : (seqIndex? (-1) xs.length).bind (xs[·]?) = some x := by
  have hl : 0 < xs.length := by
    cases xs with
    | nil => exact nomatch h
    | cons _ _ => simp
  rw [idx_def]
  simp only [show (-1 : Int) < 0 by decide, if_true]
  rw [if_pos (by lia), show ((-1 : Int) + xs.length).toNat = xs.length - 1 by lia]
  rw [← h, List.getLast?_eq_getElem?]
  rfl
noncomputable def middle (name : List Nat) : List (List Rx) → Nat → Option Nat
  | [], p => some p
  | r :: rs, p => if place r name (name.length + 1) p > name.length then none else middle name rs (place r name (name.length + 1) p + r.length)
noncomputable def ends (z : List Rx) (name : List Nat) : Option Nat → Bool
  | none => false
  | some p => decide (p + z.length ≤ name.length) && fitsAt z name (name.length - z.length)
noncomputable def takes (rows : List (List Rx)) (name : List Nat) : Bool := match rows with
  | [] => false
  | [r] => decide (r.length = name.length) && fitsAt r name 0
  | r :: r2 :: rs => fitsAt r name 0 && ends ((r2 :: rs).getLast (by simp)) name (middle name (r2 :: rs).dropLast r.length)
noncomputable def rowD (r : List Rx) : D := .lst (r.map Rx.d)
theorem takes_ok (g : Gb) (hat : FnAt g (fnGet 20)) (hf : FnAt g (fnGet 19)) (rows : List (List Rx)) (name : List Nat) (h0 : rows ≠ []) (hr : ∀ r ∈ rows, r.length ≤ 10000) (hl : rows.length ≤ 10000) (hn : name.length ≤ 10000) :
    Ct g 1 (fnGet 20).name [.lst (rows.map rowD), .str name] (some (.bool (takes rows name))) := by
  refine Ct.plain ["rows", "name"] [("at", .local), ("row", .local), ("last", .local), ("len", .globalImplicit), ("_law_fits", .globalImplicit)] hat rfl rfl (by decide) (fun pm c doc vs h => ?_) (by decide) (by decide) rfl rfl rfl (fun L a cd A' s l Zc hP => ?_)
  · obtain ⟨u, v, rfl⟩ := vs2 h
    rfl
  conv => arg 4; whnf
  refine Ws.ok (m := 30) (n := 30) ?_
  conv => whnf
  obtain ⟨r, rs, rfl⟩ := List.exists_cons_of_ne_nil h0
  have cf : ∀ (r : List Rx) (p : Nat), r ∈ r :: rs → True := fun _ _ _ => trivial
  have fitsC : ∀ (q : List Rx) (p : Nat), q.length ≤ 10000 → Ct g 0 (Str.ofString "_law_fits") [rowD q, .str name, .int p] (some (.bool (fitsAt q name p))) := fun q p hq => fits_ok g hf q name p (Nat.le_trans hq (by decide))
  have hr0 : r.length ≤ 10000 := hr r (.head _)
  cases rs with
  | nil =>
    refine ⟨fun _ => ?_, nofun⟩
    conv => whnf
    refine ⟨Je.and (We.ok (n := 30) ?_)⟩
    conv => whnf
    refine ⟨_, rfl, fun h => ?_, fun h => Je.one (We.ok (n := 30) ?_)⟩
    · have h : ¬ r.length = name.length := by rw [List.length_map] at h; have := beq_eq_false_iff_ne.mp h; lia
      show some _ = some _
      congr 2
      rw [takes]
      simp [h]
    · conv => whnf
      have h : r.length = name.length := by rw [List.length_map] at h; have := eq_of_beq h; lia
      refine ⟨0, .bool (fitsAt r name 0), Nat.zero_lt_one, fitsC r 0 hr0, ?_⟩
      show some _ = some _
      congr 2
      rw [takes]
      simp [h]
  | cons r2 rs =>
    refine ⟨fun h => ?_, fun _ => ?_⟩
    · exact absurd h (by simp; lia)
    · conv => whnf
      have e1 : (seqIndex? 0 (List.map rowD (r :: r2 :: rs)).length).bind (fun x => (List.map rowD (r :: r2 :: rs))[x]?) = some (rowD r) := at_nat (k := 0) rfl
      rw [e1]
      conv => whnf
      refine ⟨0, .bool (fitsAt r name 0), Nat.zero_lt_one, fitsC r 0 hr0, ?_⟩
      conv => whnf
      cases hf0 : fitsAt r name 0 with
      | false =>
        refine ⟨fun _ => ?_, nofun⟩
        conv => whnf
        show some _ = some _
        rw [takes, hf0, Bool.false_and]
      | true =>
        refine ⟨nofun, fun _ => ?_⟩
        conv => whnf
        rw [e1]
        conv => whnf
        have hms : cutL (some 1) (some (-1)) (List.map rowD (r :: r2 :: rs)) = (r2 :: rs).dropLast.map rowD := by
          unfold cutL
          have c1 : clipAt (List.map rowD (r :: r2 :: rs)).length 1 = 1 := by
            have := clipAt_nat (List.map rowD (r :: r2 :: rs)).length 1
            rw [show ((1 : Nat) : Int) = 1 from rfl] at this
            rw [this]; simp
          have c2 : clipAt (List.map rowD (r :: r2 :: rs)).length (-1) = rs.length + 1 := by
            have := clipAt_neg (List.map rowD (r :: r2 :: rs)).length 1 (Nat.le_refl _)
            rw [show -((1 : Nat) : Int) = -1 from rfl] at this
            rw [this]; simp
          show ((List.map rowD (r :: r2 :: rs)).drop (clipAt _ 1)).take (clipAt _ (-1) - clipAt _ 1) = _
          rw [c1, c2, List.map_cons, List.drop_succ_cons, List.drop_zero, Nat.add_sub_cancel, List.dropLast_eq_take, List.map_take]
          rfl
        generalize hM : (r2 :: rs).dropLast = ms at hms
        have hrl : r.length ≤ name.length := by
          apply Classical.byContradiction
          intro z
          rw [fitsAt, fits_len (by simpa using z), Bool.and_false] at hf0
          exact nomatch hf0
        refine ⟨J1.forl (by simp) rfl (by intro _; rfl) (We.ok (n := 30) ?_)⟩
        conv => whnf
        refine ⟨_, rfl, ?_⟩
        rw [hms]
        refine ⟨fun i σ => ∃ p row, σ = ⟨[some (.lst (List.map rowD (r :: r2 :: rs))), some (.str name), some (.int (p : Nat)), row, none, none, none], []⟩ ∧ p ≤ name.length ∧ middle name ms r.length = middle name (ms.drop i) p, ⟨r.length, none, by simp, hrl, rfl⟩, ?_, ?_⟩
        · rintro i d σ₁ hi ⟨p, row, rfl, hp, hm⟩ it o v
          rw [List.getElem?_map, Option.map_eq_some_iff] at hi
          obtain ⟨q, hq, rfl⟩ := hi
          refine Ws.ok (m := 30) (n := 30) ?_
          conv => whnf
          have hq2 : q.length ≤ 10000 := hr q (by
            have := List.mem_of_getElem? hq
            rw [← hM] at this
            exact .tail _ (List.dropLast_subset _ this))
          have hd : ms.drop i = q :: ms.drop (i + 1) := by
            obtain ⟨hl, hg⟩ := List.getElem?_eq_some_iff.mp hq
            rw [List.drop_eq_getElem_cons hl, hg]
          rw [hd, middle] at hm
          refine ⟨J1.mid (fun σ => σ = ⟨[some (.lst (List.map rowD (r :: r2 :: rs))), some (.str name), some (.int (place q name (name.length + 1) p : Nat)), some (rowD q), none, none, none], []⟩) ?_ ?_⟩
          · refine J1.while (fun h => absurd h (by simp)) (fun n σ => ∃ p', σ = ⟨[some (.lst (List.map rowD (r :: r2 :: rs))), some (.str name), some (.int (p' : Nat)), some (rowD q), none, none, none], []⟩ ∧ p' + n = name.length + 1 ∧ place q name n p' = place q name (name.length + 1) p) (name.length + 1 - p) ⟨p, rfl, by lia, ?_⟩ ?_
            · exact place_fuel q name _ _ p (by lia) (by lia)
            · rintro n σ₂ ⟨p', rfl, h2, h3⟩
              refine Wt.ok (n := 30) (we := We _ _ _ 30) (fun _ _ => We.ok) ?_
              conv => whnf
              refine ⟨fun h4 => ⟨nofun, fun _ => ?_⟩, fun h4 => ?_⟩
              · have h4 : ¬ (p' : Int) ≤ name.length := of_decide_eq_false h4
                obtain rfl : n = 0 := by lia
                rw [place] at h3
                rw [h3]
              · have h4 : (p' : Int) ≤ name.length := of_decide_eq_true h4
                obtain ⟨m, rfl⟩ : ∃ m, n = m + 1 := ⟨n - 1, by lia⟩
                conv => whnf
                refine ⟨0, .bool (fitsAt q name p'), Nat.zero_lt_one, fitsC q p' hq2, ?_⟩
                conv => whnf
                rw [place] at h3
                cases hb : fitsAt q name p' with
                | true =>
                  rw [hb, if_neg (fun z => nomatch z.2)] at h3
                  exact ⟨fun _ => ⟨nofun, fun _ => by rw [h3]⟩, nofun⟩
                | false =>
                  rw [hb, if_pos ⟨by lia, rfl⟩] at h3
                  refine ⟨nofun, fun _ => ⟨fun _ => Ws.ok (m := 30) (n := 30) ?_, nofun⟩⟩
                  conv => whnf
                  exact ⟨m, by lia, p' + 1, rfl, by lia, h3⟩
          · rintro σ₂ rfl
            conv => whnf
            refine ⟨fun h4 => ?_, fun h4 => ?_⟩
            · have h4 : (place q name (name.length + 1) p : Int) > name.length := of_decide_eq_true h4
              conv => whnf
              show some _ = some _
              rw [takes, hM, hm, if_pos (by lia), ends, Bool.and_false]
            · have h4 : ¬ (place q name (name.length + 1) p : Int) > name.length := of_decide_eq_false h4
              conv => whnf
              rw [if_neg (by lia)] at hm
              have h5 := fits_room (place_stop q name (name.length + 1) p (by lia) (by lia))
              refine ⟨place q name (name.length + 1) p + q.length, some (rowD q), ?_, h5, hm⟩
              show Ms.mk _ _ = Ms.mk _ _
              rw [Int.natCast_add]
              rw [← List.length_map (f := Rx.d)]
              rfl
        · rintro σ₁ ⟨p, row, rfl, hp, hm⟩
          conv => whnf
          have e3 : (seqIndex? (-1) (List.map rowD (r :: r2 :: rs)).length).bind (fun x => (List.map rowD (r :: r2 :: rs))[x]?) = some (rowD ((r2 :: rs).getLast (by simp))) := at_last (by
            rw [List.getLast?_map, List.getLast?_cons_cons, List.getLast?_eq_some_getLast (by simp)]; rfl)
          rw [e3]
          generalize hZ : (r2 :: rs).getLast (by simp) = z at e3
          have hz : z.length ≤ 10000 := hr z (by rw [← hZ]; exact .tail _ (List.getLast_mem _))
          conv => whnf
          refine ⟨Je.and (We.ok (n := 30) ?_)⟩
          conv => whnf
          rw [List.length_map, List.drop_length, middle] at hm
          refine ⟨_, rfl, fun h => ?_, fun h => Je.one (We.ok (n := 30) ?_)⟩
          · have h : ¬ (name.length : Int) - (z.map Rx.d).length ≥ p := of_decide_eq_false h
            rw [List.length_map] at h
            show some _ = some _
            rw [takes, hM, hm, hZ, hf0, ends, decide_eq_false (by lia)]
            rfl
          · have h : (name.length : Int) - (z.map Rx.d).length ≥ p := of_decide_eq_true h
            rw [List.length_map] at h
            conv => whnf
            rw [e3]
            conv => whnf
            refine ⟨0, .bool (fitsAt z name (name.length - z.length)), Nat.zero_lt_one, ?_, ?_⟩
            · have := fitsC z (name.length - z.length) hz
              rw [Int.ofNat_sub (by lia)] at this
              rw [List.length_map]
              exact this
            · show some _ = some _
              rw [takes, hM, hm, hZ, hf0, ends, decide_eq_true (by lia)]
              rfl
end Mine
end

section
open PySem PySem.W PyProof.Rows
set_option maxRecDepth 100000
namespace Mine
noncomputable def starFit (l : Nat) : List Nat := match l % 4 with
  | 0 => []
  | 1 => [97]
  | 2 => [32, 97]
  | _ => [120, 120]
noncomputable def negFit (l : Nat) : List Nat := match l % 4 with
  | 0 => [97]
  | 1 => [10]
  | 2 => [32]
  | _ => [120]
noncomputable def sign (l : Nat) : List Nat := match l % 8 with
  | 0 => [45]
  | 1 => [46]
  | 2 => [40]
  | 3 => [41]
  | 4 => [43]
  | 5 => [35]
  | 6 => [94]
  | _ => [10]
/-- what a number draws -/
noncomputable def drawn (n : Nat) : It := match n % 14 with
  | 0 | 1 | 2 | 3 => ⟨[63], 1, [32], [32]⟩
  | 4 | 5 => ⟨[42], 0, [], starFit (n / 14)⟩
  | 6 => ⟨[97], 1, [97], [97]⟩
  | 7 => ⟨[32], 1, [32], [32]⟩
  | 8 => ⟨[91, 32, 93], 1, [32], [32]⟩
  | 9 => ⟨[91, 33, 98, 45, 97, 93], 2, [], negFit (n / 14)⟩
  | 10 => ⟨[91, 98, 45, 97, 93], 1, [], [97]⟩
  | 11 => ⟨[91, 33, 32, 93], 2, [32], [120]⟩
  | 12 => ⟨[91, 63, 93], 1, [63], [63]⟩
  | _ => ⟨sign (n / 14), 1, sign (n / 14), sign (n / 14)⟩

theorem lt4 {w : Nat} (h : w < 4) : w = 0 ∨ w = 1 ∨ w = 2 ∨ w = 3 := by revert w; decide
theorem lt8 {w : Nat} (h : w < 8) : w = 0 ∨ w = 1 ∨ w = 2 ∨ w = 3 ∨ w = 4 ∨ w = 5 ∨ w = 6 ∨ w = 7 := by revert w; decide
theorem lt14 {w : Nat} (h : w < 14) : w = 0 ∨ w = 1 ∨ w = 2 ∨ w = 3 ∨ w = 4 ∨ w = 5 ∨ w = 6 ∨ w = 7 ∨ w = 8 ∨ w = 9 ∨ w = 10 ∨ w = 11 ∨ w = 12 ∨ w = 13 := by revert w; decide
theorem fmod14 (n : Nat) : (n : Int).fmod 14 = ((n % 14 : Nat) : Int) := by
  rw [Int.fmod_eq_emod_of_nonneg _ (by decide)]; rfl
theorem fdiv14 (n : Nat) : (n : Int).fdiv 14 = ((n / 14 : Nat) : Int) := by
  rw [Int.fdiv_eq_ediv_of_nonneg _ (by decide)]; rfl
theorem drawn_ok (g : Gb) (hat : FnAt g (fnGet 12)) (number : Nat) : Ct g 0 (fnGet 12).name [.int number] (some (drawn number).d) := by
  refine Ct.plain ["number"] [("which", .local), ("left", .local), ("sign", .local)] hat rfl rfl (by decide) (fun pm c doc vs h => ?_) (by decide) (by decide) rfl rfl rfl (fun L a cd A' s l Zc hP => ?_)
  · obtain ⟨u, rfl⟩ := vs1 h
    rfl
  conv => arg 4; whnf
  refine Ws.ok (m := 30) (n := 30) ?_
  conv => whnf
  refine ⟨J1.tup2 (k := 1) (k' := 2) rfl rfl (by decide) (by rfl) (by first | exact Or.inl rfl | exact Or.inr rfl) (We.ok (n := 30) ?_)⟩
  conv => whnf
  refine ⟨show (14 : Int) ≠ 0 by decide, ?_⟩
  conv => whnf
  refine ⟨rfl, ?_⟩
  conv => whnf
  refine ⟨show 2 ≤ 100000 by decide, _, _, rfl, ?_⟩
  rw [show (iMod (number : Int) 14).snd = ((number % 14 : Nat) : Int) from fmod14 number, show (iDiv (number : Int) 14).snd = ((number / 14 : Nat) : Int) from fdiv14 number]
  unfold drawn
  generalize number / 14 = l'
  have hw : number % 14 < 14 := Nat.mod_lt _ (by decide)
  generalize number % 14 = w at hw
  have hc := lt14 hw
  have l4 : (l' : Int).fmod 4 = ((l' % 4 : Nat) : Int) := by rw [Int.fmod_eq_emod_of_nonneg _ (by decide)]; rfl
  have l8 : (l' : Int).fmod 8 = ((l' % 8 : Nat) : Int) := by rw [Int.fmod_eq_emod_of_nonneg _ (by decide)]; rfl
  conv => whnf
  rcases hc with rfl | rfl | rfl | rfl | rfl | rfl | rfl | rfl | rfl | rfl | rfl | rfl | rfl | rfl
  iterate 4
    · refine ⟨fun _ => ?_, fun h => absurd h (by decide)⟩
      conv => whnf
      exact ⟨show 4 ≤ 100000 by decide, rfl⟩
  iterate 2
    · refine ⟨fun h => absurd h (by decide), fun _ => ?_⟩
      conv => whnf
      refine ⟨fun _ => ?_, fun h => absurd h (by decide)⟩
      conv => whnf
      refine ⟨show 4 ≤ 100000 by decide, ?_⟩
      conv => whnf
      refine ⟨show (4 : Int) ≠ 0 by decide, ?_⟩
      rw [show (iMod (l' : Int) 4).snd = ((l' % 4 : Nat) : Int) from l4]
      unfold starFit
      have h4 : l' % 4 < 4 := Nat.mod_lt _ (by decide)
      generalize l' % 4 = m at h4
      have hm := lt4 h4
      rcases hm with rfl | rfl | rfl | rfl <;> (conv => whnf) <;> exact ⟨show 4 ≤ 100000 by decide, rfl⟩
  all_goals refine ⟨fun h => absurd h (by decide), fun _ => ?_⟩
  all_goals (conv => whnf)
  all_goals refine ⟨fun h => absurd h (by decide), fun _ => ?_⟩
  all_goals (conv => whnf)
  -- 6 7 8, then 9, then 10 11 12, then 13
  rotate_left 3
  · refine ⟨fun _ => ?_, fun h => absurd h (by decide)⟩
    conv => whnf
    refine ⟨show (4 : Int) ≠ 0 by decide, ?_⟩
    rw [show (iMod (l' : Int) 4).snd = ((l' % 4 : Nat) : Int) from l4]
    unfold negFit
    have h4 : l' % 4 < 4 := Nat.mod_lt _ (by decide)
    generalize l' % 4 = m at h4
    have hm := lt4 h4
    rcases hm with rfl | rfl | rfl | rfl <;> (conv => whnf) <;> exact ⟨show 4 ≤ 100000 by decide, rfl⟩
  rotate_left 3
  · refine ⟨fun h => absurd h (by decide), fun _ => ?_⟩
    conv => whnf
    refine ⟨fun _ => ?_, fun h => absurd h (by decide)⟩
    conv => whnf
    refine ⟨show (8 : Int) ≠ 0 by decide, ?_⟩
    rw [show (iMod (l' : Int) 8).snd = ((l' % 8 : Nat) : Int) from l8]
    unfold sign
    have h8 : l' % 8 < 8 := Nat.mod_lt _ (by decide)
    generalize l' % 8 = m at h8
    have hm := lt8 h8
    rcases hm with rfl | rfl | rfl | rfl | rfl | rfl | rfl | rfl <;> (conv => whnf) <;> exact ⟨show 4 ≤ 100000 by decide, rfl⟩
  all_goals refine ⟨fun h => absurd h (by decide), fun _ => ?_⟩
  all_goals (conv => whnf)
  all_goals refine ⟨fun h => absurd h (by decide), fun _ => ?_⟩
  all_goals (conv => whnf)
  all_goals
    iterate 7
      refine ⟨show 4 ≤ 100000 by decide, ?_⟩
      conv => whnf
    refine ⟨show 7 ≤ 100000 by decide, ?_⟩
    conv => whnf
    rfl
end Mine
end

section
open PySem PySem.W PyProof.Rows
set_option maxRecDepth 100000
namespace Mine
noncomputable def markI : It := ⟨[63], 1, [32], [32]⟩
noncomputable def rowOf (ns : List Nat) : List It := List.replicate (ns.headD 0 / 14 % 3) markI ++ ns.map drawn ++ List.replicate (ns.getLastD 0 / 14 % 3) markI
theorem row_ok (g : Gb) (hat : FnAt g (fnGet 13)) (hd : FnAt g (fnGet 12)) (ns : List Nat) (h0 : ns ≠ []) (hl : ns.length ≤ 50) : Ct g 1 (fnGet 13).name [.lst (ns.map fun n => D.int (n : Nat))] (some (.lst ((rowOf ns).map It.d))) := by
  refine Ct.plain ["numbers"] [("mark", .local), ("row", .local)] hat rfl rfl (by decide) (fun pm c doc vs h => ?_) (by decide) (by decide) rfl rfl rfl (fun L a cd A' s l Zc hP => ?_)
  · obtain ⟨u, rfl⟩ := vs1 h
    rfl
  conv => arg 4; whnf
  refine Ws.ok (m := 30) (n := 30) ?_
  conv => whnf
  refine ⟨show 4 ≤ 100000 by decide, ?_⟩
  conv => whnf
  refine ⟨J1.compas (k := 1) (k' := 2) (by rfl) (by decide) (by decide) rfl (by decide) rfl (by intro _; rfl) rfl (We.ok (n := 30) ⟨_, (ns.map drawn).map It.d, rfl, ⟨by simp, fun i d y h1 h2 C s₁ it o v a done => ?_⟩, ?_⟩)⟩
  · rw [List.getElem?_map, Option.map_eq_some_iff] at h1 h2
    obtain ⟨n, hn, rfl⟩ := h1
    rw [List.getElem?_map, hn] at h2
    obtain ⟨x, hx, rfl⟩ := h2
    cases hx
    refine We.ok (n := 30) ?_
    conv => whnf
    exact ⟨0, (drawn n).d, Nat.zero_lt_one, drawn_ok g hd n, rfl⟩
  · conv => whnf
    refine ⟨show 1 ≤ 100000 by decide, ?_⟩
    conv => whnf
    obtain ⟨n, r, rfl⟩ := List.exists_cons_of_ne_nil h0
    have e1 : (seqIndex? 0 (List.map (fun n : Nat => D.int n) (n :: r)).length).bind (fun x => (List.map (fun n : Nat => D.int n) (n :: r))[x]?) = some (D.int n) := at_nat (k := 0) rfl
    have e2 : (seqIndex? (-1) (List.map (fun n : Nat => D.int n) (n :: r)).length).bind (fun x => (List.map (fun n : Nat => D.int n) (n :: r))[x]?) = some (D.int ((n :: r).getLast (by simp) : Nat)) := at_last (by
      rw [List.getLast?_map, List.getLast?_eq_some_getLast (by simp)]; rfl)
    rw [e1]
    conv => whnf
    refine ⟨rfl, ?_⟩
    conv => whnf
    refine ⟨show (3 : Int) ≠ 0 by decide, ?_⟩
    conv => whnf
    have e3 : ∀ m : Nat, (iMod (iDiv (m : Int) 14).snd 3).snd = ((m / 14 % 3 : Nat) : Int) := fun m => by
      show ((m : Int).fdiv 14).fmod 3 = _
      rw [fdiv14, Int.fmod_eq_emod_of_nonneg _ (by decide)]; rfl
    rw [e3]
    refine ⟨⟨show 1 ≤ 100 by decide, by lia, by lia⟩, ?_⟩
    conv => whnf
    have e4 : ∀ (m : D) k, rep [m] k = List.replicate k m := fun m k => by
      induction k with
      | zero => rfl
      | succ k ih => rw [rep, ih]; rfl
    refine ⟨?_, ?_⟩
    · show (rep _ _).length + (List.map It.d (List.map drawn (n :: r))).length ≤ 100000
      rw [e4, List.length_replicate, List.length_map, List.length_map]; lia
    conv => whnf
    refine ⟨show 1 ≤ 100000 by decide, ?_⟩
    conv => whnf
    rw [e2]
    conv => whnf
    refine ⟨rfl, ?_⟩
    conv => whnf
    refine ⟨show (3 : Int) ≠ 0 by decide, ?_⟩
    conv => whnf
    rw [e3]
    refine ⟨⟨show 1 ≤ 100 by decide, by lia, by lia⟩, ?_⟩
    conv => whnf
    refine ⟨?_, ?_⟩
    · show (rep _ _ ++ (List.map It.d (List.map drawn (n :: r)))).length + (rep _ _).length ≤ 100000
      rw [e4, e4, List.length_append, List.length_replicate, List.length_map, List.length_map, List.length_replicate]; lia
    · show some (D.lst _) = some (D.lst _)
      rw [e4, e4, rowOf, List.map_append, List.map_append, List.map_replicate, List.map_replicate, Int.toNat_natCast, Int.toNat_natCast]
      rw [List.getLastD_eq_getLast?, List.getLast?_eq_some_getLast (by simp)]
      rfl
end Mine
end

section
open PySem PySem.W PyProof.Rows
set_option maxRecDepth 100000
namespace Mine
noncomputable def drawnOf (script : List Int) : List Nat := (script.take 8).map fun n => (n.fmod 100000000).toNat
noncomputable def numsOf (script : List Int) : List Nat := drawnOf script ++ [14, 6, 32, 0, 23, 31].drop (drawnOf script).length
theorem fmodNat (n : Int) : n.fmod 100000000 = ((n.fmod 100000000).toNat : Nat) := by
  rw [Int.toNat_of_nonneg (Int.fmod_nonneg_of_pos _ (by decide))]
theorem cutL_take {α : Type} (k : Nat) (xs : List α) : cutL none (some (k : Int)) xs = xs.take k := by
  show (xs.drop 0).take (clipAt _ _ - 0) = _
  rw [clipAt_nat, List.drop_zero, Nat.sub_zero]
  rw [List.take_eq_take_iff]; lia
theorem cutL_drop {α : Type} (k : Nat) (xs : List α) : cutL (some (k : Int)) none xs = xs.drop k := by
  show (xs.drop (clipAt _ _)).take (xs.length - clipAt _ _) = _
  rw [clipAt_nat, ← List.length_drop, List.take_length]
  by_cases h : k ≤ xs.length
  · rw [Nat.min_eq_left h]
  · rw [Nat.min_eq_right (by lia), List.drop_length, List.drop_eq_nil_of_le (by lia)]
theorem numbers_ok (g : Gb) (hat : FnAt g (fnGet 11)) (script : List Int) : Ct g 0 (fnGet 11).name [.lst (script.map D.int)] (some (.lst ((numsOf script).map fun n => D.int (n : Nat)))) := by
  refine Ct.plain ["script"] [("own", .local), ("drawn", .local), ("len", .globalImplicit)] hat rfl rfl (by decide) (fun pm c doc vs h => ?_) (by decide) (by decide) rfl rfl rfl (fun L a cd A' s l Zc hP => ?_)
  · obtain ⟨u, rfl⟩ := vs1 h
    rfl
  conv => arg 4; whnf
  refine Ws.ok (m := 30) (n := 30) ?_
  conv => whnf
  refine ⟨show 6 ≤ 100000 by decide, ?_⟩
  conv => whnf
  refine ⟨J1.compas (k := 1) (k' := 2) (by rfl) (by decide) (by decide) rfl (by decide) rfl (by intro _; rfl) rfl (We.ok (n := 30) ?_)⟩
  conv => whnf
  refine ⟨_, (drawnOf script).map fun n => D.int (n : Nat), rfl, ⟨?_, fun i d y h1 h2 C s₁ it o v a done => ?_⟩, ?_⟩
  · rw [show cutL none (some 8) (List.map D.int script) = (List.map D.int script).take 8 from cutL_take 8 _]
    simp [drawnOf]
  · rw [show cutL none (some 8) (List.map D.int script) = (List.map D.int script).take 8 from cutL_take 8 _, ← List.map_take, List.getElem?_map, Option.map_eq_some_iff] at h1
    obtain ⟨n, hn, rfl⟩ := h1
    rw [List.getElem?_map, drawnOf, List.getElem?_map, hn] at h2
    cases h2
    refine We.ok (n := 30) ?_
    conv => whnf
    refine ⟨⟨rfl, rfl⟩, ?_⟩
    conv => whnf
    refine ⟨show (100000000 : Int) ≠ 0 by decide, ?_⟩
    conv => whnf
    exact congrArg D.int (fmodNat n)
  · conv => whnf
    have hd : (drawnOf script).length ≤ 8 := by
      rw [drawnOf, List.length_map, List.length_take]; exact Nat.min_le_left _ _
    rw [List.length_map, cutL_drop]
    refine ⟨?_, ?_⟩
    · show (drawnOf script).length + (List.drop _ [D.int 14, D.int 6, D.int 32, D.int 0, D.int 23, D.int 31]).length ≤ 100000
      rw [List.length_drop]
      show _ + (6 - _) ≤ _
      lia
    · show some (D.lst _) = some (D.lst _)
      rw [numsOf, List.map_append, List.map_drop]
      rfl
end Mine
end

section
open PySem PySem.W PyProof.Rows
set_option maxRecDepth 100000
namespace Mine
noncomputable def wordOf (core : List It) (n0 : Nat) : List Nat := catL (core.map It.f) ++ (if n0 / 14 % 9 = 8 then [122] else [])
noncomputable def betw (core : List It) (n0 : Nat) : List Nat :=
  if core = [] then [] else
  if wordOf core n0 = [] ∨ (wordOf core n0).head? = some 32 ∨ (wordOf core n0).getLast? = some 32 then [120] ++ wordOf core n0 ++ [120] else wordOf core n0
theorem allOf_map {α β : Type} {f : D → Option α} {e : β → D} {h : β → α} (hf : ∀ x, f (e x) = some (h x)) : ∀ xs : List β, allOf f (xs.map e) = some (xs.map h)
  | [] => rfl
  | x :: r => by rw [List.map_cons, allOf, hf, allOf_map hf r]; rfl
theorem between_ok (g : Gb) (hat : FnAt g (fnGet 15)) (core : List It) (n0 : Nat) (ns : List Nat) (hw : (wordOf core n0).length ≤ 1000) : Ct g 0 (fnGet 15).name [.lst (core.map It.d), .lst ((n0 :: ns).map fun n => D.int (n : Nat))] (some (.str (betw core n0))) := by
  refine Ct.plain ["core", "numbers"] [("word", .local)] hat rfl rfl (by decide) (fun pm c doc vs h => ?_) (by decide) (by decide) rfl rfl rfl (fun L a cd A' s l Zc hP => ?_)
  · obtain ⟨u, v, rfl⟩ := vs2 h
    rfl
  conv => arg 4; whnf
  refine Ws.ok (m := 30) (n := 30) ?_
  conv => whnf
  cases core with
  | nil =>
    refine ⟨fun _ => ?_, nofun⟩
    conv => whnf
    rfl
  | cons x core =>
    refine ⟨nofun, fun _ => ?_⟩
    generalize hc : x :: core = cs at hw ⊢
    have hne : cs ≠ [] := by rw [← hc]; simp
    conv => whnf
    rw [wordOf, List.length_append] at hw
    have hw1 : (catL (cs.map It.f)).length ≤ 1000 := by lia
    refine ⟨Je.join rfl rfl rfl (Je.comp (k := 1) (by decide) (by decide) rfl (by decide) rfl (by intro _; rfl) (We.ok (n := 30) ?_))⟩
    conv => whnf
    refine ⟨_, (cs.map It.f).map D.str, rfl, ⟨by simp, fun i d y h1 h2 C s₁ it o v a done => ?_⟩, (cs.map It.f).map D.str, cs.map It.f, rfl, ?_, Nat.le_trans hw1 (by decide), ?_⟩
    · rw [List.getElem?_map, Option.map_eq_some_iff] at h1
      obtain ⟨n, hn, rfl⟩ := h1
      rw [List.getElem?_map, List.getElem?_map, hn] at h2
      cases h2
      refine We.ok (n := 30) ?_
      conv => whnf
    · rw [allOf_map (f := str1) (e := D.str) (h := id) (fun _ => rfl), List.map_id]
    · conv => whnf
      have e1 : (seqIndex? 0 (List.map (fun n : Nat => D.int n) (n0 :: ns)).length).bind (fun x => (List.map (fun n : Nat => D.int n) (n0 :: ns))[x]?) = some (D.int n0) := at_nat (k := 0) rfl
      have e3 : (iMod (iDiv (n0 : Int) 14).snd 9).snd = ((n0 / 14 % 9 : Nat) : Int) := by
        show ((n0 : Int).fdiv 14).fmod 9 = _
        rw [fdiv14, Int.fmod_eq_emod_of_nonneg _ (by decide)]; rfl
      rw [e1]
      conv => whnf
      refine ⟨rfl, ?_⟩
      conv => whnf
      refine ⟨show (9 : Int) ≠ 0 by decide, ?_⟩
      conv => whnf
      rw [e3]
      rw [betw, if_neg hne]
      generalize hW : wordOf cs n0 = W
      rw [wordOf] at hW
      have hz : (Str.ofString "z").cps.toList = [122] := rfl
      refine (Classical.em (n0 / 14 % 9 = 8)).elim (fun h8 => ⟨fun _ => ?pa, fun h => absurd h (by rw [h8]; decide)⟩) (fun h8 => ⟨fun h => absurd (eq_of_beq h) (by lia), fun _ => ?pb⟩)
      case' pa =>
        conv => whnf
        rw [if_pos h8] at hW
        refine ⟨?_, ?_⟩
        · show (catL (List.map It.f cs)).length + 1 ≤ 100000
          lia
        rw [hz, hW]
      case' pb =>
        rw [if_neg h8, List.append_nil] at hW
        rw [hW]
      all_goals
        conv => whnf
        have hWl : W.length ≤ 1000 := by rw [← hW]; first | (rw [if_pos h8] at hw; rw [List.length_append]; exact hw) | (rw [if_neg h8] at hw; exact hw)
        clear hW hw
        have hx : (Str.ofString "x").cps.toList = [120] := rfl
        refine ⟨fun h => ?_, fun h => ?_⟩
        · have h : W = [] := eq_of_beq h
          refine ⟨fun _ => ?_, nofun⟩
          conv => whnf
          rw [hx]
          refine ⟨show 1 + W.length ≤ 100000 by lia, ?_⟩
          conv => whnf
          refine ⟨?_, ?_⟩
          · show ([120] ++ W).length + 1 ≤ 100000
            rw [List.length_append]
            show 1 + W.length + 1 ≤ 100000
            lia
          · show some (D.str _) = some (D.str _)
            rw [if_pos (.inl h), hx]
        · have h : W ≠ [] := fun e => by rw [e] at h; exact nomatch h
          obtain ⟨c, W', hW'⟩ := List.exists_cons_of_ne_nil h
          have f1 : Option.map (fun c => D.str [c]) ((seqIndex? 0 W.length).bind (fun x => W[x]?)) = some (D.str [c]) := by
            rw [show (seqIndex? 0 W.length).bind (fun x => W[x]?) = some c from at_nat (k := 0) (by rw [hW']; rfl)]; rfl
          have f2 : Option.map (fun c => D.str [c]) ((seqIndex? (-1) W.length).bind (fun x => W[x]?)) = some (D.str [W.getLast h]) := by
            rw [show (seqIndex? (-1) W.length).bind (fun x => W[x]?) = some (W.getLast h) from at_last (List.getLast?_eq_some_getLast h)]; rfl
          have hh : W.head? = some c := by rw [hW']; rfl
          have hl : W.getLast? = some (W.getLast h) := List.getLast?_eq_some_getLast h
          conv => whnf
          rw [f1]
          conv => whnf
          refine ⟨fun h2 => ?_, fun h2 => ?_⟩
          · have h2 : [c] = [32] := eq_of_beq h2
            cases h2
            refine ⟨fun _ => ?_, nofun⟩
            conv => whnf
            rw [hx]
            refine ⟨show 1 + W.length ≤ 100000 by lia, ?_⟩
            conv => whnf
            refine ⟨?_, ?_⟩
            · show ([120] ++ W).length + 1 ≤ 100000
              rw [List.length_append]
              show 1 + W.length + 1 ≤ 100000
              lia
            · show some (D.str _) = some (D.str _)
              rw [if_pos (.inr (.inl hh)), hx]
          · have h2 : c ≠ 32 := fun e => by rw [e] at h2; exact nomatch h2
            conv => whnf
            rw [f2]
            conv => whnf
            refine ⟨fun h3 => ?_, fun h3 => ?_⟩
            · have h3 : [W.getLast h] = [32] := eq_of_beq h3
              have h3 : W.getLast h = 32 := List.head_eq_of_cons_eq h3
              refine ⟨fun _ => ?_, nofun⟩
              conv => whnf
              rw [hx]
              refine ⟨show 1 + W.length ≤ 100000 by lia, ?_⟩
              conv => whnf
              refine ⟨?_, ?_⟩
              · show ([120] ++ W).length + 1 ≤ 100000
                rw [List.length_append]
                show 1 + W.length + 1 ≤ 100000
                lia
              · show some (D.str _) = some (D.str _)
                rw [if_pos (.inr (.inr (hl.trans (congrArg some h3)))), hx]
            · have h3 : W.getLast h ≠ 32 := fun e => by rw [e] at h3; exact nomatch h3
              conv => whnf
              refine ⟨nofun, fun _ => ?_⟩
              conv => whnf
              show some (D.str _) = some (D.str _)
              rw [if_neg]
              rw [hh, hl]
              rintro (e | e | e)
              · exact h e
              · exact h2 (Option.some.inj e)
              · exact h3 (Option.some.inj e)
end Mine
end

section
open PySem PySem.W PyProof.Rows
set_option genSizeOf false
set_option genInjectivity false
namespace Mine
open PySem.Builtin PySem.Builtin.Str
theorem At_one {x : List Nat} {c hi i : Nat} (h : hi ≤ x.length) : StrLaws.At ⟨x.toArray⟩ ⟨[c].toArray⟩ hi i ↔ i < hi ∧ x[i]? = some c := by
  unfold StrLaws.At
  rw [StrLaws.subAt_eq]
  have hl : (⟨[c].toArray⟩ : Str).length = 1 := rfl
  rw [hl]
  show i + 1 ≤ hi ∧ (List.take 1 (List.drop i x) == [c]) = true ↔ _
  constructor
  · rintro ⟨h1, h2⟩
    refine ⟨h1, ?_⟩
    have h2 := eq_of_beq h2
    have hi' : i < x.length := by omega
    rw [List.drop_eq_getElem_cons hi'] at h2
    have h3 : [x[i]] = [c] := h2
    rw [List.getElem?_eq_getElem hi', List.head_eq_of_cons_eq h3]
  · rintro ⟨h1, h2⟩
    have hi' : i < x.length := by omega
    refine ⟨h1, beq_iff_eq.mpr ?_⟩
    rw [List.drop_eq_getElem_cons hi']
    rw [List.getElem?_eq_getElem hi'] at h2
    show [x[i]] = [c]
    rw [Option.some.inj h2]
theorem occ_some {x : List Nat} {c lo hi k : Nat} (h : hi ≤ x.length) (h1 : lo ≤ k) (h2 : k < hi) (h3 : x[k]? = some c) (h4 : ∀ j, lo ≤ j → j < k → x[j]? ≠ some c) : ∃ r, occurrences ⟨x.toArray⟩ ⟨[c].toArray⟩ lo hi 1 = k :: r := by
  rw [StrLaws.occ_eq]
  rcases StrLaws.occ_first ⟨x.toArray⟩ ⟨[c].toArray⟩ hi 1 (Nat.le_refl 1) (List.range' lo (hi + 1 - lo)) lo (fun i hi => by have := List.mem_range'_1.mp hi; omega) with ⟨h0, hn⟩ | ⟨pre, a, post, e, h0, ha, hn⟩
  · exact absurd ((At_one h).mpr ⟨h2, h3⟩) (hn k (by rw [List.mem_range'_1]; omega))
  · have hs := StrLaws.range'_split_from e
    obtain ⟨a1, a2⟩ := (At_one h).mp ha
    have ak : a = k := by
      rcases Nat.lt_trichotomy a k with q | q | q
      · exact absurd a2 (h4 a hs.1 q)
      · exact q
      · exact absurd ((At_one h).mpr ⟨h2, h3⟩) (hn k (hs.2 k h1 q))
    subst ak
    refine ⟨((forIn (List.range' lo (hi + 1 - lo)) ((#[] : Array Nat), lo) (StrLaws.occBody ⟨x.toArray⟩ ⟨[c].toArray⟩ hi 1)).run.fst.toList).tail, ?_⟩
    generalize (forIn (List.range' lo (hi + 1 - lo)) ((#[] : Array Nat), lo) (StrLaws.occBody ⟨x.toArray⟩ ⟨[c].toArray⟩ hi 1)).run.fst = arr at h0
    have h1 : arr.toList[0]? = some a := by simpa using h0
    cases hL : arr.toList with
    | nil => rw [hL] at h1; cases h1
    | cons b t => rw [hL] at h1; simp at h1; rw [h1]; rfl
theorem occ_none {x : List Nat} {c lo hi : Nat} {lim : Nat} (hlim : 1 ≤ lim) (h : hi ≤ x.length) (h4 : ∀ j, lo ≤ j → j < hi → x[j]? ≠ some c) : occurrences ⟨x.toArray⟩ ⟨[c].toArray⟩ lo hi lim = [] := by
  rw [StrLaws.occ_eq]
  rcases StrLaws.occ_first ⟨x.toArray⟩ ⟨[c].toArray⟩ hi lim hlim (List.range' lo (hi + 1 - lo)) lo (fun i hi => by have := List.mem_range'_1.mp hi; omega) with ⟨h0, hn⟩ | ⟨pre, a, post, e, h0, ha, hn⟩
  · rw [h0]
  · obtain ⟨a1, a2⟩ := (At_one h).mp ha
    exact absurd a2 (h4 a (StrLaws.range'_split_from e).1 a1)
section
variable {g : Gb} {A : Around} {Z : Addr → Prop} {s : Shared}
theorem index_ok {x : List Nat} {c lo k : Nat} {t u v : Tok} (h1 : lo ≤ k) (h3 : x[k]? = some c) (h4 : ∀ j, lo ≤ j → j < k → x[j]? ≠ some c) : Yd g A Z s (call (.builtin "str.index") [sv x t, sv [c] u, .int (lo : Nat) v]) (.int (k : Nat)) := fun Q E h => by
  have h2 : k < x.length := (List.getElem?_eq_some_iff.mp h3).1
  obtain ⟨r, ho⟩ := occ_some (hi := x.length) (Nat.le_refl _) h1 h2 h3 h4
  have g1 : Gives («str.index» ⟨[sv x t, sv [c] u, .int (lo : Nat) v], []⟩) (.int k) := by
    show Gives (match occurrences ⟨x.toArray⟩ ⟨[c].toArray⟩ (max 0 (if (lo : Int) < 0 then (lo : Int) + ((⟨x.toArray⟩ : Str).length : Nat) else lo)).toNat (min ((⟨x.toArray⟩ : Str).length : Int).toNat (⟨x.toArray⟩ : Str).length) 1 with | i :: _ => retInt i | [] => (do rule "str.index.not-found"; raiseError "ValueError" "substring not found")) _
    rw [if_neg (by omega), show (max 0 (lo : Int)).toNat = lo by omega, Int.toNat_natCast, Nat.min_self, show (⟨x.toArray⟩ : Str).length = x.length by simp [Str.length], ho]
    exact .of_eq rfl
  exact call_gives F.slot_str_index (typeIs_str _ _ _) F.entry_str_index (F.args_str_index_3 _ _ _) g1 (h _ _ ⟨_, rfl⟩ (Ge.tok s _))
theorem find_ok {x : List Nat} {c lo hi : Nat} {r : Int} {t u v w : Tok} (hh : hi ≤ x.length) (h : (r = -1 ∧ ∀ j, lo ≤ j → j < hi → x[j]? ≠ some c) ∨ ∃ k : Nat, r = k ∧ lo ≤ k ∧ k < hi ∧ x[k]? = some c ∧ ∀ j, lo ≤ j → j < k → x[j]? ≠ some c) :
    Yd g A Z s (call (.builtin "str.find") [sv x t, sv [c] u, .int (lo : Nat) v, .int (hi : Nat) w]) (.int r) := fun Q E h' => by
  have g1 : Gives («str.find» ⟨[sv x t, sv [c] u, .int (lo : Nat) v, .int (hi : Nat) w], []⟩) (.int r) := by
    show Gives (match occurrences ⟨x.toArray⟩ ⟨[c].toArray⟩ (max 0 (if (lo : Int) < 0 then (lo : Int) + ((⟨x.toArray⟩ : Str).length : Nat) else lo)).toNat (min (max 0 (if (hi : Int) < 0 then (hi : Int) + ((⟨x.toArray⟩ : Str).length : Nat) else hi)).toNat (⟨x.toArray⟩ : Str).length) 1 with | i :: _ => retInt i | [] => (do rule "str.find.not-found"; retInt (-1))) _
    rw [if_neg (by omega), if_neg (by omega), show (max 0 (lo : Int)).toNat = lo by omega, show (max 0 (hi : Int)).toNat = hi by omega, show (⟨x.toArray⟩ : Str).length = x.length by simp [Str.length], Nat.min_eq_left hh]
    rcases h with ⟨rfl, h4⟩ | ⟨k, rfl, h1, h2, h3, h4⟩
    · rw [occ_none (Nat.le_refl 1) hh h4]
      exact .rule (.of_eq rfl)
    · obtain ⟨r, ho⟩ := occ_some hh h1 h2 h3 h4
      rw [ho]
      exact .of_eq rfl
  exact call_gives F.slot_str_find (typeIs_str _ _ _) F.entry_str_find (F.args_str_find_4 _ _ _ _) g1 (h' _ _ ⟨_, rfl⟩ (Ge.tok s _))
theorem replace_ok {x z : List Nat} {c : Nat} {t u v : Tok} (hx : x.length ≤ lim) (h : c ∉ x) : Yd g A Z s (call (.builtin "str.replace") [sv x t, sv [c] u, sv z v]) (.str x) := fun Q E h' => by
  have ho : occurrences ⟨x.toArray⟩ ⟨[c].toArray⟩ 0 (⟨x.toArray⟩ : Str).length ((⟨x.toArray⟩ : Str).length + 1) = [] := occ_none (by omega) (by simp [Str.length]) fun j _ _ e => h (List.mem_of_getElem? e)
  have g1 := gives_str_replace ⟨x.toArray⟩ ⟨[c].toArray⟩ ⟨z.toArray⟩ t u v (fun q => by rw [ho] at q; exact nomatch q)
  rw [ho] at g1
  exact call_gives F.slot_str_replace (typeIs_str _ _ _) F.entry_str_replace (F.args_str_replace_3 _ _ _) g1 (h' _ _ ⟨_, rfl, hx⟩ (Ge.refl s))
end
section
variable {F : Fx} {X : Prop} {σ : Ms} {K : D → Prop}
/-- a method of a text -/
theorem Je.strm {o e : PExpr} {es : List PExpr} {name : Str} {id : String} {p q : Pos} (slot : Slot "str" name id) (ty : typeOf (Value.builtin id) = pure (.type "method_descriptor"))
    (hb : attributeBase o name F.env (eval o F.env) = eval o F.env) (he : (e :: es).all plainArg = true) (hline : (p.endLine == q.line) = true)
    (hfew : ((backTo q (starEach (e :: es) F.env)).all (fun x => !x.1) && (backToKw q (keywordEach [] F.env)).all (fun x => x.1.isSome)
      && decide ((e :: es).length + ([] : List Keyword).length + (if ([] : List Keyword).isEmpty then 0 else 1) < 30)) = true)
    (h : Je F X σ o fun x => ∃ y, x = .str y ∧ Ja F X σ (e :: es) fun ds => ∃ d, K d ∧ ∀ s vs t, St F σ s → VL (F.Z σ.own) s.heap ds vs → Yd F.g F.A (F.Z σ.own) s (PySem.call (Value.builtin id) (sv y t :: vs)) d) :
    Je F X σ (.Call (.Attribute o name p) (e :: es) [] q) K := fun s Q E S q' x => by
  have h0 : plainArg e = true ∧ es.all plainArg = true := by simpa using he
  have each := plainArg.each (r := es) h0.1 F.env
  have anyF : ∀ (l : List PExpr), l.all plainArg = true → (backTo q (starEach l F.env)).any (·.1) = false := by
    intro l
    induction l with
    | nil => intro _; rfl
    | cons a r ih =>
      intro h
      have h : plainArg a = true ∧ r.all plainArg = true := by simpa using h
      rw [plainArg.each h.1]
      cases r with
      | nil => rfl
      | cons b r =>
        have h2 : plainArg b = true ∧ r.all plainArg = true := by simpa using h.2
        have := ih h.2
        rw [plainArg.each h2.1] at this ⊢
        exact this
  refine wpAny_Call_method_lateS hb hfew hline (h s _ E S (fun d v s₁ kk r g => ?_) x)
  obtain ⟨y, rfl, ja⟩ := kk
  obtain ⟨t, rfl, hn⟩ := r
  have S₁ := S.step g
  refine ⟨"str", id, PySem.F.plainAttrs_str, slot, ty, typeIs_str _ _ _, (fun _ e => nomatch e), ?_⟩
  refine PySem.Calls.callWith_builtin (anyF _ he) ?_
  have ja := ja q
  rw [each] at ja ⊢
  refine PySem.Calls.evalArgs_plain ?_
  refine ja s₁ _ E S₁ (fun ds vs s₂ k l g2 => ?_) x
  obtain ⟨d, kd, y⟩ := k
  exact y s₂ vs t (S₁.step g2) l Q E fun v s₃ r g3 => q' d v s₃ kd r ((g.trans g2).trans g3.fx)
end
end Mine
end

section
open PySem PySem.W PyProof.Rows
set_option maxRecDepth 100000
namespace Mine
/-- a part's text, and how it is read -/
noncomputable def TkOk (t : List Nat) (r : Rx) : Prop := (t = [40, 63, 33, 41] ∧ r = ⟨1, []⟩) ∨ (t = [46] ∧ r = ⟨2, []⟩) ∨ (∃ c, t = [92, c] ∧ r = ⟨1, [c]⟩) ∨ (∃ c, c ≠ 93 ∧ t = [91, 94, c, 93] ∧ r = ⟨2, [c]⟩) ∨
  (∃ c, c ≠ 93 ∧ c ≠ 94 ∧ t = [91, c, 93] ∧ r = ⟨1, [c]⟩) ∨ (∃ c, c ≠ 46 ∧ c ≠ 92 ∧ c ≠ 91 ∧ c ∉ [40, 41, 42, 43, 63, 123, 125, 124, 94, 36] ∧ t = [c] ∧ r = ⟨1, [c]⟩)
theorem cut_mid {α : Type} {pre rest : List α} (a b : Nat) (h : a ≤ b) : cutL (some ((pre.length + a : Nat) : Int)) (some ((pre.length + b : Nat) : Int)) (pre ++ rest) = (rest.drop a).take (b - a) := by
  show ((pre ++ rest).drop (clipAt _ _)).take (clipAt _ _ - clipAt _ _) = _
  rw [clipAt_nat, clipAt_nat, List.length_append]
  by_cases h1 : a ≤ rest.length
  · rw [show min (pre.length + a) (pre.length + rest.length) = pre.length + a by lia, show (pre ++ rest).drop (pre.length + a) = rest.drop a by rw [List.drop_append]; simp, List.take_eq_take_iff, List.length_drop]
    lia
  · rw [show min (pre.length + a) (pre.length + rest.length) = (pre ++ rest).length by rw [List.length_append]; lia, List.drop_length, List.drop_eq_nil_of_le (show rest.length ≤ a by lia)]
    simp
theorem item_ok (g : Gb) (hat : FnAt g (fnGet 17)) (pre t post : List Nat) (r : Rx) (h : TkOk t r) (hl : (pre ++ t ++ post).length ≤ 50000) : Ct g 0 (fnGet 17).name [.str (pre ++ t ++ post), .int (pre.length : Nat)] (some (.tup [.int (t.length : Nat), r.d])) := by
  refine Ct.plain ["text", "at"] [("close", .local)] hat rfl rfl (by decide) (fun pm c doc vs h => ?_) (by decide) (by decide) rfl rfl rfl (fun L a cd A' s l Zc hP => ?_)
  · obtain ⟨u, v, rfl⟩ := vs2 h
    rfl
  conv => arg 4; whnf
  refine Ws.ok (m := 30) (n := 30) ?_
  conv => whnf
  rw [List.append_assoc] at hl ⊢
  generalize hr : t ++ post = rest at hl ⊢
  have cm : ∀ n : Nat, cutL (some ((pre.length : Nat) : Int)) (some ((pre.length : Nat) + (n : Int))) (pre ++ rest) = rest.take n := fun n => by
    have := cut_mid (pre := pre) (rest := rest) 0 n (Nat.zero_le _)
    rw [Int.natCast_add] at this
    exact this
  have ix : ∀ (k : Nat) (c : Nat), rest[k]? = some c → (seqIndex? ((pre.length : Int) + k) (pre ++ rest).length).bind (fun x => (pre ++ rest)[x]?) = some c := fun k c e => by
    have := at_nat (xs := pre ++ rest) (k := pre.length + k) (x := c) (by rw [List.getElem?_append_right (by lia), Nat.add_sub_cancel_left]; exact e)
    rw [Int.natCast_add] at this
    exact this
  have ix0 : ∀ c, rest[0]? = some c → (seqIndex? (pre.length : Int) (pre ++ rest).length).bind (fun x => (pre ++ rest)[x]?) = some c := fun c e => ix 0 c e
  have cm4 : cutL (some ((pre.length : Nat) : Int)) (some ((pre.length : Nat) + (4 : Int))) (pre ++ rest) = rest.take 4 := cm 4
  have cm2 : cutL (some ((pre.length : Nat) : Int)) (some ((pre.length : Nat) + (2 : Int))) (pre ++ rest) = rest.take 2 := cm 2
  have ix1 : ∀ c, rest[1]? = some c → (seqIndex? ((pre.length : Int) + 1) (pre ++ rest).length).bind (fun x => (pre ++ rest)[x]?) = some c := fun c e => ix 1 c e
  rw [cm4]
  rw [show (Str.ofString "(?!)").cps.toList = [40, 63, 33, 41] from rfl]
  rcases h with ⟨rfl, rfl⟩ | h
  · rw [← hr]
    refine ⟨fun _ => ?_, fun h => absurd h (by simp)⟩
    conv => whnf
    refine ⟨show 2 ≤ 100000 by decide, ?_⟩
    conv => whnf
    refine ⟨show 2 ≤ 100000 by decide, ?_⟩
    rfl
  have hne : rest.take 4 ≠ [40, 63, 33, 41] := by
    rw [← hr]
    rcases h with ⟨rfl, _⟩ | ⟨c, rfl, _⟩ | ⟨c, _, rfl, _⟩ | ⟨c, _, _, rfl, _⟩ | ⟨c, _, _, _, h, rfl, _⟩
    · simp
    · simp
    · simp
    · simp
    · simp at h ⊢
      intro e; exact absurd e h.1
  refine ⟨fun h => absurd (eq_of_beq h) hne, fun _ => ?_⟩
  conv => whnf
  rcases h with ⟨rfl, rfl⟩ | h
  · rw [ix0 46 (by rw [← hr]; rfl)]
    conv => whnf
    refine ⟨fun _ => ?_, nofun⟩
    conv => whnf
    refine ⟨show 2 ≤ 100000 by decide, ?_⟩
    conv => whnf
    refine ⟨show 2 ≤ 100000 by decide, ?_⟩
    rfl
  rcases h with ⟨c, rfl, rfl⟩ | h
  · rw [ix0 92 (by rw [← hr]; rfl)]
    conv => whnf
    refine ⟨nofun, fun _ => ?_⟩
    conv => whnf
    rw [ix0 92 (by rw [← hr]; rfl)]
    conv => whnf
    refine ⟨fun _ => ?_, nofun⟩
    conv => whnf
    rw [ix1 c (by rw [← hr]; rfl)]
    conv => whnf
    refine ⟨show 2 ≤ 100000 by decide, ?_⟩
    conv => whnf
    refine ⟨show 2 ≤ 100000 by decide, ?_⟩
    rfl
  have iy : ∀ (j : Nat) {g : Gb} {A : Around} {Z : Addr → Prop} {s : Shared} {t u v : Tok}, rest[j]? = some 93 → (∀ i, i < j → rest[i]? ≠ some 93) → Yd g A Z s (call (.builtin "str.index") [sv (pre ++ rest) t, sv [93] u, .int (pre.length : Nat) v]) (.int ((pre.length + j : Nat) : Int)) := fun j {g A Z s t u v} h1 h2 => index_ok (Nat.le_add_right _ _) (by rw [List.getElem?_append_right (by lia), Nat.add_sub_cancel_left]; exact h1) (fun i h3 h4 e => by
    rw [List.getElem?_append_right h3] at e
    exact h2 (i - pre.length) (by lia) e)
  rcases h with ⟨c, hc, rfl, rfl⟩ | h
  · have e0 : rest[0]? = some 91 := by rw [← hr]; rfl
    rw [ix0 91 e0]
    conv => whnf
    refine ⟨nofun, fun _ => ?_⟩
    conv => whnf
    rw [ix0 91 e0]
    conv => whnf
    refine ⟨nofun, fun _ => ?_⟩
    conv => whnf
    rw [cm2, show rest.take 2 = [91, 94] by rw [← hr]; rfl]
    refine ⟨fun _ => ?_, nofun⟩
    conv => whnf
    refine ⟨Je.strm PySem.F.slot_str_index PySem.F.type_str_index rfl rfl rfl rfl (We.ok (n := 30) ?_)⟩
    conv => whnf
    refine ⟨_, rfl, Wa.ok (fun _ _ => We.ok (n := 30)) ?_⟩
    conv => whnf
    refine ⟨.int ((pre.length + 3 : Nat) : Int), ?_, fun s vs t S l => ?_⟩
    · conv => whnf
      refine ⟨show 2 ≤ 100000 by decide, ?_⟩
      conv => whnf
      refine ⟨show 2 ≤ 100000 by decide, ?_⟩
      show some (D.tup [_, _]) = some (D.tup [_, D.tup [_, D.str _]])
      rw [show ((pre.length + 3 : Nat) : Int) + 1 - (pre.length : Nat) = 4 by lia, show cutL (some ((pre.length : Int) + 2)) (some ((pre.length + 3 : Nat) : Int)) (pre ++ rest) = [c] from (cut_mid (pre := pre) (rest := rest) 2 3 (by decide)).trans (by rw [← hr]; rfl)]
      rfl
    · obtain ⟨v1, us, rfl, ⟨u, rfl, _⟩, ⟨v2, us', rfl, ⟨w, rfl⟩, l⟩⟩ := l
      cases l
      refine iy 3 (by rw [← hr]; rfl) (fun i hi => ?_)
      rw [← hr]
      match i, hi with
      | 0, _ => simp
      | 1, _ => simp
      | 2, _ => simpa using hc
  rcases h with ⟨c, hc, hc2, rfl, rfl⟩ | h
  · have e0 : rest[0]? = some 91 := by rw [← hr]; rfl
    rw [ix0 91 e0]
    conv => whnf
    refine ⟨nofun, fun _ => ?_⟩
    conv => whnf
    rw [ix0 91 e0]
    conv => whnf
    refine ⟨nofun, fun _ => ?_⟩
    conv => whnf
    rw [cm2, show rest.take 2 = [91, c] by rw [← hr]; rfl]
    refine ⟨fun h => absurd (eq_of_beq h) (by intro e; injection e with _ e; injection e with e _; exact hc2 e), fun _ => ?_⟩
    conv => whnf
    rw [ix0 91 e0]
    conv => whnf
    refine ⟨fun _ => ?_, nofun⟩
    conv => whnf
    refine ⟨Je.strm PySem.F.slot_str_index PySem.F.type_str_index rfl rfl rfl rfl (We.ok (n := 30) ?_)⟩
    conv => whnf
    refine ⟨_, rfl, Wa.ok (fun _ _ => We.ok (n := 30)) ?_⟩
    conv => whnf
    refine ⟨.int ((pre.length + 2 : Nat) : Int), ?_, fun s vs t S l => ?_⟩
    · conv => whnf
      refine ⟨show 2 ≤ 100000 by decide, ?_⟩
      conv => whnf
      refine ⟨show 2 ≤ 100000 by decide, ?_⟩
      show some (D.tup [_, _]) = some (D.tup [_, D.tup [_, D.str _]])
      rw [show ((pre.length + 2 : Nat) : Int) + 1 - (pre.length : Nat) = 3 by lia, show cutL (some ((pre.length : Int) + 1)) (some ((pre.length + 2 : Nat) : Int)) (pre ++ rest) = [c] from (cut_mid (pre := pre) (rest := rest) 1 2 (by decide)).trans (by rw [← hr]; rfl)]
      rfl
    · obtain ⟨v1, us, rfl, ⟨u, rfl, _⟩, ⟨v2, us', rfl, ⟨w, rfl⟩, l⟩⟩ := l
      cases l
      refine iy 2 (by rw [← hr]; rfl) (fun i hi => ?_)
      rw [← hr]
      match i, hi with
      | 0, _ => simp
      | 1, _ => simpa using hc
  · obtain ⟨c, h1, h2, h3, h4, rfl, rfl⟩ := h
    have e0 : rest[0]? = some c := by rw [← hr]; rfl
    rw [ix0 c e0]
    conv => whnf
    refine ⟨fun h => absurd (List.head_eq_of_cons_eq (eq_of_beq h)) h1, fun _ => ?_⟩
    conv => whnf
    rw [ix0 c e0]
    conv => whnf
    refine ⟨fun h => absurd (List.head_eq_of_cons_eq (eq_of_beq h)) h2, fun _ => ?_⟩
    conv => whnf
    rw [cm2, show rest.take 2 = c :: post.take 1 by rw [← hr]; rfl]
    refine ⟨fun h => absurd (List.head_eq_of_cons_eq (eq_of_beq h)) h3, fun _ => ?_⟩
    conv => whnf
    rw [ix0 c e0]
    conv => whnf
    refine ⟨fun h => absurd (List.head_eq_of_cons_eq (eq_of_beq h)) h3, fun _ => ?_⟩
    conv => whnf
    rw [ix0 c e0]
    conv => whnf
    refine ⟨fun h => absurd (of_decide_eq_true h) h4, fun _ => ?_⟩
    conv => whnf
    rw [ix0 c e0]
    conv => whnf
    refine ⟨show 2 ≤ 100000 by decide, ?_⟩
    conv => whnf
    refine ⟨show 2 ≤ 100000 by decide, ?_⟩
    rfl
end Mine
end

section
open PySem PySem.W PyProof.Rows
set_option genSizeOf false
set_option genInjectivity false
namespace Mine
section
variable {F : Fx} {σ : Ms}
/-- a call that may raise an IndexError -/
theorem call_r {X : Prop} {f : Str} {e : PExpr} {es : List PExpr} {p pos : Pos} {k : Nat} {K : D → Prop} {N : Prop} (hn : F.nm f = some (k, .globalImplicit)) (hf : f ∈ fnNames) (hd : (f == ("__debug__" : Str)) = false)
    (h : Ja F False σ (e :: es) fun ds => ∃ lv' r, lv' < F.lv ∧ Ct F.g lv' f ds r ∧ (∀ d, r = some d → K d) ∧ (r = none → N))
    (he : ∀ env, starEach (e :: es) env = (false, eval e env) :: starEach es env) {s : Shared} {Q E : Value → Shared → Prop} (S : St F σ s)
    (q : ∀ d v s', K d → Vr (F.Z σ.own) s'.heap d v → F.Gw s s' → Q v s') (x : N → ∀ x s₁ s', F.Gw s s₁ → Lz F.g F.stack s₁ x s' → E (.ref x) s') :
    wpAny F.g.M F.A (eval (.Call (.Name f p) (e :: es) [] pos) F.env) Q E s := by
  obtain ⟨a, o, fd, h1, h2, h3, h4⟩ := S.ok.gl.fns f hf
  obtain ⟨og, esg, epg, ng, rg⟩ := S.ok.gl.ns
  refine Call_ (PySem.Calls.Name_function_global S.ok.kind (S.kindOf hn) (PySem.Calls.loadGlobal_global (mg := F.g.mg) (by rw [S.ok.glob]; exact ⟨og, esg, epg, S.base _ _ S.ok.gl.p1 ng, rg⟩) h1 ?_) hd)
  refine PyProof.Rows.callWith_def h3 (h pos s _ E S (fun ds vs s₁ c l g => ⟨(S.step g).base _ _ h4 h2, ?_⟩) (fun z => z.elim)) (he _)
  obtain ⟨lv', r, lt, C, k1, k2⟩ := c
  exact C F.stack (F.Z σ.own) F.A s₁ vs a Q E h1 ((S.step g).cx lt) l (fun d' v s' e r g' => q d' v s' (k1 d' e) r (g.trans g')) (fun e xx s' L => x (k2 e) xx s₁ s' g L)
theorem free_ie : ("IndexError" : Str) ∈ freeNames := by decide
/-- try: return a call; except IndexError: return None -/
theorem J1.tryret {X : Prop} {K : Po} {f : Str} {e : PExpr} {es : List PExpr} {p pos p1 p2 p3 p4 pos2 pos3 : Pos} {k k2 c1 : Nat} (ff : FunF F) (hn : F.nm f = some (k, .globalImplicit)) (hi : F.nm "IndexError" = some (k2, .globalImplicit)) (hf : f ∈ fnNames) (hd : (f == ("__debug__" : Str)) = false)
    (h : Ja F False σ (e :: es) fun ds => ∃ lv' r, lv' < F.lv ∧ Ct F.g lv' f ds r ∧ (∀ d, r = some d → K.r σ d) ∧ (r = none → K.r σ .none))
    (he : ∀ env, starEach (e :: es) env = (false, eval e env) :: starEach es env) :
    J1 F X σ (.Try [.Return (some (.Call (.Name f p) (e :: es) [] pos)) p1] [.ExceptHandler (some (.Name "IndexError" p2)) none [.Return (some (.Constant .none c1 p3)) p4] pos2] [] [] pos3) K := fun s Q E S qn qb qr xx => by
  refine wpAny_Try_except (wpAny_execs_cons (wpAny_Return_some (call_r (X := X) hn hf hd h he S (fun d v s' kd r g => qr σ d v s' kd r (S.step g)) (fun kn x s₁ s' g L => ?_))))
  obtain ⟨G, x0, ob, vs, T, oT, ts, e1, e2, e3, e4, e5, e6, e7, e8, e9⟩ := L
  have S₁ := S.step g
  have hz : 3 < ts.size := (Array.getElem?_eq_some_iff.mp e9).1
  have xP : x ≠ F.g.P := fun q => by
    obtain ⟨ps, z, _⟩ := S₁.tab
    rw [← q, x0] at z; exact no z
  have TP : T ≠ F.g.P := fun q => by
    obtain ⟨ps, z, _⟩ := S₁.tab
    rw [← q, e6] at z; exact no z
  unfold noteFrame
  simp only [ff.2]
  refine wpAny_bind (wpAny_field e1 e3 e4 ?_)
  rw [if_pos (by simp)]
  refine wpAny_bind (wpAny_field e7 e8 e9 ?_)
  rw [if_neg (by unfold rawInt; exact fun z => nomatch z)]
  refine wpAny_bind (wpAny_setField e7 e8 hz ?_)
  have G₂ := G.upd (f := Obj.mapFields (·.setIfInBounds 3 Value.none)) e6 TP
  have S₂ := S₁.step G₂
  have f1 : (s'.heap.update T (Obj.mapFields (·.setIfInBounds 3 Value.none))).get? x = some ob := (Heap.get?_update_ne _ _ _ _ e5.symm).trans e1
  refine note_push S₂ ff f1 e3 (Array.getElem?_eq_some_iff.mp e4).1 fun h' T' ob' oT' ts' a1 a2 a3 a4 a5 a6 a7 a8 a9 a10 => ?_
  have hz' : 3 < ts'.size := (Array.getElem?_eq_some_iff.mp a8).1
  have T1 : s₁.heap.get? T' = none := by
    cases z : s₁.heap.get? T' with
    | none => rfl
    | some o =>
      by_cases w : T' = F.g.P
      · obtain ⟨ps, z2, _⟩ := S₂.tab
        rw [w, z2] at a2; exact no a2.symm
      · obtain ⟨sl, z2⟩ := G₂.fr _ _ w z
        rw [z2] at a2; exact no a2.symm
  have TP' : T' ≠ F.g.P := fun q => by
    obtain ⟨ps, z, _⟩ := S₂.tab
    rw [← q, a2] at z; exact no z
  have G₃ : F.Gw s₁ { s' with heap := h' } := {
    kp := fun b o v q => a9 b o (fun e => by rw [e, x0] at q; exact no q) (fun e m f => v (.inr ⟨e, m, f⟩)) (G₂.kp b o v q)
    fr := fun b o v q => by
      obtain ⟨sl, q1⟩ := G₂.fr b o v q
      obtain ⟨sl', q2⟩ := a10 b _ (fun e => by rw [e, x0] at q; exact no q) q1
      exact ⟨sl', q2⟩
    tab := fun t => by
      obtain ⟨ps, z, w⟩ := G₂.tab t
      refine ⟨ps, a9 _ _ (fun e => xP e.symm) (fun e m f => ?_) z, w⟩
      obtain ⟨_, L, _, f1, f2, _⟩ := S₂.frs e m
      rw [f] at f1; cases f1
      exact f2 rfl
    gens := G₂.gens
    os := G₂.os }
  have b1 : (vs.setIfInBounds 1 (Value.ref T'))[1]? = some (.ref T') := by
    rw [Array.getElem?_setIfInBounds_self_of_lt]; exact (Array.getElem?_eq_some_iff.mp e4).1
  refine wpAny_setFlight_none a3 a5 b1 a6 a7 hz' ?_
  have G₄ := G₃.upd (f := Obj.mapFields (·.setIfInBounds 3 Value.none)) T1 TP'
  have S₄ := S₁.step G₄
  have c3 : (h'.update T' (Obj.mapFields (·.setIfInBounds 3 Value.none))).get? x = some ob' := (Heap.get?_update_ne _ _ _ _ a1.symm).trans a3
  have c6 := Heap.get?_update_self (Obj.mapFields (·.setIfInBounds 3 Value.none)) a6 (Obj.isFreed_of_fields (Obj.data_mapFields a7 _))
  have c7 := Obj.data_mapFields a7 (·.setIfInBounds 3 Value.none)
  refine wpAny_handleBy_builtin (X := "IndexError") (T := "IndexError") (b := true) (by rw [isSubtype_type]; kernel_rfl) (by rw [isSubtype_type]; kernel_rfl) (by rw [isSubtype_type]; kernel_rfl) ?_
  obtain ⟨mb, ⟨ob2, es2, ep2, nb2, r2⟩, hm⟩ := S₄.ok.gl.nb
  obtain ⟨og, esg, epg, ng, rg⟩ := S₄.ok.gl.ns
  refine PySem.Calls.Name_function_global S₄.ok.kind (S₄.kindOf hi) (PySem.Calls.loadGlobal_builtin (mg := F.g.mg) (mb := mb) ?_ (S₄.ok.gl.free _ free_ie) ?_ ((hm _ (by decide)).trans (show bootBuiltins "IndexError" = some (.type "IndexError") by decide +kernel)) ⟨rfl, ⟨ob', c3, a4.trans e2⟩, ?_⟩) (by decide)
  · rw [S₄.ok.glob]; exact ⟨og, esg, epg, S₄.base _ _ S₄.ok.gl.p1 ng, rg⟩
  · rw [S₄.ok.blt]; exact ⟨ob2, es2, ep2, S₄.base _ _ S₄.ok.gl.p2 nb2, r2⟩
  rw [if_pos rfl]
  refine wpAny_setFlight_none c3 a5 b1 c6 c7 (by simpa using hz') ?_
  have G₅ := G₄.upd (f := Obj.mapFields (·.setIfInBounds 3 Value.none)) T1 TP'
  have S₅ := S₁.step G₅
  exact wpAny_execs_cons (wpAny_Return_some (wpAny_Constant_none (qr σ .none .none _ kn rfl S₅)))
end
end Mine
end

section
open PySem PySem.W PyProof.Rows
namespace Mine
/-- a list or a text, and which of its items are spaces -/
structure Thg (t : D) (fl : List Bool) : Prop where
  idx : ∀ l : Nat, l < fl.length → ∃ d, dIdx [] t (.int l) = some (some d) ∧ ceq d (.str [32]) = some (fl.getD l false)
  out : ∀ l : Nat, fl.length ≤ l → dIdx [] t (.int l) = some none
  len : dLen [] t = some fl.length
  nt : ∀ ds, t ≠ .tup ds
  cut : ∀ lo hi, ∃ d, dCut t lo hi = some d
  small : fl.length ≤ lim



theorem getD_lead {A : Nat} {R : List Bool} {l : Nat} : (List.replicate A true ++ R).getD l false = if l < A then true else R.getD (l - A) false := by
  by_cases h : l < A
  · rw [if_pos h, List.getD_eq_getElem?_getD, List.getElem?_append_left (by simpa using h)]
    simp [h]
  · rw [if_neg h, List.getD_eq_getElem?_getD, List.getD_eq_getElem?_getD, List.getElem?_append_right (by simp; lia)]
    simp
noncomputable def SpA (t : D) (am : Int) (A : Nat) (C : List Bool) (σ : Ms) : Prop := ∃ l : Nat, σ = ⟨[some t, some (.int (am - l)), some (.int l), none, none], []⟩ ∧ l ≤ A ∧ (0 ≤ am → l ≤ am) ∧ (am = l ∨ (l = A ∧ C ≠ []))
noncomputable def SpW (t : D) (am : Int) (A n : Nat) (σ : Ms) : Prop := ∃ (l : Nat), σ = ⟨[some t, some (.int (am - l)), some (.int l), none, none], []⟩ ∧ l + n = A ∧ (0 ≤ am → l ≤ am)
noncomputable def SpB (t : D) (am : Int) (l q B : Nat) (σ : Ms) : Prop := ∃ b : Nat, σ = ⟨[some t, some (.int (am - l - b)), some (.int l), some (.int (q - 1 - b)), none], []⟩ ∧ b ≤ B ∧ (0 ≤ am → l + b ≤ am) ∧ (am = l + b ∨ b = B)
noncomputable def SpV (t : D) (am : Int) (l q B n : Nat) (σ : Ms) : Prop := ∃ b : Nat, σ = ⟨[some t, some (.int (am - l - b)), some (.int l), some (.int (q - 1 - b)), none], []⟩ ∧ b + n = B ∧ (0 ≤ am → l + b ≤ am)
/-- what is cut off: l ahead, b behind -/
theorem strip_ok (g : Gb) (hat : FnAt g (fnGet 2)) (t : D) (fl : List Bool) (T : Thg t fl) (am : Int) (hz : -(2 ^ 61) ≤ am ∧ am ≤ 2 ^ 61) (A B : Nat) (C : List Bool) (hfl : fl = List.replicate A true ++ (C ++ List.replicate B true))
    (hC : C ≠ [] → C.getD 0 false = false ∧ ∀ b, b ≤ B → (C ++ List.replicate B true).getD (C.length + B - 1 - b) false = decide (b < B)) (hB : C = [] → B = 0) (r : Option D)
    (hr : if C = [] ∧ ¬ (0 ≤ am ∧ am ≤ A) then r = none else
      dCut t (some (if am < 0 then (A : Int) else min am A)) (some (fl.length - (if am < 0 then (B : Int) else min (max 0 (am - A)) B))) = r) : Ct g 0 (fnGet 2).name [t, .int am] r := by
  refine Ct.plain ["s", "amount"] [("lpos", .local), ("rpos", .local), ("len", .globalImplicit)] hat rfl rfl (by decide) (fun pm c doc vs h => ?_) (by decide) (by decide) rfl rfl rfl (fun L a cd A' s l Zc hP => ?_)
  · obtain ⟨v, w, rfl⟩ := vs2 h
    rfl
  conv => arg 4; whnf
  refine Ws.ok (m := 30) (n := 30) ?_
  conv => whnf
  have hlen : fl.length = A + (C.length + B) := by rw [hfl]; simp
  refine ⟨J1.mid (SpA t am A C) ?_ ?_⟩
  · refine J1.while (fun _ => ⟨⟨⟨_, rfl⟩, rfl⟩, hP⟩) (SpW t am A) A ⟨0, ?_, ?_, ?_⟩ ?_
    · simp
    · lia
    · intro h; lia
    · rintro n σ₁ ⟨l, rfl, h1, h2⟩
      refine Wt.ok (n := 30) (we := We _ _ _ 30) (fun _ _ => We.ok) ?_
      conv => whnf
      refine ⟨fun h3 => ⟨nofun, fun _ => ⟨l, rfl, by lia, h2, .inl (by simp at h3; lia)⟩⟩, fun h3 => ?_⟩
      have h3 : am ≠ l := by have := bne_iff_ne.mp h3; lia
      conv => whnf
      by_cases h4 : l < fl.length
      · obtain ⟨d, e1, e2⟩ := T.idx l h4
        refine onSome.of e1 (onSome.of e2 ?_)
        rw [hfl, getD_lead]
        by_cases h5 : l < A
        · rw [if_pos h5]
          refine ⟨nofun, fun _ => ⟨fun _ => Ws.ok (m := 30) (n := 30) ?_, nofun⟩⟩
          exact ⟨n - 1, by lia, l + 1, by rw [show (am - ((l + 1 : Nat) : Int)) = am - l - 1 by lia]; rfl, by lia, fun h => by have := h2 h; lia⟩
        · rw [if_neg h5]
          have h6 : l = A := by lia
          have h7 : C ≠ [] := fun e => by
            have := hB e
            rw [hlen, e, this] at h4
            simp at h4; lia
          obtain ⟨c, C', rfl⟩ := List.exists_cons_of_ne_nil h7
          have h8 := (hC h7).1
          rw [h6, Nat.sub_self]
          simp only [List.cons_append, List.getD_cons_zero] at h8 ⊢
          subst h8
          exact ⟨fun _ => ⟨nofun, fun _ => ⟨l, by rw [h6], by lia, h2, .inr ⟨h6, h7⟩⟩⟩, nofun⟩
      · have h7 : C = [] := by
          cases C with
          | nil => rfl
          | cons _ _ => rw [hlen] at h4; simp at h4; lia
        rw [if_pos ⟨h7, by rw [hlen] at h4; lia⟩] at hr
        exact onSome.of (T.out l (by lia)) ⟨hr, ⟨l, rfl, by lia, by have := T.small; have : fl.length ≤ 100000 := this; rw [hlen] at this; lia⟩, T.nt⟩
  rintro σ' ⟨l, rfl, h1, h2, h3⟩
  conv => whnf
  refine onSome.of T.len ?_
  conv => whnf
  have hr2 : ∀ b : Nat, b ≤ B → (am = l + b ∨ b = B) → (0 ≤ am → l + b ≤ am) → dCut t (some (l : Int)) (some ((fl.length : Int) - b)) = r := fun b hb1 hb2 hb3 => by
    rw [if_neg (fun ⟨x, y⟩ => by
      rcases h3 with h3 | ⟨_, h3⟩
      · exact y ⟨by lia, by lia⟩
      · exact h3 x)] at hr
    rw [← hr]
    rcases h3 with h3 | ⟨rfl, h3⟩
    · have : b = 0 := by
        by_cases z : 0 ≤ am
        · have := hb3 z; lia
        · lia
      subst this
      rw [if_neg (by lia), if_neg (by lia), show min am (A : Int) = l by lia, show min (max 0 (am - (A : Int))) (B : Int) = 0 by lia]
      rfl
    · by_cases z : 0 ≤ am
      · rw [if_neg (by lia), if_neg (by lia), show min am (l : Int) = l by have := h2 z; lia, show min (max 0 (am - (l : Int))) (B : Int) = b by have := hb3 z; lia]
      · rw [if_pos (by lia), if_pos (by lia), show (B : Int) = b by lia]
  refine ⟨J1.mid (SpB t am l fl.length B) ?_ ?_⟩
  · refine J1.while (fun _ => ⟨⟨⟨_, rfl⟩, rfl⟩, hP⟩) (SpV t am l fl.length B) B ⟨0, ?_, ?_, ?_⟩ ?_
    · simp
    · lia
    · intro h; have := h2 h; lia
    · rintro n σ₁ ⟨b, rfl, h4, h5⟩
      refine Wt.ok (n := 30) (we := We _ _ _ 30) (fun _ _ => We.ok) ?_
      conv => whnf
      refine ⟨fun h6 => ⟨nofun, fun _ => ⟨b, rfl, by lia, h5, .inl (by simp at h6; lia)⟩⟩, fun h6 => ?_⟩
      have h6 : am ≠ l + b := by have := bne_iff_ne.mp h6; lia
      have h7 : l = A ∧ C ≠ [] := by
        rcases h3 with h3 | h3
        · have := h5 (by lia); lia
        · exact h3
      obtain ⟨rfl, h7⟩ := h7
      have h9 : 0 < C.length := List.length_pos_iff.mpr h7
      have h10 : (fl.length : Int) - 1 - b = ((fl.length - 1 - b : Nat) : Int) := by lia
      obtain ⟨d, e1, e2⟩ := T.idx (fl.length - 1 - b) (by lia)
      rw [← h10] at e1
      conv => whnf
      refine onSome.of e1 (onSome.of e2 ?_)
      rw [hfl, getD_lead, if_neg (by rw [← hfl]; lia), ← hfl, show fl.length - 1 - b - l = C.length + B - 1 - b by lia, (hC h7).2 b (by lia)]
      by_cases h11 : b < B
      · rw [decide_eq_true h11]
        refine ⟨nofun, fun _ => ⟨fun _ => Ws.ok (m := 30) (n := 30) ?_, nofun⟩⟩
        exact ⟨n - 1, by lia, b + 1, by rw [show (am - l - ((b + 1 : Nat) : Int)) = am - l - b - 1 by lia, show ((fl.length : Int) - 1 - ((b + 1 : Nat) : Int)) = fl.length - 1 - b - 1 by lia]; rfl, by lia, fun h => by have := h5 h; lia⟩
      · rw [decide_eq_false h11]
        exact ⟨fun _ => ⟨nofun, fun _ => ⟨b, rfl, by lia, h5, .inr (by lia)⟩⟩, nofun⟩
  rintro σ'' ⟨b, rfl, h4, h5, h6⟩
  have h8 := hr2 b h4 h6 h5
  obtain ⟨d, e⟩ := T.cut (some (l : Int)) (some ((fl.length : Int) - b))
  conv => whnf
  refine onSome.of (c := d) ?_ (h8.symm.trans e)
  rw [show (fl.length : Int) - 1 - b + 1 = fl.length - b by lia]
  exact e
end Mine
end

section
open PySem PySem.W PyProof.Rows
set_option maxRecDepth 100000
namespace Mine
theorem lstrip_ok (g : Gb) (hat : FnAt g (fnGet 22)) (t : D) (am : Int) (r : Option D) (h : Ct g 0 (fnGet 2).name [t, .int am] r) : Ct g 1 (fnGet 22).name [t, .int am] (some (r.getD .none)) := by
  refine Ct.plain ["things", "amount"] [("_strip_padding", .globalImplicit), ("IndexError", .globalImplicit)] hat rfl rfl (by decide) (fun pm c doc vs h => ?_) (by decide) (by decide) rfl rfl rfl (fun L a cd A' s l Zc hP => ?_)
  · obtain ⟨u, v, rfl⟩ := vs2 h
    rfl
  conv => arg 4; whnf
  refine Js.cons (J1.tryret ⟨⟨_, rfl⟩, rfl⟩ rfl rfl (by decide) (by decide) (Wa.ok (fun _ _ => We.ok (n := 30)) ?_) (fun _ => rfl))
  conv => whnf
  refine ⟨0, r, Nat.zero_lt_one, h, fun d e => ?_, fun e => ?_⟩
  · rw [e]; rfl
  · rw [e]; rfl
end Mine
end

section
open PySem PySem.W PyProof.Rows
set_option genSizeOf false
set_option genInjectivity false
namespace Mine
section
variable {F : Fx} {X : Prop} {σ : Ms}
theorem Je.meth {K : D → Prop} {y : Str} {q r : Pos} {k' : Nat} {kd : NameKind} {a : Addr} {ds : List D} (hy : F.nm y = some (k', kd)) (hl : σ.loc[k']? = some (some (.own a))) (hf : σ.own.find a = some ds)
    (hd : (y == ("__debug__" : Str)) = false) (h : K (.meth a)) : Je F X σ (.Attribute (.Name y q) (Str.ofString "append") r) K := fun s Q E S q' xx => by
  obtain ⟨v, rv, w⟩ := S.load hy hl
  cases rv
  obtain ⟨_, vs, ⟨nn, pe⟩, _, _⟩ := S.own a ds hf
  refine Attribute_name (wpAny_Name (w _ E (attr_append S.ok.hh pe fun b h' tk k1 k2 k3 => ?_)) hd)
  have ge : Ge s { s with heap := h', toks := tk } := ⟨k1, rfl, rfl⟩
  refine q' (.meth a) _ _ h ⟨b, rfl, fun z => ?_, k2⟩ ge.fx
  obtain ⟨o, e⟩ := S.zok b z
  rw [k3] at e; exact no e
end
end Mine
end

section
open PySem PySem.W PyProof.Rows
set_option maxRecDepth 100000
namespace Mine
noncomputable abbrev Pt := Option (List Nat)
noncomputable def PtD (a : Nat) : Pt → D
  | none => .box a
  | some t => .str t
noncomputable def bld : List (List (List Nat)) → List Pt
  | [] => []
  | s :: r => none :: (s.map some ++ bld r)
noncomputable def tailT : List (List (List Nat)) → List Nat
  | [] => []
  | [s] => [46, 42] ++ catL s
  | s :: r => [40, 63, 62, 46, 42, 63] ++ catL s ++ [41] ++ tailT r
theorem catL_append (xs ys : List (List Nat)) : catL (xs ++ ys) = catL xs ++ catL ys := by
  induction xs with
  | nil => rfl
  | cons x r ih => rw [List.cons_append, catL, catL, ih, List.append_assoc]
theorem fu {ω : Own} {r : Addr} {ds es : List D} (h : ω.find r = some ds) {xs : List D} (e : xs = es) : (ω.upd r xs).find r = some es := by
  rw [Own.find_upd, if_pos rfl, h, e]; rfl
theorem fo {ω : Own} {r c : Addr} {ds es : List D} (n : r ≠ c) (h : ω.find r = some ds) : (ω.upd c es).find r = some ds := by
  rw [Own.find_upd, if_neg n]; exact h
noncomputable def jS (inp : List D) (a : Nat) (r : Addr) (i : Int) (fx : Option D) (own : Own) : Ms := ⟨[some (.lst inp), some (.box a), some (.own r), some (.meth r), some (.int i), some (.int inp.length), fx, none], own⟩
noncomputable def JoA (inp : List D) (a : Nat) (r : Addr) (s0 : List (List Nat)) (σ : Ms) : Prop := ∃ fx own, σ = jS inp a r s0.length fx own ∧ own.find r = some (s0.map D.str)
noncomputable def JoW (inp : List D) (a : Nat) (r : Addr) (s0 : List (List Nat)) (n : Nat) (σ : Ms) : Prop := ∃ (i : Nat), ∃ fx own, σ = jS inp a r i fx own ∧ own.find r = some ((s0.take i).map D.str) ∧ i + n = s0.length
noncomputable def JoB (inp : List D) (a : Nat) (r : Addr) (s0 : List (List Nat)) (ss : List (List (List Nat))) (σ : Ms) : Prop := ∃ fx own acc, σ = jS inp a r inp.length fx own ∧ own.find r = some (acc.map D.str) ∧ catL acc = catL s0 ++ tailT ss ∧ acc.length ≤ s0.length + 2 * ss.length
noncomputable def JoV (inp : List D) (a : Nat) (r : Addr) (s0 : List (List Nat)) (ss : List (List (List Nat))) (n : Nat) (σ : Ms) : Prop := ∃ ss2 pre fx own acc, σ = jS inp a r (pre.length : Nat) fx own ∧ own.find r = some (acc.map D.str) ∧ s0.map some ++ bld ss = pre ++ bld ss2 ∧ catL acc ++ tailT ss2 = catL s0 ++ tailT ss ∧ acc.length + 2 * ss2.length ≤ s0.length + 2 * ss.length ∧ ss2.length = n ∧ ∀ s ∈ ss2.dropLast, s ≠ []
noncomputable def JoC (inp : List D) (a : Nat) (r : Addr) (p : Nat) (f : Addr) (acc s : List (List Nat)) (σ : Ms) : Prop := ∃ own, σ = jS inp a r ((p + 1 + s.length : Nat) : Int) (some (.own f)) own ∧ own.find r = some (acc.map D.str) ∧ own.find f = some (s.map D.str)
noncomputable def JoX (inp : List D) (a : Nat) (r : Addr) (p : Nat) (f : Addr) (acc s : List (List Nat)) (n : Nat) (σ : Ms) : Prop := ∃ j : Nat, ∃ own, σ = jS inp a r ((p + 1 + j : Nat) : Int) (some (.own f)) own ∧ own.find r = some (acc.map D.str) ∧ own.find f = some ((s.take j).map D.str) ∧ j + n = s.length
set_option maxHeartbeats 4000000 in
theorem join_ok (g : Gb) (hat : FnAt g (fnGet 9)) (a : Nat) (s0 : List (List Nat)) (ss : List (List (List Nat))) (hs : ∀ s ∈ ss.dropLast, s ≠ []) (hl : (s0.map some ++ bld ss).length ≤ 10000) (ht : (catL s0 ++ tailT ss).length ≤ 50000) :
    Ct g 0 (fnGet 9).name [.lst ((s0.map some ++ bld ss).map (PtD a)), .box a] (some (.str ([40, 63, 115, 58] ++ catL s0 ++ tailT ss ++ [41, 92, 90]))) := by
  have ix0 : ∀ (k : Nat) p, (s0.map some ++ bld ss)[k]? = some p → (seqIndex? (k : Int) ((s0.map some ++ bld ss).map (PtD a)).length).bind (fun x => ((s0.map some ++ bld ss).map (PtD a))[x]?) = some (PtD a p) := fun k p e => at_nat (by rw [List.getElem?_map, e]; rfl)
  have hlen : ((s0.map some ++ bld ss).map (PtD a)).length = s0.length + (bld ss).length := by simp
  generalize hinp : (s0.map some ++ bld ss).map (PtD a) = inp at ix0 hlen ⊢
  have iso : cop .IsNot (.box a) (.box a) = some false := by simp [cop, cis]
  have iso2 : cop .Is (.box a) (.box a) = some true := by simp [cop, cis]
  have hl : s0.length + (bld ss).length ≤ 10000 := by simpa using hl
  refine Ct.plain ["inp", "STAR"] [("res", .local), ("add", .local), ("i", .local), ("n", .local), ("fixed", .local), ("len", .globalImplicit)] hat rfl rfl (by decide) (fun pm c doc vs h => ?_) (by decide) (by decide) rfl rfl rfl (fun L ad cd A' s l Zc hP => ?_)
  · obtain ⟨u, v, rfl⟩ := vs2 h
    rfl
  conv => arg 4; whnf
  refine Ws.ok (m := 30) (n := 30) ?_
  conv => whnf
  refine ⟨J1.newl (k := 2) rfl fun r hr => ?_⟩
  conv => whnf
  refine ⟨Je.meth (k' := 2) (kd := .local) rfl rfl Own.find_new (by decide) ?_⟩
  conv => whnf
  refine ⟨J1.tup2 (k := 4) (k' := 5) rfl rfl (by decide) (by rfl) (by first | exact Or.inl rfl | exact Or.inr rfl) (We.ok (n := 30) ?_)⟩
  conv => whnf
  refine ⟨show 2 ≤ 100000 by decide, _, _, rfl, ?_⟩
  conv => whnf
  refine ⟨J1.mid (JoA inp a r s0) ?_ ?_⟩
  · refine J1.while (fun h => absurd h (by simp)) (JoW inp a r s0) s0.length ⟨0, none, [(r, [])], rfl, Own.find_new, by lia⟩ ?_
    rintro n σ₁ ⟨i, fx, own, rfl, h1, h2⟩
    refine Wt.ok (n := 30) (we := We _ _ _ 30) (fun _ _ => We.ok) ?_
    conv => whnf
    refine ⟨fun h3 => ⟨nofun, fun _ => ⟨fx, own, ?_, ?_⟩⟩, fun h3 => ?_⟩
    · have h3 : ¬ (i : Int) < inp.length := of_decide_eq_false h3
      have : i = s0.length := by lia
      rw [this]
    · have h3 : ¬ (i : Int) < inp.length := of_decide_eq_false h3
      have : i = s0.length := by lia
      rw [this, List.take_length] at h1
      exact h1
    · have h3 : (i : Int) < inp.length := of_decide_eq_true h3
      conv => whnf
      by_cases h4 : i < s0.length
      · rw [ix0 i (some s0[i]) (by rw [List.getElem?_append_left (by simpa using h4), List.getElem?_map, List.getElem?_eq_getElem h4]; rfl)]
        conv => whnf
        refine ⟨nofun, fun _ => ⟨fun _ => Ws.ok (m := 30) (n := 30) ?_, nofun⟩⟩
        conv => whnf
        refine ⟨J1.add (a := r) (k := 3) (kd := .local) rfl rfl (by decide) rfl rfl (We.ok (n := 30) ?_)⟩
        conv => whnf
        rw [ix0 i (some s0[i]) (by rw [List.getElem?_append_left (by simpa using h4), List.getElem?_map, List.getElem?_eq_getElem h4]; rfl)]
        refine ⟨_, h1, ?_, ?_⟩
        · rw [List.length_map, List.length_take]
          show min i s0.length < 100000
          lia
        conv => whnf
        refine ⟨n - 1, by lia, i + 1, fx, _, rfl, ?_, by lia⟩
        refine fu h1 ?_
        rw [List.take_succ_eq_append_getElem h4, List.map_append]
        rfl
      · have h5 : i = s0.length := by lia
        have h6 : ∃ R, bld ss = none :: R := by
          cases ss with
          | nil => rw [hlen] at h3; simp [bld] at h3; lia
          | cons _ _ => exact ⟨_, rfl⟩
        obtain ⟨R, h6⟩ := h6
        rw [ix0 i none (by rw [List.getElem?_append_right (by simp; lia), h6]; simp [h5])]
        conv => whnf
        rw [show cop .IsNot (PtD a none) (.box a) = some false from iso]
        exact ⟨fun _ => ⟨nofun, fun _ => ⟨fx, own, by rw [h5], by rw [h5, List.take_length] at h1; exact h1⟩⟩, nofun⟩
  · rintro σ₁ ⟨fx, own, rfl, h1⟩
    conv => whnf
    have hbl : ∀ xs : List (List (List Nat)), xs.length ≤ (bld xs).length := fun xs => by
      induction xs with
      | nil => exact Nat.le_refl _
      | cons x r ih => rw [bld, List.length_cons, List.length_cons, List.length_append]; lia
    have hsl := hbl ss
    refine ⟨J1.mid (JoB inp a r s0 ss) ?_ ?_⟩
    · refine J1.while (fun h => absurd h (by simp)) (JoV inp a r s0 ss) ss.length ⟨ss, s0.map some, fx, own, s0, by rw [List.length_map], h1, rfl, rfl, Nat.le_refl _, rfl, hs⟩ ?_
      rintro n σ₁ ⟨ss2, pre, fx, own, acc, rfl, h1, h2, h3, h4, h5, h6⟩
      have hL : inp.length = pre.length + (bld ss2).length := by
        have := congrArg List.length h2
        rw [List.length_append, List.length_append, List.length_map] at this
        lia
      have hix : ∀ k p, (bld ss2)[k]? = some p → (seqIndex? ((pre.length + k : Nat) : Int) inp.length).bind (fun x => inp[x]?) = some (PtD a p) := fun k p e => ix0 _ _ (by
        rw [h2, List.getElem?_append_right (by lia), Nat.add_sub_cancel_left]; exact e)
      refine Wt.ok (n := 30) (we := We _ _ _ 30) (fun _ _ => We.ok) ?_
      conv => whnf
      refine ⟨fun h7 => ?_, fun h7 => ?_⟩
      · have h7 : (pre.length : Int) < inp.length := of_decide_eq_true h7
        cases ss2 with
        | nil => rw [hL] at h7; simp [bld] at h7
        | cons s rest =>
        refine Ws.ok (m := 30) (n := 30) ?_
        conv => whnf
        rw [show (seqIndex? (pre.length : Int) inp.length).bind (fun x => inp[x]?) = some (.box a) from hix 0 none rfl]
        conv => whnf
        rw [iso2]
        refine ⟨rfl, ?_⟩
        conv => whnf
        have hL' : inp.length = pre.length + 1 + s.length + (bld rest).length := by rw [hL, bld, List.length_cons, List.length_append, List.length_map]; lia
        have hacc : acc.length + 2 < 100000 := by rw [List.length_cons] at h4; lia
        refine ⟨fun h8 => ?_, fun h8 => ?_⟩
        · have h8 : (pre.length : Int) + 1 = inp.length := eq_of_beq h8
          obtain rfl : s = [] := List.eq_nil_of_length_eq_zero (by lia)
          obtain rfl : rest = [] := List.eq_nil_of_length_eq_zero (by have := hbl rest; lia)
          conv => whnf
          refine ⟨J1.add (a := r) (k := 3) (kd := .local) rfl rfl (by decide) rfl rfl (We.ok (n := 30) ?_)⟩
          conv => whnf
          refine ⟨_, h1, by rw [List.length_map]; show acc.length < 100000; lia, ?_⟩
          conv => whnf
          refine ⟨fx, own.upd r (acc.map D.str ++ [.str [46, 42]]), acc ++ [[46, 42]], by rw [← h8]; rfl, ?_, ?_, ?_⟩
          · refine fu h1 ?_; rw [List.map_append]; rfl
          · rw [← h3, catL_append]; rfl
          · rw [List.length_append]; simp at h4 ⊢; lia
        · have h8 : (pre.length : Int) + 1 ≠ inp.length := fun e => by rw [e] at h8; simp at h8
          have h9 : s ≠ [] := by
            rintro rfl
            cases rest with
            | nil => simp [bld] at hL'; lia
            | cons x y => exact h6 [] (by simp) rfl
          have hrest : ∀ s ∈ rest.dropLast, s ≠ [] := fun x hx => h6 x (by
            cases rest with
            | nil => simp at hx
            | cons y z => exact .tail _ hx)
          have hb : ∀ j (q : j < s.length), (bld (s :: rest))[1 + j]? = some (some s[j]) := fun j q => by
            rw [bld, Nat.add_comm, List.getElem?_cons_succ, List.getElem?_append_left (by simpa using q), List.getElem?_map, List.getElem?_eq_getElem q]; rfl
          have hb2 : ∀ x y, rest = x :: y → (bld (s :: rest))[1 + s.length]? = some none := fun x y e => by
            rw [bld, Nat.add_comm, List.getElem?_cons_succ, List.getElem?_append_right (by simp), e]; simp [bld]
          have hp : 0 < s.length := List.length_pos_iff.mpr h9
          conv => whnf
          rw [show (seqIndex? ((pre.length : Int) + 1) inp.length).bind (fun x => inp[x]?) = some (.str s[0]) from hix (1 + 0) _ (hb 0 hp)]
          conv => whnf
          refine ⟨rfl, ?_⟩
          conv => whnf
          refine ⟨J1.newl (k := 6) rfl fun f hf => ?_⟩
          have hrf : r ≠ f := fun e => by rw [← e] at hf; exact nomatch h1.symm.trans hf
          conv => whnf
          refine ⟨J1.mid (JoC inp a r pre.length f acc s) ?_ ?_⟩
          · refine J1.while (fun h => absurd h (by simp)) (JoX inp a r pre.length f acc s) s.length ⟨0, _, rfl, ?_, Own.find_new, by lia⟩ ?_
            · rw [Own.find, if_neg (fun e => hrf e.symm)]; exact h1
            rintro m σ₂ ⟨j, own2, rfl, g1, g2, g3⟩
            refine Wt.ok (n := 30) (we := We _ _ _ 30) (fun _ _ => We.ok) ?_
            conv => whnf
            refine ⟨fun g4 => ⟨nofun, fun _ => ?_⟩, fun g4 => ?_⟩
            · have g4 : ¬ ((pre.length + 1 + j : Nat) : Int) < inp.length := of_decide_eq_false g4
              have : j = s.length := by lia
              subst this
              rw [List.take_length] at g2
              exact ⟨own2, rfl, g1, g2⟩
            · have g4 : ((pre.length + 1 + j : Nat) : Int) < inp.length := of_decide_eq_true g4
              conv => whnf
              by_cases g5 : j < s.length
              · rw [show (seqIndex? ((pre.length + 1 + j : Nat) : Int) inp.length).bind (fun x => inp[x]?) = some (.str s[j]) from by rw [Nat.add_assoc]; exact hix (1 + j) _ (hb j g5)]
                conv => whnf
                refine ⟨nofun, fun _ => ⟨fun _ => Ws.ok (m := 30) (n := 30) ?_, nofun⟩⟩
                conv => whnf
                refine ⟨J1.append rfl rfl rfl rfl (We.ok (n := 30) ?_)⟩
                conv => whnf
                refine ⟨f, _, rfl, g2, We.ok (n := 30) ?_⟩
                conv => whnf
                rw [show (seqIndex? ((pre.length + 1 + j : Nat) : Int) inp.length).bind (fun x => inp[x]?) = some (.str s[j]) from by rw [Nat.add_assoc]; exact hix (1 + j) _ (hb j g5)]
                refine ⟨?_, ?_⟩
                · rw [List.length_map, List.length_take]
                  show min j s.length < 100000
                  lia
                conv => whnf
                refine ⟨m - 1, by lia, j + 1, _, rfl, ?_, ?_, by lia⟩
                · exact fo hrf g1
                · refine fu g2 ?_; rw [List.take_succ_eq_append_getElem g5, List.map_append]; rfl
              · obtain rfl : j = s.length := by lia
                cases rest with
                | nil => simp [bld] at hL'; lia
                | cons x y =>
                rw [show (seqIndex? ((pre.length + 1 + s.length : Nat) : Int) inp.length).bind (fun x => inp[x]?) = some (.box a) from by rw [Nat.add_assoc]; exact hix (1 + s.length) _ (hb2 x y rfl)]
                conv => whnf
                rw [iso]
                rw [List.take_length] at g2
                exact ⟨fun _ => ⟨nofun, fun _ => ⟨own2, rfl, g1, g2⟩⟩, nofun⟩
          · rintro σ₂ ⟨own2, rfl, g1, g2⟩
            conv => whnf
            have hcs : (catL s).length ≤ 50000 := by
              have := congrArg List.length h3
              rw [List.length_append] at this
              cases rest with
              | nil => rw [tailT, List.length_append] at this; lia
              | cons x y => simp only [tailT, List.length_append] at this ht; lia
            refine ⟨Je.join rfl rfl rfl (We.ok (n := 30) ?_)⟩
            conv => whnf
            refine ⟨_, s, g2, ?_, Nat.le_trans hcs (by decide), ?_⟩
            · rw [allOf_map (f := str1) (e := D.str) (h := id) (fun _ => rfl), List.map_id]
            conv => whnf
            refine ⟨fun g4 => ?_, fun g4 => ?_⟩
            · have g4 : ((pre.length + 1 + s.length : Nat) : Int) = inp.length := eq_of_beq g4
              obtain rfl : rest = [] := List.eq_nil_of_length_eq_zero (by have := hbl rest; lia)
              conv => whnf
              refine ⟨J1.add (a := r) (k := 3) (kd := .local) rfl rfl (by decide) rfl rfl (We.ok (n := 30) ?_)⟩
              conv => whnf
              refine ⟨_, g1, by rw [List.length_map]; show acc.length < 100000; lia, ?_⟩
              conv => whnf
              refine ⟨J1.add (a := r) (k := 3) (kd := .local) rfl rfl (by decide) rfl rfl (We.ok (n := 30) ?_)⟩
              conv => whnf
              refine ⟨_, fu g1 rfl, by rw [List.length_append, List.length_map]; show acc.length + 1 < 100000; lia, ?_⟩
              conv => whnf
              have hpl : (s0.map some ++ bld ss).length = pre.length + 1 + s.length := by rw [h2, List.length_append, ← hL]; lia
              refine ⟨0, by rw [← h5]; exact Nat.zero_lt_succ _, [], s0.map some ++ bld ss, some (.str (catL s)), (own2.upd r (acc.map D.str ++ [.str [46, 42]])).upd r (acc.map D.str ++ [.str [46, 42]] ++ [.str (catL s)]), acc ++ [[46, 42], catL s], by rw [hpl]; rfl, ?_, by rw [bld, List.append_nil], ?_, ?_, rfl, fun _ h => nomatch h⟩
              · refine fu (fu g1 rfl) ?_
                rw [List.map_append, List.append_assoc]
                rfl
              · rw [← h3, catL_append, tailT, tailT, List.append_nil]
                show _ ++ ([46, 42] ++ (catL s ++ [])) = _
                rw [List.append_nil]
              · rw [List.length_append]; simp only [List.length_cons, List.length_nil] at h4 ⊢; lia
            · have g4 : ((pre.length + 1 + s.length : Nat) : Int) ≠ inp.length := fun e => by rw [e] at g4; exact absurd g4 (by rw [beq_self_eq_true]; decide)
              cases rest with
              | nil => simp only [bld, List.length_nil] at hL'; lia
              | cons x y =>
              conv => whnf
              refine ⟨J1.add (a := r) (k := 3) (kd := .local) rfl rfl (by decide) rfl rfl (Je.fstr (we := We _ _ _ 30) (fun _ _ => We.ok) ?_)⟩
              conv => whnf
              refine ⟨show 0 + 6 ≤ 100000 by decide, ?_⟩
              conv => whnf
              refine ⟨?_, ?_⟩
              · show 6 + (catL s).length ≤ 100000
                lia
              conv => whnf
              refine ⟨?_, ?_⟩
              · show (_ ++ catL s).length + 1 ≤ 100000
                rw [List.length_append]
                show 6 + (catL s).length + 1 ≤ 100000
                lia
              conv => whnf
              refine ⟨_, g1, by rw [List.length_map]; show acc.length < 100000; lia, ?_⟩
              conv => whnf
              refine ⟨n - 1, by rw [← h5]; exact Nat.lt_succ_self _, x :: y, pre ++ none :: s.map some, some (.str (catL s)), own2.upd r (acc.map D.str ++ [.str ([40, 63, 62, 46, 42, 63] ++ catL s ++ [41])]), acc ++ [[40, 63, 62, 46, 42, 63] ++ catL s ++ [41]], ?_, ?_, ?_, ?_, ?_, by rw [← h5]; rfl, hrest⟩
              · rw [show (pre ++ none :: s.map some).length = pre.length + 1 + s.length by rw [List.length_append, List.length_cons, List.length_map]; lia]
                rfl
              · refine fu g1 ?_; rw [List.map_append]; rfl
              · rw [h2, bld]; simp only [List.append_assoc, List.cons_append]
              · rw [← h3, catL_append]
                show _ ++ (_ ++ []) ++ _ = _ ++ (_ ++ _)
                rw [List.append_nil, List.append_assoc]
              · rw [List.length_append]; simp only [List.length_cons, List.length_nil] at h4 ⊢; lia
      · have h7 : ¬ (pre.length : Int) < inp.length := of_decide_eq_false h7
        cases ss2 with
        | cons _ _ => rw [hL] at h7; simp [bld] at h7; lia
        | nil =>
          refine ⟨fx, own, acc, by rw [hL]; rfl, h1, ?_, by simpa using h4⟩
          rw [tailT, List.append_nil] at h3; exact h3
    · rintro σ₁ ⟨fx, own, acc, rfl, h1, h2, h3⟩
      conv => whnf
      refine ⟨beq_self_eq_true _, ?_⟩
      conv => whnf
      refine ⟨Je.join rfl rfl rfl (We.ok (n := 30) ?_)⟩
      conv => whnf
      refine ⟨_, acc, h1, ?_, by rw [h2]; exact Nat.le_trans ht (by decide), ?_⟩
      · rw [allOf_map (f := str1) (e := D.str) (h := id) (fun _ => rfl), List.map_id]
      conv => whnf
      have ht2 : (catL acc).length ≤ 50000 := by rw [h2]; exact ht
      refine ⟨Je.fstr (we := We _ _ _ 30) (fun _ _ => We.ok) ?_⟩
      conv => whnf
      refine ⟨show 0 + 4 ≤ 100000 by decide, ?_⟩
      conv => whnf
      refine ⟨?_, ?_⟩
      · show 4 + (catL acc).length ≤ 100000
        lia
      conv => whnf
      refine ⟨?_, ?_⟩
      · show (_ ++ catL acc).length + 3 ≤ 100000
        rw [List.length_append]
        show 4 + (catL acc).length + 3 ≤ 100000
        lia
      show some (D.str _) = some (D.str _)
      rw [h2, List.append_assoc _ (catL s0)]
      rfl
end Mine
end

section
open PySem PySem.W PyProof.Rows
set_option genSizeOf false
set_option genInjectivity false
namespace Mine
/-- one's own lists, seen through -/
noncomputable def res : Nat → Own → D → D
  | 0, _, d => d
  | n + 1, ω, d => match d with
    | .own a => match ω.find a with
      | some ds => .lst (ds.map (res n ω))
      | none => .own a
    | d => d
section
variable {F : Fx} {X : Prop} {σ : Ms} {K : Po}
theorem Fx.Znil (F : Fx) (ω : Own) : ∀ b, F.Z [] b → F.Z ω b := fun b z => by
  rcases z with z | z | z | ⟨_, z⟩
  · exact .inl z
  · exact .inr (.inl z)
  · exact .inr (.inr (.inl z))
  · exact no z
theorem St.drop {s : Shared} (S : St F σ s) : St F ⟨[], []⟩ s := by
  obtain ⟨m, n0, f⟩ := S.ns
  exact { ok := S.ok, gw := S.gw, base := S.base, tab := S.tab, bare := S.bare, os := S.os, ns := ⟨m, n0, fun y k kd d h1 h2 => nomatch h2⟩, cells := S.cells, own := fun b es e => no e, ownv := fun b es e => no e, zok := fun b z => S.zok b (F.Znil σ.own b z), base0 := S.base0, frs := S.frs, prot := fun p m => ⟨(S.prot p m).1, fun z => (S.prot p m).2 (F.Znil σ.own _ z)⟩, gh := fun p m => Vr.more (fun b o _ z => F.Znil σ.own b z) p.1 (S.gh p m) }
theorem St.res {s : Shared} (S : St F σ s) : ∀ (n : Nat) {d : D} {v : Value}, Vr (F.Z σ.own) s.heap d v → Vr (F.Z []) s.heap (res n σ.own d) v := by
  intro n
  induction n with
  | zero => intro d v r; exact Vr.more (fun b o _ z => F.Znil σ.own b z) d r
  | succ n ih =>
    intro d v r
    have oth : Vr (F.Z []) s.heap d v := Vr.more (fun b o _ z => F.Znil σ.own b z) d r
    cases d with
    | own a =>
      show Vr (F.Z []) s.heap (match σ.own.find a with | some ds => .lst (ds.map (Mine.res n σ.own)) | none => .own a) v
      cases e : σ.own.find a with
      | none => exact oth
      | some ds =>
        cases r
        obtain ⟨z, vs, p, l, nn⟩ := S.own a ds e
        obtain ⟨v1, v2, v3, v4⟩ := S.ownv a ds e
        refine ⟨a, vs, rfl, fun z => ?_, by rw [List.length_map]; exact nn, p, ?_⟩
        · rcases z with z | z | ⟨x, z⟩ | ⟨es, z⟩
          · exact v1 z
          · exact v2 z
          · exact v4 x z
          · exact no z
        · clear nn p z e
          induction ds generalizing vs with
          | nil => exact l
          | cons d r ih2 => obtain ⟨v, us, rfl, x, y⟩ := l; exact ⟨v, us, rfl, ih x, ih2 us y⟩
    | _ => exact oth
/-- return of what is one's own -/
theorem J1.retown {e : PExpr} {pos : Pos} (n : Nat) (h : Je F False σ e fun d => K.r ⟨[], []⟩ (Mine.res n σ.own d)) : J1 F X σ (.Return (some e) pos) K := fun s Q E S qn qb qr x =>
  wpAny_Return_some (h s _ E S (fun d v s₁ k r g => qr ⟨[], []⟩ _ v s₁ k ((S.step g).res n r) (S.step g).drop) (fun f => f.elim))
/-- a store that lets other values be -/
theorem St.storeK0 {s : Shared} (S : St F σ s) {x : Str} {k : Nat} {d : D} {v : Value} {ds : List D} {vs : List Value} (hx : F.nm x = some (k, .local)) (r : Vr (F.Z σ.own) s.heap d v) (l : VL (F.Z σ.own) s.heap ds vs) {Q : Unit → Shared → Prop} {E : Value → Shared → Prop}
    (q : ∀ s', St F ⟨σ.loc.set k (some d), σ.own⟩ s' → VL (F.Z σ.own) s'.heap ds vs → Q () s') : wpAny F.g.M F.A (storeName F.env x v) Q E s := by
  obtain ⟨m, n0, f⟩ := S.ns
  have hm : ∀ m', s.heap.Ns F.env.locals m' → m' = m := fun m' n' => by
    obtain ⟨o, es, ep, a1, a2, a3, a4⟩ := n0
    obtain ⟨o', es', ep', b1, b2, b3, b4⟩ := n'
    rw [a1] at b1
    cases b1
    rw [a2] at b2
    cases b2
    exact funext fun y => (b4 y).symm.trans (a4 y)
  refine wpAny_storeName_local (S.kindOf hx) n0 (fun h' hn hs => ?_) (by rw [S.ok.kind]; rfl)
  exact q _ (S.put (tk := s.toks + 1) hx r (fun m' n' => by rw [hm m' n']; exact hn) hs) (VL.kp (F.kpZ (ω := σ.own) hs (F.lZ _)) ds l)
theorem St.storeK {s : Shared} (S : St F σ s) {x : Str} {p : Pos} {k : Nat} {d : D} {v : Value} {ds : List D} {vs : List Value} (hx : F.nm x = some (k, .local)) (r : Vr (F.Z σ.own) s.heap d v) (l : VL (F.Z σ.own) s.heap ds vs) {Q : Unit → Shared → Prop} {E : Value → Shared → Prop}
    (q : ∀ s', St F ⟨σ.loc.set k (some d), σ.own⟩ s' → VL (F.Z σ.own) s'.heap ds vs → Q () s') : wpAny F.g.M F.A (PySem.assign (.Name x p) F.env v) Q E s :=
  wpAny_assign_Name (S.storeK0 hx r l q)
/-- x, y, z, w = ([[]], e2, e3, e4) -/
theorem J1.tup4 {x1 x2 x3 x4 : Str} {p1 p2 p3 p4 tp pos q1 q2 q3 : Pos} {kc kv : Nat} {e2 e3 e4 : PExpr} {k1 k2 k3 k4 : Nat} (h1 : F.nm x1 = some (k1, .local)) (h2 : F.nm x2 = some (k2, .local)) (h3 : F.nm x3 = some (k3, .local)) (h4 : F.nm x4 = some (k4, .local))
    (he : ∀ e r, e ∈ [e2, e3, e4] → ∀ env, starEach (e :: r) env = (false, eval e env) :: starEach r env)
    (hs : swapsWithSole [.Tuple [.Name x1 p1, .Name x2 p2, .Name x3 p3, .Name x4 p4] kc tp] (.Tuple [.List [.List [] q1] q2, e2, e3, e4] kv q3) pos.line F.env = pure false)
    (hw : swappedStores [.Tuple [.Name x1 p1, .Name x2 p2, .Name x3 p3, .Name x4 p4] kc tp] (.Tuple [.List [.List [] q1] q2, e2, e3, e4] kv q3) F.env = pure none)
    (h : ∀ R r0, R ≠ r0 → Ja F False ⟨σ.loc, (R, [.own r0]) :: (r0, []) :: σ.own⟩ [e2, e3, e4] fun ds => ∃ b c d, ds = [b, c, d] ∧ K.n ⟨(((σ.loc.set k1 (some (.own R))).set k2 (some b)).set k3 (some c)).set k4 (some d), (R, [.own r0]) :: (r0, []) :: σ.own⟩) :
    J1 F X σ (.Assign [.Tuple [.Name x1 p1, .Name x2 p2, .Name x3 p3, .Name x4 p4] kc tp] (.Tuple [.List [.List [] q1] q2, e2, e3, e4] kv q3) pos) K := fun s Q E S qn qb qr xx => by
  refine Assign_Tuple (wpAny_Tuple (args_cons (wpAny_List (args_cons (wpAny_List (args_nil ⟨Nat.zero_le _, ?_⟩)) (by rfl))) (by rfl))) hs hw
  have S₁ := S.grow (ds := []) (vs := []) (tk := s.toks) rfl (Nat.zero_le _)
  refine args_nil ⟨by rw [sizeLine_eq]; show 1 ≤ 16777216; decide, ?_⟩
  have S₂ := S₁.grow (ds := [.own s.heap.objs.size]) (vs := [.ref s.heap.objs.size]) (tk := s.toks) ⟨_, [], rfl, rfl, rfl⟩ (show 1 ≤ 100000 by decide)
  refine h _ s.heap.objs.size (by simp) q3 _ _ E S₂ (fun ds vs s₃ kk l g => ?_) (fun f => f.elim)
  obtain ⟨b, c, d, rfl, kn⟩ := kk
  obtain ⟨vb, us, rfl, rb, ⟨vc, us, rfl, rc, ⟨vd, us, rfl, rd, e⟩⟩⟩ := l
  cases e
  have S₃ := S₂.step g
  refine ⟨by rw [sizeLine_eq]; show 4 ≤ _; decide, ?_⟩
  have gp := Ge.push s₃ { cls := .type "tuple", data := .seq [Value.ref ((s.heap.push { cls := .type "list", data := .seq ([] : List Value).toArray }).objs.size), vb, vc, vd].toArray } s₃.toks
  have S₄ := S₃.step gp.fx
  refine assign_Tuple_tuple S.ok.hh ⟨_, Heap.get?_push_size _ rfl, rfl, _, rfl⟩ (by rfl) (by rfl) fun h' ex => ?_
  have ge := ext_ge ex
  have S₅ := S₄.step ge.fx
  have L : VL (F.Z _) h' [b, c, d] [vb, vc, vd] := ge.vl (gp.vl (ds := [b, c, d]) (vs := [vb, vc, vd]) ⟨vb, _, rfl, rb, vc, _, rfl, rc, vd, _, rfl, rd, rfl⟩)
  show wpAny F.g.M F.A (do holding [vb, vc, vd] (PySem.assign (.Name x1 p1) F.env _); do holding [vc, vd] (PySem.assign (.Name x2 p2) F.env vb); do holding [vd] (PySem.assign (.Name x3 p3) F.env vc); do holding [] (PySem.assign (.Name x4 p4) F.env vd); pure ()) _ _ _
  refine wpAny_bind (wpAny_holding (S₅.storeK h1 (d := .own _) rfl L fun s₆ S₆ L => ?_))
  obtain ⟨vb', us, e, rb, L⟩ := L
  cases e
  refine wpAny_bind (wpAny_holding (S₆.storeK h2 rb L fun s₇ S₇ L => ?_))
  obtain ⟨vc', us, e, rc, L⟩ := L
  cases e
  refine wpAny_bind (wpAny_holding (S₇.storeK h3 rc L fun s₈ S₈ L => ?_))
  obtain ⟨vd', us, e, rd, L⟩ := L
  cases e
  refine wpAny_bind (wpAny_holding (S₈.storeK (ds := []) (vs := []) h4 rd rfl fun s₉ S₉ L => ?_))
  exact wpAny_pure (qn _ _ kn S₉)
/-- o.append([]) -/
theorem J1.appnew {o : PExpr} {p q pos q1 : Pos} (hi : interactive F.env = false) (hb : attributeBase o "append" F.env (eval o F.env) = eval o F.env) (hline : (p.endLine == q.line) = true)
    (h : Je F False σ o fun x => ∃ a ds, x = .own a ∧ σ.own.find a = some ds ∧ ds.length < lim ∧ ∀ r, σ.own.find r = none → K.n ⟨σ.loc, Own.upd ((r, []) :: σ.own) a (ds ++ [.own r])⟩) :
    J1 F X σ (.Expr (.Call (.Attribute o (Str.ofString "append") p) [.List [] q1] [] q) pos) K := fun s Q E S qn qb qr xx => by
  refine wpAny_Expr_any (wpAny_Call_append hb (by rfl) hline (by rfl) (h s _ E S (fun x v s₁ k r g => ?_) (fun f => f.elim))) hi (by rfl)
  obtain ⟨a, ds, rfl, hf, hn, kn⟩ := k
  cases r
  have S₁ := S.step g
  obtain ⟨_, vs, ⟨nn, pe⟩, al, n2⟩ := S₁.own a ds hf
  refine ⟨a, vs.toArray, rfl, ⟨_, nn, pe, rfl, rfl, rfl⟩, wpAny_List (args_nil ⟨Nat.zero_le _, ?_⟩)⟩
  have S₂ := S₁.grow (ds := []) (vs := []) (tk := s₁.toks) rfl (Nat.zero_le _)
  have hr : σ.own.find s₁.heap.objs.size = none := by
    cases z : σ.own.find s₁.heap.objs.size with
    | none => rfl
    | some ds => exact absurd (.inr (.inr (.inr ⟨ds, z⟩))) S₁.zok.new
  have ne : s₁.heap.objs.size ≠ a := fun e => by rw [e, hf] at hr; exact nomatch hr
  have hf2 : Own.find ((s₁.heap.objs.size, []) :: σ.own) a = some ds := by rw [Own.find, if_neg ne]; exact hf
  obtain ⟨_, vs2, ⟨nn2, pe2⟩, al2, n3⟩ := S₂.own a ds hf2
  refine append_at pe2 (fun h' sb e2 => qn _ _ (kn _ hr) (S₂.app (d := .own s₁.heap.objs.size) hf2 al2 rfl hn sb e2)) (by rw [List.size_toArray, al2.length]; exact lim_line n3)
end
end Mine
end

section
open PySem PySem.W PyProof.Rows
set_option maxRecDepth 100000
namespace Mine
/-- a part: its text, how it is read -/
structure Tk where
  t : List Nat
  r : Rx
noncomputable abbrev catT (p : List Tk) : List Nat := catL (p.map Tk.t)
noncomputable def remT (st : Int) (p : List Tk) (ss : List (List Tk)) : List Nat := catT p ++ ((if st = 1 then [41] else []) ++ tailT (ss.map (·.map Tk.t)))
noncomputable def Conf (st : Int) (p : List Tk) (ss : List (List Tk)) : Prop := st = 0 ∨ (st = 1 ∧ ss ≠ []) ∨ (st = 2 ∧ p = [] ∧ ss ≠ []) ∨ (st = 3 ∧ ss = [])
noncomputable def rowR (p : List Tk) : List Rx := p.map Tk.r
/-- the rows as they stand -/
noncomputable def Rws (ω : Own) (R : Addr) (A : List (List Rx)) (cur : List Rx) (c : Addr) : Prop := ∃ as, ω.find R = some ((as ++ [c]).map D.own) ∧ as.map ω.find = A.map (fun l => some (l.map Rx.d)) ∧ ω.find c = some (cur.map Rx.d) ∧ c ∉ as ∧ R ∉ as ∧ R ≠ c
theorem Rws.push {ω : Own} {R : Addr} {A : List (List Rx)} {cur : List Rx} {c : Addr} (h : Rws ω R A cur c) (x : Rx) : Rws (ω.upd c (cur.map Rx.d ++ [x.d])) R A (cur ++ [x]) c := by
  obtain ⟨as, h1, h2, h3, h4, h5, h6⟩ := h
  refine ⟨as, by rw [Own.find_upd, if_neg h6]; exact h1, ?_, by rw [Own.find_upd, if_pos rfl, h3, List.map_append]; rfl, h4, h5, h6⟩
  rw [← h2]
  refine List.map_congr_left fun a ha => ?_
  rw [Own.find_upd, if_neg (fun (e : a = c) => h4 (e ▸ ha))]
theorem Rws.new {ω : Own} {R : Addr} {A : List (List Rx)} {cur : List Rx} {c r : Addr} (h : Rws ω R A cur c) (hr : ω.find r = none) {ds : List D} (hds : ω.find R = some ds) : Rws (Own.upd ((r, []) :: ω) R (ds ++ [.own r])) R (A ++ [cur]) [] r := by
  obtain ⟨as, h1, h2, h3, h4, h5, h6⟩ := h
  rw [h1] at hds
  cases hds
  have rR : r ≠ R := fun e => by rw [e, h1] at hr; exact nomatch hr
  have rc : r ≠ c := fun e => by rw [e, h3] at hr; exact nomatch hr
  have ra : r ∉ as := fun m => by
    obtain ⟨i, hi, e⟩ := List.getElem_of_mem m
    have := congrArg (·[i]?) h2
    simp only [List.getElem?_map, List.getElem?_eq_getElem hi, Option.map_some, e, hr] at this
    cases q : A[i]? with
    | none => rw [q] at this; exact nomatch this
    | some _ => rw [q] at this; exact nomatch this
  have fnd : ∀ b, b ≠ R → b ≠ r → Own.find (Own.upd ((r, []) :: ω) R (List.map D.own (as ++ [c]) ++ [.own r])) b = ω.find b := fun b q1 q2 => by
    rw [Own.find_upd, if_neg q1, Own.find, if_neg (fun e => q2 e.symm)]
  refine ⟨as ++ [c], ?_, ?_, ?_, ?_, ?_, fun e => rR e.symm⟩
  · rw [Own.find_upd, if_pos rfl, Own.find, if_neg rR, h1, List.map_append (l₁ := as ++ [c])]; rfl
  · rw [List.map_append (l₁ := as), List.map_append (l₁ := A), ← h2]
    refine congr (congrArg _ ?_) ?_
    · exact List.map_congr_left fun a ha => fnd a (fun (e : a = R) => h5 (e ▸ ha)) (fun (e : a = r) => ra (e ▸ ha))
    · rw [List.map_cons, List.map_nil, fnd c (fun e => h6 e.symm) (fun e => rc e.symm), h3]; rfl
  · rw [Own.find_upd, if_neg rR, Own.find, if_pos rfl]; rfl
  · intro m
    rcases List.mem_append.mp m with m | m
    · exact ra m
    · exact rc (List.mem_singleton.mp m)
  · intro m
    rcases List.mem_append.mp m with m | m
    · exact h5 m
    · exact h6 (List.mem_singleton.mp m)
theorem Rws.out {ω : Own} {R : Addr} {A : List (List Rx)} {cur : List Rx} {c : Addr} (h : Rws ω R A cur c) : res 2 ω (.own R) = .lst ((A ++ [cur]).map rowD) := by
  obtain ⟨as, h1, h2, h3, h4, h5, h6⟩ := h
  have inner : ∀ (l : List Rx), (l.map Rx.d).map (res 0 ω) = l.map Rx.d := fun l => List.map_id' _
  have one : ∀ b l, ω.find b = some (List.map Rx.d l) → res 1 ω (.own b) = rowD l := fun b l e => by
    show (match ω.find b with | some ds => D.lst (ds.map (res 0 ω)) | none => .own b) = _
    rw [e]
    exact congrArg D.lst (inner l)
  show (match ω.find R with | some ds => D.lst (ds.map (res 1 ω)) | none => .own R) = _
  rw [h1]
  refine congrArg D.lst ?_
  rw [List.map_append, List.map_append, List.map_append]
  refine congr (congrArg _ ?_) ?_
  · rw [List.map_map]
    refine List.ext_getElem? fun i => ?_
    have := congrArg (·[i]?) h2
    simp only [List.getElem?_map] at this ⊢
    cases q : as[i]? with
    | none =>
      rw [q] at this
      cases z : A[i]? with
      | none => rfl
      | some _ => rw [z] at this; exact nomatch this
    | some b =>
      rw [q] at this
      cases z : A[i]? with
      | none => rw [z] at this; exact nomatch this
      | some l =>
        rw [z] at this
        exact congrArg some (one b l (Option.some.inj this))
  · exact congrArg (fun x => [x]) (one c cur h3)
end Mine
end

section
open PySem PySem.W PyProof.Rows
set_option maxRecDepth 100000
namespace Mine
theorem cutL_mid0 {α : Type} {pre rest : List α} (b : Nat) : cutL (some (pre.length : Int)) (some ((pre.length : Int) + b)) (pre ++ rest) = rest.take b := by
  have := cut_mid (pre := pre) (rest := rest) 0 b (Nat.zero_le _)
  rw [Int.natCast_add] at this
  exact this
theorem ix_mid {α : Type} {pre rest : List α} {c : α} (h : rest.head? = some c) : (seqIndex? (pre.length : Int) (pre ++ rest).length).bind (fun x => (pre ++ rest)[x]?) = some c :=
  at_nat (by rw [List.getElem?_append_right (Nat.le_refl _), Nat.sub_self]; rw [List.head?_eq_getElem?] at h; exact h)
theorem dIdx_own {ω : Own} {R : Addr} {ds : List D} {i : Int} {d : D} (h : ω.find R = some ds) (h2 : (seqIndex? i ds.length).bind (fun x => ds[x]?) = some d) : dIdx ω (.own R) (.int i) = some (some d) := by
  show (((two (seqOf ω) D.int? (fun xs i => some ((seqIndex? i xs.length).bind (xs[·]?))) (.own R) (.int i))).or _) = _
  have e : seqOf ω (.own R) = some ds := by
    show ((ω.find R).or _) = _
    rw [h]; rfl
  rw [two, e]
  show (some ((seqIndex? i ds.length).bind (ds[·]?))).or _ = _
  rw [h2]; rfl
noncomputable def tokOk (p : List Tk) : Prop := ∀ x ∈ p, TkOk x.t x.r
/-- before a turn of the reader -/
noncomputable def RdI (R : Addr) (text : List Nat) (full : List (List Rx)) (n : Nat) (σ : Ms) : Prop := ∃ st p ss' A cur c pre sz it ω, σ = ⟨[some (.str text), some (.own R), some (.int st), some (.int (pre.length : Nat)), some (.int ((text.length : Int) - 3)), sz, it, none, none], ω⟩ ∧
  Rws ω R A cur c ∧ text = pre ++ (remT st p ss' ++ [41, 92, 90]) ∧ Conf st p ss' ∧ (A ++ [cur ++ rowR p]) ++ ss'.map rowR = full ∧ tokOk p ∧ (∀ s ∈ ss', tokOk s) ∧ n = (remT st p ss').length ∧ cur.length ≤ pre.length ∧ A.length ≤ pre.length
theorem RdI.mk {R : Addr} {text : List Nat} {full : List (List Rx)} {σ : Ms} (st : Int) (p : List Tk) (ss' : List (List Tk)) (A : List (List Rx)) (cur : List Rx) (c : Addr) (pre : List Nat) (sz it : Option D) (ω : Own)
  (e : σ = ⟨[some (.str text), some (.own R), some (.int st), some (.int (pre.length : Nat)), some (.int ((text.length : Int) - 3)), sz, it, none, none], ω⟩)
  (h1 : Rws ω R A cur c) (h2 : text = pre ++ (remT st p ss' ++ [41, 92, 90])) (h3 : Conf st p ss') (h4 : (A ++ [cur ++ rowR p]) ++ ss'.map rowR = full) (h5 : tokOk p) (h6 : ∀ s ∈ ss', tokOk s) (h8 : cur.length ≤ pre.length) (h9 : A.length ≤ pre.length) : RdI R text full (remT st p ss').length σ :=
  ⟨st, p, ss', A, cur, c, pre, sz, it, ω, e, h1, h2, h3, h4, h5, h6, rfl, h8, h9⟩
/-- behind the reader's loop -/
noncomputable def RdN (R : Addr) (text : List Nat) (full : List (List Rx)) (σ : Ms) : Prop := ∃ st A cur c a sz it ω, σ = ⟨[some (.str text), some (.own R), some (.int st), a, some (.int ((text.length : Int) - 3)), sz, it, none, none], ω⟩ ∧
  Rws ω R A cur c ∧ (st = 0 ∨ st = 3) ∧ A ++ [cur] = full
theorem TkOk.head {t : List Nat} {r : Rx} (h : TkOk t r) : ∃ c u, t = c :: u ∧ c ≠ 42 ∧ c ≠ 41 ∧ (c = 40 → u = [63, 33, 41]) ∧ (c = 46 → u = []) := by
  rcases h with ⟨rfl, _⟩ | ⟨rfl, _⟩ | ⟨c, rfl, _⟩ | ⟨c, _, rfl, _⟩ | ⟨c, _, _, rfl, _⟩ | ⟨c, h1, h2, h3, h4, rfl, _⟩
  · exact ⟨40, _, rfl, by decide, by decide, fun _ => rfl, fun h => absurd h (by decide)⟩
  · exact ⟨46, _, rfl, by decide, by decide, fun h => absurd h (by decide), fun _ => rfl⟩
  · exact ⟨92, _, rfl, by decide, by decide, fun h => absurd h (by decide), fun h => absurd h (by decide)⟩
  · exact ⟨91, _, rfl, by decide, by decide, fun h => absurd h (by decide), fun h => absurd h (by decide)⟩
  · exact ⟨91, _, rfl, by decide, by decide, fun h => absurd h (by decide), fun h => absurd h (by decide)⟩
  · simp at h4
    exact ⟨c, [], rfl, h4.2.2.1, h4.2.1, fun e => absurd e h4.1, fun _ => rfl⟩
theorem tail_head (ss : List (List (List Nat))) : (tailT ss).head? ≠ some 42 := by
  match ss with
  | [] => exact fun h => nomatch h
  | [s] => exact fun h => absurd (Option.some.inj h) (by decide)
  | s :: x :: y => exact fun h => absurd (Option.some.inj h) (by decide)
theorem rem_head {st : Int} {p : List Tk} {ss : List (List Tk)} (h : tokOk p) : (remT st p ss ++ [41, 92, 90]).head? ≠ some 42 := by
  unfold remT
  cases p with
  | cons x p =>
    obtain ⟨c, u, e, hc, _⟩ := (h x (.head _)).head
    intro q
    rw [catT, List.map_cons, catL, e] at q
    exact hc (Option.some.inj q)
  | nil =>
    show ((if st = 1 then [41] else []) ++ tailT _ ++ [41, 92, 90]).head? ≠ some 42
    by_cases hs : st = 1
    · rw [if_pos hs]; exact fun q => absurd (Option.some.inj q) (by decide)
    · rw [if_neg hs, List.nil_append]
      have := tail_head (ss.map (·.map Tk.t))
      cases z : tailT (ss.map (·.map Tk.t)) with
      | nil => exact fun q => absurd (Option.some.inj q) (by decide)
      | cons a b => rw [z] at this; exact this
theorem rem_nil {st : Int} {p : List Tk} {ss : List (List Tk)} (h : tokOk p) (hc : Conf st p ss) (e : remT st p ss = []) : (st = 0 ∨ st = 3) ∧ p = [] ∧ ss = [] := by
  unfold remT at e
  obtain ⟨e1, e2⟩ := List.append_eq_nil_iff.mp e
  obtain ⟨e2, e3⟩ := List.append_eq_nil_iff.mp e2
  have h1 : p = [] := by
    cases p with
    | nil => rfl
    | cons x p =>
      obtain ⟨c, u, q, _⟩ := (h x (.head _)).head
      rw [catT, List.map_cons, catL, q] at e1
      exact nomatch e1
  have h2 : ss = [] := by
    match ss, e3 with
    | [], _ => rfl
    | [s], e => exact nomatch e
    | s :: x :: y, e => exact nomatch e
  refine ⟨?_, h1, h2⟩
  rcases hc with hc | ⟨_, hc⟩ | ⟨_, _, hc⟩ | ⟨hc, _⟩
  · exact .inl hc
  · exact absurd h2 hc
  · exact absurd h2 hc
  · exact .inr hc
set_option maxHeartbeats 4000000 in
theorem read_ok (g : Gb) (hat : FnAt g (fnGet 18)) (hi : FnAt g (fnGet 17)) (s0 : List Tk) (ss : List (List Tk)) (ok0 : ∀ x ∈ s0, TkOk x.t x.r) (ok : ∀ s ∈ ss, ∀ x ∈ s, TkOk x.t x.r) (text : List Nat) (htx : text = [40, 63, 115, 58] ++ (catT s0 ++ tailT (ss.map (·.map Tk.t)) ++ [41, 92, 90])) (hl : text.length ≤ 50000) :
    Ct g 1 (fnGet 18).name [.str text] (some (.lst ((s0 :: ss).map fun s => rowD (rowR s)))) := by
  refine Ct.plain ["text"] [("rows", .local), ("state", .local), ("at", .local), ("end", .local), ("size", .local), ("item", .local), ("len", .globalImplicit), ("_law_item", .globalImplicit)] hat rfl rfl (by decide) (fun pm c doc vs h => ?_) (by decide) (by decide) rfl rfl rfl (fun L ad cd A' s l Zc hP => ?_)
  · obtain ⟨u, rfl⟩ := vs1 h
    rfl
  conv => arg 4; whnf
  refine Js.cons (J1.tup4 (k1 := 1) (k2 := 2) (k3 := 3) (k4 := 4) rfl rfl rfl rfl ?_ rfl rfl fun R r0 hR => Wa.ok (fun _ _ => We.ok (n := 30)) ?_)
  · intro e r m env
    rcases List.mem_cons.mp m with rfl | m
    · rfl
    rcases List.mem_cons.mp m with rfl | m
    · rfl
    rcases List.mem_cons.mp m with rfl | m
    · rfl
    · exact nomatch m
  conv => whnf
  refine ⟨_, _, _, rfl, Ws.ok (m := 30) (n := 2) ?_⟩
  conv => whnf
  have e4 : cutL none (some 4) text = [40, 63, 115, 58] := (cutL_take 4 text).trans (by rw [htx]; rfl)
  have hend : (text.length : Int) - 3 = ((4 + (catT s0 ++ tailT (ss.map (·.map Tk.t))).length : Nat) : Int) := by
    rw [htx]; simp only [List.length_append, List.length_cons, List.length_nil]; lia
  have e5 : cutL (some ((text.length : Int) - 3)) none text = [41, 92, 90] := by
    rw [hend, cutL_drop, htx]
    show List.drop (4 + _) ([40, 63, 115, 58] ++ _) = _
    rw [List.drop_append, List.drop_append]
    simp
  rw [e4]
  refine ⟨noT, fun _ => ?_⟩
  conv => whnf
  rw [e5]
  refine ⟨noT, fun _ => ⟨noT, fun _ => ?_⟩⟩
  conv => whnf
  generalize hfull : rowR s0 :: ss.map rowR = full
  have hout : (s0 :: ss).map (fun s => rowD (rowR s)) = full.map rowD := by rw [← hfull, List.map_cons, List.map_cons, List.map_map]; rfl
  rw [hout]
  refine ⟨J1.mid (RdN R text full) ?_ ?_⟩
  · refine J1.while (fun h => nomatch h) (RdI R text full) (remT 0 s0 ss).length (RdI.mk 0 s0 ss [] [] r0 [40, 63, 115, 58] none none _ rfl ⟨[], ?_, rfl, ?_, by simp, by simp, hR⟩ ?_ (.inl rfl) ?_ ok0 ok (Nat.zero_le _) (Nat.zero_le _)) ?_
    · rw [Own.find, if_pos rfl]; rfl
    · rw [Own.find, if_neg hR, Own.find, if_pos rfl]; rfl
    · rw [htx, remT, if_neg (by decide)]; rfl
    · rw [← hfull]; rfl
    rintro n σ₁ ⟨st, p, ss', A, cur, c, pre, sz, it, ω, rfl, h1, h2, h3, h4, h5, h6, rfl, h8, h9⟩
    have hend2 : (text.length : Int) - 3 = pre.length + (remT st p ss').length := by
      rw [h2]; simp only [List.length_append, List.length_cons, List.length_nil]; lia
    refine Wt.ok (n := 30) (we := We _ _ _ 30) (fun _ _ => We.ok) ?_
    conv => whnf
    refine ⟨fun h7 => ?_, fun h7 => ?_⟩
    · have h7 : (pre.length : Int) < (text.length : Int) - 3 := of_decide_eq_true h7
      have hne : remT st p ss' ≠ [] := fun e => by rw [hend2, e] at h7; simp at h7
      have hlp : pre.length ≤ 50000 := by
        have := congrArg List.length h2
        rw [List.length_append] at this; lia
      have e6 : cutL (some (pre.length : Int)) (some ((pre.length : Int) + 6)) text = (remT st p ss' ++ [41, 92, 90]).take 6 := by
        rw [h2]; exact cutL_mid0 6
      have e2 : cutL (some (pre.length : Int)) (some ((pre.length : Int) + 2)) text = (remT st p ss' ++ [41, 92, 90]).take 2 := by
        rw [h2]; exact cutL_mid0 2
      have ex : ∀ c, (remT st p ss' ++ [41, 92, 90]).head? = some c → (seqIndex? (pre.length : Int) text.length).bind (fun x => text[x]?) = some c := fun c h => by
        rw [h2]; exact ix_mid h
      cases p with
      | cons x p =>
        obtain ⟨c0, u, ht, k1, k2, k3, k4⟩ := (h5 x (.head _)).head
        have hrem : remT st (x :: p) ss' = x.t ++ remT st p ss' := by
          rw [remT, remT, catT, List.map_cons, catL, List.append_assoc]
        have hp5 : tokOk p := fun y m => h5 y (.tail _ m)
        have hh := rem_head (st := st) (ss := ss') hp5
        rw [hrem, List.append_assoc] at h2 e6 e2 ex
        generalize hR2 : remT st p ss' ++ [41, 92, 90] = rest at *
        have n6 : ((x.t ++ rest).take 6 == [40, 63, 62, 46, 42, 63]) = false := beq_eq_false_iff_ne.mpr fun q => by
          rw [ht] at q
          have q0 := List.head_eq_of_cons_eq q
          rw [k3 q0] at q
          simp at q
        have n2 : ((x.t ++ rest).take 2 == [46, 42]) = false := beq_eq_false_iff_ne.mpr fun q => by
          rw [ht] at q
          have q0 := List.head_eq_of_cons_eq q
          rw [k4 q0] at q
          cases rest with
          | nil => exact nomatch q
          | cons a r => exact hh (by rw [show a = 42 by simpa using (List.cons.inj q).2]; rfl)
        have st2 : (st == 2) = false := beq_eq_false_iff_ne.mpr fun q => by
          rcases h3 with h3 | ⟨h3, _⟩ | ⟨_, h3, _⟩ | ⟨h3, _⟩
          · lia
          · lia
          · exact nomatch h3
          · lia
        refine Js.cons (J1.ite (Jt.mono (K := fun c => c = false) (Wt.ok (n := 30) (we := We _ _ _ 30) (fun _ _ => We.ok) ?_) fun b e => ⟨fun q => noT (e.symm.trans q), fun _ => ?_⟩))
        · conv => whnf
          refine ⟨show 2 ≤ 100000 by decide, ?_⟩
          conv => whnf
          refine ⟨fun _ => rfl, fun _ => ?_⟩
          conv => whnf
          rw [e6]
          exact ⟨fun _ => rfl, fun q => noT (n6.symm.trans q)⟩
        refine Js.cons (J1.ite (Jt.mono (K := fun c => c = false) (Wt.ok (n := 30) (we := We _ _ _ 30) (fun _ _ => We.ok) ?_) fun b e => ⟨fun q => noT (e.symm.trans q), fun _ => ?_⟩))
        · conv => whnf
          refine ⟨show 2 ≤ 100000 by decide, ?_⟩
          conv => whnf
          refine ⟨fun _ => rfl, fun _ => ?_⟩
          conv => whnf
          rw [e2]
          exact ⟨fun _ => rfl, fun q => noT (n2.symm.trans q)⟩
        refine Js.cons (J1.ite (Jt.mono (K := fun c => c = false) (Wt.ok (n := 30) (we := We _ _ _ 30) (fun _ _ => We.ok) ?_) fun b e => ⟨fun q => noT (e.symm.trans q), fun _ => ?_⟩))
        · conv => whnf
          refine ⟨fun _ => rfl, fun _ => ?_⟩
          conv => whnf
          rw [ex c0 (by rw [ht]; rfl)]
          conv => whnf
          exact ⟨fun _ => rfl, fun q => absurd (List.head_eq_of_cons_eq (eq_of_beq q)) k2⟩
        refine Ws.ok (m := 30) (n := 30) ?_
        conv => whnf
        refine ⟨J1.tup2 (k := 5) (k' := 6) rfl rfl (by decide) (by rfl) (by first | exact Or.inl rfl | exact Or.inr rfl) (We.ok (n := 30) ?_)⟩
        conv => whnf
        have hit := item_ok g hi pre x.t rest x.r (h5 x (.head _)) (by rw [List.append_assoc, ← h2]; exact hl)
        rw [List.append_assoc, ← h2] at hit
        refine ⟨0, _, Nat.zero_lt_one, hit, _, _, rfl, ?_⟩
        conv => whnf
        refine ⟨noT, fun _ => ?_⟩
        conv => whnf
        refine ⟨fun q => noT (st2.symm.trans q), fun _ => ⟨noT, fun _ => ?_⟩⟩
        conv => whnf
        obtain ⟨as, g1, g2, g3, g4, g5, g6⟩ := id h1
        refine ⟨J1.append rfl rfl rfl rfl (We.ok (n := 30) ?_)⟩
        conv => whnf
        refine onSome.of (dIdx_own (d := .own c) g1 (at_last (by rw [List.map_append]; simp))) ?_
        conv => whnf
        refine ⟨c, _, rfl, g3, We.ok (n := 30) ?_⟩
        conv => whnf
        refine ⟨by rw [List.length_map]; show cur.length < 100000; lia, ?_⟩
        conv => whnf
        have hx1 : 1 ≤ x.t.length := by rw [ht]; exact Nat.succ_le_succ (Nat.zero_le _)
        have hconf : Conf st p ss' := by
          rcases h3 with h3 | ⟨h3, q⟩ | ⟨_, h3, _⟩ | ⟨h3, q⟩
          · exact .inl h3
          · exact .inr (.inl ⟨h3, q⟩)
          · exact nomatch h3
          · exact .inr (.inr (.inr ⟨h3, q⟩))
        refine Js.nil (Js.nil (Js.nil ⟨(remT st p ss').length, ?_, RdI.mk st p ss' A (cur ++ [x.r]) c (pre ++ x.t) (some (.int (x.t.length : Nat))) (some x.r.d) (ω.upd c (cur.map Rx.d ++ [x.r.d])) ?_ (h1.push x.r) ?_ hconf ?_ hp5 h6 ?_ ?_⟩))
        · rw [hrem, List.length_append]; lia
        · rw [List.length_append, Int.natCast_add]; rfl
        · rw [h2, hR2, List.append_assoc]
        · rw [← h4]; simp [rowR]
        · rw [List.length_append, List.length_append]; simp only [List.length_cons, List.length_nil]; lia
        · rw [List.length_append]; lia
      | nil =>
        by_cases hs1 : st = 1
        · subst hs1
          refine Ws.ok (m := 30) (n := 30) ?_
          conv => whnf
          refine ⟨show 2 ≤ 100000 by decide, ?_⟩
          conv => whnf
          refine ⟨fun _ => ⟨noT, fun _ => ?_⟩, noT⟩
          conv => whnf
          refine ⟨show 2 ≤ 100000 by decide, ?_⟩
          conv => whnf
          refine ⟨fun _ => ⟨noT, fun _ => ?_⟩, noT⟩
          conv => whnf
          refine ⟨noF, fun _ => ?_⟩
          conv => whnf
          rw [ex 41 rfl]
          conv => whnf
          refine ⟨noF, fun _ => ⟨fun _ => ?_, noF⟩⟩
          conv => whnf
          refine ⟨J1.tup2 (k := 2) (k' := 3) rfl rfl (by decide) (by rfl) (by first | exact Or.inl rfl | exact Or.inr rfl) (We.ok (n := 30) ?_)⟩
          conv => whnf
          have hss : ss' ≠ [] := by
            rcases h3 with h3 | ⟨_, q⟩ | ⟨h3, _⟩ | ⟨h3, _⟩
            · exact absurd h3 (by decide)
            · exact q
            · exact absurd h3 (by decide)
            · exact absurd h3 (by decide)
          refine ⟨show 2 ≤ 100000 by decide, _, _, rfl, ?_⟩
          conv => whnf
          refine ⟨(remT 2 [] ss').length, Nat.lt_succ_self _, RdI.mk 2 [] ss' A cur c (pre ++ [41]) sz it ω ?_ h1 ?_ (.inr (.inr (.inl ⟨rfl, rfl, hss⟩))) h4 h5 h6 ?_ ?_⟩
          · rw [List.length_append, Int.natCast_add]; rfl
          · rw [h2, List.append_assoc]; rfl
          · rw [List.length_append]; lia
          · rw [List.length_append]; lia
        · have hst : st = 0 ∨ st = 2 := by
            rcases h3 with h3 | ⟨h3, _⟩ | ⟨h3, _⟩ | ⟨_, h3⟩
            · exact .inl h3
            · exact absurd h3 hs1
            · exact .inr h3
            · exact absurd (by rw [h3, remT, if_neg hs1]; rfl) hne
          have hin : ([0, 2] : List Int).any (· == st) = true := by rcases hst with rfl | rfl <;> rfl
          have hR1 : remT st [] ss' = tailT (ss'.map (·.map Tk.t)) := by rw [remT, if_neg hs1]; rfl
          rw [hR1] at h2 e6 e2 ex hne
          cases ss' with
          | nil => exact absurd rfl hne
          | cons s r =>
          cases r with
          | nil =>
            refine Ws.ok (m := 30) (n := 30) ?_
            conv => whnf
            refine ⟨show 2 ≤ 100000 by decide, ?_⟩
            conv => whnf
            refine ⟨fun q => noF (hin.symm.trans q), fun _ => ?_⟩
            conv => whnf
            rw [e6]
            refine ⟨fun _ => ⟨noT, fun _ => ?_⟩, noT⟩
            conv => whnf
            refine ⟨show 2 ≤ 100000 by decide, ?_⟩
            conv => whnf
            refine ⟨fun q => noF (hin.symm.trans q), fun _ => ?_⟩
            conv => whnf
            rw [e2]
            refine ⟨noF, fun _ => ⟨fun _ => ?_, noF⟩⟩
            conv => whnf
            obtain ⟨as, g1, g2, g3, g4, g5, g6⟩ := id h1
            have hal : as.length = A.length := by have := congrArg List.length g2; simpa using this
            refine ⟨J1.appnew rfl rfl rfl (We.ok (n := 30) ⟨R, _, rfl, g1, ?_, fun r hr => ?_⟩)⟩
            · rw [List.length_map, List.length_append]; show as.length + 1 < 100000; lia
            conv => whnf
            refine ⟨J1.tup2 (k := 2) (k' := 3) rfl rfl (by decide) (by rfl) (by first | exact Or.inl rfl | exact Or.inr rfl) (We.ok (n := 30) ?_)⟩
            conv => whnf
            refine ⟨show 2 ≤ 100000 by decide, _, _, rfl, ?_⟩
            conv => whnf
            have hp : pre.length + 2 = (pre ++ [46, 42]).length := by rw [List.length_append]; rfl
            refine ⟨(remT 3 s []).length, ?_, RdI.mk 3 s [] (A ++ [cur]) [] r (pre ++ [46, 42]) sz it (Own.upd ((r, []) :: ω) R ((as ++ [c]).map D.own ++ [.own r])) ?_ (h1.new hr g1) ?_ (.inr (.inr (.inr ⟨rfl, rfl⟩))) ?_ (h6 s (.head _)) (fun z m => h6 z (.tail _ m)) (Nat.zero_le _) ?_⟩
            · rw [hR1, remT, if_neg (by decide)]; show (catT s ++ ([] ++ [])).length < ([46, 42] ++ catT s).length; simp only [List.length_append, List.length_cons, List.length_nil]; lia
            · rw [← hp, Int.natCast_add]; rfl
            · rw [h2, remT]; simp [tailT]
            · rw [← h4]; simp [rowR]
            · rw [← hp, List.length_append]; simp only [List.length_cons, List.length_nil]; lia
          | cons x y =>
            refine Ws.ok (m := 30) (n := 30) ?_
            conv => whnf
            refine ⟨show 2 ≤ 100000 by decide, ?_⟩
            conv => whnf
            refine ⟨fun q => noF (hin.symm.trans q), fun _ => ?_⟩
            conv => whnf
            rw [e6]
            refine ⟨noF, fun _ => ⟨fun _ => ?_, noF⟩⟩
            conv => whnf
            obtain ⟨as, g1, g2, g3, g4, g5, g6⟩ := id h1
            have hal : as.length = A.length := by have := congrArg List.length g2; simpa using this
            refine ⟨J1.appnew rfl rfl rfl (We.ok (n := 30) ⟨R, _, rfl, g1, ?_, fun r hr => ?_⟩)⟩
            · rw [List.length_map, List.length_append]; show as.length + 1 < 100000; lia
            conv => whnf
            refine ⟨J1.tup2 (k := 2) (k' := 3) rfl rfl (by decide) (by rfl) (by first | exact Or.inl rfl | exact Or.inr rfl) (We.ok (n := 30) ?_)⟩
            conv => whnf
            refine ⟨show 2 ≤ 100000 by decide, _, _, rfl, ?_⟩
            conv => whnf
            have hp : pre.length + 6 = (pre ++ [40, 63, 62, 46, 42, 63]).length := by rw [List.length_append]; rfl
            refine ⟨(remT 1 s (x :: y)).length, ?_, RdI.mk 1 s (x :: y) (A ++ [cur]) [] r (pre ++ [40, 63, 62, 46, 42, 63]) sz it (Own.upd ((r, []) :: ω) R ((as ++ [c]).map D.own ++ [.own r])) ?_ (h1.new hr g1) ?_ (.inr (.inl ⟨rfl, by simp⟩)) ?_ (h6 s (.head _)) (fun z m => h6 z (.tail _ m)) (Nat.zero_le _) ?_⟩
            · rw [hR1, remT, if_pos rfl]; show (catT s ++ ([41] ++ tailT _)).length < ([40, 63, 62, 46, 42, 63] ++ catT s ++ [41] ++ tailT ((x :: y).map (fun z : List Tk => z.map Tk.t))).length; simp only [List.length_append, List.length_cons, List.length_nil]; lia
            · rw [← hp, Int.natCast_add]; rfl
            · rw [h2, remT]; simp [tailT]
            · rw [← h4]; simp [rowR]
            · rw [← hp, List.length_append]; simp only [List.length_cons, List.length_nil]; lia
    · have h7 : ¬ (pre.length : Int) < (text.length : Int) - 3 := of_decide_eq_false h7
      obtain ⟨q1, rfl, rfl⟩ := rem_nil h5 h3 (List.eq_nil_of_length_eq_zero (by lia))
      exact ⟨st, A, cur, c, _, sz, it, ω, rfl, h1, q1, by rw [← h4]; simp [rowR]⟩
  · rintro σ₁ ⟨st, A, cur, c, a, sz, it, ω, rfl, h1, h2, h3⟩
    refine ⟨Ws.ok (m := 30) (n := 1) ?_⟩
    conv => whnf
    have hst : ([1, 2] : List Int).any (· == st) = false := by rcases h2 with rfl | rfl <;> rfl
    refine ⟨show 2 ≤ 100000 by decide, ?_⟩
    conv => whnf
    refine ⟨fun q => noF (q.symm.trans hst), fun _ => ⟨Js.nil ⟨Js.cons (J1.retown 2 (We.ok (n := 30) ?_))⟩⟩⟩
    conv => whnf
    rw [h1.out, h3]
end Mine
end

section
open PySem PySem.W PyProof.Rows
set_option maxRecDepth 100000
namespace Mine
theorem parts_refl (a : Nat) (ps : List Pt) : parts (ps.map (PtD a)) (ps.map (PtD a)) = true := by
  induction ps with
  | nil => rfl
  | cons p r ih =>
    rw [List.map_cons, parts, ih, Bool.and_true]
    cases p with
    | none => exact beq_self_eq_true a
    | some x => exact beq_self_eq_true x
noncomputable abbrev amNames : List (Str × NameKind) := [("got", .local), ("rest", .local), ("rows", .local), ("_law_strip", .globalImplicit), ("_translate", .globalImplicit), ("_law_pattern", .globalImplicit), ("_law_read", .globalImplicit), ("_join_translated_parts", .globalImplicit), ("_law_takes", .globalImplicit)]
theorem amount_none (g : Gb) (hat : FnAt g (fnGet 24)) (ps : List D) (name : List Nat) (a : Nat) (fits : Bool) (am : Int) (h1 : Ct g 1 (fnGet 22).name [.lst ps, .int am] (some .none)) (h2 : Ct g 1 (fnGet 22).name [.str name, .int am] (some .none)) :
    Ct g 3 (fnGet 24).name [.lst ps, .str name, .box a, .none, .bool fits, .int am] (some (.bool true)) := by
  refine Ct.plain ["parts", "name", "star", "left", "fits", "amount"] amNames hat rfl rfl (by decide) (fun pm c doc vs h => ?_) (by decide) (by decide) rfl rfl rfl (fun L ad cd A' s l Zc hP => ?_)
  · obtain ⟨_, _, _, _, _, _, rfl⟩ := vs6 h
    rfl
  conv => arg 4; whnf
  refine Ws.ok (m := 30) (n := 30) ?_
  conv => whnf
  refine ⟨1, _, show 1 < 3 by decide, h1, ?_⟩
  conv => whnf
  refine ⟨1, _, show 1 < 3 by decide, h2, ?_⟩
  conv => whnf
  refine ⟨fun _ => ⟨fun _ => ?_, noF⟩, noF⟩
  conv => whnf
  refine ⟨Je.and (We.ok (n := 30) ?_)⟩
  conv => whnf
  refine ⟨_, rfl, noF, fun _ => Je.and (We.ok (n := 30) ?_)⟩
  conv => whnf
  refine ⟨_, rfl, noF, fun _ => Je.one (We.ok (n := 30) ?_)⟩
  conv => whnf
theorem amount_some (g : Gb) (hat : FnAt g (fnGet 24)) (ps : List D) (name : List Nat) (a : Nat) (its : List D) (am : Int) (got : List Pt) (rest pat tx : List Nat) (rows : List D) (b : Bool) (h1 : Ct g 1 (fnGet 22).name [.lst ps, .int am] (some (.lst (got.map (PtD a))))) (h2 : Ct g 1 (fnGet 22).name [.str name, .int am] (some (.str rest)))
    (h3 : Ct g 0 (fnGet 21).name [.lst its] (some (.str pat))) (h4 : Ct g 2 (fnGet 8).name [.str pat, .box a, .str [32]] (some (.lst (got.map (PtD a))))) (h5 : Ct g 0 (fnGet 9).name [.lst (got.map (PtD a)), .box a] (some (.str tx))) (h6 : Ct g 1 (fnGet 18).name [.str tx] (some (.lst rows)))
    (h7 : Ct g 1 (fnGet 20).name [.lst rows, .str rest] (some (.bool b))) :
    Ct g 3 (fnGet 24).name [.lst ps, .str name, .box a, .lst its, .bool b, .int am] (some (.bool true)) := by
  refine Ct.plain ["parts", "name", "star", "left", "fits", "amount"] amNames hat rfl rfl (by decide) (fun pm c doc vs h => ?_) (by decide) (by decide) rfl rfl rfl (fun L ad cd A' s l Zc hP => ?_)
  · obtain ⟨_, _, _, _, _, _, rfl⟩ := vs6 h
    rfl
  conv => arg 4; whnf
  refine Ws.ok (m := 30) (n := 30) ?_
  conv => whnf
  refine ⟨1, _, show 1 < 3 by decide, h1, ?_⟩
  conv => whnf
  refine ⟨1, _, show 1 < 3 by decide, h2, ?_⟩
  conv => whnf
  refine ⟨noT, fun _ => ?_⟩
  conv => whnf
  refine ⟨noT, fun _ => ?_⟩
  conv => whnf
  refine ⟨noT, fun _ => ⟨noT, fun _ => ?_⟩⟩
  conv => whnf
  refine ⟨0, _, show 0 < 3 by decide, h3, ?_⟩
  conv => whnf
  refine ⟨2, _, show 2 < 3 by decide, h4, ?_⟩
  refine onSome.of (c := false) (show cne (.lst (got.map (PtD a))) (.lst (got.map (PtD a))) = some false by rw [cne, parts_refl, if_pos rfl]) ?_
  refine ⟨noT, fun _ => ?_⟩
  conv => whnf
  refine ⟨0, _, show 0 < 3 by decide, h5, ?_⟩
  conv => whnf
  refine ⟨1, _, show 1 < 3 by decide, h6, ?_⟩
  conv => whnf
  refine ⟨Je.and (We.ok (n := 30) ?_)⟩
  conv => whnf
  refine ⟨_, rfl, noF, fun _ => Je.one (We.ok (n := 30) ?_)⟩
  conv => whnf
  refine ⟨1, _, show 1 < 3 by decide, h7, ?_⟩
  conv => whnf
  exact congrArg (fun x => some (D.bool x)) (beq_self_eq_true b).symm
end Mine
end

section
open PySem PySem.W PyProof.Rows
set_option maxRecDepth 100000
namespace Mine
section
variable {F : Fx} {X : Prop} {σ : Ms} {K : Po}
/-- x = [e]: a list that is kept as a thing -/
theorem J1.box {x : Str} {p q pos : Pos} {e : PExpr} {k : Nat} (hx : F.nm x = some (k, .local)) (he : plainArg e = true) (h : Je F False σ e fun _ => ∀ a, K.n ⟨σ.loc.set k (some (.box a)), σ.own⟩) : J1 F X σ (.Assign [.Name x p] (.List [e] q) pos) K := fun s Q E S qn qb qr xx => by
  refine wpAny_Assign_Name (wpAny_List (args_cons (h s _ E S (fun d v s₁ kk r g => args_nil ⟨?_, ?_⟩) (fun f => f.elim)) (plainArg.each he _))) (by rfl)
  · rw [sizeLine_eq]; show 1 ≤ 16777216; decide
  have S₁ := S.step g
  have gp := Ge.push s₁ { cls := .type "list", data := .seq [v].toArray } s₁.toks
  refine (S₁.step gp.fx).store (d := .box s₁.heap.objs.size) hx ⟨rfl, S₁.zok.new, [v], _, Heap.get?_push_size _ rfl⟩ fun s' S' => qn _ s' (kk _) S'
end
theorem repN1 (c n : Nat) : repN [c] n = List.replicate n c := by
  induction n with
  | zero => rfl
  | succ n ih => rw [repN, ih]; rfl
theorem law_walk (g : Gb) (hat : FnAt g (fnGet 25)) (script : List D) (ns : List D) (n0 : Nat) (row core : List D) (A B : Nat) (w : List Nat) (fitsb : Bool) (ps : List Pt) (pat : List Nat) (lf : Int → D)
    (h1 : Ct g 0 (fnGet 11).name [.lst script] (some (.lst (.int n0 :: ns)))) (h2 : Ct g 1 (fnGet 13).name [.lst (.int n0 :: ns)] (some (.lst row))) (h3 : Ct g 0 (fnGet 14).name [.lst row] (some (.int A)))
    (h3' : Ct g 0 (fnGet 14).name [.lst (row.drop A).reverse] (some (.int B))) (hc : cutL (some (A : Int)) (some ((row.length : Int) - B)) row = core) (h4 : Ct g 0 (fnGet 15).name [.lst core, .lst (.int n0 :: ns)] (some (.str w)))
    (hA : A ≤ 1000) (hB : B ≤ 1000) (hw : w.length ≤ 10000) (h5 : Ct g 0 (fnGet 16).name [.lst core, .str w] (some (.bool fitsb))) (h6 : Ct g 0 (fnGet 21).name [.lst row] (some (.str pat)))
    (h7 : ∀ a, Ct g 2 (fnGet 8).name [.str pat, .box a, .str [32]] (some (.lst (ps.map (PtD a))))) (h8 : ∀ am, Ct g 0 (fnGet 23).name [.int A, .lst core, .int B, .lst row, .int am] (some (lf am)))
    (h9 : ∀ a am, am = -1 ∨ am = ((n0 % 3 : Nat) : Int) ∨ am = A + 1 ∨ am = A + B + 1 → Ct g 3 (fnGet 24).name [.lst (ps.map (PtD a)), .str (repN [32] A ++ w ++ repN [32] B), .box a, lf am, .bool fitsb, .int am] (some (.bool true))) :
    Ct g 4 (fnGet 25).name [.lst script] (some (.bool true)) := by
  refine Ct.plain ["script"] [("numbers", .local), ("row", .local), ("ahead", .local), ("behind", .local), ("core", .local), ("between", .local), ("name", .local), ("fits", .local), ("star", .local), ("parts", .local), ("amount", .local), ("left", .local), ("_law_numbers", .globalImplicit), ("_law_row", .globalImplicit), ("_law_ahead", .globalImplicit), ("len", .globalImplicit), ("_law_between", .globalImplicit), ("_law_means", .globalImplicit), ("_translate", .globalImplicit), ("_law_pattern", .globalImplicit), ("_law_left", .globalImplicit), ("_law_amount", .globalImplicit)] hat rfl rfl (by decide) (fun pm c doc vs h => ?_) (by decide) (by decide) rfl rfl rfl (fun L ad cd A' s l Zc hP => ?_)
  · obtain ⟨_, rfl⟩ := vs1 h
    rfl
  subst hc
  conv => arg 4; whnf
  refine Ws.ok (m := 30) (n := 8) ?_
  conv => whnf
  refine ⟨0, _, show 0 < 4 by decide, h1, ?_⟩
  conv => whnf
  refine ⟨1, _, show 1 < 4 by decide, h2, ?_⟩
  conv => whnf
  refine ⟨0, _, show 0 < 4 by decide, h3, ?_⟩
  conv => whnf
  refine ⟨0, .int B, show 0 < 4 by decide, ?_, ?_⟩
  · rw [show cutL (some (A : Int)) none row = row.drop A from cutL_drop A row]
    exact h3'
  conv => whnf
  refine ⟨0, _, show 0 < 4 by decide, h4, ?_⟩
  conv => whnf
  have mA : ∀ n : Nat, n ≤ 1000 → ((Str.ofString " ").cps.toList.length = 1 ∧ 0 ≤ (n : Int) ∧ (n : Int) ≤ 1000) := fun n h => ⟨rfl, by lia, by lia⟩
  refine ⟨mA A hA, ?_⟩
  conv => whnf
  refine ⟨?_, ?_⟩
  · show (repN [32] A).length + w.length ≤ 100000
    rw [repN_len]; show A * 1 + _ ≤ _; lia
  conv => whnf
  refine ⟨mA B hB, ?_⟩
  conv => whnf
  refine ⟨?_, ?_⟩
  · show (repN [32] A ++ w).length + (repN [32] B).length ≤ 100000
    rw [List.length_append, repN_len, repN_len]; show A * 1 + _ + B * 1 ≤ _; lia
  conv => whnf
  refine ⟨0, _, show 0 < 4 by decide, h5, ?_⟩
  conv => whnf
  refine ⟨Js.cons (J1.box (k := 9) rfl rfl (We.ok (n := 30) fun a => Ws.ok (m := 30) (n := 30) ?_))⟩
  conv => whnf
  refine ⟨0, _, show 0 < 4 by decide, h6, ?_⟩
  conv => whnf
  refine ⟨2, _, show 2 < 4 by decide, h7 a, ?_⟩
  conv => whnf
  have e1 : (seqIndex? 0 (D.int n0 :: ns).length).bind (fun x => (D.int n0 :: ns)[x]?) = some (D.int n0) := at_nat (k := 0) rfl
  refine ⟨J1.forl (k := 11) (by simp) rfl (by intro _; rfl) (We.ok (n := 30) ?_)⟩
  conv => whnf
  rw [e1]
  conv => whnf
  refine ⟨show (3 : Int) ≠ 0 by decide, ?_⟩
  conv => whnf
  refine ⟨show 4 ≤ 100000 by decide, _, rfl, fun i σ => ∃ x, σ = ⟨[some (.lst script), some (.lst (.int n0 :: ns)), some (.lst row), some (.int A), some (.int B), some (.lst (cutL (some (A : Int)) (some ((row.length : Int) - B)) row)), some (.str w), some (.str (repN [32] A ++ w ++ repN [32] B)), some (.bool fitsb), some (.box a), some (.lst (ps.map (PtD a))), x.1, x.2, none, none, none, none, none, none, none, none, none, none], []⟩, ⟨(none, none), rfl⟩, ?_, ?_⟩
  · rintro i d σ₁ hi ⟨⟨x1, x2⟩, rfl⟩ it o v
    have hd : ∃ am, d = .int am ∧ (am = -1 ∨ am = ((n0 % 3 : Nat) : Int) ∨ am = A + 1 ∨ am = A + B + 1) := by
      have hm := List.mem_of_getElem? hi
      have e3 : (iMod (n0 : Int) 3).snd = ((n0 % 3 : Nat) : Int) := by
        show (n0 : Int).fmod 3 = _
        rw [Int.fmod_eq_emod_of_nonneg _ (by decide)]; rfl
      rw [e3] at hm
      simp only [List.mem_cons, List.not_mem_nil, or_false] at hm
      rcases hm with rfl | rfl | rfl | rfl
      · exact ⟨_, rfl, .inl rfl⟩
      · exact ⟨_, rfl, .inr (.inl rfl)⟩
      · exact ⟨_, rfl, .inr (.inr (.inl rfl))⟩
      · exact ⟨_, rfl, .inr (.inr (.inr rfl))⟩
    obtain ⟨am, rfl, ham⟩ := hd
    refine Ws.ok (m := 30) (n := 30) ?_
    conv => whnf
    refine ⟨0, _, show 0 < 4 by decide, h8 am, ?_⟩
    conv => whnf
    refine ⟨3, _, show 3 < 4 by decide, h9 a am ham, ?_⟩
    conv => whnf
    refine ⟨noT, fun _ => ?_⟩
    conv => whnf
    exact ⟨(some (.int am), some (lf am)), rfl⟩
  · rintro σ₁ ⟨x, rfl⟩
    conv => whnf
end Mine
end

section
open PySem PySem.W PyProof.Rows
set_option genSizeOf false
set_option genInjectivity false
namespace Mine
/-- the frame of a call whose names have cells -/
noncomputable def mkC (g : Gb) (fn : Fn) (L a : Addr) (cd : Value) (A : Around) (s : Shared) (l : List Env) (Zc : Addr → Prop) (lv : Nat) : Fx :=
  { g := g, env := envOfC fn.name fn.scope L a cd, A := A.deeper (envOfC fn.name fn.scope L a cd), s₀ := s, stack := envOfC fn.name fn.scope L a cd :: l, lv := lv, Zc := Zc, names := fn.scope.names, prot := [], gh := [] }
/-- the cells of the frame are its own -/
noncomputable def CellsFresh (F : Fx) : Prop := (∀ x c, (x, c) ∈ F.env.cells → F.s₀.heap.get? c = none) ∧ F.env.cells.Pairwise fun x y => x.2 ≠ y.2
theorem Ct.cells {g : Gb} {fn : Fn} {lv : Nat} {d1 d2 : D} {r : Option D} (x1 x2 : Str) (rest : List (Str × NameKind)) (hat : FnAt g fn) (hN : fn.scope.names = (x1, .local) :: (x2, .cell) :: rest) (hx : x1 ≠ x2)
    (hb : ∀ pm c doc v1 v2, bindArgs (PySem.Calls.docDef fn.name fn.params fn.body fn.scope pm (.ref c) doc) ⟨[v1, v2], []⟩ = pure [(x1, v1), (x2, v2)])
    (hco : fn.scope.isCoroutine = false) (hgen : fn.scope.isGenerator = false) (hk : fn.scope.kind = .function) (hc2 : ∀ n, ((cellsFrom n fn.scope.names []).lookup x2).isSome = true) (hnd : ∀ m n b, (n, b) ∈ cellsFrom m fn.scope.names [] → (cellsFrom m fn.scope.names []).lookup n = some b)
    (h : ∀ L a cd A s l Zc, s.heap.get? g.P ≠ none → CellsFresh (mkC g fn L a cd A s l Zc lv) → Js (mkC g fn L a cd A s l Zc lv) (r = none) ⟨some d1 :: some d2 :: rest.map (fun _ => none), []⟩ fn.body ⟨fun _ => False, fun _ => False, fun _ d => r = some d⟩) : Ct g lv fn.name [d1, d2] r := by
  intro l Zc A s vs a Q E ha C al q x
  obtain ⟨a', pm, c, doc, o, h1, h2, h3, h4, h5, h6⟩ := hat
  rw [h1] at ha; cases ha
  obtain ⟨v1, us, rfl, r1, ⟨v2, us2, rfl, r2, e⟩⟩ := al
  cases e
  have lk1 : fn.scope.names.lookup x1 = some .local := by rw [hN, List.lookup_cons, beq_self_eq_true]
  have lk2 : fn.scope.names.lookup x2 = some .cell := by rw [hN, List.lookup_cons, beq_eq_false_iff_ne.mpr (Ne.symm hx), List.lookup_cons, beq_self_eq_true]
  obtain ⟨cc, oc, vc, tc, e1, e2, e3, e4⟩ := h4
  have lnew : s.heap.get? s.heap.objs.size = none := new_at
  refine wpAny_call (codeAny_call_cells (by have := C.dp; show A.depth < 1000; lia) (C.base _ _ h5 h2) h3 (C.gl.nolim C.base) ⟨cc, oc, vc, tc, e1, C.base _ _ (by cases e1; exact h6) e2, e3, e4⟩ rfl (hb _ _ _ _ _) rfl
    (fun y hy => ?_) (fun s₁ I => ?_) hco hgen hk)
  · rcases List.mem_cons.mp hy with rfl | hy
    · exact .inl lk1
    · cases List.mem_singleton.mp hy
      exact .inr ⟨lk2, hc2 _⟩
  obtain ⟨I0, Ic, Ia, Ib⟩ := id I
  obtain ⟨⟨h₁, tk, rfl⟩, In, Ik, If⟩ := I0
  have ge : Ge s { s with heap := h₁, toks := tk } := ⟨Ik, rfl, rfl⟩
  obtain ⟨oL, esL, epL, k1, k2, k3⟩ := id In
  have hLP : s.heap.objs.size ≠ g.P := fun e => by
    obtain ⟨_, t, _⟩ := C.tab
    rw [← e, lnew] at t; exact no t
  have cnew : ∀ n c, (n, c) ∈ cellsFrom (s.heap.objs.size + 1) fn.scope.names [] → s.heap.get? c = none := fun n c m => new_le (Nat.le_of_lt (Ib n c m))
  have hZ : ∀ b o, s.heap.get? b = some o → (mkC g fn s.heap.objs.size a (.ref c) A s l Zc lv).Z [] b → Zc b := fun b ob w3 w4 => by
    have hL : b ≠ s.heap.objs.size := fun e => by rw [e, lnew] at w3; exact no w3
    rcases w4 with (w4 | w4) | w4 | ⟨n, w4⟩ | ⟨_, w4⟩
    · exact w4
    · rcases w4 with w4 | ⟨e, m, f⟩
      · exact C.vz b (.inl w4)
      · rcases List.mem_cons.mp m with rfl | m
        · exact absurd (Option.some.inj f).symm hL
        · exact C.vz b (.inr ⟨e, m, f⟩)
    · exact absurd w4 hL
    · have := cnew n b w4; rw [w3] at this; exact nomatch this
    · exact no w4
  have st : St (mkC g fn s.heap.objs.size a (.ref c) A s l Zc lv) ⟨some d1 :: some d2 :: rest.map (fun _ => none), []⟩ { s with heap := h₁, toks := tk } := by
    refine ⟨⟨hk, rfl, rfl, C.hh, ?_, ?_, ?_, hLP, lnew, rfl, C.base, C.gl⟩, ge.gw, fun b o n e => Ik _ _ (C.base b o n e), ?_, C.bare, C.os, ⟨_, In, fun y k kd d z1 z2 => ?_⟩, fun y c e => ?_, (fun a ds e => nomatch e), (fun a ds e => nomatch e), ?_, ?_, ?_, (fun _ m => nomatch m), fun _ m => nomatch m⟩
    · have := C.dp
      show A.depth + 1 + 40 * lv + 40 ≤ 900
      lia
    · have := C.un
      show A.units + 3 + 400 * lv + 400 ≤ 9000
      lia
    · show A.frames.map _ = _
      rw [C.fr]; rfl
    · obtain ⟨tp, t1, t2⟩ := C.tab
      exact ⟨tp, Ik _ _ t1, t2⟩
    · have z1 : nmGo fn.scope.names y 0 = some (0 + k, kd) := by rw [Nat.zero_add]; exact z1
      have z3 := nmGo_at z1
      have z2 : (some d1 :: some d2 :: rest.map (fun _ => (none : Option D)))[k]? = some (some d) := z2
      rw [hN] at z3
      have zz : ∀ ns : Str → Option NameKind, ns x1 = some .local → ns x2 = some .cell → bindL ns [(x1, v1), (x2, v2)] (fun _ => none) x1 = some v1 ∧ bindC ns [(x1, v1), (x2, v2)] (fun _ => none) x2 = some v2 := fun ns q1 q2 => by
        simp [bindL, bindC, q1, q2]
      match k, z2, z3 with
      | 0, z2, z3 =>
        cases z2; cases z3
        exact ⟨v1, (zz _ lk1 lk2).1, ge.vr (Vr.more hZ d1 r1)⟩
      | 1, z2, z3 =>
        cases z2; cases z3
        obtain ⟨c2, hc2⟩ := Option.isSome_iff_exists.mp (hc2 (s.heap.objs.size + 1))
        have ic := Ic _ c2 hc2
        exact ⟨v2, ⟨c2, hc2, by rw [← (zz (callEnvC (PySem.Calls.docDef fn.name fn.params fn.body fn.scope pm (.ref c) doc) s.heap.objs.size a).kindOf lk1 lk2).2]; exact ic⟩, ge.vr (Vr.more hZ d2 r2)⟩
      | k + 2, z2, z3 =>
        have z2 : (rest.map (fun _ => (none : Option D)))[k]? = some (some d) := z2
        rw [List.getElem?_map, Option.map_eq_some_iff] at z2
        obtain ⟨_, _, z9⟩ := z2
        exact nomatch z9
    · have m := mem_of_lookup e
      refine ⟨fun q => ?_, fun q => ?_, _, Ic y c e⟩
      · obtain ⟨_, t, _⟩ := C.tab
        have := cnew y c m
        exact nomatch (t.symm.trans ((congrArg _ q).symm.trans this))
      · have := Ib y c m
        rw [q] at this; exact Nat.lt_irrefl _ this
    · intro b w
      by_cases hL : b = s.heap.objs.size
      · exact ⟨oL, by rw [hL]; exact k1⟩
      · rcases w with (w4 | w4) | w4 | ⟨n, w4⟩ | ⟨_, w4⟩
        · obtain ⟨ob, w5⟩ := C.zc b w4
          exact ⟨ob, Ik _ _ w5⟩
        · rcases w4 with w4 | ⟨e, m, f⟩
          · obtain ⟨ob, w5⟩ := C.zc b (C.vz b (.inl w4))
            exact ⟨ob, Ik _ _ w5⟩
          · rcases List.mem_cons.mp m with rfl | m
            · exact absurd (Option.some.inj f).symm hL
            · obtain ⟨ob, w5⟩ := C.zc b (C.vz b (.inr ⟨e, m, f⟩))
              exact ⟨ob, Ik _ _ w5⟩
        · exact absurd w4 hL
        · obtain ⟨oc, w5, _⟩ := Ic n b (hnd _ n b w4)
          exact ⟨oc, w5⟩
        · exact no w4
    · intro b w
      rcases w with w | ⟨e, m, f⟩
      · exact .inl w
      · rcases List.mem_cons.mp m with rfl | m
        · have := Option.some.inj f
          refine .inr ?_
          cases z : g.hB.get? b with
          | none => exact z
          | some ob =>
            by_cases hb : b = g.P
            · exact absurd ((show s.heap.objs.size = b from this).trans hb) hLP
            · have := C.base b ob hb z
              rw [← show s.heap.objs.size = b from Option.some.inj f, lnew] at this
              exact no this
        · exact C.base0 b (.inr ⟨e, m, f⟩)
    · intro e m
      rcases List.mem_cons.mp m with rfl | m
      · exact ⟨by show fn.scope.kind ≠ .module; rw [hk]; decide, _, oL, rfl, hLP, k1, fun vs q => by rw [k2] at q; exact nomatch q⟩
      · exact (C.frs e m).gw (V := vol g l) ge.gw
  refine h s.heap.objs.size a (.ref c) A s l Zc (fun e => by obtain ⟨_, t, _⟩ := C.tab; rw [e] at t; exact no t) ⟨cnew, Ia⟩ _ _ _ st (fun _ _ f => f.elim) (fun _ _ f => f.elim) (fun σ' d v s' k r S' => ?_) (fun xr e s' R => ?_)
  · exact q d v s' k (Vr.more (fun b o _ z => .inl (.inl z)) d r) (S'.gw.newer rfl lnew)
  · exact leave_rz rfl rfl C.tab R fun s'' z => x xr e s'' z
end Mine
end

section
open PySem PySem.W PyProof.Rows
set_option genSizeOf false
set_option genInjectivity false
namespace Mine
section
variable {F : Fx} {X : Prop} {σ : Ms} {K : Po}
theorem St.putc {s : Shared} (S : St F σ s) (cf : CellsFresh F) {x : Str} {k : Nat} {d : D} {v : Value} {c : Addr} {h' : Heap} {tk : Nat} (hx : F.nm x = some (k, .cell)) (hc : F.env.cells.lookup x = some c) (r : Vr (F.Z σ.own) s.heap d v)
    (ic : h'.IsCell c (some v)) (sb : Heap.SameBut c s.heap h') : St F ⟨σ.loc.set k (some d), σ.own⟩ { s with heap := h', toks := tk } := by
  have m := mem_of_lookup hc
  have cZ : F.Z σ.own c := .inr (.inr (.inl ⟨x, m⟩))
  have kp := F.kpZ (ω := σ.own) sb cZ
  obtain ⟨cP, cL, v₀, ic₀⟩ := S.cells x c hc
  obtain ⟨m₀, n0, f⟩ := S.ns
  refine S.chg sb cZ (cf.1 x c m) cP ?_ ⟨m₀, n0.sameBut sb (Ne.symm cL), fun y k' kd d' h1 h2 => ?_⟩ (fun y c' h => ?_) (fun a ds e => ?_) (fun _ z => z) (fun p mm => Vr.kp kp p.1 (S.gh p mm)) S.ownv
  · obtain ⟨o, h1, h2⟩ := ic
    exact ⟨o, h1, fun vs q => by rw [h2] at q; exact nomatch q⟩
  · by_cases e : k' = k
    · subst e
      have e2 : y = x := by
        cases kd with
        | cell => exact nmGo_inj h1 hx
        | _ => exact nmGo_inj h1 hx
      subst e2
      rw [hx] at h1
      cases h1
      have h2 : (σ.loc.set k' (some d))[k']? = some (some d') := h2
      have h4 : k' < σ.loc.length := by
        have := (List.getElem?_eq_some_iff.mp h2).1
        simpa using this
      rw [List.getElem?_set_self h4] at h2
      cases h2
      exact ⟨v, ⟨c, hc, ic⟩, Vr.kp kp d r⟩
    · have h2 : (σ.loc.set k (some d))[k']? = some (some d') := h2
      rw [List.getElem?_set_ne (fun q => e q.symm)] at h2
      obtain ⟨v', l, r'⟩ := f y k' kd d' h1 h2
      refine ⟨v', ?_, Vr.kp kp d' r'⟩
      cases kd with
      | «local» => exact l
      | cell =>
        obtain ⟨c', h3, h4⟩ := l
        refine ⟨c', h3, h4.sameBut sb fun q => e ?_⟩
        have := name_of_addr cf.2 (mem_of_lookup h3) (q ▸ m)
        subst this
        rw [hx] at h1
        cases h1; rfl
      | _ => exact l.elim
  · obtain ⟨h1, h2, v', h3⟩ := S.cells y c' h
    by_cases q : c' = c
    · subst q; exact ⟨h1, h2, _, ic⟩
    · exact ⟨h1, h2, v', h3.sameBut sb q⟩
  · obtain ⟨z, vs, p, l, nn⟩ := S.own a ds e
    obtain ⟨nn2, pe⟩ := p
    exact ⟨z, vs, ⟨nn2, (sb.2 a (fun q => (S.ownv a ds e).2.2.2 x (q ▸ m))).trans pe⟩, VL.kp kp ds l, nn⟩
/-- a store, local or cell -/
noncomputable def Sto (F : Fx) (x : Str) (k : Nat) : Prop := F.nm x = some (k, .local) ∨ (F.nm x = some (k, .cell) ∧ CellsFresh F ∧ ∃ c, F.env.cells.lookup x = some c)
theorem St.storeG {s : Shared} (S : St F σ s) {x : Str} {k : Nat} {d : D} {v : Value} {ds : List D} {vs : List Value} (hx : Sto F x k) (r : Vr (F.Z σ.own) s.heap d v) (l : VL (F.Z σ.own) s.heap ds vs) {Q : Unit → Shared → Prop} {E : Value → Shared → Prop}
    (q : ∀ s', St F ⟨σ.loc.set k (some d), σ.own⟩ s' → VL (F.Z σ.own) s'.heap ds vs → Q () s') : wpAny F.g.M F.A (storeName F.env x v) Q E s := by
  rcases hx with hx | ⟨hx, cf, c, hc⟩
  · exact S.storeK0 hx r l q
  · obtain ⟨_, _, v₀, ic₀⟩ := S.cells x c hc
    refine wpAny_storeName_cell S.ok.kind (S.kindOf hx) hc ic₀ fun h' ic sb => ?_
    exact q _ (S.putc (tk := s.toks) cf hx hc r ic sb) (VL.kp (F.kpZ (ω := σ.own) sb (.inr (.inr (.inl ⟨x, mem_of_lookup hc⟩)))) ds l)
theorem J1.assigng {x : Str} {p pos : Pos} {e : PExpr} {k : Nat} (hx : Sto F x k) (h : Je F False σ e fun d => K.n ⟨σ.loc.set k (some d), σ.own⟩)
    (hs : swapsWith e (some (.Name x p)) pos.line F.env = pure false) : J1 F X σ (.Assign [.Name x p] e pos) K := fun s Q E S qn qb qr xx => by
  refine wpAny_Assign_Name (h s _ E S (fun d v s₁ kd r g => ?_) (fun f => f.elim)) hs
  exact (S.step g).storeG (ds := []) (vs := []) hx r rfl fun s₂ S₂ _ => qn _ s₂ kd S₂
/-- a loop over a list of tuples of four -/
theorem J1.for4 {Kn Kb : Ms → Prop} {Kr : Ms → D → Prop} {x1 x2 x3 x4 : Str} {p1 p2 p3 p4 tp pos : Pos} {kc : Nat} {iter : PExpr} {body : List Stmt} {k1 k2 k3 k4 : Nat} (hX : ¬ X) (h1 : Sto F x1 k1) (h2 : Sto F x2 k2) (h3 : Sto F x3 k3) (h4 : Sto F x4 k4) (hs : ∀ v, foldedSetIterable iter F.env v = pure v)
    (h : Je F False σ iter fun d => ∃ ds, d = .lst ds ∧ ∃ I : Nat → Ms → Prop, I 0 σ ∧ (∀ i d σ₁, ds[i]? = some d → I i σ₁ → ∃ a b c e, d = .tup [a, b, c, e] ∧ ∀ it o v, Js (F.with it o (.lst ds) v) X ⟨(((σ₁.loc.set k1 (some a)).set k2 (some b)).set k3 (some c)).set k4 (some e), σ₁.own⟩ body ⟨fun σ₃ => I (i + 1) σ₃, Kn, Kr⟩) ∧ ∀ σ₁, I ds.length σ₁ → Kn σ₁) :
    J1 F X σ (.For (.Tuple [.Name x1 p1, .Name x2 p2, .Name x3 p3, .Name x4 p4] kc tp) iter body [] pos) ⟨Kn, Kb, Kr⟩ := fun s Q E S qn qb qr xx => by
  refine wpAny_For (h s _ E S (fun d v s₁ k' r g => ?_) (fun f => f.elim)) hs
  obtain ⟨ds, rfl, I, h0, hI, hE⟩ := k'
  have S₁ := S.step g
  obtain ⟨l, vs, rfl, lz, ln, pl, al⟩ := id r
  refine wpAny_pyIter_list pl.is ?_
  obtain ⟨S₂, n0, np⟩ := S₁.iter (o := { cls := .type "list_iterator", data := .fields #[.ref l, .int 0 0] }) (tk := s₁.toks) r rfl
  generalize hit : s₁.heap.objs.size = it at S₂ n0 np ⊢
  refine codeAny_forLoop_any (fun n s => ∃ i σ' o, i + n = ds.length ∧ I i σ' ∧ o.cls = .type "list_iterator" ∧ o.data = .fields #[.ref l, .int i 0] ∧ St (F.with it o (.lst ds) (.ref l)) σ' s) (fun n s ⟨i, σ', o, e1, hi, oc, od, S'⟩ => ?_) ds.length ⟨0, σ, _, by lia, h0, rfl, rfl, S₂⟩
  have io : Itr o := .cls oc (by decide)
  obtain ⟨l', vs', e2, lz', ln', pl', al'⟩ := S'.gh (.lst ds, .ref l) (.head _)
  cases e2
  have hl := al'.length
  have hio : s.heap.IsListIter it l i := ⟨o, (S'.prot (it, o) (.head _)).1, oc, od⟩
  by_cases hlt : i < ds.length
  · obtain ⟨v, e3, r3⟩ := al'.get (List.getElem?_eq_getElem hlt)
    refine wpAny_pyNext_list_item hio pl'.is (x := v) (by simpa using e3) fun h' hit' sb => ?_
    obtain ⟨o', f1, f2, f3⟩ := id hit'
    have S₃ := S'.iter_on (tk := s.toks) io (fun b x w q => (sb.2 b w).trans q) n0 np f1
    have kpl : Kpl s.heap h' := fun b x c q => (sb.2 b (fun w => by
      have := (S'.prot (it, o) (.head _)).1
      rw [w] at q; rw [show s.heap.get? it = some o from this] at q; cases q; exact io c)).trans q
    obtain ⟨a, b, c, e, hd, hJ⟩ := hI i ds[i] σ' (List.getElem?_eq_getElem hlt) hi
    rw [hd] at r3
    obtain ⟨t, ws, rfl, tz, _, ⟨nn, pt⟩, tl⟩ := Vr.kpl kpl _ r3
    have hsz : ws.length = 4 := tl.length
    refine wpAny_letOwnedTupleGo_listiter hit' ?_
    refine assign_Tuple_tuple S'.ok.hh ⟨_, pt, rfl, nn, rfl⟩ (by rw [List.size_toArray, hsz]; rfl) (by rfl) fun h'' ex => ?_
    have ge := ext_ge (s := { s with heap := h' }) ex
    have S₄ := S₃.step ge.fx
    have L := ge.vl tl
    obtain ⟨va, us, rfl, ra, ⟨vb, us, rfl, rb, ⟨vc, us, rfl, rc, ⟨vd, us, rfl, rd, e9⟩⟩⟩⟩ := id L
    cases e9
    have L : VL _ _ [b, c, e] [vb, vc, vd] := ⟨vb, _, rfl, rb, vc, _, rfl, rc, vd, _, rfl, rd, rfl⟩
    show wpAny F.g.M F.A (do holding [vb, vc, vd] (PySem.assign (.Name x1 p1) F.env va); do holding [vc, vd] (PySem.assign (.Name x2 p2) F.env vb); do holding [vd] (PySem.assign (.Name x3 p3) F.env vc); do holding [] (PySem.assign (.Name x4 p4) F.env vd); pure ()) _ _ _
    refine wpAny_bind (wpAny_holding (wpAny_assign_Name (S₄.storeG h1 ra L fun s₆ S₆ L => ?_)))
    obtain ⟨vb', us, e, rb, L⟩ := L
    cases e
    refine wpAny_bind (wpAny_holding (wpAny_assign_Name (S₆.storeG h2 rb L fun s₇ S₇ L => ?_)))
    obtain ⟨vc', us, e, rc, L⟩ := L
    cases e
    refine wpAny_bind (wpAny_holding (wpAny_assign_Name (S₇.storeG h3 rc L fun s₈ S₈ L => ?_)))
    obtain ⟨vd', us, e, rd, L⟩ := L
    cases e
    refine wpAny_bind (wpAny_holding (wpAny_assign_Name (S₈.storeG (ds := []) (vs := []) h4 rd rfl fun s₉ S₉ L => ?_)))
    refine wpAny_pure ?_
    exact hJ it o' (.ref l) s₉ _ _ S₉ (fun σ₅ s₅ k5 S₅ => ⟨n - 1, by lia, i + 1, σ₅, o', by lia, k5, f2, f3, S₅⟩) (fun σ₅ s₅ k5 S₅ => qn _ _ k5 S₅.iter_off) (fun σ₅ d5 v5 s₅ k5 r5 S₅ => qr _ _ _ _ k5 r5 S₅.iter_off) (fun q => absurd q hX)
  · have ei : i = ds.length := by lia
    refine wpAny_pyNext_list_end S'.ok.hh hio pl'.is (by simp [hl]; lia) fun h' ex => ?_
    exact wpAny_execs_nil (qn σ' _ (hE σ' (ei ▸ hi)) (S'.iter_end (tk := s.toks) io (fun b x w q => ex b x w q) n0 np))
end
end Mine
end

section
open PySem PySem.W PyProof.Rows
set_option genSizeOf false
set_option genInjectivity false
namespace Mine
/-- the frame of a comprehension that closes over names -/
noncomputable def Fx.compC (F : Fx) (ω : Own) (scope : Scope) (nms : List (Str × NameKind)) (cl : List (Str × Addr)) (C : Addr) (s₁ : Shared) (it : Addr) (o : Obj) (d : D) (v : Value) : Fx :=
  { F with env := compEnvC scope cl C F.env, s₀ := s₁, Zc := F.Z ω, names := nms, prot := [(it, o)], gh := [(d, v)] }
section
variable {F : Fx} {X : Prop} {σ : Ms} {K : D → Prop}
/-- what a comprehension closes over -/
structure Clo (F : Fx) (σ : Ms) (scope : Scope) (nms : List (Str × NameKind)) (cl : List (Str × Addr)) (loc0 : List (Option D)) : Prop where
  rel : (relabel scope F.env).names = nms
  hcl : ∀ p ∈ cl, F.env.cells.lookup p.1 = some p.2
  loc : ∀ (k : Nat) y kd d, nms[k]? = some (y, kd) → loc0[k]? = some (some d) → kd = .cell ∧ (∃ k', F.nm y = some (k', .cell) ∧ σ.loc[k']? = some (some d)) ∧ ∃ c, cl.lookup y = some c
theorem St.compC {s₁ : Shared} (S : St F σ s₁) {d : D} {v : Value} (r : Vr (F.Z σ.own) s₁.heap d v) {o : Obj} (of : o.isFreed = false) {scope : Scope} (hk : scope.kind = .function) {nms : List (Str × NameKind)} {cl : List (Str × Addr)} {loc0 : List (Option D)} (H : Clo F σ scope nms cl loc0) {h' : Heap} {tk : Nat}
    (n : h'.Ns (s₁.heap.objs.size + 2) (fun x => ([] : List (Str × Value)).reverse.lookup x)) (sb : Heap.SameBut (s₁.heap.objs.size + 2) (((s₁.heap.push o).push { cls := .type "list", data := .seq ([] : List Value).toArray }).push { cls := .type "dict", data := .dict #[] }) h') :
    St (F.compC σ.own scope nms cl (s₁.heap.objs.size + 2) s₁ s₁.heap.objs.size o d v) ⟨loc0, [(s₁.heap.objs.size + 1, [])]⟩ { s₁ with heap := h', toks := tk } := by
  have k1 : ∀ b x, b < s₁.heap.objs.size + 2 → ((s₁.heap.push o).push { cls := .type "list", data := .seq ([] : List Value).toArray }).get? b = some x → h'.get? b = some x := fun b x lt q => (sb.2 b (Nat.ne_of_lt lt)).trans (Heap.get?_push_of_some _ q)
  have keep : ∀ b x, s₁.heap.get? b = some x → h'.get? b = some x := fun b x q => k1 b x (Nat.lt_succ_of_lt (Nat.lt_succ_of_lt (Heap.lt_size q))) (Heap.get?_push_of_some _ (Heap.get?_push_of_some _ q))
  have ge : Ge s₁ { s₁ with heap := h', toks := tk } := ⟨keep, rfl, rfl⟩
  have S' := S.step ge.fx
  have eit : h'.get? s₁.heap.objs.size = some o := k1 _ _ (Nat.lt_succ_of_lt (Nat.lt_succ_self _)) (Heap.get?_push_of_some _ (Heap.get?_push_size _ of))
  have eacc : h'.get? (s₁.heap.objs.size + 1) = some { cls := .type "list", data := .seq ([] : List Value).toArray } := k1 _ _ (Nat.lt_succ_self _) (by
    have := Heap.get?_push_size (s₁.heap.push o) (o := { cls := .type "list", data := .seq ([] : List Value).toArray }) rfl
    rw [Heap.size_push] at this; exact this)
  have nZ : ∀ b, s₁.heap.objs.size ≤ b → ¬ F.Z σ.own b := fun b q z => by
    obtain ⟨x, e⟩ := S.zok b z
    rw [new_le q] at e; exact no e
  have le1 : s₁.heap.objs.size ≤ s₁.heap.objs.size + 1 := Nat.le_succ _
  have le2 : s₁.heap.objs.size ≤ s₁.heap.objs.size + 2 := Nat.le_add_right _ _
  have cP : s₁.heap.objs.size + 2 ≠ F.g.P := fun e => nZ _ le2 (by rw [e]; exact .inl (.inr (.inl rfl)))
  have fnd : ∀ a es, Own.find [(s₁.heap.objs.size + 1, ([] : List D))] a = some es → a = s₁.heap.objs.size + 1 ∧ es = [] := fun a es e => by
    rw [Own.find] at e
    by_cases q : s₁.heap.objs.size + 1 = a
    · rw [if_pos q] at e; exact ⟨q.symm, (Option.some.inj e).symm⟩
    · rw [if_neg q] at e; exact no e
  have clZ : ∀ x b, (x, b) ∈ cl → F.Z σ.own b := fun x b m => .inr (.inr (.inl ⟨x, mem_of_lookup (H.hcl (x, b) m)⟩))
  have hZ : ∀ b x, s₁.heap.get? b = some x → (F.compC σ.own scope nms cl (s₁.heap.objs.size + 2) s₁ s₁.heap.objs.size o d v).Z [(s₁.heap.objs.size + 1, [])] b → F.Z σ.own b := fun b x e z => by
    have lt := Heap.lt_size e
    rcases z with (z | z) | z | ⟨y, z⟩ | ⟨es, z⟩
    · exact z
    · exact F.volZ _ _ z
    · have z : b = s₁.heap.objs.size + 2 := z
      rw [z] at lt
      exact absurd lt (Nat.not_lt.mpr le2)
    · exact clZ y b z
    · rw [(fnd _ _ z).1] at lt
      exact absurd lt (Nat.not_lt.mpr le1)
  obtain ⟨oC, esC, epC, c1, c2, c3⟩ := id n
  refine { ok := ⟨hk, S.ok.glob, S.ok.blt, S.ok.hh, S.ok.dp, S.ok.un, S.ok.fr, cP, new_le le2, H.rel, S.base, S.ok.gl⟩, gw := ge.gw, base := S'.base, tab := S'.tab, bare := S'.bare, os := S'.os, ns := ⟨_, n, fun y k kd d' h1 h2 => ?_⟩, cells := (fun y c e => ?_), own := fun a es e => ?_, ownv := fun a es e => ?_, zok := fun b z => ?_, base0 := S.base0, frs := S'.frs, prot := fun p m => ?_, gh := fun p m => ?_ }
  · have h1 : nmGo nms y 0 = some (0 + k, kd) := by rw [Nat.zero_add]; exact h1
    obtain ⟨rfl, ⟨k', q1, q2⟩, c, q3⟩ := H.loc k y kd d' (nmGo_at h1) h2
    obtain ⟨m₀, _, f⟩ := S.ns
    obtain ⟨v', ⟨c', l1, l2⟩, r'⟩ := f y k' .cell d' q1 q2
    have q4 := H.hcl (y, c) (mem_of_lookup q3)
    rw [show F.env.cells.lookup y = some c from q4] at l1
    cases l1
    exact ⟨v', ⟨c, q3, l2.keeps keep⟩, ge.vr (Vr.more hZ d' r')⟩
  · have q4 := H.hcl (y, c) (mem_of_lookup e)
    obtain ⟨w1, w2, v', w3⟩ := S'.cells y c q4
    exact ⟨w1, fun (q : c = s₁.heap.objs.size + 2) => nZ _ le2 (q ▸ clZ y c (mem_of_lookup e)), v', w3⟩
  · obtain ⟨rfl, rfl⟩ := fnd a es e
    exact ⟨.inr (.inr (.inr ⟨_, e⟩)), [], ⟨_, eacc⟩, rfl, Nat.zero_le _⟩
  · obtain ⟨rfl, rfl⟩ := fnd a es e
    refine ⟨fun z => nZ _ le1 ?_, ?_, new_le le1, fun x q => nZ _ le1 (clZ x _ q)⟩
    · rcases z with z | z
      · exact z
      · exact F.volZ _ _ z
    · exact Nat.ne_of_lt (Nat.lt_succ_self _)
  · rcases z with (z | z) | z | ⟨y, z⟩ | ⟨es, z⟩
    · exact S'.zok b z
    · exact S'.zok b (F.volZ _ _ z)
    · have z : b = s₁.heap.objs.size + 2 := z
      exact ⟨oC, z ▸ c1⟩
    · exact S'.zok b (clZ y b z)
    · exact ⟨_, (fnd _ _ z).1 ▸ eacc⟩
  · cases List.mem_singleton.mp m
    refine ⟨eit, fun z => ?_⟩
    rcases z with (z | z) | z | ⟨y, z⟩ | ⟨es, z⟩
    · exact nZ _ (Nat.le_refl _) z
    · exact nZ _ (Nat.le_refl _) (F.volZ _ _ z)
    · exact absurd (show s₁.heap.objs.size = s₁.heap.objs.size + 2 from z) (Nat.ne_of_lt (Nat.lt_succ_of_lt (Nat.lt_succ_self _)))
    · exact nZ _ (Nat.le_refl _) (clZ y _ z)
    · exact absurd (fnd _ _ z).1 (Nat.ne_of_lt (Nat.lt_succ_self _))
  · cases List.mem_singleton.mp m
    exact ge.vr (Vr.more hZ d r)

/-- the iterator of a comprehension: N items -/
noncomputable def Nx (g : Gb) (A : Around) (FC : Obj → Fx) (FE : Obj → Fx) (it : Addr) (N : Nat) (item : Nat → D) (obj : Nat → Obj → Prop) : Prop := ∀ i o σ' s (Q : Option Value → Shared → Prop) (E : Value → Shared → Prop), i ≤ N → obj i o → St (FC o) σ' s →
  (i < N → ∀ v o' s', obj (i + 1) o' → St (FC o') σ' s' → Vr ((FC o').Z σ'.own) s'.heap (item i) v → Q (some v) s') → (i = N → ∀ s', St (FE o) σ' s' → Q none s') → wpAny g.M A (pyNext (.ref it)) Q E s
theorem filt_succ (p : Nat → Bool) (i : Nat) : (List.range (i + 1)).filter p = (List.range i).filter p ++ (if p i then [i] else []) := by
  rw [List.range_succ, List.filter_append]
  cases h : p i <;> simp [h]
theorem compC_loop {elt iter test : PExpr} {x : Str} {px pos : Pos} {scope : Scope} {nms : List (Str × NameKind)} {cl : List (Str × Addr)} {loc0 : List (Option D)} {k : Nat} (hx : nmGo nms x 0 = some (k, .local)) {s₁ : Shared} (S₁ : St F σ s₁) {it : Addr} (hit : s₁.heap.objs.size = it) {d : D} {v : Value} {N : Nat} {item y : Nat → D} {p : Nat → Bool} {obj : Nat → Obj → Prop} (hN : N ≤ lim)
    (nx : Nx F.g F.A (fun o => F.compC σ.own scope nms cl (it + 2) s₁ it o d v) (fun o => { F.compC σ.own scope nms cl (it + 2) s₁ it o d v with prot := [], gh := [] }) it N item obj) {R : Result → Shared → Prop}
    (hy : ∀ i, i < N → ∀ s₁ it o a done, Jt (F.compC σ.own scope nms cl (it + 2) s₁ it o d v) False ⟨loc0.set k (some (item i)), [(a, done)]⟩ test (fun b => b = p i ∧ (b = true → Je (F.compC σ.own scope nms cl (it + 2) s₁ it o d v) False ⟨loc0.set k (some (item i)), [(a, done)]⟩ elt (fun z => z = y i))))
    (fin : ∀ s', Done F σ scope s₁ (it + 2) (it + 1) (((List.range N).filter p).map y) s' → R (.ok .next) s') (s₂ : Shared) {o : Obj} (ho : obj 0 o)
    (S₂ : St (F.compC σ.own scope nms cl (it + 2) s₁ it o d v) ⟨loc0, [(it + 1, [])]⟩ s₂) :
    codeAny F.g.M F.A (.compLoop (.ListComp elt [⟨.Name x px, iter, [test], 0⟩] scope pos) 0 (.ref it) (.ref (it + 1)) (compEnvC scope cl (it + 2) F.env)) R s₂ := by
  have nC : s₁.heap.get? (it + 2) = Option.none := hit ▸ new_le (Nat.le_add_right _ _)
  have nA : s₁.heap.get? (it + 1) = Option.none := hit ▸ new_le (Nat.le_add_right _ _)
  have nZ : ¬ F.Z σ.own (it + 2) := fun z => by
    obtain ⟨_, e⟩ := S₁.zok _ z
    rw [nC] at e; exact no e
  have fa : ∀ (z : List D), Own.find [(it + 1, z)] (it + 1) = some z := fun z => Own.find_new
  have lenF : ∀ i, ((List.range i).filter p).length ≤ i := fun i => Nat.le_trans (List.length_filter_le _ _) (Nat.le_of_eq List.length_range)
  refine codeAny_compLoop_tests (fun n s => ∃ i loc' o, i + n = N ∧ (∀ d, loc'.set k (some d) = loc0.set k (some d)) ∧ obj i o ∧ St (F.compC σ.own scope nms cl (it + 2) s₁ it o d v) ⟨loc', [(it + 1, ((List.range i).filter p).map y)]⟩ s)
    (fun n s ⟨i, loc', o, e1, hloc, oc, S'⟩ => ?_) N ⟨0, loc0, o, by lia, fun _ => rfl, ho, S₂⟩
  refine nx i o _ s _ _ (by lia) oc S' (fun hlt v3 o' s₃ oc' S₃ r3 => ?_) (fun e s₃ S₃ => ?_)
  · refine wpAny_assign_Name (S₃.store (d := item i) hx r3 fun s₄ S₄ => ?_)
    have S₄ : St (F.compC σ.own scope nms cl (it + 2) s₁ it o' d v) ⟨loc0.set k (some (item i)), [(it + 1, ((List.range i).filter p).map y)]⟩ s₄ := by
      rw [← hloc]; exact S₄
    have ss : ∀ d, (loc0.set k (some (item i))).set k (some d) = loc0.set k (some d) := fun d => List.set_set ..
    refine wpAny_tests_one (hy i hlt s₁ it o' (it + 1) _ s₄ _ _ S₄ (fun b s₅ hb g₅ => ?_) (fun f => f.elim))
    have S₅ := S₄.step g₅
    obtain ⟨hb, he⟩ := hb
    cases b with
    | false =>
      refine ⟨n - 1, by lia, i + 1, _, o', by lia, ss, oc', ?_⟩
      rw [filt_succ, ← hb]
      simpa using S₅
    | true =>
      rw [if_pos rfl]
      refine he rfl s₅ _ _ S₅ (fun z vz s₆ hz rz g₆ => ?_) (fun f => f.elim)
      subst hz
      have S₆ := S₅.step g₆
      obtain ⟨_, us, ⟨nn, pe⟩, al5, n5⟩ := S₆.own (it + 1) (((List.range i).filter p).map y) (fa _)
      refine append_at pe (fun h7 sb7 e7 => ?_) (by rw [List.size_toArray, al5.length]; exact lim_line n5)
      have S₇ := S₆.app (fa _) al5 rz (by rw [List.length_map]; have := lenF i; have : N ≤ 100000 := hN; show _ < 100000; lia) sb7 e7
      refine ⟨n - 1, by lia, i + 1, _, o', by lia, ss, oc', ?_⟩
      have e8 : Own.upd [(it + 1, ((List.range i).filter p).map y)] (it + 1) (((List.range i).filter p).map y ++ [y i]) = [(it + 1, ((List.range (i + 1)).filter p).map y)] := by
        rw [Own.upd, if_pos rfl, filt_succ, ← hb, if_pos rfl, List.map_append]; rfl
      have S₇ : St _ ⟨_, Own.upd [(it + 1, ((List.range i).filter p).map y)] (it + 1) (((List.range i).filter p).map y ++ [y i])⟩ _ := S₇
      rw [e8] at S₇
      exact S₇
  · subst e
    obtain ⟨m, nm, _⟩ := S₃.ns
    have hown := fa (((List.range i).filter p).map y)
    obtain ⟨v1, v2, _, _⟩ := S₃.ownv (it + 1) _ hown
    obtain ⟨_, us, pe, al5, n5⟩ := S₃.own (it + 1) _ hown
    exact fin _ ⟨nC, nA, nZ, S₃.gw, ⟨it + 1, us, rfl, fun z => v1 (.inl z), n5, pe, VL.more (fun b o _ z => .inl (.inl z)) _ al5⟩, Nat.ne_of_lt (Nat.lt_succ_self _), m, nm⟩
end
end Mine
end

section
open PySem PySem.W PyProof.Rows
set_option genSizeOf false
set_option genInjectivity false
namespace Mine
section
variable {F : Fx} {X : Prop} {σ : Ms} {K : D → Prop}
/-- what the test and the element make of each item -/
noncomputable def EachC (F : Fx) (σ : Ms) (scope : Scope) (nms : List (Str × NameKind)) (cl : List (Str × Addr)) (loc0 : List (Option D)) (k : Nat) (test elt : PExpr) (d : D) (N : Nat) (item y : Nat → D) (p : Nat → Bool) : Prop :=
  ∀ i, i < N → ∀ C v s₁ it o a done, Jt (F.compC σ.own scope nms cl C s₁ it o d v) False ⟨loc0.set k (some (item i)), [(a, done)]⟩ test (fun b => b = p i ∧ (b = true → Je (F.compC σ.own scope nms cl C s₁ it o d v) False ⟨loc0.set k (some (item i)), [(a, done)]⟩ elt (fun z => z = y i)))
theorem Je.compCl {elt iter test : PExpr} {x : Str} {px pos : Pos} {scope : Scope} {nms : List (Str × NameKind)} {cl : List (Str × Addr)} {loc0 : List (Option D)} {k : Nat} (hclos : closureFor scope F.env = pure cl) (hcell : ∀ y ∈ scope.names, y.2 ≠ .cell) (hkind : scope.kind = .function)
    (hnames : ∀ y ∈ scope.names, y.2 = .local → scope.names.lookup y.1 = some .local) (H : Clo F σ scope nms cl loc0) (hx : nmGo nms x 0 = some (k, .local)) (hs : ∀ v, foldedSetIterable iter F.env v = pure v)
    (h : Je F X σ iter fun d => ∃ ds y p, d = .lst ds ∧ EachC F σ scope nms cl loc0 k test elt (.lst ds) ds.length (fun i => ds.getD i .none) y p ∧ K (.lst (((List.range ds.length).filter p).map y))) :
    Je F X σ (.ListComp elt [⟨.Name x px, iter, [test], 0⟩] scope pos) K := fun s Q E S q xe => by
  rw [eval_ListComp]
  refine wpAny_comprehension_free (use := Option.none) rfl hs hclos hkind hnames (h s _ E S (fun d v s₁ kk r g => ?_) xe)
  obtain ⟨ds, y, p, rfl, hy, kd⟩ := kk
  have S₁ := S.step g
  obtain ⟨l, vs, rfl, lz, ln, pl, al⟩ := id r
  refine wpAny_pyIter_list pl.is ?_
  refine wpAny_newObj_type (wpAny_newFunctionEnv hcell (by intro y hy; simp at hy) (fun h₁ hns₁ hsb₁ => ?_) hkind)
  dsimp only at hns₁ hsb₁ ⊢
  simp only [Heap.size_push] at hns₁ hsb₁ ⊢
  have S₂ := S₁.compC (o := { cls := .type "list_iterator", data := .fields #[.ref l, .int 0 0] }) (tk := s₁.toks + 0) r rfl hkind H hns₁ hsb₁
  have loop := compC_loop (elt := elt) (iter := iter) (test := test) (px := px) (pos := pos) hx S₁ rfl (N := ds.length) (item := fun i => ds.getD i .none) (y := y) (p := p) (obj := fun i o => o.cls = .type "list_iterator" ∧ o.data = .fields #[.ref l, .int (i : Nat) 0]) ln
    (fun i o σ' s Q E hi ho S' q1 q2 => by
      have io : Itr o := .cls ho.1 (by decide)
      obtain ⟨l', vs', e2, lz', ln', pl', al'⟩ := S'.gh (.lst ds, .ref l) (.head _)
      cases e2
      have hl := al'.length
      have hio : s.heap.IsListIter s₁.heap.objs.size l i := ⟨o, (S'.prot (_, o) (.head _)).1, ho.1, ho.2⟩
      have n0 : s₁.heap.get? s₁.heap.objs.size = Option.none := new_at
      by_cases hlt : i < ds.length
      · obtain ⟨v, e3, r3⟩ := al'.get (List.getElem?_eq_getElem hlt)
        refine wpAny_pyNext_list_item hio pl'.is (x := v) (by simpa using e3) fun h' hit' sb => ?_
        obtain ⟨o', f1, f2, f3⟩ := hit'
        have S₃ := St.iter_on (F := { F.compC σ.own scope nms cl (s₁.heap.objs.size + 2) s₁ s₁.heap.objs.size o (.lst ds) (.ref l) with prot := [], gh := [] }) S' io (tk := s.toks) (fun b x w q => (sb.2 b w).trans q) n0 (fun p m => nomatch m) f1
        have kpl : Kpl s.heap h' := fun b x c q => (sb.2 b (fun w => by
          have := (S'.prot (s₁.heap.objs.size, o) (.head _)).1
          rw [w] at q; rw [show s.heap.get? s₁.heap.objs.size = some o from this] at q; cases q; exact io c)).trans q
        refine q1 hlt v o' _ ⟨f2, f3⟩ S₃ ?_
        have e4 : ds.getD i .none = ds[i] := by rw [List.getD_eq_getElem?_getD, List.getElem?_eq_getElem hlt]; rfl
        show Vr _ _ (ds.getD i .none) v
        rw [e4]
        exact Vr.kpl kpl _ r3
      · refine wpAny_pyNext_list_end S'.ok.hh hio pl'.is (by simp [hl]; lia) fun h' ex => ?_
        exact q2 (by lia) _ (St.iter_end (F := { F.compC σ.own scope nms cl (s₁.heap.objs.size + 2) s₁ s₁.heap.objs.size o (.lst ds) (.ref l) with prot := [], gh := [] }) S' (tk := s.toks) io (fun b x w q => ex b x w q) n0 (fun p m => nomatch m)))
    (R := compPost F.g.M F.A E Option.none Q (.ref (s₁.heap.objs.size + 1)) (s₁.heap.objs.size + 2)) (fun i hi s₁ it o a done => hy i hi _ _ s₁ it o a done)
    (fun s' D => by
      obtain ⟨m, nm⟩ := D.2.2.2.2.2.2
      refine ⟨m, nm, fun h' sb => ?_⟩
      obtain ⟨g2, r2⟩ := D.off S₁ sb
      exact q _ _ _ kd r2 (g.trans g2)) _ ⟨rfl, rfl⟩ S₂
  exact codeAny_compStart_list loop (wpAny_pyIter_listiter (i := 0) (l := l) ⟨_, (S₂.prot _ (.head _)).1, rfl, rfl⟩ loop)
theorem Je.compCr {elt e test : PExpr} {x : Str} {px pos q r : Pos} {scope : Scope} {nms : List (Str × NameKind)} {cl : List (Str × Addr)} {loc0 : List (Option D)} {k k' : Nat} (hclos : closureFor scope F.env = pure cl) (hcell : ∀ y ∈ scope.names, y.2 ≠ .cell) (hkind : scope.kind = .function)
    (hnames : ∀ y ∈ scope.names, y.2 = .local → scope.names.lookup y.1 = some .local) (H : Clo F σ scope nms cl loc0) (hx : nmGo nms x 0 = some (k, .local)) (hn : F.nm "range" = some (k', .globalImplicit)) (he : plainArg e = true)
    (h : Je F X σ e fun d => ∃ (n : Nat) (y : Nat → D) (p : Nat → Bool), d = .int n ∧ n ≤ lim ∧ EachC F σ scope nms cl loc0 k test elt .none n (fun i => .int i) y p ∧ K (.lst (((List.range n).filter p).map y))) :
    Je F X σ (.ListComp elt [⟨.Name x px, .Call (.Name "range" q) [e] [] r, [test], 0⟩] scope pos) K := fun s Q E S q' xe => by
  rw [eval_ListComp]
  have each2 : backTo r (starEach [e] F.env) = [(false, eval e F.env)] := by rw [plainArg.each (r := []) he F.env]; rfl
  refine wpAny_comprehension_free (use := Option.none) rfl (by intro _; rfl) hclos hkind hnames (wpAny_Call_NameR (S.builtin (v := .type "range") hn free_range (by decide +kernel) (by decide) (by decide) ?_))
  rw [each2]
  refine PySem.callWith_type rfl (PySem.Calls.evalArgs_plain (PySem.Calls.spliced_cons (h s _ E S (fun d v s₁ kk rr g => PySem.Calls.spliced_nil ?_) xe)))
  obtain ⟨n, y, p, rfl, hn63, hy, kd⟩ := kk
  have hn63' : n ≤ 100000 := hn63
  obtain ⟨t, rfl⟩ := rr
  refine call_range_1 ?_
  refine wpAny_pyIter_range (IsRange.new ..) (small_one (by decide) (by decide) (by lia) (by lia)) ?_
  have hsz : Builtin.Range.rangeSize 0 (n : Int) 1 = (n : Int) := by rw [rangeSize_one]; split <;> lia
  rw [hsz]
  have gp := Ge.push s₁ { cls := .type "range", data := .fields #[.int 0 s₁.toks, .int (n : Int) t, .int 1 (s₁.toks + 1)] } (s₁.toks + 1 + 1)
  have S₁ := (S.step g).step gp.fx
  have gg := g.trans gp.fx
  generalize hs1 : ({ s₁ with heap := s₁.heap.push { cls := .type "range", data := .fields #[.int 0 s₁.toks, .int (n : Int) t, .int 1 (s₁.toks + 1)] }, toks := s₁.toks + 1 + 1 } : Shared) = s₂ at S₁ gg ⊢
  refine wpAny_newObj_type (wpAny_newFunctionEnv hcell (by intro y hy; simp at hy) (fun h₁ hns₁ hsb₁ => ?_) hkind)
  dsimp only at hns₁ hsb₁ ⊢
  simp only [Heap.size_push] at hns₁ hsb₁ ⊢
  have S₂ := S₁.compC (o := rIt 0 n 1) (d := .none) (v := .none) (tk := s₂.toks + 0) rfl rfl hkind H hns₁ hsb₁
  have loop := compC_loop (elt := elt) (iter := .Call (.Name "range" q) [e] [] r) (test := test) (px := px) (pos := pos) hx S₁ rfl (d := .none) (v := .none) (N := n) (item := fun i => .int i) (y := y) (p := p) (obj := fun i o => o = rIt (i : Nat) ((n : Int) - (i : Nat)) 1) hn63
    (fun i o σ' s Q E hi ho S' q1 q2 => by
      subst ho
      have io : Itr (rIt (i : Nat) ((n : Int) - (i : Nat)) 1) := .cls (c := "range_iterator") rfl (by decide)
      have hio : IsRangeIter s.heap s₂.heap.objs.size (i : Nat) ((n : Int) - (i : Nat)) 1 := (S'.prot _ (.head _)).1
      have n0 : s₂.heap.get? s₂.heap.objs.size = Option.none := new_at
      by_cases hlt : i < n
      · refine wpAny_pyNext_range_item hio (by lia) fun h' hit' sb => ?_
        have S₃ := St.iter_on (F := { F.compC σ.own scope nms cl (s₂.heap.objs.size + 2) s₂ s₂.heap.objs.size (rIt (i : Nat) ((n : Int) - (i : Nat)) 1) .none .none with prot := [], gh := [] }) S' io (tk := s.toks + 1) (fun b x w q => (sb.2 b w).trans q) n0 (fun p m => nomatch m) hit'
        refine q1 hlt _ _ _ ?_ S₃ ⟨_, rfl⟩
        rw [show (i : Int) + 1 = ((i + 1 : Nat) : Int) by lia, show (n : Int) - i - 1 = (n : Int) - ((i + 1 : Nat) : Int) by lia]
      · refine wpAny_pyNext_range_end S'.ok.hh hio (by lia) fun h' ex => ?_
        exact q2 (by lia) _ (St.iter_end (F := { F.compC σ.own scope nms cl (s₂.heap.objs.size + 2) s₂ s₂.heap.objs.size (rIt (i : Nat) ((n : Int) - (i : Nat)) 1) .none .none with prot := [], gh := [] }) S' (tk := s.toks) io (fun b x w q => ex b x w q) n0 (fun p m => nomatch m)))
    (R := compPost F.g.M F.A E Option.none Q (.ref (s₂.heap.objs.size + 1)) (s₂.heap.objs.size + 2)) (fun i hi s₁ it o a done => hy i hi _ _ s₁ it o a done)
    (fun s' D => by
      obtain ⟨m, nm⟩ := D.2.2.2.2.2.2
      refine ⟨m, nm, fun h' sb => ?_⟩
      obtain ⟨g2, r2⟩ := D.off S₁ sb
      exact q' _ _ _ kd r2 (gg.trans g2)) _ (o := rIt 0 n 1) (by simp) S₂
  exact codeAny_compStart_list loop (wpAny_pyIter_rangeiter (x := 0) (left := n) (step := 1) (S₂.prot _ (.head _)).1 loop)
end
end Mine
end

section
open PySem PySem.W PyProof.Rows
set_option maxRecDepth 100000
namespace Mine
noncomputable def okAt (w : List Nat) (x : It) (p : Nat) : Bool := decide (p < w.length) && (decide (w.getD p 0 ∈ x.s) == (x.k == 1))
/-- the places behind one more item -/
noncomputable def stepP (w : List Nat) (P : List Nat) (x : It) : List Nat :=
  if x.k = 0 then (List.range (w.length + 1)).filter (fun p => !P.isEmpty && decide (p ≥ P.headD 0)) else (P.filter (okAt w x)).map (· + 1)
noncomputable def plD (P : List Nat) : D := .lst (P.map fun p => D.int (p : Nat))
noncomputable def means (core : List It) (w : List Nat) : Bool := (core.foldl (stepP w) [0]).any (· == w.length)
theorem filt_idx {α β : Type} (P : List α) (z : α) (t : α → Bool) (f : α → β) : ((List.range P.length).filter (fun i => t (P.getD i z))).map (fun i => f (P.getD i z)) = (P.filter t).map f := by
  have e : (List.range P.length).map (fun i => P.getD i z) = P := by
    refine List.ext_getElem? fun i => ?_
    rw [List.getElem?_map]
    by_cases h : i < P.length
    · rw [List.getElem?_range h, List.getElem?_eq_getElem h]
      show some (P.getD i z) = _
      rw [List.getD_eq_getElem?_getD, List.getElem?_eq_getElem h]; rfl
    · rw [List.getElem?_eq_none (by simpa using h), List.getElem?_eq_none (by simpa using h)]; rfl
  conv => rhs; rw [← e]
  rw [List.filter_map, List.map_map]; rfl
noncomputable def MeI (core : List It) (w : List Nat) (P : List Nat) (σ : Ms) : Prop := ∃ x : Option D × Option D × Option D × Option D, σ = ⟨[some (.lst (core.map It.d)), some (.str w), some (plD P), x.1, x.2.1, x.2.2.1, x.2.2.2, none, none], []⟩
theorem means_ok (g : Gb) (hat : FnAt g (fnGet 16)) (core : List It) (w : List Nat) (hw : w.length ≤ 10000) : Ct g 0 (fnGet 16).name [.lst (core.map It.d), .str w] (some (.bool (means core w))) := by
  refine Ct.cells "items" "word" [("places", .cell), ("text", .local), ("kind", .cell), ("signs", .cell), ("fit", .local), ("range", .globalImplicit), ("len", .globalImplicit)] hat rfl (by decide) (fun pm c doc v1 v2 => rfl) rfl rfl rfl (fun n => rfl) ?_ (fun L a_1 cd A' s l Zc hP cf => ?_)
  · intro m n b h
    rcases List.mem_cons.mp h with e | h
    · cases e; rfl
    rcases List.mem_cons.mp h with e | h
    · cases e; rfl
    rcases List.mem_cons.mp h with e | h
    · cases e; rfl
    cases List.mem_singleton.mp h
    rfl
  conv => arg 4; whnf
  refine Ws.ok (m := 30) (n := 30) ?_
  conv => whnf
  refine ⟨J1.assigng (k := 2) (.inr ⟨rfl, cf, _, rfl⟩) (We.ok (n := 30) ?_) rfl⟩
  conv => whnf
  refine ⟨show 1 ≤ 100000 by decide, ?_⟩
  conv => whnf
  refine ⟨J1.for4 (k1 := 3) (k2 := 4) (k3 := 5) (k4 := 6) (by simp) (.inl rfl) (.inr ⟨rfl, cf, _, rfl⟩) (.inr ⟨rfl, cf, _, rfl⟩) (.inl rfl) (by intro _; rfl) (We.ok (n := 30) ⟨_, rfl, fun i σ => MeI core w ((core.take i).foldl (stepP w) [0]) σ, ⟨(none, none, none, none), rfl⟩, ?_, ?_⟩)⟩
  · rintro i d σ₁ hi ⟨x, rfl⟩
    rw [List.getElem?_map, Option.map_eq_some_iff] at hi
    obtain ⟨m, hm, rfl⟩ := hi
    obtain ⟨hlt, hg⟩ := List.getElem?_eq_some_iff.mp hm
    have hstep : (core.take (i + 1)).foldl (stepP w) [0] = stepP w ((core.take i).foldl (stepP w) [0]) m := by
      rw [List.take_succ_eq_append_getElem hlt, hg, List.foldl_append]; rfl
    suffices hs : ∃ a b c e, m.d = D.tup [a, b, c, e] ∧ ∀ it o v, Js ((mkC g (fnGet 16) L a_1 cd A' s l Zc 0).with it o (D.lst (core.map It.d)) v) _ _ _ ⟨fun σ₃ => MeI core w (stepP w ((core.take i).foldl (stepP w) [0]) m) σ₃, _, _⟩ by
      rw [← hstep] at hs; exact hs
    generalize (core.take i).foldl (stepP w) [0] = P
    refine ⟨_, _, _, _, rfl, fun it o v => ?_⟩
    refine Ws.ok (m := 30) (n := 30) ?_
    conv => whnf
    refine ⟨fun hk => ?_, fun hk => ?_⟩
    · have hk : m.k = 0 := eq_of_beq hk
      conv => whnf
      have he : stepP w P m = (List.range (w.length + 1)).filter (fun p => !P.isEmpty && decide (p ≥ P.headD 0)) := if_pos hk
      refine ⟨J1.assigng (k := 2) (.inr ⟨rfl, cf, _, rfl⟩) (Je.compCr (nms := [(".0", .local), ("p", .local), ("places", .cell)]) (loc0 := [none, none, some (plD P)]) (k := 1) rfl (by decide) rfl (by decide) ⟨rfl, ?_, ?_⟩ rfl rfl rfl (We.ok (n := 30) ?_)) rfl⟩
      · intro p hp
        cases List.mem_singleton.mp hp
        rfl
      · intro k y kd d h1 h2
        match k, h1, h2 with
        | 2, h1, h2 => cases h1; cases h2; exact ⟨rfl, ⟨2, rfl, rfl⟩, _, rfl⟩
      conv => whnf
      refine ⟨w.length + 1, fun i => .int (i : Nat), fun p => !P.isEmpty && decide (p ≥ P.headD 0), rfl, ?_, ?_, ?_⟩
      · show w.length + 1 ≤ 100000
        omega
      · intro j hj C v s₁ it o a done
        refine Wt.ok (n := 30) (we := We _ _ _ 30) (fun _ _ => We.ok) ?_
        conv => whnf
        cases P with
        | nil => exact ⟨fun _ => ⟨rfl, noT⟩, noT⟩
        | cons p0 P =>
          refine ⟨noF, fun _ => ?_⟩
          conv => whnf
          rw [show (seqIndex? 0 (List.map (fun p : Nat => D.int p) (p0 :: P)).length).bind (fun x => (List.map (fun p : Nat => D.int p) (p0 :: P))[x]?) = some (D.int p0) from at_nat (k := 0) rfl]
          conv => whnf
          have e0 : decide ((j : Int) ≥ (p0 : Nat)) = decide (j ≥ p0) := decide_eq_decide.mpr (by omega)
          refine ⟨fun h => ⟨?_, noT⟩, fun h => ⟨?_, fun _ => We.ok (n := 30) ?_⟩⟩
          · rw [← h]; exact e0
          · rw [← h]; exact e0
          · conv => whnf
      · conv => whnf
        rw [he, plD]
        exact ⟨(_, _, _, _), rfl⟩
    · have hk : m.k ≠ 0 := fun e => by rw [e] at hk; exact noF hk
      conv => whnf
      have he : stepP w P m = (P.filter (okAt w m)).map (· + 1) := if_neg hk
      refine ⟨J1.assigng (k := 2) (.inr ⟨rfl, cf, _, rfl⟩) (Je.compCl (nms := [(".0", .local), ("p", .local), ("len", .globalImplicit), ("kind", .cell), ("signs", .cell), ("word", .cell)]) (loc0 := [none, none, none, some (.int m.k), some (.str m.s), some (.str w)]) (k := 1) rfl (by decide) rfl (by decide) ⟨rfl, ?_, ?_⟩ rfl (by intro _; rfl) (We.ok (n := 30) ?_)) rfl⟩
      · intro p hp
        rcases List.mem_cons.mp hp with rfl | hp
        · rfl
        rcases List.mem_cons.mp hp with rfl | hp
        · rfl
        cases List.mem_singleton.mp hp
        rfl
      · intro k y kd d h1 h2
        match k, h1, h2 with
        | 3, h1, h2 => cases h1; cases h2; exact ⟨rfl, ⟨4, rfl, rfl⟩, _, rfl⟩
        | 4, h1, h2 => cases h1; cases h2; exact ⟨rfl, ⟨5, rfl, rfl⟩, _, rfl⟩
        | 5, h1, h2 => cases h1; cases h2; exact ⟨rfl, ⟨1, rfl, rfl⟩, _, rfl⟩
      conv => whnf
      refine ⟨_, fun i => .int ((P.getD i 0 + 1 : Nat) : Int), fun i => okAt w m (P.getD i 0), rfl, ?_, ?_⟩
      · intro j hj C v s₁ it o a done
        have hit : (P.map fun p => D.int (p : Nat)).getD j .none = .int (P.getD j 0 : Nat) := by
          rw [List.length_map] at hj
          rw [List.getD_eq_getElem?_getD, List.getElem?_map, List.getD_eq_getElem?_getD, List.getElem?_eq_getElem hj]; rfl
        show Jt _ _ ⟨[none, some ((P.map fun p => D.int (p : Nat)).getD j .none), none, some (.int m.k), some (.str m.s), some (.str w)], _⟩ _ fun b => b = okAt w m (P.getD j 0) ∧ (b = true → Je _ _ ⟨[none, some ((P.map fun p => D.int (p : Nat)).getD j .none), none, some (.int m.k), some (.str m.s), some (.str w)], _⟩ _ fun z => z = .int ((P.getD j 0 + 1 : Nat) : Int))
        rw [hit]
        generalize P.getD j 0 = q
        refine Wt.ok (n := 30) (we := We _ _ _ 30) (fun _ _ => We.ok) ?_
        conv => whnf
        have e0 : decide ((q : Int) < (w.length : Nat)) = decide (q < w.length) := decide_eq_decide.mpr (by omega)
        refine ⟨fun h => ⟨?_, noT⟩, fun h => ?_⟩
        · rw [okAt, ← e0, show decide ((q : Int) < (w.length : Nat)) = false from h]; rfl
        · have hq : q < w.length := by have : (q : Int) < (w.length : Nat) := of_decide_eq_true h; omega
          conv => whnf
          rw [show Option.map (fun c => D.str [c]) ((seqIndex? (q : Int) w.length).bind (fun x => w[x]?)) = some (.str [w.getD q 0]) by
            rw [at_nat (List.getElem?_eq_getElem hq), List.getD_eq_getElem?_getD, List.getElem?_eq_getElem hq]; rfl]
          conv => whnf
          have e1 : okAt w m q = (decide (w.getD q 0 ∈ m.s) == (m.k == 1)) := by rw [okAt, decide_eq_true hq, Bool.true_and]
          refine ⟨fun h => ⟨?_, noT⟩, fun h => ⟨?_, fun _ => We.ok (n := 30) ?_⟩⟩
          · rw [e1]; exact h.symm
          · rw [e1]; exact h.symm
          · conv => whnf
            rfl
      · conv => whnf
        have hpl : plD (stepP w P m) = .lst (((List.range (P.map fun p => D.int (p : Nat)).length).filter fun i => okAt w m (P.getD i 0)).map fun i => .int ((P.getD i 0 + 1 : Nat) : Int)) := by
          rw [he, plD, List.map_map, List.length_map, filt_idx P 0 (okAt w m) (fun p => D.int ((p + 1 : Nat) : Int))]; rfl
        rw [hpl]
        exact ⟨(_, _, _, _), rfl⟩
  · rintro σ₁ ⟨x, rfl⟩
    conv => whnf
    rw [List.length_map, List.take_length]
    refine onSome.of (c := means core w) ?_ rfl
    show cin (.int (w.length : Nat)) (plD _) = _
    rw [plD, cin, allOf_map (f := int1) (e := fun p : Nat => D.int (p : Nat)) (h := fun p : Nat => (p : Int)) (fun _ => rfl)]
    show some _ = some _
    rw [means]
    show some (List.any (List.map _ _) _) = _
    rw [List.any_map]
    congr 1
    refine congrArg (fun f => List.any _ f) (funext fun p => ?_)
    show ((p : Int) == (w.length : Int)) = (p == w.length)
    rw [Bool.eq_iff_iff, beq_iff_eq, beq_iff_eq]
    omega
end Mine
end

section
open PySem PySem.W PyProof.Rows
namespace Mine
open PySem.Builtin
section
variable {prog : Program} {w : World} {A : Around} {E : Value → Shared → Prop} {s : Shared}
theorem getItem_miss {d : Addr} {f : Int → Option Value} {k : Int} {t : Tok} {Q : Value → Shared → Prop} (hh : A.handled = none) (hm : s.heap.IntMap d f) (hv : f k = none)
    (h : ∀ h' e tk, Heap.MadeExc s.heap h' e "KeyError" [.int k t] → E (.ref e) { s with heap := h', toks := tk }) : wpAny (model prog w) A (getItem (.ref d) (.int k t)) Q E s := by
  unfold getItem
  try with_reducible refine wpAny_holding ?_
  first | refine wpAny_bind (wpAny_pure ?_) | skip
  refine wpAny_bind (wpAny_sequenceKey hm.typeIs (by decide) ?_)
  refine wpAny_bind (wpAny_callSpecial?_slot (name := Str.ofString "__getitem__") hm.typeIs slot_dict_getitem (wpAny_call_entry slot_dict_getitem hm.typeIs entry_dict_getitem ?_ (args_dict_getitem _ _)))
  show wpAny _ _ (dictGet d (.int k t) >>= _) _ _ s
  refine wpAny_bind (wpAny_dictGet_int hm ?_)
  rw [hv]
  show wpAny _ _ (Builtin.Dict.missed d (.int k t) >>= _) _ _ _
  refine wpAny_bind (wpAny_missed_int ?_)
  have hm2 : Heap.IntMap ({ s with toks := s.toks + 1 } : Shared).heap d f := hm
  refine wpAny_bind (wpAny_typeOf hm2.typeIs ?_)
  rw [if_neg (by decide)]
  refine wpAny_bind (wpAny_rule (wpAny_bind (wpAny_newExc_plain plainExc_KeyError fun h' e hx => ?_)))
  exact wpAny_raiseNew_none hh (h h' e _ hx)
theorem look_hit {d : Addr} {f : Int → Option Value} {c : Nat} {x : Str} {t : Tok} {Q : Builtin.Str.Mapped → Shared → Prop} (hm : s.heap.IntMap d f) (hv : f c = some (.str x t)) (h : Q (.text x) { s with toks := s.toks + 1 + 1 }) :
    wpAny (model prog w) A (Builtin.Str.tableLookup (.ref d) c) Q E s := by
  unfold Builtin.Str.tableLookup
  refine wpAny_bind (wpAny_attempt (wpAny_bind (wpAny_mkInt (wpAny_getItem_intMap (s := { s with toks := s.toks + 1 }) hm hv ?_))))
  show wpAny _ _ (asInt? (.str x t) >>= _) _ _ _
  refine wpAny_bind (wpAny_pure ?_)
  show wpAny _ _ (asStr? (.str x t) >>= _) _ _ _
  exact wpAny_bind (wpAny_pure (wpAny_pure h))
theorem look_miss {d : Addr} {f : Int → Option Value} {c : Nat} {Q : Builtin.Str.Mapped → Shared → Prop} (hh : A.handled = none) (hm : s.heap.IntMap d f) (hv : f c = none) (h : ∀ s', Ge s s' → Q .keep s') :
    wpAny (model prog w) A (Builtin.Str.tableLookup (.ref d) c) Q E s := by
  unfold Builtin.Str.tableLookup
  refine wpAny_bind (wpAny_attempt (wpAny_bind (wpAny_mkInt (getItem_miss (s := { s with toks := s.toks + 1 }) hh hm hv fun h' e tk hx => ?_))))
  obtain ⟨t, ht, _⟩ := hx.there
  refine wpAny_bind (wpAny_isInstance (T := "KeyError") (b := true) ⟨_, ht, rfl⟩ (by rw [isSubtype_type]; kernel_rfl) ?_)
  rw [if_pos rfl]
  exact wpAny_bind (wpAny_rule (wpAny_pure (h _ ⟨hx.keeps, rfl, rfl⟩)))
end
section
variable {g : Gb} {A : Around} {Z : Addr → Prop} {s : Shared}
theorem transl_hit {d : Addr} {f : Int → Option Value} {c : Nat} {x : List Nat} {t u : Tok} (hm : s.heap.IntMap d f) (hc : c < 128) (hv : f c = some (.str ⟨x.toArray⟩ u)) (hx : x.length = 2) : Yd g A Z s (call (.builtin "str.translate") [sv [c] t, .ref d]) (.str x) := fun Q E h => by
  refine wpAny_call_entry PySem.F.slot_str_translate (typeIs_str _ _ _) PySem.F.entry_str_translate ?_ (PySem.F.args_str_translate_2 _ _)
  unfold Builtin.«str.translate»
  refine wpAny_bind (wpAny_of_eq (a := (sv [c] t, ⟨[c].toArray⟩, .ref d)) rfl ?_)
  show wpAny _ _ (if ((⟨[c].toArray⟩ : Str).length == 0) = true then _ else _) _ _ _
  rw [if_neg (show ¬ ((⟨[c].toArray⟩ : Str).length == 0) = true from fun q => nomatch q)]
  have hall : (⟨[c].toArray⟩ : Str).cps.all (fun x => decide (x < 128)) = true := by simp [hc]
  have hm1 : Heap.IntMap ({ s with toks := s.toks + 1 + 1 } : Shared).heap d f := hm
  have hlen : ((⟨x.toArray⟩ : Str).length == 1) = false := by simp [Str.length, hx]
  dsimp only
  rw [hall]
  refine wpAny_bind ?_
  rw [← Array.forIn_toList]
  simp only [List.forIn_cons, List.forIn_nil, if_true, List.lookup_nil]
  refine wpAny_bind ?_
  rw [if_neg (by decide)]
  refine wpAny_bind (look_hit hm hv ?_)
  simp only [hlen, Bool.false_and, Bool.false_eq_true, if_false]
  refine wpAny_bind (wpAny_pure ?_)
  refine wpAny_bind (wpAny_rule ?_)
  refine wpAny_bind (look_hit hm1 hv ?_)
  refine wpAny_pure ?_
  refine wpAny_pure ?_
  dsimp only
  rw [if_neg (show ¬ Builtin.Str.tooLong (0 + (⟨x.toArray⟩ : Str).length) = true by simp [Builtin.Str.tooLong, sizeLine, Str.length, hx])]
  have e : (⟨List.foldl (fun acc (p : Str) => acc ++ p.cps) #[] [(⟨x.toArray⟩ : Str)].reverse⟩ : Str) = ⟨x.toArray⟩ := by simp
  rw [e]
  refine wpAny_bind (wpAny_mkStr (wpAny_pure ⟨_, rfl, h _ _ ⟨_, rfl, ?_⟩ (Ge.tok s _)⟩) ?_)
  · rw [hx]; exact show 2 ≤ 100000 by decide
  · rw [sizeLine_eq]; simp [Str.length, hx]
theorem transl_miss {d : Addr} {f : Int → Option Value} {c : Nat} {t : Tok} (hh : A.handled = none) (hm : s.heap.IntMap d f) (hc : c < 128) (hv : f c = none) : Yd g A Z s (call (.builtin "str.translate") [sv [c] t, .ref d]) (.str [c]) := fun Q E h => by
  refine wpAny_call_entry PySem.F.slot_str_translate (typeIs_str _ _ _) PySem.F.entry_str_translate ?_ (PySem.F.args_str_translate_2 _ _)
  unfold Builtin.«str.translate»
  refine wpAny_bind (wpAny_of_eq (a := (sv [c] t, ⟨[c].toArray⟩, .ref d)) rfl ?_)
  show wpAny _ _ (if ((⟨[c].toArray⟩ : Str).length == 0) = true then _ else _) _ _ _
  rw [if_neg (show ¬ ((⟨[c].toArray⟩ : Str).length == 0) = true from fun q => nomatch q)]
  have hall : (⟨[c].toArray⟩ : Str).cps.all (fun x => decide (x < 128)) = true := by simp [hc]
  dsimp only
  rw [hall]
  refine wpAny_bind ?_
  rw [← Array.forIn_toList]
  simp only [List.forIn_cons, List.forIn_nil, if_true, List.lookup_nil]
  refine wpAny_bind ?_
  rw [if_neg (by decide)]
  refine wpAny_bind (look_miss hh hm hv fun s' ge => ?_)
  refine wpAny_bind (wpAny_pure ?_)
  refine wpAny_pure (wpAny_pure ?_)
  dsimp only
  rw [if_neg (by decide)]
  refine wpAny_bind (wpAny_mkStr (wpAny_pure ⟨_, rfl, h _ _ ⟨_, rfl, show 1 ≤ 100000 by decide⟩ (ge.trans (Ge.tok s' _))⟩) ?_)
  rw [sizeLine_eq]; exact show 1 ≤ 16777216 by decide
end
end Mine
end

section
open PySem PySem.W PyProof.Rows
set_option maxRecDepth 100000
namespace Mine
noncomputable abbrev specials : List Nat := [40, 41, 91, 93, 123, 125, 63, 42, 43, 45, 124, 94, 36, 92, 46, 38, 126, 35, 32, 9, 10, 13, 11, 12]
noncomputable def esc (c : Nat) : List Nat := if c ∈ specials then [92, c] else [c]
/-- the table of the special signs stands -/
noncomputable def MapAt (g : Gb) : Prop := ∃ m f, g.mg "_special_chars_map" = some (.ref m) ∧ m ≠ g.P ∧ g.hB.IntMap m f ∧ ∀ c : Nat, c < 128 → if c ∈ specials then ∃ t, f c = some (.str ⟨[92, c].toArray⟩ t) else f c = none
section
variable {F : Fx} {X : Prop} {σ : Ms} {K : D → Prop}
theorem free_isi : ("isinstance" : Str) ∈ freeNames := by decide
theorem free_str : ("str" : Str) ∈ freeNames := by decide
theorem Je.isstr {e : PExpr} {p q r : Pos} {k1 k2 : Nat} (hn : F.nm "isinstance" = some (k1, .globalImplicit)) (hs : F.nm "str" = some (k2, .globalImplicit)) (he : plainArg e = true) (h : Je F X σ e fun d => ∃ y, d = .str y ∧ K (.bool true)) :
    Je F X σ (.Call (.Name "isinstance" p) [e, .Name "str" q] [] r) K := fun s Q E S q' x =>
  Call_ (S.builtin (v := .builtin "isinstance") hn free_isi (by decide +kernel) (by decide) (by decide) (PyProof.Rows.callWith_builtin1 (args_cons (h s _ E S (fun d v s₁ k rr g => by
    obtain ⟨y, rfl, k⟩ := k
    obtain ⟨t, rfl, _⟩ := rr
    refine args_cons ((S.step g).builtin (v := .type "str") hs free_str (by decide +kernel) (by decide) (by decide) (args_nil ?_)) (by rfl)
    exact PySem.IsiPair.str_str (q' _ _ _ k rfl g)) x) (plainArg.each he _)) (plainArg.each he _) (by rfl)))
theorem Je.glob {x : Str} {p : Pos} {k : Nat} {m : Addr} (hn : F.nm x = some (k, .globalImplicit)) (hg : F.g.mg x = some (.ref m)) (hd : (x == ("__debug__" : Str)) = false) (h : K (.own m)) : Je F X σ (.Name x p) K := fun s Q E S q _ => by
  obtain ⟨og, esg, epg, ng, rg⟩ := S.ok.gl.ns
  exact PySem.Calls.Name_function_global S.ok.kind (S.kindOf hn) (PySem.Calls.loadGlobal_global (mg := F.g.mg) (by rw [S.ok.glob]; exact ⟨og, esg, epg, S.base _ _ S.ok.gl.p1 ng, rg⟩) hg (q _ _ _ h rfl (F.grefl s))) hd
end
theorem escape_ok (g : Gb) (hat : FnAt g (fnGet 6)) (H : MapAt g) (c : Nat) (hc : c < 128) : Ct g 0 (fnGet 6).name [.str [c]] (some (.str (esc c))) := by
  refine Ct.plain ["pattern"] [("isinstance", .globalImplicit), ("str", .globalImplicit), ("_special_chars_map", .globalImplicit)] hat rfl rfl (by decide) (fun pm c doc vs h => ?_) (by decide) (by decide) rfl rfl rfl (fun L ad cd A' s l Zc hP => ?_)
  · obtain ⟨_, rfl⟩ := vs1 h
    rfl
  conv => arg 4; whnf
  obtain ⟨m, f, h1, h2, h3, h4⟩ := H
  refine Js.cons (J1.ite (.val (Je.isstr rfl rfl rfl (We.ok (n := 30) ⟨_, rfl, true, rfl, fun _ => Js.cons (J1.ret (Je.strm PySem.F.slot_str_translate PySem.F.type_str_translate rfl rfl rfl rfl (We.ok (n := 30) ⟨_, rfl, .cons (Je.glob rfl h1 (by decide) (.nil ⟨.str (esc c), rfl, fun s₁ vs t S l => ?_⟩)) (by intro _; rfl)⟩))), noF⟩))))
  obtain ⟨v1, us, rfl, r1, l⟩ := l
  cases r1; cases l
  obtain ⟨o, es, ep, ho, hr⟩ := h3
  have hm : s₁.heap.IntMap m f := ⟨o, es, ep, S.base _ _ h2 ho, hr⟩
  have h5 := h4 c hc
  unfold esc
  by_cases q : c ∈ specials
  · rw [if_pos q] at h5 ⊢
    obtain ⟨u, h5⟩ := h5
    exact transl_hit hm hc h5 rfl
  · rw [if_neg q] at h5 ⊢
    exact transl_miss S.ok.hh hm hc h5
end Mine
end

section
open PySem PySem.W PySem.W.X PyProof.Rows
set_option maxRecDepth 100000
set_option maxHeartbeats 4000000
namespace Mine
structure SubQ (Q : Value → Shared → Prop) (h : Heap) (gs : Array GenState) (d : Drawn) (os : OsState) (x : Array Nat) : Prop where
  q : ∀ h' t' k y news, y = x → Mem h h' [] news → Q (.str ⟨y⟩ t') ⟨h', gs, d, k, os⟩
local macro_rules | `(tactic| x_close) => `(tactic| (refine (‹SubQ _ _ _ _ _ _›).q _ _ _ _ _ ?_ (by assumption); rfl))
noncomputable abbrev codeV : Array Value := #[.int 14 0, .int 14 0, .int 4 0, .int 1 0, .int 1 0, .int 9 0, .int 0 0, .int 64 0, .int 0 0, .int 1342177280 0, .int 0 0, .int 0 0, .int 0 0, .int 0 0, .int 0 0, .int 17 0, .int 0 0, .int 13 0, .int 11 0, .int 9 0, .int 0 0, .int 64 0, .int 0 0, .int 1342177280 0, .int 0 0, .int 0 0, .int 0 0, .int 0 0, .int 0 0, .int 17 0, .int 1 0, .int 1 0]
theorem sub_sp {prog : Program} {w : World} {A : Around} {h : Heap} {gs : Array GenState} {d : Drawn} {tk : Nat} {os : OsState} {Q E : Value → Shared → Prop} {a co lam : Addr} {v0 v1 v3 v4 : Value} {n : Nat} {t : Tok} {fd : FuncData} (hh : A.handled = none)
    (ho : h.get? a = some { cls := .type "re.Pattern", data := .fields #[v0, v1, .int 1 0, v3, v4, .ref co, .int 0 0] }) (hc : h.get? co = some { cls := .type "tuple", data := .seq codeV n }) (hl : h.get? lam = some { cls := .type "function", data := .func fd })
    (q : SubQ Q h gs d os #[32]) : wpAny (model prog w) A (call (.builtin "re.Pattern.sub") [.ref a, .ref lam, .str ⟨#[32]⟩ t]) Q E ⟨h, gs, d, tk, os⟩ := by
  x_run
theorem sub_bang {prog : Program} {w : World} {A : Around} {h : Heap} {gs : Array GenState} {d : Drawn} {tk : Nat} {os : OsState} {Q E : Value → Shared → Prop} {a co lam : Addr} {v0 v1 v3 v4 : Value} {n : Nat} {t : Tok} {fd : FuncData} (hh : A.handled = none)
    (ho : h.get? a = some { cls := .type "re.Pattern", data := .fields #[v0, v1, .int 1 0, v3, v4, .ref co, .int 0 0] }) (hc : h.get? co = some { cls := .type "tuple", data := .seq codeV n }) (hl : h.get? lam = some { cls := .type "function", data := .func fd })
    (q : SubQ Q h gs d os #[33]) : wpAny (model prog w) A (call (.builtin "re.Pattern.sub") [.ref a, .ref lam, .str ⟨#[33]⟩ t]) Q E ⟨h, gs, d, tk, os⟩ := by
  x_run
theorem sub_nil {prog : Program} {w : World} {A : Around} {h : Heap} {gs : Array GenState} {d : Drawn} {tk : Nat} {os : OsState} {Q E : Value → Shared → Prop} {a co lam : Addr} {v0 v1 v3 v4 : Value} {n : Nat} {t : Tok} {fd : FuncData} (hh : A.handled = none)
    (ho : h.get? a = some { cls := .type "re.Pattern", data := .fields #[v0, v1, .int 1 0, v3, v4, .ref co, .int 0 0] }) (hc : h.get? co = some { cls := .type "tuple", data := .seq codeV n }) (hl : h.get? lam = some { cls := .type "function", data := .func fd })
    (q : SubQ Q h gs d os #[]) : wpAny (model prog w) A (call (.builtin "re.Pattern.sub") [.ref a, .ref lam, .str ⟨#[]⟩ t]) Q E ⟨h, gs, d, tk, os⟩ := by
  x_run
theorem sub_bsp {prog : Program} {w : World} {A : Around} {h : Heap} {gs : Array GenState} {d : Drawn} {tk : Nat} {os : OsState} {Q E : Value → Shared → Prop} {a co lam : Addr} {v0 v1 v3 v4 : Value} {n : Nat} {t : Tok} {fd : FuncData} (hh : A.handled = none)
    (ho : h.get? a = some { cls := .type "re.Pattern", data := .fields #[v0, v1, .int 1 0, v3, v4, .ref co, .int 0 0] }) (hc : h.get? co = some { cls := .type "tuple", data := .seq codeV n }) (hl : h.get? lam = some { cls := .type "function", data := .func fd })
    (q : SubQ Q h gs d os #[33, 32]) : wpAny (model prog w) A (call (.builtin "re.Pattern.sub") [.ref a, .ref lam, .str ⟨#[33, 32]⟩ t]) Q E ⟨h, gs, d, tk, os⟩ := by
  x_run
theorem sub_qm {prog : Program} {w : World} {A : Around} {h : Heap} {gs : Array GenState} {d : Drawn} {tk : Nat} {os : OsState} {Q E : Value → Shared → Prop} {a co lam : Addr} {v0 v1 v3 v4 : Value} {n : Nat} {t : Tok} {fd : FuncData} (hh : A.handled = none)
    (ho : h.get? a = some { cls := .type "re.Pattern", data := .fields #[v0, v1, .int 1 0, v3, v4, .ref co, .int 0 0] }) (hc : h.get? co = some { cls := .type "tuple", data := .seq codeV n }) (hl : h.get? lam = some { cls := .type "function", data := .func fd })
    (q : SubQ Q h gs d os #[63]) : wpAny (model prog w) A (call (.builtin "re.Pattern.sub") [.ref a, .ref lam, .str ⟨#[63]⟩ t]) Q E ⟨h, gs, d, tk, os⟩ := by
  x_run
end Mine
end

section
open PySem PySem.W PyProof.Rows
set_option maxRecDepth 100000
namespace Mine
theorem slot_sub : Slot "re.Pattern" "sub" "re.Pattern.sub" :=
  .of (owner := "re.Pattern") (n := "sub") (by rw [typeLookup_type, builtinLookup_eq_fast]; kernel_rfl) (by decide +kernel) (by decide +kernel) (by decide +kernel)
    (by first | exact .inl (by decide +kernel) | exact .inr (by decide +kernel)) (by rw [isSubtype_type]; kernel_rfl)
theorem type_sub : typeOf (.builtin "re.Pattern.sub") = pure (.type "method_descriptor") := by show builtinType _ = _; rw [builtinType_eq_fast]; kernel_rfl
theorem attrs_pat : PlainAttrs "re.Pattern" :=
  ⟨⟨"object.__getattribute__", by rw [typeLookup_type, builtinLookup_eq_fast]; kernel_rfl, by decide +kernel⟩, by rw [typeLookup_type, builtinLookup_eq_fast]; kernel_rfl⟩
/-- what stands for the making of nested code -/
structure Tf (g : Gb) (c : Addr) : Prop where
  hd : CodeHd g.hB c g.P
  bi : g.hB.BuiltinsAt g.mg g.P
/-- the pattern stands -/
noncomputable def PatAt (g : Gb) : Prop := ∃ m co v0 v1 v3 v4 n, g.mg "_twin_re_1" = some (.ref m) ∧ m ≠ g.P ∧ co ≠ g.P ∧ g.hB.get? m = some { cls := .type "re.Pattern", data := .fields #[v0, v1, .int 1 0, v3, v4, .ref co, .int 0 0] } ∧
  g.hB.get? co = some { cls := .type "tuple", data := .seq codeV n }
/-- the text has no sign that the pattern finds -/
noncomputable def SubOk (x : List Nat) : Prop := ∀ {prog : Program} {w : World} {A : Around} {h : Heap} {gs : Array GenState} {d : Drawn} {tk : Nat} {os : OsState} {Q E : Value → Shared → Prop} {a co lam : Addr} {v0 v1 v3 v4 : Value} {n : Nat} {t : Tok} {fd : FuncData}, A.handled = none →
  h.get? a = some { cls := .type "re.Pattern", data := .fields #[v0, v1, .int 1 0, v3, v4, .ref co, .int 0 0] } → h.get? co = some { cls := .type "tuple", data := .seq codeV n } → h.get? lam = some { cls := .type "function", data := .func fd } →
  SubQ Q h gs d os x.toArray → wpAny (model prog w) A (call (.builtin "re.Pattern.sub") [.ref a, .ref lam, .str ⟨x.toArray⟩ t]) Q E ⟨h, gs, d, tk, os⟩
theorem subOk_sp : SubOk [32] := fun h1 h2 h3 h4 q => sub_sp h1 h2 h3 h4 q
theorem subOk_bang : SubOk [33] := fun h1 h2 h3 h4 q => sub_bang h1 h2 h3 h4 q
theorem subOk_nil : SubOk [] := fun h1 h2 h3 h4 q => sub_nil h1 h2 h3 h4 q
theorem subOk_bsp : SubOk [33, 32] := fun h1 h2 h3 h4 q => sub_bsp h1 h2 h3 h4 q
theorem subOk_qm : SubOk [63] := fun h1 h2 h3 h4 q => sub_qm h1 h2 h3 h4 q
section
variable {F : Fx} {X : Prop} {σ : Ms} {K : D → Prop}
theorem lam_made {s : Shared} {c : Addr} {params : Arguments} {body : PExpr} {scope : Scope} {pos : Pos} {Q E : Value → Shared → Prop} (S : St F σ s) (T : Tf F.g c) (hc : F.env.code = .ref c) (hcl : closureFor scope F.env = pure []) (hdef : defaultsOf params F.env = ([], []))
    (h : ∀ f fd s', s'.heap.get? f = some { cls := .type "function", data := .func fd } → F.Gw s s' → s.heap.get? f = none → Q (.ref f) s') : wpAny F.g.M F.A (eval (.Lambda params body scope pos) F.env) Q E s := by
  obtain ⟨ps, ht, ok⟩ := S.tab
  have base := S.base
  have hns : s.heap.Ns mainGlobals F.g.mg := by
    obtain ⟨og, esg, epg, ng, rg⟩ := S.ok.gl.ns
    exact ⟨og, esg, epg, base _ _ S.ok.gl.p1 ng, rg⟩
  have hC : CodeHd s.heap c F.g.P := by
    obtain ⟨o, vs, file, tf, flags, tg, inF, text, tt, e1, e2, e3, e4, e5, e6, e7, e8, e9, e10⟩ := T.hd
    exact ⟨o, vs, file, tf, flags, tg, inF, text, tt, base _ _ e10 e1, e2, e3, e4, e5, e6, e7, e8, e9, e10⟩
  have hB : s.heap.BuiltinsAt F.g.mg F.g.P := by
    obtain ⟨bm, o, e1, e2, e3, e4, e5, e6, e7, e8⟩ := T.bi
    exact ⟨bm, o, e1, e2, e3, e4, base _ _ e4 e5, e6, e7, e8⟩
  have vP : vol F.g F.stack F.g.P := .inl rfl
  refine kla_eval hdef ?_
  cases hf : codeAmong pos ps.toList with
  | some cv =>
    refine kla_makeFunctionHit hcl S.ok.glob hns hc hC ht ok hf hB fun ctv h' tk k sz => h _ _ _ (Heap.get?_push_size _ rfl) ?_ (Heap.get?_none_of_le sz)
    exact Ge.fx ⟨fun b o e => Heap.get?_push_of_some _ (k b o e), rfl, rfl⟩
  | none =>
    refine kla_makeFunction hcl S.ok.glob hns hc hC ht ok hf S.ok.gl.p1 hB fun c' ctv h' tk k sz1 sz2 _ ht' => h _ _ _ (Heap.get?_push_size _ rfl) ⟨fun b o v e => ?_, fun b o v e => ⟨o.slots, ?_⟩, fun _ => ⟨_, Heap.get?_push_of_some _ ht', ?_⟩, id, rfl⟩ (Heap.get?_none_of_le (Nat.le_trans sz1 (Nat.le_of_lt sz2)))
    · exact Heap.get?_push_of_some _ (k b o (fun q => v (q ▸ vP)) e)
    · exact Heap.get?_push_of_some _ (k b o v e)
    · rw [show (ps ++ #[rawInt pos.line, rawInt pos.col, Value.ref c']).toList = ps.toList ++ [rawInt pos.line, rawInt pos.col, .ref c'] by simp]
      exact TriplesOk_snoc _ _ _ _ ok
theorem Je.sub {c : Addr} {params : Arguments} {body e : PExpr} {scope : Scope} {p0 p1 p2 p3 : Pos} {k : Nat} (hn : F.nm "_twin_re_1" = some (k, .globalImplicit)) (P : PatAt F.g) (T : Tf F.g c) (hc : F.env.code = .ref c)
    (hcl : closureFor scope F.env = pure []) (hdef : defaultsOf params F.env = ([], [])) (he : plainArg e = true) (hline : (p1.endLine == p3.line) = true)
    (h : Je F X σ e fun d => ∃ x, d = .str x ∧ SubOk x ∧ K (.str x)) :
    Je F X σ (.Call (.Attribute (.Name "_twin_re_1" p0) "sub" p1) [.Lambda params body scope p2, e] [] p3) K := fun s Q E S q xx => by
  obtain ⟨m, co, v0, v1, v3, v4, n, h1, h2, h3, h4, h5⟩ := P
  have each : starEach [.Lambda params body scope p2, e] F.env = [(false, eval (.Lambda params body scope p2) F.env), (false, eval e F.env)] := by
    have := plainArg.each (r := []) he F.env
    rw [show starEach (.Lambda params body scope p2 :: [e]) F.env = (false, eval (.Lambda params body scope p2) F.env) :: starEach [e] F.env from rfl, this]
    rfl
  refine wpAny_Call_method_lateS (by rfl) (by rw [each]; rfl) hline ?_
  obtain ⟨og, esg, epg, ng, rg⟩ := S.ok.gl.ns
  refine PySem.Calls.Name_function_global S.ok.kind (S.kindOf hn) (PySem.Calls.loadGlobal_global (mg := F.g.mg) (by rw [S.ok.glob]; exact ⟨og, esg, epg, S.base _ _ S.ok.gl.p1 ng, rg⟩) h1 ?_) (by rfl)
  refine ⟨"re.Pattern", "re.Pattern.sub", attrs_pat, slot_sub, type_sub, ⟨_, S.base _ _ h2 h4, rfl⟩, (fun a e => by cases e; exact ⟨_, S.base _ _ h2 h4, rfl⟩), ?_⟩
  refine PySem.Calls.callWith_builtin (by rw [each]; rfl) ?_
  refine PySem.Calls.evalArgs_plain ?_
  refine args_cons (lam_made S T hc hcl hdef fun f fd s₁ hf g1 hnew => ?_) (by rfl)
  refine args_cons (h s₁ _ E (S.step g1) (fun d v s₂ kk r g2 => args_nil ?_) xx) (plainArg.each he _)
  obtain ⟨x, rfl, so, kx⟩ := kk
  obtain ⟨t, rfl, hl⟩ := r
  have S2 := (S.step g1).step g2
  have hf2 : s₂.heap.get? f = some { cls := .type "function", data := .func fd } := g2.kp _ _ (fun v => by
    rcases v with v | ⟨e, m, fe⟩
    · obtain ⟨ps, tt, _⟩ := S.tab
      rw [← v, hnew] at tt; exact no tt
    · obtain ⟨_, L, o, f1, _, f2, _⟩ := S.frs e m
      rw [fe] at f1; cases f1
      rw [hnew] at f2; exact no f2) hf
  obtain ⟨hp, gs, d, tk, os⟩ := s₂
  refine so S.ok.hh (S2.base _ _ h2 h4) (S2.base _ _ h3 h5) hf2 ⟨fun h' t' k' y news hy D => ?_⟩
  subst hy
  have ge : Ge ⟨hp, gs, d, tk, os⟩ ⟨h', gs, d, k', os⟩ := ⟨fun b o e => D.keep b o e (by simp [PySem.W.X.away]), rfl, rfl⟩
  exact q _ _ _ kx ⟨t', rfl, hl⟩ ((g1.trans g2).trans ge.fx)
end
end Mine
end

section
open PySem PySem.W PyProof.Rows
set_option maxRecDepth 100000
namespace Mine
open PySem.Builtin PySem.Builtin.Str
section
variable {prog : Program} {w : World} {A : Around} {E : Value → Shared → Prop} {s : Shared} {env : Env}
theorem Call_replace {o : PExpr} {x1 z1 : Str} {c : Nat} {z : List Nat} {k1 k2 : Nat} {p1 p2 p3 p4 : Pos} {Q : Value → Shared → Prop} (e1 : x1 = ⟨[c].toArray⟩) (e2 : z1 = ⟨z.toArray⟩) (hbase : attributeBase o "replace" env (eval o env) = eval o env) (hline : (p1.endLine == p4.line) = true)
    (h : wpAny (model prog w) A (eval o env) (fun ov s₁ => ∃ x t, ov = sv x t ∧ c ∉ x ∧ ∀ k, Q (sv x t) { s₁ with toks := k }) E s) :
    wpAny (model prog w) A (eval (.Call (.Attribute o "replace" p1) [.Constant (.str x1) k1 p2, .Constant (.str z1) k2 p3] [] p4) env) Q E s := by
  subst e1 e2
  have each : starEach [.Constant (.str ⟨[c].toArray⟩) k1 p2, .Constant (.str ⟨z.toArray⟩) k2 p3] env = [(false, eval (.Constant (.str ⟨[c].toArray⟩) k1 p2) env), (false, eval (.Constant (.str ⟨z.toArray⟩) k2 p3) env)] := rfl
  refine wpAny_Call_method_lateS hbase (by rw [each]; rfl) hline (wpAny_mono h (fun ov s₁ h₁ => ?_) fun _ _ e => e)
  obtain ⟨x, t, rfl, hx, q⟩ := h₁
  refine ⟨"str", "str.replace", PySem.F.plainAttrs_str, PySem.F.slot_str_replace, PySem.F.type_str_replace, typeIs_str _ _ _, (fun _ e => nomatch e), ?_⟩
  refine PySem.Calls.callWith_builtin (by rw [each]; rfl) (PySem.Calls.evalArgs_plain ?_)
  refine args_cons (wpAny_Constant_str (args_cons (wpAny_Constant_str (args_nil ?_)))) 
  have ho : occurrences ⟨x.toArray⟩ ⟨[c].toArray⟩ 0 (⟨x.toArray⟩ : Str).length ((⟨x.toArray⟩ : Str).length + 1) = [] := occ_none (by lia) (by simp [Str.length]) fun j _ _ e => hx (List.mem_of_getElem? e)
  have g1 := gives_str_replace ⟨x.toArray⟩ ⟨[c].toArray⟩ ⟨z.toArray⟩ t s₁.toks (s₁.toks + 1) (fun q => by rw [ho] at q; exact nomatch q)
  rw [ho] at g1
  exact call_gives F.slot_str_replace (typeIs_str _ _ _) F.entry_str_replace (F.args_str_replace_3 _ _ _) g1 (q _)
end
section
variable {F : Fx} {X : Prop} {σ : Ms} {K : D → Prop}
theorem Je.genjoin {a : Addr} {x : List Nat} {c : Addr} {elt : PExpr} {scope : Scope} {sep y z : Str} {k k1 : Nat} {kd : NameKind} {p1 p2 p3 pos px pc : Pos} (hy : F.nm y = some (k, kd)) (hl : σ.loc[k]? = some (some (.own a))) (hf : σ.own.find a = some [.str x])
    (hd : (y == ("__debug__" : Str)) = false) (T : Tf F.g c) (hc : F.env.code = .ref c) (hco : scope.isCoroutine = false) (hcl : closureFor scope F.env = pure []) (hcell : ∀ y ∈ scope.names, y.2 ≠ .cell)
    (h0 : scope.names.lookup (".0" : Str) = some NameKind.local) (hx : scope.names.lookup z = some .local) (hkind : scope.kind = .function) (hline : (p2.endLine == p3.line) = true) (hsep : sep.length ≤ 100)
    (he : ∀ {A : Around} {E : Value → Shared → Prop} {s : Shared} {C : Addr} {cd : Value} {t : Tok} {m : Str → Option Value}, A.handled = Option.none → s.heap.Ns C m → m z = some (sv x t) →
      wpAny F.g.M A (eval elt (genEnv scope [] C cd builtinsNs F.env)) (fun y s' => (∃ u, y = sv x u) ∧ Keeps s s') E s) (h : K (.str x)) :
    Je F X σ (.Call (.Attribute (.Constant (.str sep) k1 p1) "join" p2) [.GeneratorExp elt [⟨.Name z px, .Name y pc, [], 0⟩] scope pos] [] p3) K := fun s Q E S q xx => by
  refine wpAny_Call_method_lateS (by rfl) (by rfl) hline (wpAny_Constant_str ?_)
  refine ⟨"str", "str.join", PySem.F.plainAttrs_str, PySem.F.slot_str_join, PySem.F.type_str_join, typeIs_str _ _ _, (fun _ e => nomatch e), ?_⟩
  refine PySem.Calls.callWith_builtin (by rfl) (PySem.Calls.evalArgs_plain ?_)
  have S1 := S.step (Ge.tok s (s.toks + 1)).fx
  obtain ⟨v, rv, w⟩ := S1.load hy hl
  cases rv
  obtain ⟨_, vs, ⟨nn, pe⟩, vl, _⟩ := S1.own a _ hf
  obtain ⟨v1, us, rfl, r1, l⟩ := vl
  cases l
  obtain ⟨t1, rfl, xl⟩ := r1
  obtain ⟨ps, ht, ok⟩ := S1.tab
  have base := S1.base
  refine args_cons (wpAny_GeneratorExp_walksQD S.ok.hh hco hcl hcell h0 hx hkind (by have := S.ok.dp; show F.A.depth < 1000; lia) ?_ (fun _ => rfl)) (by rfl)
  refine wpAny_Name (w _ E ?_) hd
  have hL : ({ s with toks := s.toks + 1 } : Shared).heap.IsList a #[sv x t1] := ⟨_, pe, rfl, nn, rfl⟩
  refine wpAny_pyIter_list hL ⟨(S.ok.gl.nolim base).push _, ?_⟩
  have hsz : s.heap.objs.size < (s.heap.push { cls := .type "list_iterator", data := .fields #[.ref a, .int 0 0] }).objs.size := by rw [Heap.size_push]; exact Nat.lt_succ_self _
  have kp1 : ∀ b o, s.heap.get? b = some o → (s.heap.push { cls := .type "list_iterator", data := .fields #[.ref a, .int 0 0] }).get? b = some o := fun b o e => Heap.get?_push_of_some _ e
  have hPlt : F.g.P < s.heap.objs.size := Heap.lt_size (show s.heap.get? F.g.P = _ from ht)
  have haP : a ≠ F.g.P := fun e => by
    have ht : s.heap.get? F.g.P = _ := ht
    have pe : s.heap.get? a = _ := pe
    rw [e, ht] at pe; cases pe
  have vP : vol F.g F.stack F.g.P := .inl rfl
  have hC : CodeHd s.heap c F.g.P := by
    obtain ⟨o, vs, file, tf, flags, tg, inF, text, tt, e1, e2, e3, e4, e5, e6, e7, e8, e9, e10⟩ := T.hd
    exact ⟨o, vs, file, tf, flags, tg, inF, text, tt, base _ _ e10 e1, e2, e3, e4, e5, e6, e7, e8, e9, e10⟩
  have hC := hC.keeps kp1
  have ht1 := kp1 _ _ ht
  refine wpAny_mono (Q := fun _ s₃ => ∃ h₃ tk ps', s₃ = { ({ s with toks := s.toks + 1 } : Shared) with heap := h₃, toks := tk } ∧ Heap.ExtBut F.g.P (s.heap.push { cls := .type "list_iterator", data := .fields #[.ref a, .int 0 0] }) h₃ ∧
      (s.heap.push { cls := .type "list_iterator", data := .fields #[.ref a, .int 0 0] }).objs.size ≤ h₃.objs.size ∧ h₃.get? F.g.P = some (tabObj ps') ∧ TriplesOk ps'.toList) (E := E) ?_ (fun cd s₃ hh => ?_) (fun _ _ e => e)
  · cases hf2 : codeAmong pos ps.toList with
    | some cv => exact wpAny_genexprCode_hit hc (hC.code ht1 ok) hf2 ⟨_, _, ps, rfl, Heap.ExtBut.refl _ _, Nat.le_refl _, ht1, ok⟩
    | none =>
      refine wpAny_genexprCodeX hc (hC.code ht1 ok) (hC.tab ht1) hf2 fun c' h' tk k sz1 sz2 _ _ ht2 _ => ⟨_, _, _, rfl, k, Nat.le_trans sz1 (Nat.le_of_lt sz2), ht2.2, ?_⟩
      rw [show (ps ++ #[rawInt pos.line, rawInt pos.col, Value.ref c']).toList = ps.toList ++ [rawInt pos.line, rawInt pos.col, .ref c'] by simp]
      exact TriplesOk_snoc _ _ _ _ ok
  obtain ⟨h₃, tk, ps', rfl, k3, sz3, ht3, ok3⟩ := hh
  have hsI : s.heap.objs.size < h₃.objs.size := Nat.lt_of_lt_of_le hsz sz3
  have kp3 : ∀ b o, b ≠ F.g.P → s.heap.get? b = some o → h₃.get? b = some o := fun b o n e => k3 b o n (kp1 b o e)
  obtain ⟨bm, ob, b1, b2, b3, b4, b5, b6, b7, b8⟩ := T.bi
  obtain ⟨og, esg, epg, ng, rg⟩ := S.ok.gl.ns
  have base3 : ∀ b o, b ≠ F.g.P → F.g.hB.get? b = some o → h₃.get? b = some o := fun b o n e => kp3 b o n (S.base b o n e)
  refine wpAny_builtinsFor (m := F.g.mg) (by rw [S.ok.glob]; exact ⟨og, esg, epg, base3 _ _ S.ok.gl.p1 ng, rg⟩) b1 b2 (base3 _ _ b4 b5) b6 b7 b8 ?_
  have hne : a ≠ s.heap.objs.size := Nat.ne_of_lt (Heap.lt_size (show s.heap.get? a = _ from pe))
  have hI : s.heap.objs.size ≠ F.g.P := fun e => Nat.lt_irrefl _ (e ▸ hPlt)
  refine ⟨s.heap.objs.size, [s.heap.objs.size, a], [s.heap.objs.size], 1, _, _, fun _ => true, fun _ y => ∃ u, y = sv x u, rfl, (fun A' hA => Walks.list hA _ _ hne #[sv x t1]), ⟨⟨_, k3 _ _ hI (Heap.get?_push_size _ rfl), rfl, rfl⟩, ⟨_, kp3 _ _ haP pe, rfl, nn, rfl⟩⟩, ?_, S.ok.gl.nolim base3, ?_, ?_, ?_⟩
  · intro b hb
    rcases List.mem_cons.mp hb with rfl | hb
    · exact hsI
    · rcases List.mem_cons.mp hb with rfl | hb
      · exact Nat.lt_trans (Heap.lt_size (show s.heap.get? b = _ from pe)) hsI
      · exact nomatch hb
  · intro hm
    rcases List.mem_cons.mp hm with e | hb
    · obtain ⟨_, hn, _⟩ := S.ok.gl.nolim S.base
      exact Nat.lt_irrefl _ (e ▸ hn.lt)
    · exact nomatch hb
  · intro href hk
    refine ⟨fun A' E' i v s₂ m₂ hA _ _ _ _ _ _ => wpAny_pure ⟨rfl, _, _, rfl, fun _ _ e => e⟩, fun A' E' i v s₂ m₂ hA _ _ hP _ hn hm _ => ?_⟩
    have : v = sv x t1 := by
      cases i with
      | zero => exact (Option.some.inj hP).symm
      | succ i => exact nomatch (show (Option.none : Option Value) = some v from hP)
    subst this
    exact he hA hn hm
  · intro a' h₅ tk5 gs hb hlt hsz5 hk5 W hat
    refine args_nil ?_
    have W := W.in4_2
    refine SC.joinGen W (fun i s' st => st.1.typeIs) hat (fun b hb => ?_) List.mem_cons_self (fun j v hv => let ⟨_, _, u, e⟩ := hv; ⟨_, u, e⟩) (fun s' lt hm hacc => ?_) (by rw [sizeLine_eq]; show 1 ≤ 16777216; decide)
    · show b < h₅.objs.size
      rw [hsz5]
      rcases List.mem_cons.mp hb with rfl | hb
      · exact Nat.lt_succ_self _
      · rcases List.mem_cons.mp hb with rfl | hb
        · exact Nat.lt_succ_of_lt hlt
        · exact Nat.lt_succ_of_lt (Nat.lt_trans (List.mem_range.mp hb) hlt)
    have hl1 : lt.map (·.1) = [(⟨x.toArray⟩ : Str)] := by
      have h1 : lt.length = 1 := by
        have h2 : (strValues lt).toArray.size = 1 := hacc.1
        simpa [strValues] using h2
      match lt, h1 with
      | [p], _ =>
        obtain ⟨_, _, u, e⟩ := hacc.2 0 (.str p.1 p.2) rfl
        injection e with e1 e2
        rw [List.map_cons, e1]; rfl
    rw [hl1]
    refine ⟨?_, fun t' kk => q _ _ _ h ⟨t', by rfl, xl⟩ ?_⟩
    · show (!tooLong (0 + (⟨x.toArray⟩ : Str).length + sep.length)) = true
      have : (⟨x.toArray⟩ : Str).length = x.length := by simp [Str.length]
      rw [this]
      have xl : x.length ≤ 100000 := xl
      have : ¬ (0 + x.length + sep.length > 2 ^ 24) := by lia
      simp [tooLong, sizeLine] at this ⊢
      lia
    · have kA : ∀ b o, b ≠ F.g.P → s.heap.get? b = some o → s'.heap.get? b = some o := fun b o n e => hm.heap b o (fun hb => by
        have hlt' := Heap.lt_size e
        rcases List.mem_cons.mp hb with rfl | hb
        · exact Nat.lt_irrefl _ (Nat.lt_trans hlt' hsI)
        · rcases List.mem_cons.mp hb with rfl | hb
          · exact Nat.lt_irrefl _ hlt'
          · exact nomatch hb) (hk5 b o (kp3 b o n e))
      refine ⟨fun b o v e => kA b o (fun e' => v (e' ▸ vP)) e, fun b o n e => ⟨o.slots, kA b o n e⟩, fun _ => ⟨ps', hm.heap _ _ (fun hb => ?_) (hk5 _ _ ht3), ok3⟩, fun hB => ?_, hm.os⟩
      · rcases List.mem_cons.mp hb with e | hb
        · have e : F.g.P = h₃.objs.size := e
          exact Nat.lt_irrefl _ (Nat.lt_trans (e ▸ hPlt) hsI)
        · rcases List.mem_cons.mp hb with e | hb
          · exact hI e.symm
          · exact nomatch hb
      · exact (show AllBare s'.gens from AllBare.movedS (AllBare.push hB hb) hm)
end
/-- the element of _translate's generator -/
theorem elt_ok {prog : Program} {w : World} {A : Around} {E : Value → Shared → Prop} {s : Shared} {env : Env} {x : List Nat} {t : Tok} {m : Str → Option Value} {z x1 z1 x2 z2 : Str} {l1 l2 : List Nat} {c1 c2 k1 k2 k3 k4 : Nat} {p0 p1 p2 p3 p4 p5 p6 p7 p8 : Pos}
    (e1 : x1 = ⟨[c1].toArray⟩) (e2 : z1 = ⟨l1.toArray⟩) (e3 : x2 = ⟨[c2].toArray⟩) (e4 : z2 = ⟨l2.toArray⟩) (hk : env.scope.kind = .function) (hz : env.kindOf z = some .local) (hn : s.heap.Ns env.locals m) (hm : m z = some (sv x t)) (hd : (z == ("__debug__" : Str)) = false)
    (h1 : (p1.endLine == p4.line) = true) (h2 : (p5.endLine == p8.line) = true) (n1 : c1 ∉ x) (n2 : c2 ∉ x) :
    wpAny (model prog w) A (eval (.Call (.Attribute (.Call (.Attribute (.Name z p0) "replace" p1) [.Constant (.str x1) k1 p2, .Constant (.str z1) k2 p3] [] p4) "replace" p5) [.Constant (.str x2) k3 p6, .Constant (.str z2) k4 p7] [] p8) env) (fun y s' => (∃ u, y = sv x u) ∧ Keeps s s') E s := by
  refine Call_replace e3 e4 (by rfl) h2 (Call_replace e1 e2 (by rfl) h1 (wpAny_Name (wpAny_loadName_local hk hz hn hm ⟨x, t, rfl, n1, fun k => ⟨x, t, rfl, n2, fun k' => ?_⟩⟩) hd))
  exact ⟨⟨t, rfl⟩, _, _, rfl, fun _ _ e => e⟩
end Mine
end

section
open PySem PySem.W PyProof.Rows
set_option maxRecDepth 100000
namespace Mine
theorem VL.set {Z : Addr → Prop} {h : Heap} {d : D} {v : Value} : ∀ {ds : List D} {vs : List Value} {n : Nat}, VL Z h ds vs → Vr Z h d v → VL Z h (ds.set n d) (vs.set n v)
  | [], _, _, e, _ => by cases e; rfl
  | _ :: _, _, 0, ⟨u, us, e, x, y⟩, r => by subst e; exact ⟨v, us, rfl, r, y⟩
  | _ :: _, _, n + 1, ⟨u, us, e, x, y⟩, r => by subst e; exact ⟨u, us.set n v, rfl, x, VL.set y r⟩
theorem VL.erase {Z : Addr → Prop} {h : Heap} : ∀ {ds : List D} {vs : List Value} {n : Nat}, VL Z h ds vs → VL Z h (ds.eraseIdx n) (vs.eraseIdx n)
  | [], _, _, e => by cases e; rfl
  | _ :: _, _, 0, ⟨u, us, e, x, y⟩ => by subst e; exact y
  | _ :: _, _, n + 1, ⟨u, us, e, x, y⟩ => by subst e; exact ⟨u, us.eraseIdx n, rfl, x, VL.erase y⟩
section
variable {F : Fx} {X : Prop} {σ : Ms} {K : Po}
/-- x[i] = e, x one's own list -/
theorem J1.setit {x : Str} {p q pos : Pos} {i e : PExpr} {k : Nat} {kd : NameKind} {a : Addr} (hx : F.nm x = some (k, kd)) (hl : σ.loc[k]? = some (some (.own a))) (hd : (x == ("__debug__" : Str)) = false)
    (hs : swapsWith e (some (.Subscript (.Name x p) i q)) pos.line F.env = pure false)
    (h : Je F False σ e fun d => Je F False σ i fun y => ∃ (n : Nat) (ds : List D), y = .int n ∧ σ.own.find a = some ds ∧ n < ds.length ∧ K.n ⟨σ.loc, σ.own.upd a (ds.set n d)⟩) :
    J1 F X σ (.Assign [.Subscript (.Name x p) i q] e pos) K := fun s Q E S qn qb qr xx => by
  refine wpAny_Assign_Subscript (h s _ E S (fun d v s₁ kk r g => ?_) (fun f => f.elim)) hs
  have S₁ := S.step g
  obtain ⟨u, ru, w⟩ := S₁.load hx hl
  cases ru
  refine wpAny_Name (w _ E (kk s₁ _ E S₁ (fun y u s₂ k2 r2 g2 => ?_) (fun f => f.elim))) hd
  obtain ⟨n, ds, rfl, hf, hn, kn⟩ := k2
  obtain ⟨t, rfl⟩ := r2
  have S₂ := S₁.step g2
  obtain ⟨_, vs, ⟨nn, pe⟩, al, n2⟩ := S₂.own a ds hf
  have n2 : ds.length ≤ 100000 := n2
  have hlen := al.length
  refine ki_setAt (items := vs.toArray) (n := nn) pe (Int.natCast_nonneg _) (by lia) (by simp only [List.size_toArray]; lia) ?_
  refine qn _ _ kn (S₂.setl hf (Heap.SameBut.update ..) (vs' := vs.set n v) ⟨if (vs.toArray.setIfInBounds n v).size == vs.toArray.size then nn else nn + 1, ?_⟩ (VL.set al (r.step g2)) (by rw [List.length_set]; exact n2))
  have := IsL.update (n := nn) (h := s₂.heap) (l := a) (items := vs.toArray) pe (·.setIfInBounds n v)
  simpa using this
/-- del x[i], x one's own list -/
theorem J1.delit {x : Str} {p q pos : Pos} {i : PExpr} {k : Nat} {kd : NameKind} {a : Addr} (hx : F.nm x = some (k, kd)) (hl : σ.loc[k]? = some (some (.own a))) (hd : (x == ("__debug__" : Str)) = false)
    (h : Je F False σ i fun y => ∃ (n : Nat) (ds : List D), y = .int n ∧ σ.own.find a = some ds ∧ n < ds.length ∧ K.n ⟨σ.loc, σ.own.upd a (ds.eraseIdx n)⟩) :
    J1 F X σ (.Delete [.Subscript (.Name x p) i q] pos) K := fun s Q E S qn qb qr xx => by
  obtain ⟨u, ru, w⟩ := S.load hx hl
  cases ru
  refine wpAny_Delete (wpAny_deleteEach_cons (wpAny_delete_Subscript (wpAny_Name (w _ E (h s _ E S (fun y u s₂ k2 r2 g2 => ?_) (fun f => f.elim))) hd)))
  obtain ⟨n, ds, rfl, hf, hn, kn⟩ := k2
  obtain ⟨t, rfl⟩ := r2
  have S₂ := S.step g2
  obtain ⟨_, vs, ⟨nn, pe⟩, al, n2⟩ := S₂.own a ds hf
  have n2 : ds.length ≤ 100000 := n2
  have hlen := al.length
  refine wpAny_delItem_plain (items := vs.toArray) (k := n) ⟨nn, pe⟩ ?_ ?_ (fun h' pl sb => ?_) (by rw [sizeLine_eq]; simp only [List.size_toArray]; lia)
  · simp only [Builtin.List.listFitsIndex, Bool.and_eq_true, decide_eq_true_eq]; lia
  · have : n < vs.length := by lia
    simp only [seqIndex?, List.size_toArray]
    rw [if_neg (show ¬ ((n : Int) < 0) by lia), if_pos (by simp only [Bool.and_eq_true, decide_eq_true_eq]; lia)]; rfl
  obtain ⟨n3, e3⟩ := pl
  refine wpAny_deleteEach_nil (qn _ _ kn (S₂.setl hf sb (vs' := vs.eraseIdx n) ⟨n3, ?_⟩ (VL.erase al) (Nat.le_trans (List.length_eraseIdx_le ..) n2)))
  rw [e3]
  have : n < vs.length := by lia
  simp [Array.eraseIdxIfInBounds, this]
/-- for x in range(e1, e2, e3): one turn -/
theorem J1.for10 {Kn Kb : Ms → Prop} {Kr : Ms → D → Prop} {x : Str} {p q r pos : Pos} {e1 e2 e3 : PExpr} {body : List Stmt} {k k' : Nat} (hX : ¬ X) (hx : F.nm x = some (k, .local)) (hn : F.nm "range" = some (k', .globalImplicit)) (hst : starEach [e1, e2, e3] F.env = [(false, eval e1 F.env), (false, eval e2 F.env), (false, eval e3 F.env)])
    (h : Ja F False σ [e1, e2, e3] fun ds => ds = [.int 1, .int 0, .int (-1)] ∧ ∀ it o v, Js (F.with it o .none v) X ⟨σ.loc.set k (some (.int 1)), σ.own⟩ body ⟨Kn, Kn, Kr⟩) :
    J1 F X σ (.For (.Name x p) (.Call (.Name "range" q) [e1, e2, e3] [] r) body [] pos) ⟨Kn, Kb, Kr⟩ := fun s Q E S qn qb qr xx => by
  refine wpAny_For (wpAny_Call_NameR (S.builtin (v := .type "range") hn free_range (by decide +kernel) (by decide) (by decide) ?_)) (by intro _; rfl)
  have h := h r
  rw [hst] at h ⊢
  refine PySem.callWith_type rfl (PySem.Calls.evalArgs_plain (h s _ E S (fun ds vs s₁ kk l g => ?_) (fun f => f.elim)))
  obtain ⟨rfl, kb⟩ := kk
  obtain ⟨v1, us, rfl, ⟨t, rfl⟩, v2, us', rfl, ⟨u, rfl⟩, v3, us'', rfl, ⟨w, rfl⟩, l⟩ := l
  cases l
  refine call_range_3 (by decide) ?_
  refine wpAny_pyIter_range (IsRange.new ..) (by decide) ?_
  have gp := Ge.push s₁ { cls := .type "range", data := .fields #[.int 1 t, .int 0 u, .int (-1) w] } s₁.toks
  have S₁ := (S.step g).step gp.fx
  obtain ⟨S₂, n0, np⟩ := S₁.iter (o := rIt 1 1 (-1)) (d := .none) (v := .none) (tk := s₁.toks) rfl rfl
  exact range_loop (K := ⟨Kn, Kb, Kr⟩) (c := -1) (n := 1) S₂ n0 np hX hx (fun i σ' => match i with | 0 => σ' = σ | _ => Kn σ') rfl (fun i σ₁ hi k1 it o v => by
    obtain rfl : i = 0 := by lia
    cases k1
    exact kb it o v) (fun σ₁ h => h) qn qr
end
end Mine
end

section
open PySem PySem.W PyProof.Rows
set_option maxRecDepth 100000
namespace Mine
/-- an item's text, and the part that is made of it -/
noncomputable def TrOk (t : List Nat) (o : Pt) : Prop := (t = [42] ∧ o = none) ∨ (t = [63] ∧ o = some [32]) ∨ (∃ c, c < 128 ∧ c ≠ 42 ∧ c ≠ 63 ∧ c ≠ 91 ∧ t = [c] ∧ o = some (esc c)) ∨
  (∃ (b : Bool) (w' : List Nat) (w'' : List Nat), t = 91 :: ((if b then [33] else []) ++ w' ++ [93]) ∧
    ((b = false ∧ w' = [32] ∧ o = some [91, 32, 93]) ∨ (b = false ∧ w' = [63] ∧ o = some [91, 63, 93]) ∨ (b = true ∧ w' = [32] ∧ o = some [91, 94, 32, 93]) ∨ (b = false ∧ w' = [98, 45, 97] ∧ o = some [40, 63, 33, 41]) ∨ (b = true ∧ w' = [98, 45, 97] ∧ o = some [46])))
noncomputable def trStep (acc : List Pt) (o : Pt) : List Pt := if o = none ∧ acc.getLast? = some none then acc else acc ++ [o]
noncomputable def trOf (os : List Pt) : List Pt := os.foldl trStep []
theorem trOf_snoc (os : List Pt) (o : Pt) : trOf (os ++ [o]) = trStep (trOf os) o := by simp [trOf]
theorem trStep_len (acc : List Pt) (o : Pt) : (trStep acc o).length ≤ acc.length + 1 := by
  unfold trStep
  by_cases h : o = none ∧ acc.getLast? = some none
  · rw [if_pos h]; exact Nat.le_succ _
  · rw [if_neg h, List.length_append]; exact Nat.le_refl _
theorem trOf_len (os : List Pt) : (trOf os).length ≤ os.length := by
  suffices h : ∀ (os acc : List Pt), (os.foldl trStep acc).length ≤ acc.length + os.length by simpa [trOf] using h os []
  intro os
  induction os with
  | nil => intro acc; exact Nat.le_refl _
  | cons o r ih =>
    intro acc
    have h1 := ih (trStep acc o)
    have h2 := trStep_len acc o
    rw [List.foldl_cons, List.length_cons]
    omega
theorem trStep_some (acc : List Pt) (t : List Nat) : trStep acc (some t) = acc ++ [some t] := if_neg fun e => nomatch e.1
theorem tru_own {ω : Own} {r : Addr} {ds : List D} (h : ω.find r = some ds) : dTru ω (.own r) = some (!ds.isEmpty) := by
  show (ω.find r).map _ = _
  rw [h]; rfl
/-- what is proved later -/
structure Kx (p : Prop) : Prop where
  h : p
theorem keyd {p q : Prop} (h : Kx q → p) (k : q) : p := h ⟨k⟩
theorem wsnil {F : Fx} {X : Prop} {m n : Nat} {σ : Ms} {Kn Kb : Ms → Prop} {Kr : Ms → D → Prop} {N : Ms → Prop} (key : ∀ σ', N σ' → Kn σ') (h : N σ) : Ws F X m (n + 1) [] ⟨Kn, Kb, Kr⟩ σ := key σ h
theorem midw {F : Fx} {X : Prop} {σ : Ms} {Kn Kb : Ms → Prop} {Kr : Ms → D → Prop} {st : Stmt} {N : Ms → Prop} (key : ∀ σ', N σ' → Kn σ') (h : J1 F X σ st ⟨N, Kb, Kr⟩) : J1 F X σ st ⟨Kn, Kb, Kr⟩ := J1.mid N h key
theorem whw {F : Fx} {X : Prop} {σ : Ms} {K : Po} {st : Stmt} {N : Ms → Prop} (key : ∀ σ', N σ' → J1 F X σ' st K) (h : N σ) : J1 F X σ st K := key σ h
noncomputable def St5 (s o : List Nat) : Prop := (s = [32] ∧ o = [91, 32, 93]) ∨ (s = [63] ∧ o = [91, 63, 93]) ∨ (s = [33, 32] ∧ o = [91, 94, 32, 93]) ∨ (s = [] ∧ o = [40, 63, 33, 41]) ∨ (s = [33] ∧ o = [46])
theorem St5.sub {s o : List Nat} (h : St5 s o) : SubOk s := by
  rcases h with ⟨rfl, _⟩ | ⟨rfl, _⟩ | ⟨rfl, _⟩ | ⟨rfl, _⟩ | ⟨rfl, _⟩
  · exact subOk_sp
  · exact subOk_qm
  · exact subOk_bsp
  · exact subOk_nil
  · exact subOk_bang
theorem lenOwn {ω : Own} {r : Addr} {ds : List D} (h : ω.find r = some ds) : dLen ω (.own r) = some ds.length := by
  have e : seqOf ω (.own r) = some ds := by
    show ((ω.find r).or _) = _
    rw [h]; rfl
  show ((seqOf ω (.own r)).map List.length).or _ = _
  rw [e]; rfl
/-- the function's locals: i, then stuff, j, .. -/
noncomputable def tS (x : List Nat) (a r : Addr) (i : Int) (f1 f2 f3 f4 f5 f6 : Option D) (own : Own) : Ms :=
  ⟨[some (.str x), some (.box a), some (.str [32]), some (.own r), some (.meth r), some (.int i), some (.int (x.length : Nat)), f1, f2, f3, f4, f5, f6, none, none, none, none], own⟩
noncomputable def TrF (x : List Nat) (a r : Addr) (L : List D) (σ : Ms) : Prop := ∃ f1 f2 f3 f4 f5 f6 own, σ = tS x a r (x.length : Nat) f1 f2 f3 f4 f5 f6 own ∧ own.find r = some L
noncomputable def TrA (x : List Nat) (a r : Addr) (p e : Int) (f3 f4 f5 f6 : Option D) (own : Own) (σ : Ms) : Prop := σ = tS x a r p (some (.str [91])) (some (.int e)) f3 f4 f5 f6 own
noncomputable def TrB (x : List Nat) (a r : Addr) (p : Int) (w : Nat) (f3 f4 f5 f6 : Option D) (own : Own) (σ : Ms) : Prop := ∃ (v : Int) (j : Nat), σ = tS x a r p (some (.str [91])) (some (.int v)) f3 f4 f5 f6 own ∧ v = p + j ∧ j ≤ w
noncomputable def TrW (x : List Nat) (a r : Addr) (p : Int) (w : Nat) (f3 f4 f5 f6 : Option D) (own : Own) (m : Nat) (σ : Ms) : Prop := ∃ (v : Int) (j : Nat), σ = tS x a r p (some (.str [91])) (some (.int v)) f3 f4 f5 f6 own ∧ v = p + j ∧ j ≤ w ∧ m = w - j
noncomputable def TrC (x : List Nat) (a r : Addr) (e : Int) (L : List D) (q : Pt) (σ : Ms) : Prop := ∃ f4 f5 f6 own s5 o i5, σ = tS x a r i5 (some (.str [91])) (some (.int e)) (some (.str s5)) f4 f5 f6 own ∧ own.find r = some L ∧ q = some o ∧ St5 s5 o
noncomputable def TrV (x : List Nat) (a r ch : Addr) (p e v : Int) (f6 : Option D) (L M : List D) (σ : Ms) : Prop := ∃ (v' : Int) (f3' : Option D) (ω : Own), σ = tS x a r p (some (.str [91])) (some (.int e)) f3' (some (.own ch)) (some (.int v')) f6 ω ∧ v' = v ∧ ω.find ch = some M ∧ ω.find r = some L
noncomputable def TrD (x : List Nat) (a r ch : Addr) (p e v : Int) (f6 : Option D) (L M : List D) (σ : Ms) : Prop := ∃ (f3' : Option D) (ω : Own), σ = tS x a r p (some (.str [91])) (some (.int e)) f3' (some (.own ch)) (some (.int v)) f6 ω ∧ ω.find ch = some M ∧ ω.find r = some L
noncomputable def TrG (x : List Nat) (a r ch : Addr) (p e : Int) (L M : List D) (σ : Ms) : Prop := ∃ (f3' f11 f12 : Option D) (ω : Own), σ = tS x a r p (some (.str [91])) (some (.int e)) f3' (some (.own ch)) f11 f12 ω ∧ ω.find ch = some M ∧ ω.find r = some L
/-- the state ahead of an item -/
noncomputable def TrI (a : Nat) (r : Addr) (x : List Nat) (its : List (List Nat × Pt)) (n : Nat) (σ : Ms) : Prop := ∃ done rest f1 f2 f3 f4 f5 f6 own, its = done ++ rest ∧ rest.length = n ∧
  σ = tS x a r ((catL (done.map (·.1))).length : Nat) f1 f2 f3 f4 f5 f6 own ∧ own.find r = some ((trOf (done.map (·.2))).map (PtD a))
set_option maxHeartbeats 8000000 in
theorem translate_ok (g : Gb) (c0 : Addr) (hat : FnAtC g (fnGet 8) c0) (T : Tf g c0) (PA : PatAt g) (he : FnAt g (fnGet 6)) (HM : MapAt g) (a : Nat) (its : List (List Nat × Pt)) (ok : ∀ p ∈ its, TrOk p.1 p.2) (len : its.length ≤ 10000) (hl : (catL (its.map (·.1))).length ≤ 50000) :
    Ct g 2 (fnGet 8).name [.str (catL (its.map (·.1))), .box a, .str [32]] (some (.lst ((trOf (its.map (·.2))).map (PtD a)))) := by
  refine Ct.plainC ["pat", "STAR", "QUESTION_MARK"] [("res", .local), ("add", .local), ("i", .local), ("n", .local), ("c", .local), ("j", .local), ("stuff", .local), ("chunks", .local), ("k", .local), ("chunk", .local), ("len", .globalImplicit), ("range", .globalImplicit), ("_twin_re_1", .globalImplicit), ("escape", .globalImplicit)] hat rfl rfl (by decide) (fun pm c doc vs h => ?_) (by decide) (by decide) rfl rfl rfl (fun L ad A' s l Zc hP => ?_)
  · obtain ⟨_, _, _, rfl⟩ := vs3 h
    rfl
  conv => arg 4; whnf
  refine Ws.ok (m := 30) (n := 4) ?_
  conv => whnf
  refine ⟨J1.newl (k := 3) rfl fun r hr => ?_⟩
  conv => whnf
  refine ⟨Je.meth (k' := 3) (kd := .local) rfl rfl Own.find_new (by decide) ?_⟩
  conv => whnf
  refine ⟨J1.tup2 (k := 5) (k' := 6) rfl rfl (by decide) (by rfl) (by first | exact Or.inl rfl | exact Or.inr rfl) (We.ok (n := 30) ?_)⟩
  conv => whnf
  refine ⟨show 2 ≤ 100000 by decide, _, _, rfl, ?_⟩
  conv => whnf
  generalize hx : catL (its.map (·.1)) = x at hl ⊢
  refine ⟨J1.mid (TrF x a r ((trOf (its.map (·.2))).map (PtD a))) ?_ ?_⟩
  · refine J1.while (fun h => absurd h (by simp)) (TrI a r x its) its.length ⟨[], its, none, none, none, none, none, none, [(r, [])], rfl, rfl, rfl, Own.find_new⟩ ?_
    rintro n σ ⟨done, rest, f1, f2, f3, f4, f5, f6, own, h1, h2, rfl, h3⟩
    refine Wt.ok (n := 30) (we := We _ _ _ 30) (fun _ _ => We.ok) ?_
    conv => whnf
    have hx' : x = catL (done.map (·.1)) ++ catL (rest.map (·.1)) := by rw [← hx, h1, List.map_append, catL_append]
    refine ⟨fun h4 => ?_, fun h4 => ?_⟩
    · have h4 : ((catL (done.map (·.1))).length : Int) < x.length := of_decide_eq_true h4
      cases rest with
      | nil => rw [hx', List.map_nil, catL, List.append_nil] at h4; exact absurd h4 (Int.lt_irrefl _)
      | cons p rest =>
      refine Ws.ok (m := 30) (n := 30) ?_
      generalize hP : catL (done.map (·.1)) = P at hx' h4 ⊢
      have hx2 : x = P ++ (p.1 ++ catL (rest.map (·.1))) := hx'
      have ix : ∀ (k : Nat) (c : Nat), (p.1 ++ catL (rest.map (·.1)))[k]? = some c → (seqIndex? ((P.length : Int) + k) x.length).bind (fun y => x[y]?) = some c := fun k c e => by
        have := at_nat (xs := x) (k := P.length + k) (x := c) (by rw [hx2, List.getElem?_append_right (by omega), Nat.add_sub_cancel_left]; exact e)
        rw [Int.natCast_add] at this
        exact this
      have nx : ∀ (o : Pt) (f1 f2 f3 f4 f5 f6 : Option D) (own : Own), p.2 = o → own.find r = some ((trStep (trOf (done.map (·.2))) o).map (PtD a)) → ∃ m, m < n ∧ TrI a r x its m (tS x a r ((P.length : Int) + (p.1.length : Nat)) f1 f2 f3 f4 f5 f6 own) :=
        fun o f1 f2 f3 f4 f5 f6 own e1 e2 => ⟨rest.length, by rw [← h2]; exact Nat.lt_succ_self _, done ++ [p], rest, f1, f2, f3, f4, f5, f6, own, by rw [h1, List.append_assoc]; rfl, rfl, by rw [List.map_append, catL_append, hP, List.length_append, List.map_cons, List.map_nil, catL, catL, List.append_nil, Int.natCast_add], by
          rw [e2, List.map_append, ← e1]; exact congrArg (fun z => some (List.map (PtD a) z)) (trOf_snoc _ _).symm⟩
      have hlen : (trOf (done.map (·.2))).length < 100000 := by
        have h5 := trOf_len (done.map (·.2))
        rw [List.length_map] at h5
        rw [h1, List.length_append] at len
        omega
      conv => whnf
      rcases ok p (by rw [h1]; simp) with ⟨e, eo⟩ | ⟨e, eo⟩ | ⟨c, cl, c1, c2, c3, e, eo⟩ | ⟨b, w, _, e, eo⟩
      · rw [show (seqIndex? (P.length : Int) x.length).bind (fun y => x[y]?) = some 42 from ix 0 42 (by rw [e]; rfl)]
        conv => whnf
        refine ⟨fun _ => ?_, fun h => noF h⟩
        conv => whnf
        refine onSome.of (tru_own h3) ?_
        refine ⟨fun h5 => ⟨fun _ => ?_, noF⟩, fun h5 => ?_⟩
        · conv => whnf
          refine ⟨J1.add (a := r) (k := 4) (kd := .local) rfl rfl (by decide) rfl rfl (We.ok (n := 30) ?_)⟩
          conv => whnf
          refine ⟨_, h3, by rw [List.length_map]; exact hlen, ?_⟩
          conv => whnf
          rw [e] at nx
          refine nx none _ _ _ _ _ _ _ eo (fu h3 ?_)
          have h6 : trOf (done.map (·.2)) = [] := by
            cases h7 : trOf (done.map (·.2)) with
            | nil => rfl
            | cons y z => rw [h7] at h5; exact noT h5
          rw [h6]; rfl
        · conv => whnf
          have h6 : trOf (done.map (·.2)) ≠ [] := fun e => by rw [e] at h5; exact noF h5
          obtain ⟨A, q, h7⟩ : ∃ A q, trOf (done.map (·.2)) = A ++ [q] := ⟨_, _, (List.dropLast_concat_getLast h6).symm⟩
          rw [h7, List.map_append] at h3
          refine onSome.of (dIdx_own (d := PtD a q) h3 (at_last (by simp))) ?_
          conv => whnf
          cases q with
          | none =>
            rw [show cop .IsNot (PtD a none) (.box a) = some false by simp [cop, cis, PtD]]
            refine ⟨fun h => noT h, fun _ => ⟨fun h => noT h, fun _ => ?_⟩⟩
            conv => whnf
            rw [e] at nx
            refine nx none _ _ _ _ _ _ _ eo ?_
            rw [h7, trStep, if_pos ⟨rfl, by simp⟩, List.map_append]
            exact h3
          | some q =>
            conv => whnf
            refine ⟨fun _ => ⟨fun _ => ?_, fun h => noF h⟩, fun h => noF h⟩
            conv => whnf
            refine ⟨J1.add (a := r) (k := 4) (kd := .local) rfl rfl (by decide) rfl rfl (We.ok (n := 30) ?_)⟩
            conv => whnf
            refine ⟨_, h3, by rw [← List.map_append, ← h7, List.length_map]; exact hlen, ?_⟩
            conv => whnf
            rw [e] at nx
            refine nx none _ _ _ _ _ _ _ eo (fu h3 ?_)
            rw [h7, trStep, if_neg (fun h => by simp at h), List.map_append, List.map_append]
            rfl
      · rw [show (seqIndex? (P.length : Int) x.length).bind (fun y => x[y]?) = some 63 from ix 0 63 (by rw [e]; rfl)]
        conv => whnf
        refine ⟨fun h => noT h, fun _ => ?_⟩
        conv => whnf
        refine ⟨fun _ => ?_, fun h => noF h⟩
        conv => whnf
        refine ⟨J1.add (a := r) (k := 4) (kd := .local) rfl rfl (by decide) rfl rfl (We.ok (n := 30) ?_)⟩
        conv => whnf
        refine ⟨_, h3, by rw [List.length_map]; exact hlen, ?_⟩
        conv => whnf
        rw [e] at nx
        refine nx (some [32]) _ _ _ _ _ _ _ eo (fu h3 ?_)
        rw [trStep_some, List.map_append]
        rfl
      · rw [show (seqIndex? (P.length : Int) x.length).bind (fun y => x[y]?) = some c from ix 0 c (by rw [e]; rfl)]
        conv => whnf
        refine ⟨fun h => absurd (List.head_eq_of_cons_eq (eq_of_beq h)) c1, fun _ => ?_⟩
        conv => whnf
        refine ⟨fun h => absurd (List.head_eq_of_cons_eq (eq_of_beq h)) c2, fun _ => ?_⟩
        conv => whnf
        refine ⟨fun h => absurd (List.head_eq_of_cons_eq (eq_of_beq h)) c3, fun _ => ?_⟩
        conv => whnf
        refine ⟨J1.add (a := r) (k := 4) (kd := .local) rfl rfl (by decide) rfl rfl (We.ok (n := 30) ?_)⟩
        conv => whnf
        refine ⟨0, _, show 0 < 2 by decide, escape_ok g he HM c cl, ?_⟩
        refine ⟨_, h3, by rw [List.length_map]; exact hlen, ?_⟩
        conv => whnf
        rw [e] at nx
        refine nx (some (esc c)) _ _ _ _ _ _ _ eo (fu h3 ?_)
        rw [trStep_some, List.map_append]
        rfl
      · rw [show (seqIndex? (P.length : Int) x.length).bind (fun y => x[y]?) = some 91 from ix 0 91 (by rw [e]; rfl)]
        conv => whnf
        refine ⟨fun h => noT h, fun _ => ?_⟩
        conv => whnf
        refine ⟨fun h => noT h, fun _ => ?_⟩
        conv => whnf
        refine ⟨fun _ => ?_, fun h => noF h⟩
        obtain ⟨W, hWe, hW1, hW2, hW3⟩ : ∃ W, p.1 = 91 :: (W ++ [93]) ∧ W ≠ [] ∧ (∀ d ∈ W, d ≠ 93) ∧ ((W = [32] ∧ p.2 = some [91, 32, 93]) ∨ (W = [63] ∧ p.2 = some [91, 63, 93]) ∨ (W = [33, 32] ∧ p.2 = some [91, 94, 32, 93]) ∨ (W = [98, 45, 97] ∧ p.2 = some [40, 63, 33, 41]) ∨ (W = [33, 98, 45, 97] ∧ p.2 = some [46])) := by
          rcases eo with ⟨rfl, rfl, o⟩ | ⟨rfl, rfl, o⟩ | ⟨rfl, rfl, o⟩ | ⟨rfl, rfl, o⟩ | ⟨rfl, rfl, o⟩
          · exact ⟨[32], e, by simp, by simp, .inl ⟨rfl, o⟩⟩
          · exact ⟨[63], e, by simp, by simp, .inr (.inl ⟨rfl, o⟩)⟩
          · exact ⟨[33, 32], e, by simp, by simp, .inr (.inr (.inl ⟨rfl, o⟩))⟩
          · exact ⟨[98, 45, 97], e, by simp, by simp, .inr (.inr (.inr (.inl ⟨rfl, o⟩)))⟩
          · exact ⟨[33, 98, 45, 97], e, by simp, by simp, .inr (.inr (.inr (.inr ⟨rfl, o⟩)))⟩
        have hWb : W[0]? = some 33 → ∃ d, W[1]? = some d := by
          rcases hW3 with ⟨rfl, _⟩ | ⟨rfl, _⟩ | ⟨rfl, _⟩ | ⟨rfl, _⟩ | ⟨rfl, _⟩ <;> simp
        clear e eo
        rw [hWe] at ix nx
        have hxl : P.length + W.length + 2 ≤ x.length := by rw [hx2, hWe]; simp; omega
        have iw : ∀ (k : Nat) (d : Nat) (v : Int), W[k]? = some d → v = (P.length : Int) + 1 + k → (seqIndex? v x.length).bind (fun y => x[y]?) = some d := fun k d v e1 e2 => by
          have := ix (k + 1) d (by
            rw [List.cons_append, List.getElem?_cons_succ, List.append_assoc, List.getElem?_append_left (List.getElem?_eq_some_iff.mp e1).1]; exact e1)
          rw [show v = (P.length : Int) + ((k + 1 : Nat) : Int) by omega]
          exact this
        have iz : ∀ v : Int, v = (P.length : Int) + 1 + W.length → (seqIndex? v x.length).bind (fun y => x[y]?) = some 93 := fun v e2 => by
          have := ix (W.length + 1) 93 (by
            rw [List.cons_append, List.getElem?_cons_succ, List.append_assoc, List.getElem?_append_right (Nat.le_refl _), Nat.sub_self]; rfl)
          rw [show v = (P.length : Int) + ((W.length + 1 : Nat) : Int) by omega]
          exact this
        have nx2 : ∀ (o : List Nat) (v : Int) (f1 f2 f3 f4 f5 f6 : Option D) (own : Own), p.2 = some o → v = (P.length : Int) + 1 + W.length + 1 → own.find r = some ((trOf (done.map (·.2))).map (PtD a) ++ [.str o]) → ∃ m, m < n ∧ TrI a r x its m (tS x a r v f1 f2 f3 f4 f5 f6 own) :=
          fun o v f1 f2 f3 f4 f5 f6 own e1 e2 e3 => by
            have := nx (some o) f1 f2 f3 f4 f5 f6 own e1 (by rw [e3, trStep_some, List.map_append]; rfl)
            rw [show (P.length : Int) + ((91 :: (W ++ [93])).length : Nat) = v by rw [e2]; simp; omega] at this
            exact this
        have hWp : 0 < W.length := List.length_pos_iff.mpr hW1
        obtain ⟨d0, hd0⟩ : ∃ d, W[0]? = some d := ⟨_, List.getElem?_eq_getElem hWp⟩
        apply keyd
        · intro key
          apply keyd
          · intro kw
            conv => whnf
            refine ⟨fun h5 => absurd (of_decide_eq_false h5) (by omega), fun _ => ?_⟩
            conv => whnf
            rw [iw 0 d0 _ hd0 (by omega)]
            conv => whnf
            by_cases hb : d0 = 33
            · subst hb
              obtain ⟨d1, hd1⟩ := hWb hd0
              have hW4 : 1 < W.length := (List.getElem?_eq_some_iff.mp hd1).1
              refine ⟨fun h => noF h, fun _ => ⟨fun _ => ?_, fun h => noF h⟩⟩
              conv => whnf
              refine ⟨fun h5 => absurd (of_decide_eq_false h5) (by omega), fun _ => ?_⟩
              conv => whnf
              rw [iw 1 d1 _ hd1 (by omega)]
              conv => whnf
              refine ⟨fun _ => ⟨fun h => noT h, fun _ => ?_⟩, fun h => absurd (List.head_eq_of_cons_eq (eq_of_beq h)) (hW2 d1 (List.mem_of_getElem? hd1))⟩
              conv => whnf
              exact ⟨midw (N := TrA x a r ((P.length : Int) + 1) ((P.length : Int) + 1 + W.length) f3 f4 f5 f6 own) key.h
                (whw (N := TrB x a r ((P.length : Int) + 1) W.length f3 f4 f5 f6 own) kw.h
                  ⟨_, 1, rfl, rfl, by omega⟩)⟩
            · refine ⟨fun _ => ⟨fun h => noT h, fun _ => ?_⟩, fun h => absurd (List.head_eq_of_cons_eq (eq_of_beq h)) hb⟩
              conv => whnf
              refine ⟨fun h5 => absurd (of_decide_eq_false h5) (by omega), fun _ => ?_⟩
              conv => whnf
              rw [iw 0 d0 _ hd0 (by omega)]
              conv => whnf
              refine ⟨fun _ => ⟨fun h => noT h, fun _ => ?_⟩, fun h => absurd (List.head_eq_of_cons_eq (eq_of_beq h)) (hW2 d0 (List.mem_of_getElem? hd0))⟩
              conv => whnf
              exact ⟨midw (N := TrA x a r ((P.length : Int) + 1) ((P.length : Int) + 1 + W.length) f3 f4 f5 f6 own) key.h
                (whw (N := TrB x a r ((P.length : Int) + 1) W.length f3 f4 f5 f6 own) kw.h
                  ⟨_, 0, rfl, by omega, by omega⟩)⟩
          · rintro σ ⟨v, j, rfl, hv, hj⟩
            refine J1.while (fun h => absurd h (by simp)) (TrW x a r ((P.length : Int) + 1) W.length f3 f4 f5 f6 own) (W.length - j) ⟨v, j, rfl, hv, hj, rfl⟩ ?_
            rintro m σ₁ ⟨v, j, rfl, hv, hj, hm⟩
            refine Wt.ok (n := 30) (we := We _ _ _ 30) (fun _ _ => We.ok) ?_
            conv => whnf
            refine ⟨fun h5 => absurd (of_decide_eq_false h5) (by omega), fun _ => ?_⟩
            conv => whnf
            by_cases h6 : j < W.length
            · rw [iw j W[j] _ (List.getElem?_eq_getElem h6) hv]
              conv => whnf
              refine ⟨fun h => ?_, fun _ => ⟨fun _ => Ws.ok (m := 30) (n := 30) ?_, fun h => noF h⟩⟩
              · cases h7 : ([W[j]] == (Str.ofString "]").cps.toList) with
                | true => exact absurd (List.head_eq_of_cons_eq (eq_of_beq h7)) (hW2 _ (List.getElem_mem h6))
                | false => rw [h7] at h; exact noF h
              · conv => whnf
                exact ⟨m - 1, by omega, v + 1, j + 1, rfl, by omega, by omega, by omega⟩
            · rw [iz _ (by omega)]
              conv => whnf
              refine ⟨fun _ => ⟨fun h => noT h, fun _ => ?_⟩, fun h => noT h⟩
              have : j = W.length := by omega
              subst this
              exact congrArg (fun v => tS x a r ((P.length : Int) + 1) (some (.str [91])) (some (.int v)) f3 f4 f5 f6 own) hv
        · rintro σ rfl
          conv => whnf
          refine ⟨fun h5 => absurd (of_decide_eq_true h5) (by omega), fun _ => ?_⟩
          have hcut : cutL (some ((P.length : Int) + 1)) (some ((P.length : Int) + 1 + W.length)) x = W := by
            have := cut_mid (pre := P) (rest := p.1 ++ catL (rest.map (·.1))) 1 (1 + W.length) (by omega)
            rw [← hx2, Int.natCast_add, Int.natCast_add, Int.natCast_add, ← Int.add_assoc] at this
            refine this.trans ?_
            rw [hWe]
            simp
          apply keyd
          · intro kt
            conv => whnf
            refine ⟨fun h5 => ?_, fun h5 => ?_⟩
            · have h5 : (!decide ((45 : Nat) ∈ W)) = true := by rw [hcut] at h5; exact h5
              have h5 : (45 : Nat) ∉ W := fun h => by rw [decide_eq_true h] at h5; exact noT h5
              have h6 : (92 : Nat) ∉ W := by rcases hW3 with ⟨hW, _⟩ | ⟨hW, _⟩ | ⟨hW, _⟩ | ⟨hW, _⟩ | ⟨hW, _⟩ <;> rw [hW] <;> decide
              have h7 : ∃ o, p.2 = some o ∧ St5 W o := by
                rcases hW3 with ⟨hW, eo⟩ | ⟨hW, eo⟩ | ⟨hW, eo⟩ | ⟨hW, _⟩ | ⟨hW, _⟩
                · exact ⟨_, eo, .inl ⟨hW, rfl⟩⟩
                · exact ⟨_, eo, .inr (.inl ⟨hW, rfl⟩)⟩
                · exact ⟨_, eo, .inr (.inr (.inl ⟨hW, rfl⟩))⟩
                · exact absurd (by rw [hW]; decide) h5
                · exact absurd (by rw [hW]; decide) h5
              conv => whnf
              refine ⟨Je.strm PySem.F.slot_str_replace PySem.F.type_str_replace rfl rfl rfl rfl (We.ok (n := 30) ?_)⟩
              conv => whnf
              refine ⟨_, rfl, Wa.ok (fun _ _ => We.ok (n := 30)) ?_⟩
              conv => whnf
              rw [hcut]
              obtain ⟨o, eo, h7⟩ := h7
              refine ⟨.str W, ?_, fun s vs t S l => ?_⟩
              · exact wsnil (N := TrC x a r ((P.length : Int) + 1 + W.length) ((trOf (done.map (·.2))).map (PtD a)) p.2) kt.h ⟨f4, f5, f6, own, W, o, _, rfl, h3, eo, h7⟩
              · obtain ⟨v1, v2, rfl, ⟨t1, rfl, _⟩, v3, v4, rfl, ⟨t2, rfl, _⟩, l⟩ := l
                cases l
                exact replace_ok (Nat.le_trans (by omega) (Nat.le_trans hl (by decide : 50000 ≤ 100000))) h6
            · have h5 : (!decide ((45 : Nat) ∈ W)) = false := by rw [hcut] at h5; exact h5
              obtain ⟨pre, o, hWp2, hpre, eo, h7⟩ : ∃ pre o, W = pre ++ [98, 45, 97] ∧ (pre = [] ∧ d0 = 98 ∨ pre = [33] ∧ d0 = 33) ∧ p.2 = some o ∧ St5 pre o := by
                rcases hW3 with ⟨hW, eo⟩ | ⟨hW, eo⟩ | ⟨hW, eo⟩ | ⟨hW, eo⟩ | ⟨hW, eo⟩
                · rw [hW] at h5; exact noF h5
                · rw [hW] at h5; exact noF h5
                · rw [hW] at h5; exact noF h5
                · exact ⟨[], _, hW, .inl ⟨rfl, by rw [hW] at hd0; exact (Option.some.inj hd0).symm⟩, eo, .inr (.inr (.inr (.inl ⟨rfl, rfl⟩)))⟩
                · exact ⟨[33], _, hW, .inr ⟨rfl, by rw [hW] at hd0; exact (Option.some.inj hd0).symm⟩, eo, .inr (.inr (.inr (.inr ⟨rfl, rfl⟩)))⟩
              have hpl : pre.length ≤ 1 := by rcases hpre with ⟨rfl, _⟩ | ⟨rfl, _⟩ <;> decide
              have hWl : W.length = pre.length + 3 := by rw [hWp2]; simp
              conv => whnf
              refine ⟨J1.newl (k := 10) rfl fun ch hch => ?_⟩
              have hrc : ch ≠ r := fun e => by rw [e] at hch; have hch : own.find r = none := hch; rw [h3] at hch; exact nomatch hch
              apply keyd
              · intro kw
                conv => whnf
                rw [iw 0 d0 _ hd0 (by omega)]
                conv => whnf
                rcases hpre with ⟨hp, hd⟩ | ⟨hp, hd⟩
                · rw [hd]
                  refine ⟨fun h => noT h, fun _ => ?_⟩
                  conv => whnf
                  exact ⟨whw (N := TrV x a r ch ((P.length : Int) + 1) ((P.length : Int) + 1 + W.length) ((P.length + pre.length + 2 : Nat) : Int) f6 ((trOf (done.map (·.2))).map (PtD a)) []) kw.h ⟨_, _, _, rfl, by rw [hp]; simp only [List.length_nil, List.length_singleton]; omega, Own.find_new, by rw [Own.find, if_neg hrc]; exact h3⟩⟩
                · rw [hd]
                  refine ⟨fun _ => ?_, fun h => noF h⟩
                  conv => whnf
                  exact ⟨whw (N := TrV x a r ch ((P.length : Int) + 1) ((P.length : Int) + 1 + W.length) ((P.length + pre.length + 2 : Nat) : Int) f6 ((trOf (done.map (·.2))).map (PtD a)) []) kw.h ⟨_, _, _, rfl, by rw [hp]; simp only [List.length_nil, List.length_singleton]; omega, Own.find_new, by rw [Own.find, if_neg hrc]; exact h3⟩⟩
              · rintro σ ⟨v, f3', ω, rfl, rfl, g1, g2⟩
                have hc1 : cutL (some ((P.length : Int) + 1)) (some ((P.length + pre.length + 2 : Nat) : Int)) x = pre ++ [98] := by
                  have := cut_mid (pre := P) (rest := p.1 ++ catL (rest.map (·.1))) 1 (pre.length + 2) (by omega)
                  rw [← hx2, Int.natCast_add, ← Nat.add_assoc] at this
                  refine this.trans ?_
                  rw [hWe, hWp2]
                  rcases hpre with ⟨hp, _⟩ | ⟨hp, _⟩ <;> simp [hp]
                have hc2 : cutL (some (((P.length + pre.length + 2 : Nat) : Int) + 1)) (some ((P.length : Int) + 1 + W.length)) x = [97] := by
                  have := cut_mid (pre := P) (rest := p.1 ++ catL (rest.map (·.1))) (pre.length + 3) (pre.length + 4) (by omega)
                  rw [← hx2, show ((P.length + (pre.length + 3) : Nat) : Int) = ((P.length + pre.length + 2 : Nat) : Int) + 1 by omega, show ((P.length + (pre.length + 4) : Nat) : Int) = (P.length : Int) + 1 + W.length by omega] at this
                  refine this.trans ?_
                  rw [hWe, hWp2]
                  rcases hpre with ⟨hp, _⟩ | ⟨hp, _⟩ <;> simp [hp]
                have hx45 : x[P.length + pre.length + 2]? = some 45 := by
                  rw [hx2, List.getElem?_append_right (by omega), hWe, hWp2, show P.length + pre.length + 2 - P.length = pre.length + 1 + 1 by omega]
                  rcases hpre with ⟨hp, _⟩ | ⟨hp, _⟩ <;> simp [hp]
                refine J1.mid (TrD x a r ch (((P.length + pre.length + 2 : Nat) : Int) + 1) ((P.length : Int) + 1 + W.length) (-1) f6 ((trOf (done.map (·.2))).map (PtD a)) [.str (pre ++ [98])]) (J1.while (fun h => absurd h (by simp)) (fun m σ => (m = 1 ∧ TrD x a r ch ((P.length : Int) + 1) ((P.length : Int) + 1 + W.length) ((P.length + pre.length + 2 : Nat) : Int) f6 ((trOf (done.map (·.2))).map (PtD a)) [] σ) ∨ (m = 0 ∧ TrD x a r ch (((P.length + pre.length + 2 : Nat) : Int) + 1) ((P.length : Int) + 1 + W.length) (((P.length + pre.length + 2 : Nat) : Int) + 3) f6 ((trOf (done.map (·.2))).map (PtD a)) [.str (pre ++ [98])] σ)) 1 (.inl ⟨rfl, _, _, rfl, g1, g2⟩) ?_) ?_
                · rintro m σ (⟨rfl, f3', ω, rfl, g1, g2⟩ | ⟨rfl, f3', ω, rfl, g1, g2⟩)
                  · refine Jt.val (We.ok (n := 30) ?_)
                    conv => whnf
                    refine ⟨true, rfl, fun _ => Ws.ok (m := 30) (n := 30) ?_, fun h => noF h⟩
                    conv => whnf
                    refine ⟨Je.strm PySem.F.slot_str_find PySem.F.type_str_find rfl rfl rfl rfl (We.ok (n := 30) ?_)⟩
                    conv => whnf
                    refine ⟨_, rfl, Wa.ok (fun _ _ => We.ok (n := 30)) ?_⟩
                    conv => whnf
                    refine ⟨.int ((P.length + pre.length + 2 : Nat) : Int), ?_, fun s vs t S l => ?_⟩
                    · conv => whnf
                      refine ⟨fun h => absurd (of_decide_eq_true h) (by omega), fun _ => ?_⟩
                      conv => whnf
                      refine ⟨J1.append rfl rfl rfl rfl (We.ok (n := 30) ?_)⟩
                      conv => whnf
                      refine ⟨ch, _, rfl, g1, We.ok (n := 30) ?_⟩
                      conv => whnf
                      refine ⟨show 0 < 100000 by decide, ?_⟩
                      conv => whnf
                      refine ⟨0, Nat.zero_lt_one, .inr ⟨rfl, _, _, rfl, ?_, ?_⟩⟩
                      · exact fu g1 (by show [D.str (cutL (some ((P.length : Int) + 1)) (some ((P.length + pre.length + 2 : Nat) : Int)) x)] = _; rw [hc1])
                      · exact fo (fun e => hrc e.symm) g2
                    · obtain ⟨v1, v2, rfl, ⟨t1, rfl, _⟩, v3, v4, rfl, ⟨t2, rfl⟩, v5, v6, rfl, ⟨t3, rfl⟩, l⟩ := l
                      cases l
                      rw [show (P.length : Int) + 1 + W.length = ((P.length + 1 + W.length : Nat) : Int) by omega]
                      exact find_ok (by omega) (.inr ⟨_, rfl, Nat.le_refl _, by omega, hx45, fun j h1 h2 => absurd h1 (by omega)⟩)
                  · refine Jt.val (We.ok (n := 30) ?_)
                    conv => whnf
                    refine ⟨true, rfl, fun _ => Ws.ok (m := 30) (n := 30) ?_, fun h => noF h⟩
                    conv => whnf
                    refine ⟨Je.strm PySem.F.slot_str_find PySem.F.type_str_find rfl rfl rfl rfl (We.ok (n := 30) ?_)⟩
                    conv => whnf
                    refine ⟨_, rfl, Wa.ok (fun _ _ => We.ok (n := 30)) ?_⟩
                    conv => whnf
                    refine ⟨.int (-1), ?_, fun s vs t S l => ?_⟩
                    · conv => whnf
                      refine ⟨fun _ => ?_, fun h => noF h⟩
                      conv => whnf
                      exact ⟨_, _, rfl, g1, g2⟩
                    · obtain ⟨v1, v2, rfl, ⟨t1, rfl, _⟩, v3, v4, rfl, ⟨t2, rfl⟩, v5, v6, rfl, ⟨t3, rfl⟩, l⟩ := l
                      cases l
                      rw [show (P.length : Int) + 1 + W.length = ((P.length + 1 + W.length : Nat) : Int) by omega]
                      rw [show ((P.length + pre.length + 2 : Nat) : Int) + 3 = ((P.length + pre.length + 5 : Nat) : Int) by omega]
                      exact find_ok (by omega) (.inl ⟨rfl, fun j h1 h2 => absurd h1 (by omega)⟩)
                · rintro σ ⟨f3', ω, rfl, g1, g2⟩
                  have i1 : (seqIndex? (-1) (pre ++ [98]).length).bind (fun y => (pre ++ [98])[y]?) = some 98 := by
                    rcases hpre with ⟨hp, _⟩ | ⟨hp, _⟩ <;> rw [hp] <;> rfl
                  have i2 : cutL none (some (-1)) (pre ++ [98]) ++ cutL (some 1) none [97] = pre := by
                    rcases hpre with ⟨hp, _⟩ | ⟨hp, _⟩ <;> rw [hp] <;> rfl
                  have n45 : 92 ∉ pre ∧ 45 ∉ pre := by
                    rcases hpre with ⟨hp, _⟩ | ⟨hp, _⟩ <;> rw [hp] <;> decide
                  conv => whnf
                  refine ⟨fun _ => ?_, fun h => ?_⟩
                  · conv => whnf
                    refine ⟨J1.append rfl rfl rfl rfl (We.ok (n := 30) ?_)⟩
                    conv => whnf
                    refine ⟨ch, _, rfl, g1, We.ok (n := 30) ?_⟩
                    conv => whnf
                    refine ⟨show 1 < 100000 by decide, ?_⟩
                    conv => whnf
                    refine ⟨whw (N := TrG x a r ch (((P.length + pre.length + 2 : Nat) : Int) + 1) ((P.length : Int) + 1 + W.length) ((trOf (done.map (·.2))).map (PtD a)) [.str (pre ++ [98]), .str [97]]) (fun σ' h => ?_) ⟨_, _, _, _, rfl, fu g1 (by show [D.str (pre ++ [98]), D.str (cutL (some (((P.length + pre.length + 2 : Nat) : Int) + 1)) (some ((P.length : Int) + 1 + W.length)) x)] = _; rw [hc2]), fo (fun e => hrc e.symm) g2⟩⟩
                    clear g1 g2
                    obtain ⟨f3', f11, f12, ω, rfl, g1, g2⟩ := h
                    refine J1.mid (TrG x a r ch (((P.length + pre.length + 2 : Nat) : Int) + 1) ((P.length : Int) + 1 + W.length) ((trOf (done.map (·.2))).map (PtD a)) [.str pre]) (J1.for10 (k := 11) (k' := 14) (by simp) rfl rfl rfl (Wa.ok (fun _ _ => We.ok (n := 30)) ?_)) ?_
                    · conv => whnf
                      refine onSome.of (lenOwn g1) ?_
                      conv => whnf
                      refine ⟨rfl, fun it o v => Ws.ok (m := 30) (n := 30) ?_⟩
                      conv => whnf
                      refine onSome.of (dIdx_own (d := .str (pre ++ [98])) g1 rfl) ?_
                      conv => whnf
                      rw [i1]
                      conv => whnf
                      refine onSome.of (dIdx_own (d := .str [97]) g1 rfl) ?_
                      conv => whnf
                      refine ⟨fun _ => ?_, fun h => noF h⟩
                      conv => whnf
                      refine ⟨J1.setit (k := 10) (kd := .local) (a := ch) rfl rfl (by decide) rfl (We.ok (n := 30) ?_)⟩
                      conv => whnf
                      refine onSome.of (dIdx_own (d := .str (pre ++ [98])) g1 rfl) ?_
                      conv => whnf
                      refine onSome.of (dIdx_own (d := .str [97]) g1 rfl) ?_
                      conv => whnf
                      refine ⟨by rw [← List.length_append, i2]; exact Nat.le_trans hpl (by decide), We.ok (n := 30) ?_⟩
                      conv => whnf
                      refine ⟨0, _, rfl, g1, Nat.zero_lt_succ _, ?_⟩
                      conv => whnf
                      refine ⟨J1.delit (k := 10) (kd := .local) (a := ch) rfl rfl (by decide) (We.ok (n := 30) ?_)⟩
                      conv => whnf
                      refine ⟨1, _, rfl, fu g1 rfl, Nat.succ_lt_succ (Nat.zero_lt_succ _), ?_⟩
                      conv => whnf
                      refine ⟨_, _, _, _, rfl, fu (fu g1 rfl) ?_, fo (fun e => hrc e.symm) (fo (fun e => hrc e.symm) g2)⟩
                      show [D.str (cutL none (some (-1)) (pre ++ [98]) ++ cutL (some 1) none [97])] = _
                      rw [i2]
                    · rintro σ ⟨f3', f11, f12, ω, rfl, g1, g2⟩
                      conv => whnf
                      refine ⟨Je.genjoin (k := 10) (kd := .local) (a := ch) (x := pre) (c := c0) rfl rfl g1 (by decide) T rfl rfl rfl (by decide) rfl rfl rfl rfl (by decide) (fun hh hn hm => elt_ok rfl rfl rfl rfl rfl rfl hn hm (by decide) rfl rfl n45.1 n45.2) ?_⟩
                      exact wsnil kt.h ⟨_, _, _, _, pre, o, _, rfl, g2, eo, h7⟩
                  · have h : (!(cutL (some (((P.length + pre.length + 2 : Nat) : Int) + 1)) (some ((P.length : Int) + 1 + W.length)) x).isEmpty) = false := h
                    rw [hc2] at h
                    exact noF h
          · rintro σ ⟨f4, f5, f6, own, s5, o, i5, rfl, h3, eo, h5⟩
            conv => whnf
            refine ⟨Je.sub (c := c0) (k := 15) rfl PA T rfl rfl rfl rfl rfl (We.ok (n := 30) ?_)⟩
            conv => whnf
            refine ⟨_, rfl, h5.sub, ?_⟩
            rcases h5 with ⟨rfl, rfl⟩ | ⟨rfl, rfl⟩ | ⟨rfl, rfl⟩ | ⟨rfl, rfl⟩ | ⟨rfl, rfl⟩
            · conv => whnf
              refine ⟨fun h => noT h, fun _ => ?_⟩
              conv => whnf
              refine ⟨fun h => noT h, fun _ => ?_⟩
              conv => whnf
              refine ⟨fun h => noT h, fun _ => ?_⟩
              conv => whnf
              refine ⟨show 2 ≤ 100000 by decide, ?_⟩
              conv => whnf
              refine ⟨fun h => noT h, fun _ => ?_⟩
              conv => whnf
              refine ⟨J1.add (a := r) (k := 4) (kd := .local) rfl rfl (by decide) rfl rfl (Je.fstr (we := We _ _ _ 30) (fun _ _ => We.ok) ?_)⟩
              conv => whnf
              refine ⟨show 0 + 1 ≤ 100000 by decide, ?_⟩
              conv => whnf
              refine ⟨show 1 + 1 ≤ 100000 by decide, ?_⟩
              conv => whnf
              refine ⟨show 2 + 1 ≤ 100000 by decide, ?_⟩
              conv => whnf
              refine ⟨_, h3, by rw [List.length_map]; exact hlen, ?_⟩
              conv => whnf
              exact nx2 _ _ _ _ _ _ _ _ _ eo rfl (fu h3 rfl)
            · conv => whnf
              refine ⟨fun h => noT h, fun _ => ?_⟩
              conv => whnf
              refine ⟨fun h => noT h, fun _ => ?_⟩
              conv => whnf
              refine ⟨fun h => noT h, fun _ => ?_⟩
              conv => whnf
              refine ⟨show 2 ≤ 100000 by decide, ?_⟩
              conv => whnf
              refine ⟨fun h => noT h, fun _ => ?_⟩
              conv => whnf
              refine ⟨J1.add (a := r) (k := 4) (kd := .local) rfl rfl (by decide) rfl rfl (Je.fstr (we := We _ _ _ 30) (fun _ _ => We.ok) ?_)⟩
              conv => whnf
              refine ⟨show 0 + 1 ≤ 100000 by decide, ?_⟩
              conv => whnf
              refine ⟨show 1 + 1 ≤ 100000 by decide, ?_⟩
              conv => whnf
              refine ⟨show 2 + 1 ≤ 100000 by decide, ?_⟩
              conv => whnf
              refine ⟨_, h3, by rw [List.length_map]; exact hlen, ?_⟩
              conv => whnf
              exact nx2 _ _ _ _ _ _ _ _ _ eo rfl (fu h3 rfl)
            · conv => whnf
              refine ⟨fun h => noT h, fun _ => ?_⟩
              conv => whnf
              refine ⟨fun h => noT h, fun _ => ?_⟩
              conv => whnf
              refine ⟨fun _ => ?_, fun h => noF h⟩
              conv => whnf
              refine ⟨show 2 ≤ 100000 by decide, ?_⟩
              conv => whnf
              refine ⟨J1.add (a := r) (k := 4) (kd := .local) rfl rfl (by decide) rfl rfl (Je.fstr (we := We _ _ _ 30) (fun _ _ => We.ok) ?_)⟩
              conv => whnf
              refine ⟨show 0 + 1 ≤ 100000 by decide, ?_⟩
              conv => whnf
              refine ⟨show 1 + 2 ≤ 100000 by decide, ?_⟩
              conv => whnf
              refine ⟨show 3 + 1 ≤ 100000 by decide, ?_⟩
              conv => whnf
              refine ⟨_, h3, by rw [List.length_map]; exact hlen, ?_⟩
              conv => whnf
              exact nx2 _ _ _ _ _ _ _ _ _ eo rfl (fu h3 rfl)
            · conv => whnf
              refine ⟨fun _ => ?_, fun h => noF h⟩
              conv => whnf
              refine ⟨J1.add (a := r) (k := 4) (kd := .local) rfl rfl (by decide) rfl rfl (We.ok (n := 30) ?_)⟩
              conv => whnf
              refine ⟨_, h3, by rw [List.length_map]; exact hlen, ?_⟩
              conv => whnf
              exact nx2 _ _ _ _ _ _ _ _ _ eo rfl (fu h3 rfl)
            · conv => whnf
              refine ⟨fun h => noT h, fun _ => ?_⟩
              conv => whnf
              refine ⟨fun _ => ?_, fun h => noF h⟩
              conv => whnf
              refine ⟨J1.add (a := r) (k := 4) (kd := .local) rfl rfl (by decide) rfl rfl (We.ok (n := 30) ?_)⟩
              conv => whnf
              refine ⟨_, h3, by rw [List.length_map]; exact hlen, ?_⟩
              conv => whnf
              exact nx2 _ _ _ _ _ _ _ _ _ eo rfl (fu h3 rfl)
    · have h4 : ¬ ((catL (done.map (·.1))).length : Int) < x.length := of_decide_eq_false h4
      cases rest with
      | cons p rest =>
        have hp := ok p (by rw [h1]; simp)
        have : 0 < p.1.length := by
          rcases hp with ⟨e, _⟩ | ⟨e, _⟩ | ⟨c, _, _, _, _, e, _⟩ | ⟨_, _, _, e, _⟩ <;> rw [e] <;> simp
        rw [hx', List.map_cons, catL, List.length_append, List.length_append] at h4
        omega
      | nil =>
        rw [List.append_nil] at h1
        subst h1
        exact ⟨f1, f2, f3, f4, f5, f6, own, by rw [hx], h3⟩
  · rintro σ ⟨f1, f2, f3, f4, f5, f6, own, rfl, h1⟩
    refine ⟨Ws.ok (m := 30) (n := 1) ?_⟩
    conv => whnf
    refine ⟨beq_self_eq_true _, ⟨Js.cons (J1.retown 1 (We.ok (n := 30) ?_))⟩⟩
    conv => whnf
    show some _ = some (match own.find r with | some ds => D.lst (ds.map (res 0 own)) | none => .own r)
    rw [h1]
    show some _ = some (D.lst (List.map (fun d => d) _))
    rw [List.map_id']
end Mine
end

section
open PySem PySem.W PyProof.Rows
namespace Mine
noncomputable def okc (x : It) (c : Nat) : Bool := decide (c ∈ x.s) == (x.k == 1)
/-- the items match the text -/
noncomputable def G : List It → List Nat → Prop
  | [], n => n = []
  | x :: r, n => if x.k = 0 then ∃ i, i ≤ n.length ∧ G r (n.drop i) else ∃ c n', n = c :: n' ∧ okc x c = true ∧ G r n'
theorem G.star {x : It} {r : List It} {n : List Nat} (h : x.k = 0) : G (x :: r) n ↔ ∃ i, i ≤ n.length ∧ G r (n.drop i) := by rw [G, if_pos h]
theorem G.one {x : It} {r : List It} {n : List Nat} (h : x.k ≠ 0) : G (x :: r) n ↔ ∃ c n', n = c :: n' ∧ okc x c = true ∧ G r n' := by rw [G, if_neg h]
theorem means_go (w : List Nat) : ∀ (core : List It) (P : List Nat), P.Pairwise (· ≤ ·) → (∀ p ∈ P, p ≤ w.length) → (((core.foldl (stepP w) P).any (· == w.length)) = true ↔ ∃ p ∈ P, G core (w.drop p)) := by
  intro core
  induction core with
  | nil =>
    intro P hP hl
    rw [List.foldl_nil, List.any_eq_true]
    constructor
    · rintro ⟨p, h1, h2⟩
      exact ⟨p, h1, by rw [eq_of_beq h2]; exact List.drop_length⟩
    · rintro ⟨p, h1, h2⟩
      have : w.length ≤ p := List.drop_eq_nil_iff.mp h2
      exact ⟨p, h1, by rw [beq_iff_eq]; have := hl p h1; lia⟩
  | cons x r ih =>
    intro P hP hl
    rw [List.foldl_cons]
    by_cases hk : x.k = 0
    · have e : stepP w P x = (List.range (w.length + 1)).filter (fun p => !P.isEmpty && decide (p ≥ P.headD 0)) := by rw [stepP, if_pos hk]
      rw [e, ih _ (List.Pairwise.filter _ (List.pairwise_le_range)) (fun p hp => by have := List.mem_range.mp (List.mem_filter.mp hp).1; lia)]
      constructor
      · rintro ⟨p, h1, h2⟩
        obtain ⟨h3, h4⟩ := List.mem_filter.mp h1
        have h3 := List.mem_range.mp h3
        cases P with
        | nil => exact noT h4
        | cons q P =>
          simp at h4
          refine ⟨q, .head _, (G.star hk).mpr ⟨p - q, by rw [List.length_drop]; lia, ?_⟩⟩
          rw [List.drop_drop, show q + (p - q) = p by lia]
          exact h2
      · rintro ⟨p, h1, h2⟩
        obtain ⟨i, h3, h4⟩ := (G.star hk).mp h2
        rw [List.length_drop] at h3
        rw [List.drop_drop] at h4
        have h5 := hl p h1
        refine ⟨p + i, List.mem_filter.mpr ⟨List.mem_range.mpr (by lia), ?_⟩, h4⟩
        cases P with
        | nil => exact nomatch h1
        | cons q P =>
          have : q ≤ p := by
            rcases List.mem_cons.mp h1 with rfl | h1
            · exact Nat.le_refl _
            · exact (List.pairwise_cons.mp hP).1 p h1
          simp
          lia
    · have e : stepP w P x = (P.filter (okAt w x)).map (· + 1) := by rw [stepP, if_neg hk]
      have hg : ∀ p, p < w.length → (w.drop p = w.getD p 0 :: w.drop (p + 1)) := fun p h => by
        rw [List.drop_eq_getElem_cons h, List.getD_eq_getElem?_getD, List.getElem?_eq_getElem h]; rfl
      rw [e, ih _ (by
          refine List.Pairwise.map _ (fun a b h => ?_) (List.Pairwise.filter _ hP)
          exact Nat.succ_le_succ h) (fun p hp => by
          obtain ⟨q, h1, rfl⟩ := List.mem_map.mp hp
          have := (List.mem_filter.mp h1).2
          simp [okAt] at this
          lia)]
      constructor
      · rintro ⟨p, h1, h2⟩
        obtain ⟨q, h3, rfl⟩ := List.mem_map.mp h1
        obtain ⟨h4, h5⟩ := List.mem_filter.mp h3
        rw [okAt, Bool.and_eq_true] at h5
        exact ⟨q, h4, (G.one hk).mpr ⟨_, _, hg q (of_decide_eq_true h5.1), h5.2, h2⟩⟩
      · rintro ⟨p, h1, h2⟩
        obtain ⟨c, n', h3, h4, h5⟩ := (G.one hk).mp h2
        have hp : p < w.length := by
          apply Classical.byContradiction
          intro h
          rw [List.drop_eq_nil_of_le (by lia)] at h3
          exact nomatch h3
        rw [hg p hp] at h3
        injection h3 with h6 h7
        refine ⟨p + 1, List.mem_map.mpr ⟨p, List.mem_filter.mpr ⟨h1, ?_⟩, rfl⟩, h7 ▸ h5⟩
        rw [okAt, Bool.and_eq_true]
        exact ⟨decide_eq_true hp, by rw [h6]; exact h4⟩
theorem means_iff (core : List It) (w : List Nat) : means core w = true ↔ G core w := by
  rw [means, means_go w core [0] (List.pairwise_singleton _ _) (fun p h => by rw [List.mem_singleton.mp h]; exact Nat.zero_le _)]
  constructor
  · rintro ⟨p, h1, h2⟩
    rw [List.mem_singleton.mp h1] at h2; exact h2
  · exact fun h => ⟨0, .head _, h⟩
/-- padding: behind -/
theorem G.pad0 {q : It} (hq : q.k = 1) (r : List It) : ¬ G (r ++ [q]) [] := by
  induction r with
  | nil =>
    intro h
    obtain ⟨c, n', h1, _⟩ := (G.one (by rw [hq]; decide)).mp h
    exact nomatch h1
  | cons x r ih =>
    intro h
    by_cases hk : x.k = 0
    · obtain ⟨i, h1, h2⟩ := (G.star hk).mp h
      rw [List.drop_nil] at h2
      exact ih h2
    · obtain ⟨c, n', h1, _⟩ := (G.one hk).mp h
      exact nomatch h1
theorem G.pad1 {q : It} {c : Nat} (hq : q.k = 1) (hc : okc q c = true) : ∀ (r : List It) (w : List Nat), G (r ++ [q]) (w ++ [c]) ↔ G r w := by
  intro r
  induction r with
  | nil =>
    intro w
    constructor
    · intro h
      obtain ⟨d, n', h1, _, h3⟩ := (G.one (by rw [hq]; decide)).mp h
      cases w with
      | nil => rfl
      | cons e w =>
        injection h1 with _ h1
        rw [← h1] at h3
        exact absurd (show w ++ [c] = [] from h3) (by simp)
    · intro h
      have h : w = [] := h
      subst h
      exact (G.one (by rw [hq]; decide)).mpr ⟨c, [], rfl, hc, rfl⟩
  | cons x r ih =>
    intro w
    by_cases hk : x.k = 0
    · rw [List.cons_append, G.star hk, G.star hk]
      constructor
      · rintro ⟨i, h1, h2⟩
        by_cases hi : i ≤ w.length
        · rw [List.drop_append_of_le_length hi] at h2
          exact ⟨i, hi, (ih _).mp h2⟩
        · rw [List.drop_eq_nil_of_le (by rw [List.length_append]; simp; lia)] at h2
          exact absurd h2 (G.pad0 hq r)
      · rintro ⟨i, h1, h2⟩
        exact ⟨i, by rw [List.length_append]; lia, by rw [List.drop_append_of_le_length h1]; exact (ih _).mpr h2⟩
    · rw [List.cons_append, G.one hk, G.one hk]
      constructor
      · rintro ⟨d, n', h1, h2, h3⟩
        cases w with
        | nil =>
          injection h1 with _ h1
          rw [← h1] at h3
          exact absurd h3 (G.pad0 hq r)
        | cons e w =>
          injection h1 with h4 h1
          rw [← h1] at h3
          exact ⟨e, w, rfl, h4 ▸ h2, (ih _).mp h3⟩
      · rintro ⟨d, n', rfl, h2, h3⟩
        exact ⟨d, n' ++ [c], rfl, h2, (ih _).mpr h3⟩
theorem G.pad {q : It} {c : Nat} (hq : q.k = 1) (hc : okc q c = true) (r : List It) (w : List Nat) : ∀ (a b : Nat), G (List.replicate a q ++ r ++ List.replicate b q) (List.replicate a c ++ w ++ List.replicate b c) ↔ G r w := by
  intro a b
  have h1 : ∀ b, G (r ++ List.replicate b q) (w ++ List.replicate b c) ↔ G r w := by
    intro b
    induction b with
    | zero => rw [List.replicate_zero, List.replicate_zero, List.append_nil, List.append_nil]
    | succ b ih => rw [List.replicate_succ', List.replicate_succ', ← List.append_assoc, ← List.append_assoc, G.pad1 hq hc, ih]
  induction a with
  | zero => exact h1 b
  | succ a ih =>
    rw [List.replicate_succ, List.replicate_succ, List.cons_append, List.cons_append, List.cons_append, List.cons_append, G.one (by rw [hq]; decide)]
    constructor
    · rintro ⟨d, n', h2, _, h4⟩
      injection h2 with _ h2
      rw [← h2] at h4
      exact ih.mp h4
    · intro h
      exact ⟨c, _, rfl, hc, ih.mpr h⟩
end Mine
end

section
open PySem PySem.W PyProof.Rows
namespace Mine
theorem place_ge (r : List Rx) (name : List Nat) : ∀ (n p : Nat), p ≤ place r name n p := by
  intro n
  induction n with
  | zero => intro p; exact Nat.le_refl _
  | succ n ih =>
    intro p
    rw [place]
    by_cases h : p ≤ name.length ∧ fitsAt r name p = false
    · rw [if_pos h]; exact Nat.le_trans (Nat.le_succ _) (ih _)
    · rw [if_neg h]; exact Nat.le_refl _
theorem place_min (r : List Rx) (name : List Nat) : ∀ (n p j : Nat), p ≤ j → fitsAt r name j = true → place r name n p ≤ j := by
  intro n
  induction n with
  | zero => intro p j h _; exact h
  | succ n ih =>
    intro p j h1 h2
    rw [place]
    by_cases h : p ≤ name.length ∧ fitsAt r name p = false
    · rw [if_pos h]
      refine ih _ _ ?_ h2
      rcases Nat.lt_or_eq_of_le h1 with q | q
      · exact q
      · rw [q, h2] at h; exact absurd h.2 (by decide)
    · rw [if_neg h]; exact h1
/-- the rows match the text -/
noncomputable def M1 : List (List Rx) → List Nat → Prop
  | [], n => n = []
  | R :: Rs, n => ∃ i, i ≤ n.length ∧ fits R (n.drop i) = true ∧ M1 Rs ((n.drop i).drop R.length)
noncomputable def M0 (R : List Rx) (Rs : List (List Rx)) (n : List Nat) : Prop := fits R n = true ∧ M1 Rs (n.drop R.length)
theorem fits_le {R : List Rx} {n : List Nat} (h : fits R n = true) : R.length ≤ n.length := by
  apply Classical.byContradiction
  intro z
  rw [fits_len (by lia)] at h
  exact nomatch h
theorem M1.back {R : List Rx} {Rs : List (List Rx)} {n : List Nat} {i : Nat} (hi : i ≤ n.length) (h : M1 (R :: Rs) (n.drop i)) : M1 (R :: Rs) n := by
  obtain ⟨j, h1, h2, h3⟩ := h
  rw [List.length_drop] at h1
  have e : (n.drop i).drop j = n.drop (i + j) := List.drop_drop
  rw [e] at h2 h3
  exact ⟨i + j, by lia, h2, h3⟩
theorem fitsAt_iff {R : List Rx} {name : List Nat} {p : Nat} : fitsAt R name p = true ↔ p ≤ name.length ∧ fits R (name.drop p) = true := by
  rw [fitsAt, Bool.and_eq_true, decide_eq_true_eq]
theorem greedy (name : List Nat) : ∀ (Rs : List (List Rx)) (z : List Rx) (p : Nat), p ≤ name.length → (M1 (Rs ++ [z]) (name.drop p) ↔ ends z name (middle name Rs p) = true) := by
  intro Rs
  induction Rs with
  | nil =>
    intro z p hp
    rw [middle, ends, Bool.and_eq_true, decide_eq_true_eq, fitsAt_iff]
    constructor
    · rintro ⟨i, h1, h2, h3⟩
      have e : (name.drop p).drop i = name.drop (p + i) := List.drop_drop
      rw [e] at h2 h3
      rw [List.length_drop] at h1
      have h4 := fits_le h2
      rw [List.length_drop] at h4
      have h3 : ((name.drop (p + i)).drop z.length) = [] := h3
      have h5 := List.drop_eq_nil_iff.mp h3
      rw [List.length_drop] at h5
      exact ⟨by lia, by lia, by rw [show name.length - z.length = p + i by lia]; exact h2⟩
    · rintro ⟨h1, h2, h3⟩
      refine ⟨name.length - z.length - p, by rw [List.length_drop]; lia, ?_, ?_⟩
      · rw [List.drop_drop, show p + (name.length - z.length - p) = name.length - z.length by lia]; exact h3
      · rw [List.drop_drop, List.drop_drop]
        exact List.drop_eq_nil_iff.mpr (by lia)
  | cons R Rs ih =>
    intro z p hp
    have h0 := place_ge R name (name.length + 1) p
    have h9 := place_stop R name (name.length + 1) p (by lia)
    have h8 := place_min R name (name.length + 1) p
    rw [middle]
    generalize place R name (name.length + 1) p = q at h0 h8 h9
    by_cases hq : q > name.length
    · rw [if_pos hq]
      constructor
      · rintro ⟨i, h1, h2, h3⟩
        rw [List.length_drop] at h1
        rw [List.drop_drop] at h2
        have := h8 (p + i) (by lia) (fitsAt_iff.mpr ⟨by lia, h2⟩)
        lia
      · exact fun h => noT h
    · rw [if_neg hq]
      have hf := h9 (by lia)
      have hr := fits_room hf
      rw [← ih z (q + R.length) hr]
      constructor
      · rintro ⟨i, h1, h2, h3⟩
        rw [List.length_drop] at h1
        have e : (name.drop p).drop i = name.drop (p + i) := List.drop_drop
        rw [e] at h2 h3
        have hle := fits_le h2
        rw [List.length_drop] at hle
        have hm := h8 (p + i) (by lia) (fitsAt_iff.mpr ⟨by lia, h2⟩)
        rw [List.drop_drop] at h3
        have h3 : M1 (Rs ++ [z]) (name.drop (p + i + R.length)) := h3
        obtain ⟨S, T, hST⟩ : ∃ S T, Rs ++ [z] = S :: T := by
          cases Rs with
          | nil => exact ⟨z, [], rfl⟩
          | cons a b => exact ⟨a, b ++ [z], rfl⟩
        rw [hST] at h3 ⊢
        refine M1.back (i := p + i - q) (by rw [List.length_drop]; lia) ?_
        rw [List.drop_drop, show q + R.length + (p + i - q) = p + i + R.length by lia]
        exact h3
      · intro h
        refine ⟨q - p, by rw [List.length_drop]; lia, ?_, ?_⟩
        · rw [List.drop_drop, show p + (q - p) = q by lia]
          exact (fitsAt_iff.mp hf).2
        · rw [List.drop_drop, List.drop_drop, show p + (q - p + R.length) = q + R.length by lia]
          exact h
theorem takes_iff (R : List Rx) (Rs : List (List Rx)) (name : List Nat) : takes (R :: Rs) name = true ↔ M0 R Rs name := by
  cases Rs with
  | nil =>
    show (decide (R.length = name.length) && fitsAt R name 0) = true ↔ _
    rw [Bool.and_eq_true, decide_eq_true_eq, fitsAt_iff, List.drop_zero]
    constructor
    · rintro ⟨h1, _, h2⟩
      exact ⟨h2, List.drop_eq_nil_iff.mpr (by lia)⟩
    · rintro ⟨h1, h2⟩
      have h3 := fits_le h1
      have h2 : name.drop R.length = [] := h2
      have := List.drop_eq_nil_iff.mp h2
      exact ⟨by lia, Nat.zero_le _, h1⟩
  | cons R2 Rs =>
    show (fitsAt R name 0 && ends ((R2 :: Rs).getLast (by simp)) name (middle name (R2 :: Rs).dropLast R.length)) = true ↔ _
    rw [Bool.and_eq_true, fitsAt_iff, List.drop_zero]
    constructor
    · rintro ⟨⟨_, h1⟩, h2⟩
      refine ⟨h1, ?_⟩
      have := (greedy name (R2 :: Rs).dropLast ((R2 :: Rs).getLast (by simp)) R.length (fits_le h1)).mpr h2
      rw [List.dropLast_concat_getLast] at this
      exact this
    · rintro ⟨h1, h2⟩
      refine ⟨⟨Nat.zero_le _, h1⟩, (greedy name (R2 :: Rs).dropLast ((R2 :: Rs).getLast (by simp)) R.length (fits_le h1)).mp ?_⟩
      rw [List.dropLast_concat_getLast]
      exact h2
end Mine
end

section
open PySem PySem.W PyProof.Rows
namespace Mine
noncomputable def outT (x : It) : Pt := if x.t = [42] then none else if x.t = [63] then some [32] else if x.t = [91, 32, 93] then some [91, 32, 93] else if x.t = [91, 33, 98, 45, 97, 93] then some [46] else
  if x.t = [91, 98, 45, 97, 93] then some [40, 63, 33, 41] else if x.t = [91, 33, 32, 93] then some [91, 94, 32, 93] else if x.t = [91, 63, 93] then some [91, 63, 93] else some (esc (x.t.headD 0))
noncomputable def rxOf (x : It) : Rx := ⟨x.k, x.s⟩
noncomputable def tkOf (x : It) : Tk := ⟨(outT x).getD [], rxOf x⟩
structure GoodI (x : It) : Prop where
  tr : TrOk x.t (outT x)
  star : x.k = 0 → outT x = none
  one : x.k ≠ 0 → (outT x).isSome = true ∧ TkOk (tkOf x).t (rxOf x) ∧ (tkOf x).t.length ≤ 4
  qm : outT x = some [32] ↔ x.t = [63]
  mark : x.t = [63] → x = markI
  tl : x.t.length ≤ 6
  fl : x.f.length ≤ 2
/-- the runs between the stars -/
noncomputable def seg : List It → List It × List (List It)
  | [] => ([], [])
  | x :: r => if x.k = 0 then (if (seg r).1 = [] ∧ (seg r).2 ≠ [] then seg r else ([], (seg r).1 :: (seg r).2)) else (x :: (seg r).1, (seg r).2)
theorem seg_ne (r : List It) : ∀ s ∈ (seg r).2.dropLast, s ≠ [] := by
  induction r with
  | nil => intro s h; exact nomatch h
  | cons x r ih =>
    rw [seg]
    by_cases hk : x.k = 0
    · rw [if_pos hk]
      by_cases hm : (seg r).1 = [] ∧ (seg r).2 ≠ []
      · rw [if_pos hm]; exact ih
      · rw [if_neg hm]
        intro s h
        cases e : (seg r).2 with
        | nil => rw [e] at h; simp at h
        | cons a b =>
          rw [e] at h ih
          rw [List.dropLast_cons_of_ne_nil (by simp)] at h
          rcases List.mem_cons.mp h with rfl | h
          · intro q
            exact hm ⟨q, by rw [e]; simp⟩
          · exact ih s h
    · rw [if_neg hk]; exact ih
noncomputable def rows (r : List It) : List Rx := r.map rxOf
theorem fits_cons (x : It) (R : List Rx) (c : Nat) (n : List Nat) : fits (rxOf x :: R) (c :: n) = (okc x c && fits R n) := rfl
theorem M_seg (r : List It) : ∀ n, G r n ↔ M0 (rows (seg r).1) ((seg r).2.map rows) n := by
  induction r with
  | nil =>
    intro n
    show n = [] ↔ (fits [] n = true ∧ n.drop 0 = [])
    rw [fits, List.drop_zero]
    exact ⟨fun h => ⟨rfl, h⟩, fun h => h.2⟩
  | cons x r ih =>
    intro n
    by_cases hk : x.k = 0
    · rw [G.star hk, seg, if_pos hk]
      have e0 : (∃ i, i ≤ n.length ∧ G r (n.drop i)) ↔ M1 (rows (seg r).1 :: (seg r).2.map rows) n := by
        constructor
        · rintro ⟨i, h1, h2⟩
          obtain ⟨h3, h4⟩ := (ih _).mp h2
          exact ⟨i, h1, h3, h4⟩
        · rintro ⟨i, h1, h3, h4⟩
          exact ⟨i, h1, (ih _).mpr ⟨h3, h4⟩⟩
      rw [e0]
      by_cases hm : (seg r).1 = [] ∧ (seg r).2 ≠ []
      · rw [if_pos hm, hm.1]
        obtain ⟨a, b, e⟩ := List.exists_cons_of_ne_nil hm.2
        rw [e, List.map_cons]
        show M1 ([] :: _) n ↔ (fits [] n = true ∧ M1 _ (n.drop 0))
        rw [fits, List.drop_zero]
        constructor
        · rintro ⟨i, h1, h2, h3⟩
          exact ⟨rfl, M1.back h1 h3⟩
        · rintro ⟨_, h⟩
          exact ⟨0, Nat.zero_le _, by rw [fits], h⟩
      · rw [if_neg hm, List.map_cons]
        show _ ↔ (fits [] n = true ∧ M1 _ (n.drop 0))
        rw [fits, List.drop_zero]
        exact ⟨fun h => ⟨rfl, h⟩, fun h => h.2⟩
    · rw [G.one hk, seg, if_neg hk]
      show _ ↔ (fits (rxOf x :: rows (seg r).1) n = true ∧ M1 _ (n.drop ((rows (seg r).1).length + 1)))
      constructor
      · rintro ⟨c, n', rfl, h1, h2⟩
        obtain ⟨h3, h4⟩ := (ih _).mp h2
        rw [fits_cons, h1, h3]
        exact ⟨rfl, h4⟩
      · rintro ⟨h1, h2⟩
        cases n with
        | nil => exact noT h1
        | cons c n' =>
          rw [fits_cons, Bool.and_eq_true] at h1
          exact ⟨c, n', rfl, h1.1, (ih _).mpr ⟨h1.2, h2⟩⟩
/-- the parts, from the right -/
noncomputable def trR : List Pt → List Pt
  | [] => []
  | o :: r => if o = none ∧ (trR r).head? = some none then trR r else o :: trR r
theorem trR_none {r : List Pt} (h : (none :: r).length = 0 ∨ True) : (trR (none :: r)).head? = some none := by
  rw [trR]
  by_cases q : (trR r).head? = some none
  · rw [if_pos ⟨rfl, q⟩]; exact q
  · rw [if_neg (fun e => q e.2)]; rfl
theorem trOf_go : ∀ (os acc : List Pt), os.foldl trStep acc = if acc.getLast? = some none ∧ (trR os).head? = some none then acc ++ (trR os).tail else acc ++ trR os := by
  intro os
  induction os with
  | nil => intro acc; rw [trR]; simp
  | cons o r ih =>
    intro acc
    rw [List.foldl_cons, ih]
    cases o with
    | some t =>
      have e1 : trR (some t :: r) = some t :: trR r := by rw [trR, if_neg (fun e => nomatch e.1)]
      rw [trStep_some, e1, if_neg (by simp), if_neg (by simp), List.append_assoc]
      rfl
    | none =>
      by_cases ha : acc.getLast? = some none
      · have e1 : trStep acc none = acc := if_pos ⟨rfl, ha⟩
        rw [e1]
        by_cases hr : (trR r).head? = some none
        · have e2 : trR (none :: r) = trR r := by rw [trR, if_pos ⟨rfl, hr⟩]
          rw [e2, if_pos ⟨ha, hr⟩]
        · have e2 : trR (none :: r) = none :: trR r := by rw [trR, if_neg (fun e => hr e.2)]
          rw [e2, if_neg (fun e => hr e.2), if_pos ⟨ha, rfl⟩]
          rfl
      · have e1 : trStep acc none = acc ++ [none] := if_neg (fun e => ha e.2)
        rw [e1, if_neg (fun e : acc.getLast? = some none ∧ _ => ha e.1)]
        by_cases hr : (trR r).head? = some none
        · have e2 : trR (none :: r) = trR r := by rw [trR, if_pos ⟨rfl, hr⟩]
          rw [e2, if_pos ⟨by simp, hr⟩, List.append_assoc]
          cases e3 : trR r with
          | nil => rw [e3] at hr; exact nomatch hr
          | cons a b => rw [e3] at hr; rw [show a = none from Option.some.inj hr]; rfl
        · have e2 : trR (none :: r) = none :: trR r := by rw [trR, if_neg (fun e => hr e.2)]
          rw [e2, if_neg (fun e => hr e.2), List.append_assoc]
          rfl
theorem trOf_eq (os : List Pt) : trOf os = trR os := by
  rw [trOf, trOf_go, if_neg (fun e => nomatch e.1), List.nil_append]
/-- the parts of the runs -/
theorem tr_seg (r : List It) (h : ∀ x ∈ r, GoodI x) : trR (r.map outT) = ((seg r).1.map fun x => (tkOf x).t).map some ++ bld ((seg r).2.map (·.map fun x => (tkOf x).t)) := by
  induction r with
  | nil => rfl
  | cons x r ih =>
    have ih := ih (fun y hy => h y (.tail _ hy))
    have hx := h x (.head _)
    rw [List.map_cons, trR, seg, ih]
    by_cases hk : x.k = 0
    · rw [hx.star hk, if_pos hk]
      by_cases hm : (seg r).1 = [] ∧ (seg r).2 ≠ []
      · rw [if_pos hm]
        obtain ⟨a, b, e⟩ := List.exists_cons_of_ne_nil hm.2
        rw [hm.1, e]
        exact if_pos ⟨rfl, rfl⟩
      · rw [if_neg hm]
        refine (if_neg (fun q => ?_)).trans rfl
        have q := q.2
        cases e1 : (seg r).1 with
        | cons a b => rw [e1] at q; simp at q
        | nil =>
          cases e2 : (seg r).2 with
          | nil => rw [e1, e2] at q; simp [bld] at q
          | cons a b => exact hm ⟨e1, by rw [e2]; simp⟩
    · rw [if_neg hk]
      obtain ⟨h1, _⟩ := hx.one hk
      obtain ⟨o, ho⟩ := Option.isSome_iff_exists.mp h1
      rw [ho]
      refine (if_neg (fun q => nomatch q.1)).trans ?_
      show _ = (some (tkOf x).t :: _)
      rw [tkOf, ho]; rfl
theorem seg_sub (r : List It) : (∀ x ∈ (seg r).1, x ∈ r ∧ x.k ≠ 0) ∧ ∀ s ∈ (seg r).2, ∀ x ∈ s, x ∈ r ∧ x.k ≠ 0 := by
  induction r with
  | nil => exact ⟨fun x h => (nomatch h), fun s h => (nomatch h)⟩
  | cons y r ih =>
    rw [seg]
    by_cases hk : y.k = 0
    · rw [if_pos hk]
      by_cases hm : (seg r).1 = [] ∧ (seg r).2 ≠ []
      · rw [if_pos hm]
        exact ⟨fun x h => ⟨.tail _ (ih.1 x h).1, (ih.1 x h).2⟩, fun s hs x h => ⟨.tail _ (ih.2 s hs x h).1, (ih.2 s hs x h).2⟩⟩
      · rw [if_neg hm]
        refine ⟨fun x h => (nomatch h), fun s hs x h => ?_⟩
        rcases List.mem_cons.mp hs with rfl | hs
        · exact ⟨.tail _ (ih.1 x h).1, (ih.1 x h).2⟩
        · exact ⟨.tail _ (ih.2 s hs x h).1, (ih.2 s hs x h).2⟩
    · rw [if_neg hk]
      refine ⟨fun x h => ?_, fun s hs x h => ⟨.tail _ (ih.2 s hs x h).1, (ih.2 s hs x h).2⟩⟩
      rcases List.mem_cons.mp h with rfl | h
      · exact ⟨.head _, hk⟩
      · exact ⟨.tail _ (ih.1 x h).1, (ih.1 x h).2⟩
theorem seg_len (r : List It) : (seg r).1.length + ((seg r).2.map List.length).sum + (seg r).2.length ≤ r.length := by
  induction r with
  | nil => exact Nat.le_refl _
  | cons y r ih =>
    rw [seg, List.length_cons]
    by_cases hk : y.k = 0
    · rw [if_pos hk]
      by_cases hm : (seg r).1 = [] ∧ (seg r).2 ≠ []
      · rw [if_pos hm]; lia
      · rw [if_neg hm]
        simp only [List.map_cons, List.sum_cons, List.length_cons, List.length_nil]
        lia
    · rw [if_neg hk]
      simp only [List.length_cons]
      lia
end Mine
end

section
open PySem PySem.W PyProof.Rows
namespace Mine
noncomputable def allI : List It := [markI, ⟨[42], 0, [], []⟩, ⟨[42], 0, [], [97]⟩, ⟨[42], 0, [], [32, 97]⟩, ⟨[42], 0, [], [120, 120]⟩, ⟨[97], 1, [97], [97]⟩, ⟨[32], 1, [32], [32]⟩, ⟨[91, 32, 93], 1, [32], [32]⟩,
  ⟨[91, 33, 98, 45, 97, 93], 2, [], [97]⟩, ⟨[91, 33, 98, 45, 97, 93], 2, [], [10]⟩, ⟨[91, 33, 98, 45, 97, 93], 2, [], [32]⟩, ⟨[91, 33, 98, 45, 97, 93], 2, [], [120]⟩, ⟨[91, 98, 45, 97, 93], 1, [], [97]⟩, ⟨[91, 33, 32, 93], 2, [32], [120]⟩, ⟨[91, 63, 93], 1, [63], [63]⟩,
  ⟨[45], 1, [45], [45]⟩, ⟨[46], 1, [46], [46]⟩, ⟨[40], 1, [40], [40]⟩, ⟨[41], 1, [41], [41]⟩, ⟨[43], 1, [43], [43]⟩, ⟨[35], 1, [35], [35]⟩, ⟨[94], 1, [94], [94]⟩, ⟨[10], 1, [10], [10]⟩]
noncomputable abbrev It.q (x : It) : List Nat × Int × List Nat × List Nat := (x.t, x.k, x.s, x.f)
theorem It.of_q {x : It} {l : List It} (h : x.q ∈ l.map It.q) : x ∈ l := by
  obtain ⟨⟨a, b, c, d⟩, hy, e⟩ := List.mem_map.mp h
  obtain ⟨a', b', c', d'⟩ := x
  cases e
  exact hy
theorem starFit_mem (l : Nat) : starFit l ∈ ([[], [97], [32, 97], [120, 120]] : List (List Nat)) := by
  unfold starFit
  have h : l % 4 < 4 := Nat.mod_lt _ (by decide)
  revert h
  generalize l % 4 = k
  revert k
  decide
theorem negFit_mem (l : Nat) : negFit l ∈ ([[97], [10], [32], [120]] : List (List Nat)) := by
  unfold negFit
  have h : l % 4 < 4 := Nat.mod_lt _ (by decide)
  revert h
  generalize l % 4 = k
  revert k
  decide
theorem sign_mem (l : Nat) : sign l ∈ ([[45], [46], [40], [41], [43], [35], [94], [10]] : List (List Nat)) := by
  unfold sign
  have h : l % 8 < 8 := Nat.mod_lt _ (by decide)
  revert h
  generalize l % 8 = k
  revert k
  decide
theorem drawn_mem (n : Nat) : drawn n ∈ allI := by
  refine It.of_q ?_
  unfold drawn
  have h : n % 14 < 14 := Nat.mod_lt _ (by decide)
  have h1 := starFit_mem (n / 14)
  have h2 := negFit_mem (n / 14)
  have h3 := sign_mem (n / 14)
  revert h h1 h2 h3
  generalize starFit (n / 14) = a
  generalize negFit (n / 14) = b
  generalize sign (n / 14) = c
  generalize n % 14 = k
  revert a b c k
  have X : ∀ k < 14, ∀ a ∈ ([[], [97], [32, 97], [120, 120]] : List (List Nat)), ∀ b ∈ ([[97], [10], [32], [120]] : List (List Nat)), ∀ c ∈ ([[45], [46], [40], [41], [43], [35], [94], [10]] : List (List Nat)), It.q (match k with
  | 0 | 1 | 2 | 3 => ⟨[63], 1, [32], [32]⟩
  | 4 | 5 => ⟨[42], 0, [], a⟩
  | 6 => ⟨[97], 1, [97], [97]⟩
  | 7 => ⟨[32], 1, [32], [32]⟩
  | 8 => ⟨[91, 32, 93], 1, [32], [32]⟩
  | 9 => ⟨[91, 33, 98, 45, 97, 93], 2, [], b⟩
  | 10 => ⟨[91, 98, 45, 97, 93], 1, [], [97]⟩
  | 11 => ⟨[91, 33, 32, 93], 2, [32], [120]⟩
  | 12 => ⟨[91, 63, 93], 1, [63], [63]⟩
  | _ => ⟨c, 1, c, c⟩) ∈ allI.map It.q := by decide +kernel
  exact fun a b c k h h1 h2 h3 => X k h a h1 b h2 c h3
theorem good_star {x : It} (h1 : x.t = [42]) (h2 : x.k = 0) (h3 : x.f.length ≤ 2) : GoodI x := by
  obtain ⟨t, k, s, f⟩ := x
  cases h1; cases h2
  exact ⟨.inl ⟨rfl, rfl⟩, fun _ => rfl, fun h => absurd rfl h, ⟨fun h => (nomatch h), fun h => (nomatch h)⟩, fun h => (nomatch h), Nat.le_of_ble_eq_true rfl, h3⟩
theorem good_one {x : It} (h2 : x.k ≠ 0) (h1 : TrOk x.t (outT x)) (o : List Nat) (h3 : outT x = some o) (h4 : TkOk o (rxOf x)) (h5 : o.length ≤ 4) (h6 : o ≠ [32] ∧ x.t ≠ [63] ∨ x = markI) (h7 : x.t.length ≤ 6) (h8 : x.f.length ≤ 2) : GoodI x := by
  have e : (tkOf x).t = o := by rw [tkOf, h3]; rfl
  refine ⟨h1, fun h => absurd h h2, fun _ => ⟨by rw [h3]; rfl, by rw [e]; exact h4, by rw [e]; exact h5⟩, ?_, fun h => ?_, h7, h8⟩
  · rcases h6 with ⟨h6, h9⟩ | rfl
    · exact ⟨fun h => absurd (Option.some.inj (h3.symm.trans h)) h6, fun h => absurd h h9⟩
    · exact ⟨fun _ => rfl, fun _ => rfl⟩
  · rcases h6 with ⟨_, h9⟩ | rfl
    · exact absurd h h9
    · rfl
theorem good_esc (c : Nat) (h1 : c ∈ specials) (h2 : c ≠ 42 ∧ c ≠ 63 ∧ c ≠ 91 ∧ c < 128) : GoodI ⟨[c], 1, [c], [c]⟩ := by
  obtain ⟨h2, h3, h4, h5⟩ := h2
  have e : outT ⟨[c], 1, [c], [c]⟩ = some [92, c] := by
    simp [outT, h2, h3, esc, h1]
  have e2 : esc c = [92, c] := by simp [esc, h1]
  exact good_one (show (1 : Int) ≠ 0 by decide) (.inr (.inr (.inl ⟨c, h5, h2, h3, h4, rfl, by rw [e, e2]⟩))) _ e (.inr (.inr (.inl ⟨c, rfl, rfl⟩))) (Nat.le_of_ble_eq_true rfl) (.inl ⟨by simp, by simpa using h3⟩) (Nat.le_of_ble_eq_true rfl) (Nat.le_of_ble_eq_true rfl)
theorem good_all : ∀ x ∈ allI, GoodI x := by
  intro x hx
  have k1 : (1 : Int) ≠ 0 := by decide
  have k2 : (2 : Int) ≠ 0 := by decide
  simp only [allI, List.mem_cons, List.not_mem_nil, or_false] at hx
  rcases hx with rfl | rfl | rfl | rfl | rfl | rfl | rfl | rfl | rfl | rfl | rfl | rfl | rfl | rfl | rfl | rfl | rfl | rfl | rfl | rfl | rfl | rfl | rfl
  · exact good_one k1 (.inr (.inl ⟨rfl, rfl⟩)) [32] rfl (.inr (.inr (.inr (.inr (.inr ⟨32, by decide, by decide, by decide, by decide, rfl, rfl⟩))))) (by decide) (.inr rfl) (by decide) (by decide)
  · exact good_star rfl rfl (by decide)
  · exact good_star rfl rfl (by decide)
  · exact good_star rfl rfl (by decide)
  · exact good_star rfl rfl (by decide)
  · exact good_one k1 (.inr (.inr (.inl ⟨97, by decide, by decide, by decide, by decide, rfl, rfl⟩))) [97] rfl (.inr (.inr (.inr (.inr (.inr ⟨97, by decide, by decide, by decide, by decide, rfl, rfl⟩))))) (by decide) (.inl (by decide)) (by decide) (by decide)
  · exact good_esc 32 (by decide) (by decide)
  · exact good_one k1 (.inr (.inr (.inr ⟨false, [32], [], rfl, .inl ⟨rfl, rfl, rfl⟩⟩))) _ rfl (.inr (.inr (.inr (.inr (.inl ⟨32, by decide, by decide, rfl, rfl⟩))))) (by decide) (.inl (by decide)) (by decide) (by decide)
  · exact good_one k2 (.inr (.inr (.inr ⟨true, [98, 45, 97], [], rfl, .inr (.inr (.inr (.inr ⟨rfl, rfl, rfl⟩)))⟩))) _ rfl (.inr (.inl ⟨rfl, rfl⟩)) (by decide) (.inl (by decide)) (by decide) (by decide)
  · exact good_one k2 (.inr (.inr (.inr ⟨true, [98, 45, 97], [], rfl, .inr (.inr (.inr (.inr ⟨rfl, rfl, rfl⟩)))⟩))) _ rfl (.inr (.inl ⟨rfl, rfl⟩)) (by decide) (.inl (by decide)) (by decide) (by decide)
  · exact good_one k2 (.inr (.inr (.inr ⟨true, [98, 45, 97], [], rfl, .inr (.inr (.inr (.inr ⟨rfl, rfl, rfl⟩)))⟩))) _ rfl (.inr (.inl ⟨rfl, rfl⟩)) (by decide) (.inl (by decide)) (by decide) (by decide)
  · exact good_one k2 (.inr (.inr (.inr ⟨true, [98, 45, 97], [], rfl, .inr (.inr (.inr (.inr ⟨rfl, rfl, rfl⟩)))⟩))) _ rfl (.inr (.inl ⟨rfl, rfl⟩)) (by decide) (.inl (by decide)) (by decide) (by decide)
  · exact good_one k1 (.inr (.inr (.inr ⟨false, [98, 45, 97], [], rfl, .inr (.inr (.inr (.inl ⟨rfl, rfl, rfl⟩)))⟩))) _ rfl (.inl ⟨rfl, rfl⟩) (by decide) (.inl (by decide)) (by decide) (by decide)
  · exact good_one k2 (.inr (.inr (.inr ⟨true, [32], [], rfl, .inr (.inr (.inl ⟨rfl, rfl, rfl⟩))⟩))) _ rfl (.inr (.inr (.inr (.inl ⟨32, by decide, rfl, rfl⟩)))) (by decide) (.inl (by decide)) (by decide) (by decide)
  · exact good_one k1 (.inr (.inr (.inr ⟨false, [63], [], rfl, .inr (.inl ⟨rfl, rfl, rfl⟩)⟩))) _ rfl (.inr (.inr (.inr (.inr (.inl ⟨63, by decide, by decide, rfl, rfl⟩))))) (by decide) (.inl (by decide)) (by decide) (by decide)
  · exact good_esc 45 (by decide) (by decide)
  · exact good_esc 46 (by decide) (by decide)
  · exact good_esc 40 (by decide) (by decide)
  · exact good_esc 41 (by decide) (by decide)
  · exact good_esc 43 (by decide) (by decide)
  · exact good_esc 35 (by decide) (by decide)
  · exact good_esc 94 (by decide) (by decide)
  · exact good_esc 10 (by decide) (by decide)
theorem row_good {ns : List Nat} : ∀ x ∈ rowOf ns, GoodI x := by
  intro x hx
  have hm : GoodI markI := good_all _ (.head _)
  rcases List.mem_append.mp hx with hx | hx
  · rcases List.mem_append.mp hx with hx | hx
    · rw [(List.mem_replicate.mp hx).2]; exact hm
    · obtain ⟨n, _, rfl⟩ := List.mem_map.mp hx
      exact good_all _ (drawn_mem n)
  · rw [(List.mem_replicate.mp hx).2]; exact hm
/-- the marks ahead of a row -/
theorem ahead_split (row : List It) (h : ∀ x ∈ row, GoodI x) : ∃ R, row = List.replicate (ahead row) markI ++ R ∧ (∀ x, R.head? = some x → x.t ≠ [63]) := by
  induction row with
  | nil => exact ⟨[], rfl, fun x h => nomatch h⟩
  | cons x r ih =>
    obtain ⟨R, h1, h2⟩ := ih (fun y hy => h y (.tail _ hy))
    rw [ahead]
    by_cases hx : x.t = [63]
    · rw [if_pos hx]
      refine ⟨R, ?_, h2⟩
      rw [List.replicate_succ, List.cons_append, ← h1, ← (h x (.head _)).mark hx]
    · rw [if_neg hx]
      exact ⟨x :: r, rfl, fun y e => by rw [← Option.some.inj e]; exact hx⟩
theorem ahead_le (row : List It) : ahead row ≤ row.length := by
  induction row with
  | nil => exact Nat.le_refl _
  | cons x r ih =>
    rw [ahead, List.length_cons]
    by_cases hx : x.t = [63]
    · rw [if_pos hx]; lia
    · rw [if_neg hx]; lia
theorem row_split (row : List It) (h : ∀ x ∈ row, GoodI x) : ∃ core, row = List.replicate (ahead row) markI ++ core ++ List.replicate (ahead (row.drop (ahead row)).reverse) markI ∧ (core = [] → ahead (row.drop (ahead row)).reverse = 0) ∧ (∀ x, core.head? = some x → x.t ≠ [63]) ∧ (∀ x, core.getLast? = some x → x.t ≠ [63]) := by
  obtain ⟨R, h1, h2⟩ := ahead_split row h
  have e : row.drop (ahead row) = R := by
    have := congrArg (List.drop (ahead row)) h1
    rw [this, List.drop_append_of_le_length (by simp), List.drop_of_length_le (by simp)]
    rfl
  rw [e]
  have hR : ∀ x ∈ R.reverse, GoodI x := fun x hx => h x (by rw [h1]; exact List.mem_append_right _ (List.mem_reverse.mp hx))
  obtain ⟨S, h3, h4⟩ := ahead_split R.reverse hR
  generalize ahead R.reverse = B at h3 ⊢
  have h5 : R = S.reverse ++ List.replicate B markI := by
    have := congrArg List.reverse h3
    rw [List.reverse_reverse, List.reverse_append, List.reverse_replicate] at this
    exact this
  have hB : S = [] → B = 0 := by
    rintro rfl
    cases B with
    | zero => rfl
    | succ B => exact absurd rfl (h2 markI (by rw [h5]; rfl))
  refine ⟨S.reverse, ?_, fun q => hB (by simpa using q), fun x hx => h2 x ?_, fun x hx => h4 x ?_⟩
  · rw [List.append_assoc, ← h5]; exact h1
  · rw [h5]
    cases e : S.reverse with
    | nil => rw [e] at hx; exact nomatch hx
    | cons a b => rw [e] at hx; exact hx
  · rw [List.getLast?_reverse] at hx; exact hx
end Mine
end

section
open PySem PySem.W PyProof.Rows
namespace Mine
theorem cut_nat {α : Type} (xs : List α) (a b : Nat) (h : a ≤ b) : cutL (some (a : Int)) (some (b : Int)) xs = (xs.drop a).take (b - a) := by
  have := cut_mid (pre := ([] : List α)) (rest := xs) a b h
  simpa using this
theorem cut_pad {α : Type} (q : α) (X : List α) (A B l h : Nat) (hl : l ≤ A) (hh : h ≤ B) (z : Int) (hz : z = ((A + X.length + B : Nat) : Int) - h) : cutL (some (l : Int)) (some z) (List.replicate A q ++ X ++ List.replicate B q) = List.replicate (A - l) q ++ X ++ List.replicate (B - h) q := by
  rw [show z = ((A + X.length + B - h : Nat) : Int) by lia, cut_nat _ _ _ (by lia), List.append_assoc, List.drop_append_of_le_length (by simpa using hl), List.drop_replicate, List.take_append, List.take_append, List.take_of_length_le (by simp; lia), List.take_of_length_le (by simp; lia), List.take_replicate, List.length_replicate, List.append_assoc]
  congr 3
  lia
theorem seqIndex_out {l n : Nat} (h : n ≤ l) : seqIndex? (l : Int) n = none := by
  unfold seqIndex?
  simp only [show ¬ ((l : Int) < 0) by lia, if_false]
  rw [if_neg]
  simp only [Bool.and_eq_true, decide_eq_true_eq]
  lia
theorem thg_str (x : List Nat) (h : x.length ≤ lim) : Thg (.str x) (x.map (· == 32)) where
  idx := fun l hl => by
    rw [List.length_map] at hl
    refine ⟨.str [x[l]], ?_, ?_⟩
    · show (Option.none : Option (Option D)).or (some (Option.map _ ((seqIndex? (l : Int) x.length).bind (x[·]?)))) = _
      rw [at_nat (List.getElem?_eq_getElem hl)]; rfl
    · rw [List.getD_eq_getElem?_getD, List.getElem?_map, List.getElem?_eq_getElem hl]
      show some ((x[l] == 32) && true) = some (x[l] == 32)
      rw [Bool.and_true]
  out := fun l hl => by
    rw [List.length_map] at hl
    show (Option.none : Option (Option D)).or (some (Option.map _ ((seqIndex? (l : Int) x.length).bind (x[·]?)))) = _
    rw [seqIndex_out hl]; rfl
  len := by
    rw [List.length_map]; rfl
  nt := fun ds h => nomatch h
  cut := fun lo hi => ⟨_, rfl⟩
  small := by rw [List.length_map]; exact h
theorem thg_lst (ps : List Pt) (a : Nat) (h : ps.length ≤ lim) : Thg (.lst (ps.map (PtD a))) (ps.map (· == some [32])) where
  idx := fun l hl => by
    rw [List.length_map] at hl
    refine ⟨PtD a ps[l], ?_, ?_⟩
    · show (some ((seqIndex? (l : Int) (ps.map (PtD a)).length).bind ((ps.map (PtD a))[·]?))).or _ = _
      rw [at_nat (x := PtD a ps[l]) (by rw [List.getElem?_map, List.getElem?_eq_getElem hl]; rfl)]; rfl
    · rw [List.getD_eq_getElem?_getD, List.getElem?_map, List.getElem?_eq_getElem hl]
      show _ = some (ps[l] == some [32])
      cases ps[l] with
      | none => rfl
      | some t => rfl
  out := fun l hl => by
    rw [List.length_map] at hl
    show (some ((seqIndex? (l : Int) (ps.map (PtD a)).length).bind ((ps.map (PtD a))[·]?))).or _ = _
    rw [seqIndex_out (by rw [List.length_map]; exact hl)]; rfl
  len := by
    rw [List.length_map]
    show ((some (ps.map (PtD a))).map List.length).or _ = _
    rw [Option.map_some, List.length_map]; rfl
  nt := fun ds h => nomatch h
  cut := fun lo hi => ⟨_, rfl⟩
  small := by rw [List.length_map]; exact h
theorem flags_ok {C : List Bool} {B : Nat} (hf : ∀ c, C.head? = some c → c = false) (hl : ∀ c, C.getLast? = some c → c = false) : C ≠ [] → C.getD 0 false = false ∧ ∀ b, b ≤ B → (C ++ List.replicate B true).getD (C.length + B - 1 - b) false = decide (b < B) := by
  intro hC
  have hp := List.length_pos_iff.mpr hC
  refine ⟨?_, fun b hb => ?_⟩
  · cases C with
    | nil => rfl
    | cons c r => exact hf c rfl
  · rw [List.getD_eq_getElem?_getD]
    by_cases h : b < B
    · rw [decide_eq_true h, List.getElem?_append_right (by lia), List.getElem?_replicate, if_pos (by lia)]; rfl
    · rw [decide_eq_false h, List.getElem?_append_left (by lia), show C.length + B - 1 - b = C.length - 1 by lia, ← List.getLast?_eq_getElem?]
      cases e : C.getLast? with
      | none => rfl
      | some c => exact hl c e
noncomputable def lo (am : Int) (A : Nat) : Nat := if am < 0 then A else min am.toNat A
noncomputable def hi (am : Int) (A B : Nat) : Nat := if am < 0 then B else min (am - A).toNat B
theorem lo_le (am : Int) (A : Nat) : lo am A ≤ A := by unfold lo; split <;> lia
theorem hi_le (am : Int) (A B : Nat) : hi am A B ≤ B := by unfold hi; split <;> lia
theorem lo_eq (am : Int) (A : Nat) : (if am < 0 then (A : Int) else min am A) = (lo am A : Int) := by unfold lo; split <;> lia
theorem hi_eq (am : Int) (A B : Nat) : (if am < 0 then (B : Int) else min (max 0 (am - A)) B) = (hi am A B : Int) := by unfold hi; split <;> lia
/-- what is taken off -/
theorem strip_pad (g : Gb) (f2 : FnAt g (fnGet 2)) {α : Type} (q : α) (X : List α) (A B : Nat) (am : Int) (hz : -(2 ^ 61) ≤ am ∧ am ≤ 2 ^ 61) (bl : α → Bool) (hq : bl q = true) (k : List α → D) (T : Thg (k (List.replicate A q ++ X ++ List.replicate B q)) ((List.replicate A q ++ X ++ List.replicate B q).map bl))
    (hcut : ∀ xs i j, dCut (k xs) i j = some (k (cutL i j xs))) (hf : ∀ x, X.head? = some x → bl x = false) (hl : ∀ x, X.getLast? = some x → bl x = false) (hB : X = [] → B = 0) :
    Ct g 0 (fnGet 2).name [k (List.replicate A q ++ X ++ List.replicate B q), .int am] (if X = [] ∧ ¬ (0 ≤ am ∧ am ≤ A) then Option.none else some (k (List.replicate (A - lo am A) q ++ X ++ List.replicate (B - hi am A B) q))) := by
  have efl : (List.replicate A q ++ X ++ List.replicate B q).map bl = List.replicate A true ++ (X.map bl ++ List.replicate B true) := by
    rw [List.map_append, List.map_append, List.map_replicate, List.map_replicate, hq, List.append_assoc]
  have eX : X.map bl = [] ↔ X = [] := List.map_eq_nil_iff
  refine strip_ok g f2 _ _ T am hz A B (X.map bl) efl (flags_ok (fun c h => ?_) (fun c h => ?_)) (fun h => hB (eX.mp h)) _ ?_
  · rw [List.head?_map] at h
    obtain ⟨x, h1, rfl⟩ := Option.map_eq_some_iff.mp h
    exact hf x h1
  · rw [List.getLast?_map] at h
    obtain ⟨x, h1, rfl⟩ := Option.map_eq_some_iff.mp h
    exact hl x h1
  · by_cases h : X = [] ∧ ¬ (0 ≤ am ∧ am ≤ A)
    · rw [if_pos ⟨eX.mpr h.1, h.2⟩, if_pos h]
    · rw [if_neg (fun e => h ⟨eX.mp e.1, e.2⟩), if_neg h, lo_eq, hi_eq, hcut, cut_pad q X A B _ _ (lo_le _ _) (hi_le _ _ _) _ (by rw [List.length_map, List.length_append, List.length_append, List.length_replicate, List.length_replicate])]
end Mine
end

section
open PySem PySem.W PyProof.Rows
namespace Mine
structure Fns (g : Gb) (c0 : Addr) : Prop where
  f2 : FnAt g (fnGet 2)
  f6 : FnAt g (fnGet 6)
  f8 : FnAtC g (fnGet 8) c0
  f9 : FnAt g (fnGet 9)
  f11 : FnAt g (fnGet 11)
  f12 : FnAt g (fnGet 12)
  f13 : FnAt g (fnGet 13)
  f14 : FnAt g (fnGet 14)
  f15 : FnAt g (fnGet 15)
  f16 : FnAt g (fnGet 16)
  f17 : FnAt g (fnGet 17)
  f18 : FnAt g (fnGet 18)
  f19 : FnAt g (fnGet 19)
  f20 : FnAt g (fnGet 20)
  f21 : FnAt g (fnGet 21)
  f22 : FnAt g (fnGet 22)
  f23 : FnAt g (fnGet 23)
  f24 : FnAt g (fnGet 24)
  f25 : FnAt g (fnGet 25)
  tf : Tf g c0
  pa : PatAt g
  ma : MapAt g
theorem trR_some (t : List Nat) (r : List Pt) : trR (some t :: r) = some t :: trR r := by rw [trR, if_neg (fun e => nomatch e.1)]
theorem trR_pre (t : List Nat) (X : List Pt) (a : Nat) : trR (List.replicate a (some t) ++ X) = List.replicate a (some t) ++ trR X := by
  induction a with
  | zero => rfl
  | succ a ih => rw [List.replicate_succ, List.cons_append, trR_some, ih]; rfl
theorem trR_head (os : List Pt) : (trR os).head? = os.head? := by
  cases os with
  | nil => rfl
  | cons o r =>
    rw [trR]
    by_cases h : o = none ∧ (trR r).head? = some none
    · rw [if_pos h, h.2, h.1]; rfl
    · rw [if_neg h]; rfl
theorem trR_nil {os : List Pt} : trR os = [] ↔ os = [] := by
  have := trR_head os
  constructor
  · intro h
    rw [h] at this
    cases os with
    | nil => rfl
    | cons _ _ => exact nomatch this
  · rintro rfl; rfl
theorem trR_last (os : List Pt) : (trR os).getLast? = os.getLast? := by
  induction os with
  | nil => rfl
  | cons o r ih =>
    rw [trR]
    cases r with
    | nil => cases o <;> rfl
    | cons p r =>
      have h1 : trR (p :: r) ≠ [] := fun e => nomatch trR_nil.mp e
      rw [List.getLast?_cons_cons, ← ih]
      by_cases h : o = none ∧ (trR (p :: r)).head? = some none
      · rw [if_pos h]
      · rw [if_neg h]
        obtain ⟨q, s, e⟩ := List.exists_cons_of_ne_nil h1
        rw [e, List.getLast?_cons_cons]
theorem trR_suf (t : List Nat) (b : Nat) (X : List Pt) : trR (X ++ List.replicate b (some t)) = trR X ++ List.replicate b (some t) := by
  induction X with
  | nil =>
    have := trR_pre t [] b
    rw [List.append_nil] at this
    rw [List.nil_append, this, trR, List.append_nil]; rfl
  | cons o r ih =>
    rw [List.cons_append, trR, trR, ih]
    by_cases h : o = none ∧ (trR r).head? = some none
    · have : (trR r ++ List.replicate b (some t)).head? = some none := by
        cases e : trR r with
        | nil => rw [e] at h; exact nomatch h.2
        | cons x y => rw [e] at h; exact h.2
      rw [if_pos h, if_pos ⟨h.1, this⟩]
    · rw [if_neg h, if_neg (fun q => h ⟨q.1, ?_⟩)]
      · rfl
      · have q := q.2
        cases e : trR r with
        | nil =>
          rw [e] at q
          cases b with
          | zero => exact nomatch q
          | succ b => exact nomatch (Option.some.inj q)
        | cons x y => rw [e] at q; exact q
theorem parts_pad (core : List It) (a b : Nat) : trOf ((List.replicate a markI ++ core ++ List.replicate b markI).map outT) = List.replicate a (some [32]) ++ trR (core.map outT) ++ List.replicate b (some [32]) := by
  rw [trOf_eq, List.map_append, List.map_append, List.map_replicate, List.map_replicate]
  show trR (List.replicate a (some [32]) ++ core.map outT ++ List.replicate b (some [32])) = _
  rw [trR_suf, trR_pre]
theorem catL_len (k : Nat) (l : List (List Nat)) (h : ∀ x ∈ l, x.length ≤ k) : (catL l).length ≤ k * l.length := by
  induction l with
  | nil => exact Nat.zero_le _
  | cons x r ih =>
    have h1 := ih (fun y hy => h y (.tail _ hy))
    have h2 := h x (.head _)
    rw [catL, List.length_append, List.length_cons, Nat.mul_succ]
    lia
theorem tailT_len (k : Nat) : ∀ (ss : List (List (List Nat))), (∀ s ∈ ss, ∀ x ∈ s, x.length ≤ k) → (tailT ss).length ≤ k * (ss.map List.length).sum + 7 * ss.length := by
  intro ss
  induction ss with
  | nil => intro _; exact Nat.zero_le _
  | cons s r ih =>
    intro h
    have h1 := ih (fun y hy => h y (.tail _ hy))
    have h2 := catL_len k s (h s (.head _))
    have e : k * (List.map List.length (s :: r)).sum = k * s.length + k * (List.map List.length r).sum := by rw [List.map_cons, List.sum_cons, Nat.mul_add]
    rw [e, List.length_cons]
    cases r with
    | nil => rw [tailT, List.length_append]; simp; lia
    | cons y z =>
      rw [show tailT (s :: y :: z) = [40, 63, 62, 46, 42, 63] ++ catL s ++ [41] ++ tailT (y :: z) from rfl, List.length_append, List.length_append, List.length_append]
      simp only [List.length_cons, List.length_nil] at h1 ⊢
      lia
theorem mem_le_sum {x : Nat} {l : List Nat} (h : x ∈ l) : x ≤ l.sum := by
  induction l with
  | nil => exact nomatch h
  | cons y r ih =>
    rw [List.sum_cons]
    rcases List.mem_cons.mp h with rfl | h
    · exact Nat.le_add_right _ _
    · exact Nat.le_trans (ih h) (Nat.le_add_left _ _)
theorem good_pad {core : List It} (hc : ∀ x ∈ core, GoodI x) (a b : Nat) : ∀ x ∈ List.replicate a markI ++ core ++ List.replicate b markI, GoodI x := by
  have hm : GoodI markI := good_all _ (.head _)
  intro x hx
  rcases List.mem_append.mp hx with hx | hx
  · rcases List.mem_append.mp hx with hx | hx
    · rw [(List.mem_replicate.mp hx).2]; exact hm
    · exact hc x hx
  · rw [(List.mem_replicate.mp hx).2]; exact hm
theorem translate_row {g : Gb} {c0 : Addr} (F : Fns g c0) (row : List It) (hg : ∀ x ∈ row, GoodI x) (hl : row.length ≤ 50) (a : Nat) : Ct g 2 (fnGet 8).name [.str (pattern row), .box a, .str [32]] (some (.lst ((trOf (row.map outT)).map (PtD a)))) := by
  have h := translate_ok g c0 F.f8 F.tf F.pa F.f6 F.ma a (row.map fun x => (x.t, outT x)) (fun p hp => by
    obtain ⟨x, h1, rfl⟩ := List.mem_map.mp hp
    exact (hg x h1).tr) (by rw [List.length_map]; lia)
  rw [List.map_map, List.map_map] at h
  refine h ?_
  have := catL_len 6 (row.map It.t) (fun x hx => by
    obtain ⟨y, h1, rfl⟩ := List.mem_map.mp hx
    exact (hg y h1).tl)
  rw [List.length_map] at this
  exact Nat.le_trans this (by lia)
theorem pattern_len {row : List It} (hg : ∀ x ∈ row, GoodI x) (hl : row.length ≤ 50) : (pattern row).length ≤ lim := by
  have := catL_len 6 (row.map It.t) (fun x hx => by
    obtain ⟨y, h1, rfl⟩ := List.mem_map.mp hx
    exact (hg y h1).tl)
  rw [List.length_map] at this
  exact Nat.le_trans this (show 6 * row.length ≤ 100000 by lia)
theorem amount_pad {g : Gb} {c0 : Addr} (F : Fns g c0) (core : List It) (hc : ∀ x ∈ core, GoodI x) (w : List Nat) (a b st : Nat) (am : Int) (ps : List D) (name : List Nat) (hl : a + core.length + b ≤ 50) (hw : a + w.length + b ≤ 10000)
    (h1 : Ct g 0 (fnGet 2).name [.lst ps, .int am] (some (.lst ((List.replicate a (some [32]) ++ trR (core.map outT) ++ List.replicate b (some [32])).map (PtD st)))))
    (h2 : Ct g 0 (fnGet 2).name [.str name, .int am] (some (.str (List.replicate a 32 ++ w ++ List.replicate b 32)))) :
    Ct g 3 (fnGet 24).name [.lst ps, .str name, .box st, .lst ((List.replicate a markI ++ core ++ List.replicate b markI).map It.d), .bool (means core w), .int am] (some (.bool true)) := by
  have hg := good_pad hc a b
  have hrl : (List.replicate a markI ++ core ++ List.replicate b markI).length ≤ 50 := by simp; lia
  have hp := parts_pad core a b
  have hM := M_seg (List.replicate a markI ++ core ++ List.replicate b markI) (List.replicate a 32 ++ w ++ List.replicate b 32)
  rw [G.pad (q := markI) (c := 32) rfl rfl core w a b] at hM
  generalize List.replicate a markI ++ core ++ List.replicate b markI = row at *
  rw [← hp] at h1
  have h4 := translate_row F row hg hrl st
  have e1 : trOf (row.map outT) = _ := (trOf_eq _).trans (tr_seg row hg)
  have sl := seg_len row
  obtain ⟨s1, s2⟩ := seg_sub row
  have s3 := seg_ne row
  have t4 : ∀ x ∈ row, x.k ≠ 0 → TkOk (tkOf x).t (tkOf x).r ∧ (tkOf x).t.length ≤ 4 := fun x hx hk => ⟨((hg x hx).one hk).2.1, ((hg x hx).one hk).2.2⟩
  generalize seg row = sg at *
  obtain ⟨s0, ss⟩ := sg
  have c0l : (catL (s0.map fun x => (tkOf x).t)).length ≤ 4 * s0.length := by
    have := catL_len 4 (s0.map fun x => (tkOf x).t) (fun x hx => by
      obtain ⟨y, h, rfl⟩ := List.mem_map.mp hx
      exact (t4 y (s1 y h).1 (s1 y h).2).2)
    rwa [List.length_map] at this
  have csl : (tailT (ss.map (·.map fun x => (tkOf x).t))).length ≤ 4 * (ss.map List.length).sum + 7 * ss.length := by
    have := tailT_len 4 (ss.map (·.map fun x => (tkOf x).t)) (fun s hs x hx => by
      obtain ⟨u, h, rfl⟩ := List.mem_map.mp hs
      obtain ⟨y, h', rfl⟩ := List.mem_map.mp hx
      exact (t4 y (s2 u h y h').1 (s2 u h y h').2).2)
    rw [List.map_map, List.length_map] at this
    have e : (List.length ∘ fun x : List It => x.map fun x => (tkOf x).t) = List.length := by funext l; simp
    rwa [e] at this
  have htx : (catL (s0.map fun x => (tkOf x).t) ++ tailT (ss.map (·.map fun x => (tkOf x).t))).length ≤ 4000 := by
    rw [List.length_append]
    have sl : s0.length + (ss.map List.length).sum + ss.length ≤ row.length := sl
    lia
  have h5 := join_ok g F.f9 st (s0.map fun x => (tkOf x).t) (ss.map (·.map fun x => (tkOf x).t)) (fun s hs => by
    rw [← List.map_dropLast] at hs
    obtain ⟨u, h, rfl⟩ := List.mem_map.mp hs
    intro q
    exact s3 u h (List.map_eq_nil_iff.mp q)) (by
      rw [← e1]
      have := trOf_len (row.map outT)
      rw [List.length_map] at this
      lia) (by lia)
  rw [← e1] at h5
  have h6 := read_ok g F.f18 F.f17 (s0.map tkOf) (ss.map (·.map tkOf)) (fun x hx => by
    obtain ⟨y, h, rfl⟩ := List.mem_map.mp hx
    exact (t4 y (s1 y h).1 (s1 y h).2).1) (fun s hs x hx => by
      obtain ⟨u, h, rfl⟩ := List.mem_map.mp hs
      obtain ⟨y, h', rfl⟩ := List.mem_map.mp hx
      exact (t4 y (s2 u h y h').1 (s2 u h y h').2).1) ([40, 63, 115, 58] ++ catL (s0.map fun x => (tkOf x).t) ++ tailT (ss.map (·.map fun x => (tkOf x).t)) ++ [41, 92, 90]) (by
        rw [catT, List.map_map, List.map_map]
        have e : ((fun x : List Tk => x.map Tk.t) ∘ fun x : List It => x.map tkOf) = (fun x : List It => x.map fun x => (tkOf x).t) := by funext l; simp [List.map_map, Function.comp_def]
        rw [e]
        simp only [List.append_assoc]
        rfl) (by
        simp only [List.length_append] at htx ⊢
        simp
        lia)
  have e6 : ((s0.map tkOf :: ss.map (·.map tkOf)).map fun s => rowD (rowR s)) = (rows s0 :: ss.map rows).map rowD := by
    rw [List.map_cons, List.map_cons, List.map_map, List.map_map]
    have e : ∀ l : List It, rowR (l.map tkOf) = rows l := fun l => by rw [rowR, List.map_map]; rfl
    rw [e]
    congr 1
    refine List.map_congr_left fun l _ => ?_
    show rowD (rowR (l.map tkOf)) = rowD (rows l)
    rw [e]
  rw [e6] at h6
  have h7 := takes_ok g F.f20 F.f19 (rows s0 :: ss.map rows) (List.replicate a 32 ++ w ++ List.replicate b 32) (by simp) (fun r hr => by
    rcases List.mem_cons.mp hr with rfl | hr
    · rw [rows, List.length_map]; have sl : s0.length + (ss.map List.length).sum + ss.length ≤ row.length := sl; lia
    · obtain ⟨u, h, rfl⟩ := List.mem_map.mp hr
      rw [rows, List.length_map]
      have sl : s0.length + (ss.map List.length).sum + ss.length ≤ row.length := sl
      have : u.length ≤ (ss.map List.length).sum := mem_le_sum (List.mem_map.mpr ⟨u, h, rfl⟩)
      lia) (by
      have sl : s0.length + (ss.map List.length).sum + ss.length ≤ row.length := sl
      simp; lia) (by simp; lia)
  rw [show takes (rows s0 :: ss.map rows) (List.replicate a 32 ++ w ++ List.replicate b 32) = means core w from Bool.eq_iff_iff.mpr ((takes_iff _ _ _).trans (hM.symm.trans (means_iff core w).symm))] at h7
  exact amount_some g F.f24 ps name st (row.map It.d) am _ _ _ _ _ _ (lstrip_ok g F.f22 _ am _ h1) (lstrip_ok g F.f22 _ am _ h2) (pattern_ok g F.f21 row (pattern_len hg hrl)) h4 h5 h6 h7
end Mine
end

section
open PySem PySem.W PyProof.Rows
namespace Mine
theorem cutL_map {α β : Type} (f : α → β) (i j : Option Int) (xs : List α) : cutL i j (xs.map f) = (cutL i j xs).map f := by
  unfold cutL
  rw [List.length_map, List.map_take, List.map_drop]
theorem nums_len (script : List Int) : 6 ≤ (numsOf script).length ∧ (numsOf script).length ≤ 8 := by
  have h : (drawnOf script).length ≤ 8 := by rw [drawnOf, List.length_map, List.length_take]; lia
  rw [numsOf, List.length_append, List.length_drop]
  simp only [List.length_cons, List.length_nil]
  lia
theorem betw_ne {core : List It} (h : core ≠ []) (n0 : Nat) : betw core n0 ≠ [] ∧ (∀ x, (betw core n0).head? = some x → (x == 32) = false) ∧ ∀ x, (betw core n0).getLast? = some x → (x == 32) = false := by
  rw [betw, if_neg h]
  by_cases q : wordOf core n0 = [] ∨ (wordOf core n0).head? = some 32 ∨ (wordOf core n0).getLast? = some 32
  · rw [if_pos q]
    refine ⟨by simp, fun x hx => ?_, fun x hx => ?_⟩
    · rw [show x = 120 from (Option.some.inj hx).symm]; rfl
    · rw [List.getLast?_append] at hx
      rw [show x = 120 from (Option.some.inj hx).symm]; rfl
  · rw [if_neg q]
    refine ⟨fun e => q (.inl e), fun x hx => ?_, fun x hx => ?_⟩
    · rw [beq_eq_false_iff_ne]
      rintro rfl; exact q (.inr (.inl hx))
    · rw [beq_eq_false_iff_ne]
      rintro rfl; exact q (.inr (.inr hx))
theorem betw_nil (n0 : Nat) : betw [] n0 = [] := if_pos rfl
theorem left_pad (core : List It) (A B : Nat) (am : Int) (hB : core = [] → B = 0) (h : core ≠ [] ∨ (0 ≤ am ∧ am ≤ A)) :
    left A (core.map It.d) B ((List.replicate A markI ++ core ++ List.replicate B markI).map It.d) am = .lst ((List.replicate (A - lo am A) markI ++ core ++ List.replicate (B - hi am A B) markI).map It.d) := by
  have hlen : ((List.replicate A markI ++ core ++ List.replicate B markI).map It.d).length = A + core.length + B := by simp; lia
  unfold left
  by_cases hc : core = []
  · subst hc
    have hB := hB rfl
    subst hB
    have h : 0 ≤ am ∧ am ≤ A := h.resolve_left (fun q => q rfl)
    rw [if_pos (show List.map It.d [] = [] from rfl), hlen]
    simp only [List.length_nil]
    rw [if_pos ⟨h.1, by lia⟩]
    congr 1
    have e : am = (am.toNat : Nat) := by lia
    rw [e, cutL_drop, ← List.map_drop]
    congr 1
    have e2 : lo (am.toNat : Int) A = am.toNat := by unfold lo; rw [if_neg (by lia)]; lia
    rw [e2]
    simp [List.drop_replicate]
  · rw [if_neg (fun e => hc (List.map_eq_nil_iff.mp e))]
    by_cases h2 : am < 0 ∨ am ≥ A + B
    · rw [if_pos h2]
      have e1 : lo am A = A := by unfold lo; split <;> lia
      have e2 : hi am A B = B := by unfold hi; split <;> lia
      rw [e1, e2, Nat.sub_self, Nat.sub_self]
      simp
    · rw [if_neg h2, cutL_map, hlen]
      have e1 : min am (A : Int) = (lo am A : Int) := by unfold lo; split <;> lia
      rw [e1, cut_pad markI core A B (lo am A) (hi am A B) (lo_le _ _) (hi_le _ _ _) _ (by unfold hi; split <;> lia)]
theorem law_ok {g : Gb} {c0 : Addr} (F : Fns g c0) (script : List Int) : Ct g 4 (fnGet 25).name [.lst (script.map D.int)] (some (.bool true)) := by
  obtain ⟨hn1, hn2⟩ := nums_len script
  have h1 := numbers_ok g F.f11 script
  generalize numsOf script = ns at *
  cases ns with
  | nil => exact absurd hn1 (by simp)
  | cons n0 nt =>
  have h2 := row_ok g F.f13 F.f12 (n0 :: nt) (by simp) (by lia)
  have hg := row_good (ns := n0 :: nt)
  have hrl : (rowOf (n0 :: nt)).length ≤ 12 := by
    rw [rowOf, List.length_append, List.length_append, List.length_replicate, List.length_replicate, List.length_map]
    have e1 : (n0 :: nt).headD 0 / 14 % 3 < 3 := Nat.mod_lt _ (by decide)
    have e2 : (n0 :: nt).getLastD 0 / 14 % 3 < 3 := Nat.mod_lt _ (by decide)
    lia
  generalize rowOf (n0 :: nt) = row at *
  obtain ⟨core, hr, hB, hf, hl⟩ := row_split row hg
  have h3 := ahead_ok g F.f14 row
  have h3' := ahead_ok g F.f14 (row.drop (ahead row)).reverse
  have hgc : ∀ x ∈ core, GoodI x := fun x hx => hg x (by rw [hr]; exact List.mem_append_left _ (List.mem_append_right _ hx))
  generalize ahead (row.drop (ahead row)).reverse = B at *
  have e3 : ((row.drop (ahead row)).reverse).map It.d = ((row.map It.d).drop (ahead row)).reverse := by rw [List.map_reverse, List.map_drop]
  rw [e3] at h3'
  generalize ahead row = A at *
  have hlen : row.length = A + core.length + B := by rw [hr]; simp; lia
  have hw : (wordOf core n0).length ≤ 30 := by
    have := catL_len 2 (core.map It.f) (fun x hx => by
      obtain ⟨y, h, rfl⟩ := List.mem_map.mp hx
      exact (hgc y h).fl)
    rw [List.length_map] at this
    rw [wordOf, List.length_append]
    have e : (if n0 / 14 % 9 = 8 then [122] else ([] : List Nat)).length ≤ 1 := by split <;> simp
    lia
  have hb : (betw core n0).length ≤ 40 := by
    rw [betw]
    by_cases q : core = []
    · rw [if_pos q]; simp
    · rw [if_neg q]
      by_cases q2 : wordOf core n0 = [] ∨ (wordOf core n0).head? = some 32 ∨ (wordOf core n0).getLast? = some 32
      · rw [if_pos q2, List.length_append, List.length_append]; simp; lia
      · rw [if_neg q2]; lia
  have h4 := between_ok g F.f15 core n0 nt (by lia)
  have hne := betw_ne (core := core) (n0 := n0)
  have hnil : core = [] → betw core n0 = [] := fun e => by rw [e]; exact betw_nil n0
  generalize betw core n0 = w at *
  have h5 := means_ok g F.f16 core w (by lia)
  have h6 := pattern_ok g F.f21 row (pattern_len hg (by lia))
  have hps : trOf (row.map outT) = List.replicate A (some [32]) ++ trR (core.map outT) ++ List.replicate B (some [32]) := by rw [hr]; exact parts_pad core A B
  have hpl : (trOf (row.map outT)).length ≤ 12 := by
    have := trOf_len (row.map outT)
    rw [List.length_map] at this
    lia
  have hX : trR (core.map outT) = [] ↔ core = [] := by rw [trR_nil, List.map_eq_nil_iff]
  have hW : w = [] ↔ core = [] := by
    constructor
    · intro e
      apply Classical.byContradiction
      intro q
      exact (hne q).1 e
    · exact hnil
  refine law_walk g F.f25 (script.map D.int) (nt.map fun n => D.int (n : Nat)) n0 (row.map It.d) (core.map It.d) A B w (means core w) (trOf (row.map outT)) (pattern row) (fun am => left A (core.map It.d) B (row.map It.d) am) h1 h2 h3 h3' ?_ h4 (by lia) (by lia) (by lia) h5 h6 (fun st => translate_row F row hg (by lia) st) (fun am => left_ok g F.f23 _ _ _ _ _) (fun st am ham => ?_)
  · rw [cutL_map, List.length_map]
    conv => lhs; arg 2; arg 3; rw [hr]
    rw [cut_pad markI core A B A B (Nat.le_refl _) (Nat.le_refl _) _ (by lia), Nat.sub_self, Nat.sub_self]
    simp
  · have hz : -(2 ^ 61) ≤ am ∧ am ≤ 2 ^ 61 := by
      have : n0 % 3 < 3 := Nat.mod_lt _ (by decide)
      rcases ham with rfl | rfl | rfl | rfl <;> lia
    rw [hps, repN1, repN1]
    have s1 := strip_pad g F.f2 (some [32]) (trR (core.map outT)) A B am hz (· == some [32]) rfl (fun xs => .lst (xs.map (PtD st))) (thg_lst _ _ (by rw [← hps]; exact Nat.le_trans hpl (by decide))) (fun xs i j => by rw [← cutL_map]; rfl) (fun x hx => by
      rw [trR_head, List.head?_map] at hx
      obtain ⟨y, e1, rfl⟩ := Option.map_eq_some_iff.mp hx
      rw [beq_eq_false_iff_ne]
      intro e
      exact hf y e1 ((hgc y (List.mem_of_mem_head? e1)).qm.mp e)) (fun x hx => by
      rw [trR_last, List.getLast?_map] at hx
      obtain ⟨y, e1, rfl⟩ := Option.map_eq_some_iff.mp hx
      rw [beq_eq_false_iff_ne]
      intro e
      exact hl y e1 ((hgc y (List.mem_of_getLast? e1)).qm.mp e)) (fun e => hB (hX.mp e))
    have s2 := strip_pad g F.f2 32 w A B am hz (· == 32) rfl D.str (thg_str _ (by show _ ≤ 100000; simp; lia)) (fun xs i j => rfl) (fun x hx => (hne (fun e => by rw [hnil e] at hx; exact nomatch hx)).2.1 x hx) (fun x hx => (hne (fun e => by rw [hnil e] at hx; exact nomatch hx)).2.2 x hx) (fun e => hB (hW.mp e))
    by_cases hok : core ≠ [] ∨ (0 ≤ am ∧ am ≤ A)
    · rw [if_neg (fun e => hok.elim (fun q => q (hX.mp e.1)) e.2)] at s1
      rw [if_neg (fun e => hok.elim (fun q => q (hW.mp e.1)) e.2)] at s2
      have e7 := left_pad core A B am hB hok
      rw [← hr] at e7
      show Ct g 3 _ [_, _, _, left A (core.map It.d) B (row.map It.d) am, _, _] _
      rw [e7]
      have := lo_le am A
      have := hi_le am A B
      exact amount_pad F core hgc w (A - lo am A) (B - hi am A B) st am _ _ (by lia) (by lia) s1 s2
    · have hc : core = [] := by
        apply Classical.byContradiction
        exact fun q => hok (.inl q)
      have hn : ¬ (0 ≤ am ∧ am ≤ A) := fun q => hok (.inr q)
      rw [if_pos ⟨hX.mpr hc, hn⟩] at s1
      rw [if_pos ⟨hW.mpr hc, hn⟩] at s2
      have e7 : left A (core.map It.d) B (row.map It.d) am = .none := by
        unfold left
        rw [if_pos (List.map_eq_nil_iff.mpr hc), if_neg]
        rw [List.length_map, hlen, hB hc, hc]
        simp only [List.length_nil]
        lia
      show Ct g 3 _ [_, _, _, left A (core.map It.d) B (row.map It.d) am, _, _] _
      rw [e7]
      exact amount_none g F.f24 _ _ st _ am (lstrip_ok g F.f22 _ am _ s1) (lstrip_ok g F.f22 _ am _ s2)
end Mine
end

section
open PySem PySem.W PyProof.Rows
set_option maxRecDepth 100000
set_option maxHeartbeats 0
namespace Mine
noncomputable def qv : Program := { PySem.Challenge.pw_ij0021_01 with main := { PySem.Challenge.pw_ij0021_01.main with body := [0, 2, 3, 5, 6, 8, 9, 11, 12, 13, 14, 15, 16, 17, 18, 19, 20, 21, 22, 23, 24, 25].filterMap (PySem.Challenge.pw_ij0021_01.main.body[·]?) } }
noncomputable abbrev lo_ : List Str := [Str.ofString "_twin_re_1", Str.ofString "_special_chars_map"]
structure Sn where
  isNs : Bool
  twin : Option Value
  smap : Option Value
  pat : Option (Value × Option Addr × Nat × Option (Nat × Option Value × Option Value × Option Value))
  code : Option (Value × Option Addr × Nat × Option (List Value))
  map : Option (Value × Option (List (Int × Option Int × Option (List Nat))))
noncomputable def vInt : Value → Option Int
  | .int i _ => some i
  | _ => none
noncomputable def vStr : Value → Option (List Nat)
  | .str x _ => some x.cps.toList
  | _ => none
noncomputable def dFlds : Data → Option (Array Value)
  | .fields a => some a
  | _ => none
noncomputable def dSq : Data → Option (Array Value)
  | .seq a _ => some a
  | _ => none
noncomputable def dDct : Data → Option (Array DictEntry)
  | .dict a _ => some a
  | _ => none
noncomputable def snap (s : Shared) : Sn :=
  { isNs := s.heap.isNs mainGlobals
    twin := s.heap.nsMap mainGlobals "_twin_re_1"
    smap := s.heap.nsMap mainGlobals "_special_chars_map"
    pat := (s.heap.get? 43).map fun o => (o.cls, o.dict, o.slots.size, (dFlds o.data).map fun a => (a.size, a[2]?, a[5]?, a[6]?))
    code := (s.heap.get? 42).map fun o => (o.cls, o.dict, o.slots.size, (dSq o.data).map (·.toList))
    map := (s.heap.get? 45).map fun o => (o.cls, (dDct o.data).map fun a => a.toList.map fun e => (e.hash, vInt e.key, vStr e.val)) }
noncomputable def codeL : List Value := [14, 14, 4, 1, 1, 9, 0, 64, 0, 1342177280, 0, 0, 0, 0, 0, 17, 0, 13, 11, 9, 0, 64, 0, 1342177280, 0, 0, 0, 0, 0, 17, 1, 1].map fun i : Int => Value.int i 0
noncomputable def snapGood : Sn :=
  { isNs := true, twin := some (.ref 43), smap := some (.ref 45)
    pat := some (.type "re.Pattern", none, 0, some (7, some (.int 1 0), some (.ref 42), some (.int 0 0)))
    code := some (.type "tuple", none, 0, some codeL)
    map := some (.type "dict", some ([40, 41, 91, 93, 123, 125, 63, 42, 43, 45, 124, 94, 36, 92, 46, 38, 126, 35, 32, 9, 10, 13, 11, 12].map fun c : Nat => ((c : Int), some (c : Int), some [92, c]))) }
noncomputable abbrev Pl (w : World) : Prop := (openEnds treeTable PySem.Challenge.pw_ij0021_01 w 4068).map (fun s => (openSeen qv lo_ (importedModules PySem.Challenge.pw_ij0021_01.main.body) (fun s => xlAt qv [] s && recOk [] s) true s, snap s)) = some (openGood qv lo_, snapGood)
theorem left1 (w : World) : Pl ((w.withFollow "special-get-raises" false).withFollow "comprehension-iter-twice" false) := by
  unfold Pl openEnds fencedOpening topFrom
  rw [PySem.W.Fast.te10274390034422433532, PySem.W.Fast.te14082659384304107361, PySem.W.Fast.te14364793385576792824, PySem.W.Fast.te1435165496053646825, PySem.W.Fast.te14289696077712309145, PySem.W.Fast.te4187177175401517315, PySem.W.Fast.te5923862056798008813]
  kernel_rfl
theorem left2 (w : World) : Pl ((w.withFollow "special-get-raises" false).withFollow "comprehension-iter-twice" true) := by
  unfold Pl openEnds fencedOpening topFrom
  rw [PySem.W.Fast.te10274390034422433532, PySem.W.Fast.te14082659384304107361, PySem.W.Fast.te14364793385576792824, PySem.W.Fast.te1435165496053646825, PySem.W.Fast.te14289696077712309145, PySem.W.Fast.te4187177175401517315, PySem.W.Fast.te5923862056798008813]
  kernel_rfl
theorem left3 (w : World) : Pl ((w.withFollow "special-get-raises" true).withFollow "comprehension-iter-twice" false) := by
  unfold Pl openEnds fencedOpening topFrom
  rw [PySem.W.Fast.te10274390034422433532, PySem.W.Fast.te14082659384304107361, PySem.W.Fast.te14364793385576792824, PySem.W.Fast.te1435165496053646825, PySem.W.Fast.te14289696077712309145, PySem.W.Fast.te4187177175401517315, PySem.W.Fast.te5923862056798008813]
  kernel_rfl
theorem left4 (w : World) : Pl ((w.withFollow "special-get-raises" true).withFollow "comprehension-iter-twice" true) := by
  unfold Pl openEnds fencedOpening topFrom
  rw [PySem.W.Fast.te10274390034422433532, PySem.W.Fast.te14082659384304107361, PySem.W.Fast.te14364793385576792824, PySem.W.Fast.te1435165496053646825, PySem.W.Fast.te14289696077712309145, PySem.W.Fast.te4187177175401517315, PySem.W.Fast.te5923862056798008813]
  kernel_rfl
theorem left_all : LeftO PySem.Challenge.pw_ij0021_01 qv lo_ (fun s => xlAt qv [] s && recOk [] s) snap (fun _ => snapGood) 4068 := fun w =>
  byRow2 "comprehension-iter-twice" (P := Pl)
    (byRow2 "special-get-raises" (P := fun w => Pl (w.withFollow "comprehension-iter-twice" false)) left1 left3)
    (byRow2 "special-get-raises" (P := fun w => Pl (w.withFollow "comprehension-iter-twice" true)) left2 left4) w
end Mine
end

section
open PySem PySem.W PyProof.Rows
set_option maxRecDepth 100000
namespace Mine
noncomputable def HeadOk (h : Heap) : Prop := (∃ m, h.Ns mainGlobals m ∧ m "_twin_re_1" = some (.ref 43) ∧ m "_special_chars_map" = some (.ref 45)) ∧
  (∃ v0 v1 v3 v4, h.get? 43 = some { cls := .type "re.Pattern", data := .fields #[v0, v1, .int 1 0, v3, v4, .ref 42, .int 0 0] }) ∧
  (∃ n, h.get? 42 = some { cls := .type "tuple", data := .seq codeV n }) ∧
  (∃ f, h.IntMap 45 f ∧ ∀ c : Nat, c < 128 → if c ∈ specials then ∃ t, f c = some (.str ⟨[92, c].toArray⟩ t) else f c = none)
theorem HeadOk.keeps {h h' : Heap} (x : HeadOk h) (k : ∀ b o, h.get? b = some o → h'.get? b = some o) : HeadOk h' := by
  obtain ⟨⟨m, h1, h2, h3⟩, ⟨v0, v1, v3, v4, h4⟩, ⟨n, h5⟩, f, ⟨o, es, ep, h6, h7⟩, h8⟩ := x
  exact ⟨⟨m, h1.keeps k, h2, h3⟩, ⟨v0, v1, v3, v4, k _ _ h4⟩, ⟨n, k _ _ h5⟩, f, ⟨o, es, ep, k _ _ h6, h7⟩, h8⟩
theorem vs7 {α : Type} {l : List α} (h : l.length = 7) : ∃ a b c d e f g, l = [a, b, c, d, e, f, g] := by
  cases l with
  | nil => exact nomatch h
  | cons a l => obtain ⟨b, c, d, e, f, g, rfl⟩ := vs6 (Nat.succ.inj h); exact ⟨a, b, c, d, e, f, g, rfl⟩
theorem dFlds_of {d : Data} {a : Array Value} (h : dFlds d = some a) : d = .fields a := by
  cases d <;> cases h <;> rfl
theorem dSq_of {d : Data} {a : Array Value} (h : dSq d = some a) : ∃ n, d = .seq a n := by
  cases d <;> cases h <;> exact ⟨_, rfl⟩
theorem dDct_of {d : Data} {a : Array DictEntry} (h : dDct d = some a) : ∃ n, d = .dict a n := by
  cases d <;> cases h <;> exact ⟨_, rfl⟩
theorem vInt_of {v : Value} {i : Int} (h : vInt v = some i) : ∃ t, v = .int i t := by
  cases v <;> cases h <;> exact ⟨_, rfl⟩
theorem vStr_of {v : Value} {l : List Nat} (h : vStr v = some l) : ∃ t, v = .str ⟨l.toArray⟩ t := by
  cases v <;> cases h <;> exact ⟨_, by rfl⟩
noncomputable abbrev trip (c : Nat) : Int × Option Int × Option (List Nat) := ((c : Int), some (c : Int), some [92, c])
theorem map_find : ∀ (cs : List Nat) (es : List DictEntry), es.map (fun e => (e.hash, vInt e.key, vStr e.val)) = cs.map trip → ∀ c : Nat,
    if c ∈ cs then ∃ t, (es.find? fun e => Value.isInt (c : Int) e.key).map (·.val) = some (.str ⟨[92, c].toArray⟩ t) else (es.find? fun e => Value.isInt (c : Int) e.key).map (·.val) = none := by
  intro cs
  induction cs with
  | nil =>
    intro es h c
    rw [if_neg (by simp)]
    cases es with
    | nil => rfl
    | cons _ _ => exact nomatch h
  | cons d cs ih =>
    intro es h c
    cases es with
    | nil => exact nomatch h
    | cons e es =>
      rw [List.map_cons, List.map_cons] at h
      injection h with h1 h2
      injection h1 with h3 h4
      injection h4 with h4 h5
      obtain ⟨t, ht⟩ := vInt_of h4
      obtain ⟨u, hu⟩ := vStr_of h5
      have := ih es h2 c
      rw [List.find?_cons]
      by_cases hc : d = c
      · subst hc
        rw [if_pos (List.mem_cons_self), ht, show Value.isInt (d : Int) (.int (d : Int) t) = true from beq_self_eq_true _]
        exact ⟨u, congrArg some hu⟩
      · rw [ht, show Value.isInt (c : Int) (.int (d : Int) t) = false from beq_eq_false_iff_ne.mpr (by lia)]
        by_cases hm : c ∈ cs
        · rw [if_pos (List.mem_cons_of_mem _ hm)]; rw [if_pos hm] at this; exact this
        · rw [if_neg (fun q => (List.mem_cons.mp q).elim (fun q => hc q.symm) hm)]; rw [if_neg hm] at this; exact this
theorem head_of {s : Shared} (h : snap s = snapGood) : HeadOk s.heap := by
  have a1 : s.heap.isNs mainGlobals = true := congrArg Sn.isNs h
  have a2 : s.heap.nsMap mainGlobals "_twin_re_1" = some (.ref 43) := congrArg Sn.twin h
  have a3 : s.heap.nsMap mainGlobals "_special_chars_map" = some (.ref 45) := congrArg Sn.smap h
  have a4 := congrArg Sn.pat h
  have a5 := congrArg Sn.code h
  have a6 := congrArg Sn.map h
  refine ⟨⟨_, .of_isNs a1, a2, a3⟩, ?_, ?_, ?_⟩
  · obtain ⟨⟨oc, od, odt, osl⟩, h1, h2⟩ := Option.map_eq_some_iff.mp a4
    injection h2 with h2 h3
    injection h3 with h3 h4
    injection h4 with h4 h5
    obtain ⟨a, h6, h7⟩ := Option.map_eq_some_iff.mp h5
    injection h7 with h7 h8
    injection h8 with h8 h9
    injection h9 with h9 h10
    obtain rfl := dFlds_of h6
    obtain ⟨l⟩ := a
    obtain ⟨v0, v1, v2, v3, v4, v5, v6, rfl⟩ := vs7 (show l.length = 7 from h7)
    cases h8; cases h9; cases h10
    obtain rfl : oc = .type "re.Pattern" := h2
    obtain rfl : od = none := h3
    obtain rfl : osl = #[] := Array.eq_empty_of_size_eq_zero h4
    exact ⟨_, _, _, _, h1⟩
  · obtain ⟨⟨oc, od, odt, osl⟩, h1, h2⟩ := Option.map_eq_some_iff.mp a5
    injection h2 with h2 h3
    injection h3 with h3 h4
    injection h4 with h4 h5
    obtain ⟨a, h6, h7⟩ := Option.map_eq_some_iff.mp h5
    obtain ⟨n, rfl⟩ := dSq_of h6
    obtain ⟨l⟩ := a
    obtain rfl : oc = .type "tuple" := h2
    obtain rfl : od = none := h3
    obtain rfl : osl = #[] := Array.eq_empty_of_size_eq_zero h4
    obtain rfl : l = codeL := h7
    exact ⟨n, h1⟩
  · obtain ⟨o, h1, h2⟩ := Option.map_eq_some_iff.mp a6
    injection h2 with h2 h3
    obtain ⟨es, h4, h5⟩ := Option.map_eq_some_iff.mp h3
    obtain ⟨n, h6⟩ := dDct_of h4
    have h5 : es.toList.map (fun e => (e.hash, vInt e.key, vStr e.val)) = specials.map trip := h5
    refine ⟨fun k => findBy Value.isInt es k, ⟨o, es, n, h1, h2, h6, fun e he => ?_, fun k => rfl⟩, fun c _ => ?_⟩
    · have hm : (e.hash, vInt e.key, vStr e.val) ∈ specials.map trip := by
        rw [← h5]
        exact List.mem_map.mpr ⟨e, Array.mem_toList_iff.mpr he, rfl⟩
      obtain ⟨c, hc, hq⟩ := List.mem_map.mp hm
      injection hq with q1 q2
      injection q2 with q2 q3
      obtain ⟨t, ht⟩ := vInt_of q2.symm
      refine ⟨c, t, ht, q1.symm.trans ?_⟩
      have : ∀ c ∈ specials, ((c : Nat) : Int) = hashInt c := by decide
      exact this c hc
    · have := map_find specials es.toList h5 c
      have e : ∀ k, findBy Value.isInt es k = (es.toList.find? fun e => Value.isInt k e.key).map (·.val) := fun k => by
        show Option.map _ (es.find? _) = _
        rw [← Array.find?_toList]
      simp only [e]
      exact this
end Mine
end

section
open PySem PySem.W PyProof.Rows
set_option maxRecDepth 100000
namespace Mine
noncomputable abbrev fnIdx : List Nat := [2, 6, 8, 9, 11, 12, 13, 14, 15, 16, 17, 18, 19, 20, 21, 22, 23, 24, 25]
theorem recs_eq : (recsOf qv).map (fun d => (⟨d.name, d.params, d.body, d.scope⟩ : Fn)) = fnIdx.map fnGet := by kernel_rfl
theorem names_in : ∀ f ∈ fnNames, f ∈ (recsOf qv).map (·.name) := by decide +kernel
theorem free_out : ∀ x ∈ freeNames, x ∉ startupNames ∧ x ∉ looseW qv lo_ ∧ x ∉ (recsOf qv).map (·.name) ∧ x ∉ (litsOf qv).map (·.1) ∧ x ∉ (clssOf qv (looseW qv lo_)).map (·.name) := by decide +kernel
section
variable {mean : ExcName → Option Value} {mg mb : Str → Option Value} {h : Heap}
theorem fn_at (T : Top qv (looseW qv lo_) mean mg mb h) {i : Nat} (hi : i ∈ fnIdx) : ∃ a o pm c doc, mg (fnGet i).name = some (.ref a) ∧ h.get? a = some o ∧ o.data = .func (PySem.Calls.docDef (fnGet i).name (fnGet i).params (fnGet i).body (fnGet i).scope pm (.ref c) doc) ∧ h.CodeRec (.ref c) (fnGet i).name := by
  have hm : fnGet i ∈ (recsOf qv).map (fun d => (⟨d.name, d.params, d.body, d.scope⟩ : Fn)) := by rw [recs_eq]; exact List.mem_map_of_mem hi
  obtain ⟨d, hd, e⟩ := List.mem_map.mp hm
  obtain ⟨a, o, pm, code, doc, h1, h2, h3, h4⟩ := T.fn d hd
  obtain ⟨c, oc, vs, t, rfl, hr⟩ := id h4
  rw [← e]
  exact ⟨a, o, pm, c, doc, h1, h2, h3, h4⟩
theorem gb_of (T : Top qv (looseW qv lo_) mean mg mb h) (H : HeadOk h) (w : World) (os : OsState) : ∃ P c0, h.TableAt c0 P #[] ∧ Gl ⟨PySem.Challenge.pw_ij0021_01, w, P, h, os, mg⟩ ∧ Fns ⟨PySem.Challenge.pw_ij0021_01, w, P, h, os, mg⟩ c0 := by
  have h8 : fnGet 8 ∈ (recsOf qv).map (fun d => (⟨d.name, d.params, d.body, d.scope⟩ : Fn)) := by rw [recs_eq]; exact List.mem_map_of_mem (by decide)
  obtain ⟨d8, hd8, e8⟩ := List.mem_map.mp h8
  obtain ⟨a8, o8, fd8, c0, P, t1, t2, t3, t4, t5, t6⟩ := T.tab d8 hd8
  have hP : h.get? P = some (tabObj #[]) := t6.2
  have nf : ∀ {a : Addr} {o : Obj}, h.get? a = some o → o.data ≠ .fields #[] → a ≠ P := fun e n q => by
    rw [q, hP] at e
    cases e
    exact n rfl
  have nsP : ∀ {a : Addr} {m : Str → Option Value}, h.Ns a m → a ≠ P := fun ⟨o, es, ep, e, d, _⟩ => nf e (by rw [d]; exact fun q => nomatch q)
  have cr : ∀ {c : Addr} {q : Str}, h.CodeRec (.ref c) q → c ≠ P := fun ⟨c, o, vs, t, e, e2, e3, e4⟩ => by
    cases e
    exact nf e2 (by rw [e3]; rintro q; injection q with q; subst q; exact nomatch e4)
  have at_ : ∀ i ∈ fnIdx, FnAt ⟨PySem.Challenge.pw_ij0021_01, w, P, h, os, mg⟩ (fnGet i) := fun i hi => by
    obtain ⟨a, o, pm, c, doc, f1, f2, f3, f4⟩ := fn_at T hi
    exact ⟨a, pm, c, doc, o, f1, f2, f3, f4, nf f2 (by rw [f3]; exact fun q => nomatch q), cr f4⟩
  obtain ⟨⟨m, k1, k2, k3⟩, ⟨v0, v1, v3, v4, k4⟩, ⟨n, k5⟩, f, k6, k7⟩ := H
  have hm : m = mg := by
    obtain ⟨o, es, ep, a1, a2, a3, a4⟩ := k1
    obtain ⟨o', es', ep', b1, b2, b3, b4⟩ := T.g
    rw [a1] at b1; cases b1
    rw [a2] at b2; cases b2
    funext x
    rw [← a4, ← b4]
  subst hm
  obtain ⟨bm, ob, b1, b2, b3, b4, b5, b6⟩ := T.bmain
  refine ⟨P, c0, t6, ⟨T.g, ⟨mb, T.b, T.builtins⟩, T.nolimit, nsP T.g, nsP T.b, let ⟨_, q, _⟩ := T.nodigits; nsP q, fun x hx => ?_, fun fname hf => ?_⟩, ?_⟩
  · obtain ⟨q1, q2, q3, q4, q5⟩ := free_out x hx
    exact T.free x q1 q2 q3 q4 q5
  · obtain ⟨d, hd, rfl⟩ := List.mem_map.mp (names_in fname hf)
    obtain ⟨a, o, pm, code, doc, f1, f2, f3, f4⟩ := T.fn d hd
    exact ⟨a, o, _, f1, f2, f3, nf f2 (by rw [f3]; exact fun q => nomatch q)⟩
  · refine { f2 := at_ 2 (by decide), f6 := at_ 6 (by decide), f8 := ?_, f9 := at_ 9 (by decide), f11 := at_ 11 (by decide), f12 := at_ 12 (by decide), f13 := at_ 13 (by decide), f14 := at_ 14 (by decide), f15 := at_ 15 (by decide), f16 := at_ 16 (by decide), f17 := at_ 17 (by decide), f18 := at_ 18 (by decide), f19 := at_ 19 (by decide), f20 := at_ 20 (by decide), f21 := at_ 21 (by decide), f22 := at_ 22 (by decide), f23 := at_ 23 (by decide), f24 := at_ 24 (by decide), f25 := at_ 25 (by decide), tf := ⟨.of t5 t6, bm, ob, b1, b2, ?_, nf b3 (by rw [b6]; exact fun q => nomatch q), b3, b4, b5, b6⟩, pa := ?_, ma := ?_ }
    · obtain ⟨a, o, pm, c, doc, f1, f2, f3, f4⟩ := fn_at T (i := 8) (by decide)
      have e9 : d8.name = (fnGet 8).name := congrArg Fn.name e8
      rw [e9, f1] at t1
      cases t1
      rw [f2] at t2
      cases t2
      rw [f3] at t3
      cases t3
      cases t4
      exact ⟨_, pm, doc, _, f1, f2, f3, f4, nf f2 (by rw [f3]; exact fun q => nomatch q), cr f4⟩
    · rintro rfl
      obtain ⟨o, es, ep, a1, a2, _⟩ := T.g
      rw [a1] at b3
      cases b3
      rw [a2] at b6
      cases b6
    · exact ⟨43, 42, v0, v1, v3, v4, n, k2, nf k4 (fun q => nomatch (congrArg Array.size (Data.fields.inj q))), nf k5 (fun q => nomatch q), k4, k5⟩
    · refine ⟨45, f, k3, ?_, k6, k7⟩
      obtain ⟨o, es, ep, g1, g2, g3, _⟩ := k6
      exact nf g1 (by rw [g3]; exact fun q => nomatch q)
end
end Mine
end

section
open PySem PySem.W PyProof.Rows
set_option maxRecDepth 100000
namespace Mine
theorem well_ints {P : Params} {h : Heap} {Z : Addr → Prop} {R : WRecords} : ∀ {xs : List WData} {vs : List Value}, WellAll P h vs xs → xs.all (fun x => WShape.has R x .int) = true → ∃ is : List Int, VL Z h (is.map D.int) vs ∧ is.length = xs.length := by
  intro xs
  induction xs with
  | nil => intro vs W _; cases W; exact ⟨[], rfl, rfl⟩
  | cons x r ih =>
    intro vs W ha
    cases W with
    | cons w ws =>
      rw [List.all_cons, Bool.and_eq_true] at ha
      obtain ⟨is, h1, h2⟩ := ih ws ha.2
      cases x with
      | int i =>
        cases w with
        | int _ t => exact ⟨i :: is, ⟨_, _, rfl, ⟨t, rfl⟩, h1⟩, by simp [h2]⟩
      | _ => exact nomatch ha.1
theorem items_all {R : WRecords} : ∀ {xs : List WData}, WShape.hasItems R xs .int = true → xs.all (fun x => WShape.has R x .int) = true := by
  intro xs
  induction xs with
  | nil => exact fun _ => rfl
  | cons x r ih =>
    intro h
    have h : (WShape.has R x .int && WShape.hasItems R r .int) = true := h
    rw [Bool.and_eq_true] at h
    rw [List.all_cons, Bool.and_eq_true]
    exact ⟨h.1, ih h.2⟩
noncomputable abbrev rw_ : RowW := PySem.Challenge.rw_ij0021_01.row.toRowW
theorem pre_len {xs : List WData} (h : rw_.pre.holds rw_.records { args := [.list xs] } = true) : xs.length ≤ 63 := by
  unfold rw_ PySem.Challenge.rw_ij0021_01 OpenLaw.row OpenLaw.pre at h
  simp only [] at h
  simp [WTm.holds, WTm.value] at h
  rw [show less? (WData.int 63) (WData.int (xs.length : Nat)) = some (decide ((63 : Int) < (xs.length : Nat))) from rfl] at h
  by_cases hc : (63 : Int) < (xs.length : Nat)
  · rw [decide_eq_true hc] at h
    exact nomatch h
  · omega
theorem args_open {w : World} {h : Heap} {P : Addr} {args : List WData} {vals : List Value} (hpre : rw_.claim.pre args = true) (W : WellAll w.params h vals args) (hP : h.get? P = some (tabObj #[])) :
    ∃ is : List Int, VL (fun b => b = P) h [.lst (is.map D.int)] vals := by
  obtain ⟨h1, h2⟩ := pre_splitW hpre
  obtain ⟨x, r, rfl, h3, h4⟩ := hasAllW_cons (e := .list .int) (es := []) h1
  obtain rfl := hasAllW_nil h4
  cases W with
  | cons w ws =>
    cases ws
    cases x with
    | list xs =>
      cases w with
      | list e wa =>
        have h5 : WShape.hasItems [] xs .int = true := by
          have : ([WShape.list .int] : List WShape).any (fun a => match a with | .list e => WShape.hasItems [] xs e | _ => false) = true := h3
          simpa using this
        obtain ⟨is, l, n⟩ := well_ints (Z := fun b => b = P) wa (items_all h5)
        have h6 := pre_len h2
        refine ⟨is, _, [], rfl, ⟨_, _, rfl, fun q => ?_, by rw [List.length_map, n]; exact Nat.le_trans h6 (by decide), ⟨_, e⟩, l⟩, rfl⟩
        rw [q, hP] at e
        exact nomatch (congrArg Obj.cls (Option.some.inj e))
    | _ => exact nomatch h3
theorem law_call (d : DefRec) (hd : d.name = (fnGet 25).name) : WalkO qv lo_ (XL qv []) (fun _ h => HeadOk h) rw_ d [] fun f vs => PySem.call f vs := by
  intro w s₀ s₁ mg mb G Y a o pm cd doc dV kV h1 h2 h3 h4 h5 hg args vals as hpre hlay hrd hwl hlow
  obtain ⟨P, c0, hT, gl, F⟩ := gb_of G.T Y w s₁.os
  have hP : s₁.heap.get? P = some (tabObj #[]) := hT.2
  obtain ⟨is, hv⟩ := args_open hpre hwl hP
  refine law_ok F is [] (fun b => b = P) callerA s₁ vals a _ _ (by rw [← hd]; exact h5) ⟨gl, rfl, by decide, by decide, rfl, fun b o _ e => e, ⟨#[], hP, trivial⟩, by rw [hg]; exact .empty, rfl, fun b hb => ?_, (fun e m => nomatch m), fun b hb => ⟨tabObj #[], by rw [show b = P from hb]; exact hP⟩, fun b hb => ?_⟩ hv (fun dd v s' e r gw => ?_) (fun q => nomatch q)
  · rcases hb with hb | ⟨e, m, _⟩
    · exact .inl hb
    · exact nomatch m
  · rcases hb with hb | ⟨e, m, _⟩
    · exact hb
    · exact nomatch m
  · cases e
    have r : v = .bool true := r
    subst r
    have ns : ∀ b, b ≠ P → ¬ vol ⟨PySem.Challenge.pw_ij0021_01, w, P, s₁.heap, s₁.os, mg⟩ [] b := fun b n hb => by
      rcases hb with hb | ⟨e, m, _⟩
      · exact n hb
      · exact nomatch m
    obtain ⟨ps, t1, t2⟩ := gw.tab ⟨#[], hP, trivial⟩
    refine ⟨.inl ⟨_, .bool true, [], rfl, fun cls => rfl, .bool true, ?_, fun _ => ⟨List.nodup_nil, fun a ha => nomatch ha⟩⟩, ⟨fun b o e => ?_, fun b o e => ?_⟩, gw.os, gw.gens (by rw [hg]; exact .empty)⟩
    · show (WShape.has [] (.bool true) .bool && WTm.holds [] (.eq .res (.lit (.bool true))) { args := args, res := some (.bool true), after := args }) = true
      rw [Bool.and_eq_true]
      exact ⟨by decide +kernel, by simp only [WTm.holds, WTm.value]; rw [show same (WData.bool true) (WData.bool true) = true by decide +kernel]⟩
    · by_cases hb : b = P
      · subst hb
        rw [hP] at e
        cases e
        exact .inr (.inl ⟨hT.isCodeTable, rfl, #[], ps, rfl, by rw [t1]; simp⟩)
      · exact .inl (gw.kp b o (ns b hb) e)
    · by_cases hb : b = P
      · subst hb; exact ⟨_, t1⟩
      · exact ⟨o, gw.kp b o (ns b hb) e⟩
theorem said_ok : OpenLaw.wellSaid PySem.Challenge.rw_ij0021_01 = true := by
  rw [PySem.W.Fast.te9446332074065402090]
  kernel_rfl
end Mine
set_option maxHeartbeats 8000000 in
theorem PySem.Challenge.cw_ij0021_01_holds : PySem.Challenge.rw_ij0021_01.Holds := by
  w_on
  refine PySem.W.holds_law Mine.said_ok fun said => ?_
  refine PySem.W.holds_open (q := Mine.qv) (loose := Mine.lo_) (Xt := fun s => xlAt Mine.qv [] s && recOk [] s) (XP := XL Mine.qv []) (Yf := Mine.snap) (Ya := fun _ => Mine.snapGood) (YP := fun _ h => Mine.HeadOk h) (N := 4068) Mine.left_all (fun _ _ e => Mine.head_of e) (fun _ _ _ x k => x.keeps k) (fun s e => xl_of s (Bool.and_eq_true_iff.mp e).1) XL.keeps (by rfl) (by rfl) (by rfl) (fun s e => recFacts_of (Bool.and_eq_true_iff.mp e).2) (by rfl) (by assumption) (by decide +kernel) ⟨rfl, rfl, rfl, rfl, rfl, by decide +kernel⟩ ?hw ?hc
  case hw => exact ⟨[.list []], by decide +kernel, by decide +kernel⟩
  case hc => exact Mine.law_call _ rfl
end
