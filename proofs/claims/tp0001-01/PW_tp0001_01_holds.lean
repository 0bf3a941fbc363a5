import PyProof.Rows.All
import Wide.All
import OpenK.AllK
import Wide.FinOn
import PySem.Challenge.RW_tp0001_01
set_option Elab.async false
set_option maxRecDepth 100000
namespace Mine
open PySem PySem.Calls PyProof.Rows

/-! values -/
inductive V where
  | non
  | boo (b : Bool)
  | int (i : Int)
  | flt (x : UInt64)
  | byt (b : Array UInt8)
  | tup (l : List V)
  | lst (l : List V)
  | rng (a b : Int)
  deriving Inhabited

/-- ghosts: the objects that are the frames' own, and the floats' tokens -/
structure Gh where
  own : Addr → Prop
  T : Nat → Option UInt64
abbrev KeepsH (h h' : Heap) : Prop := ∀ b o, h.get? b = some o → h'.get? b = some o

mutual
noncomputable def Rep (O : Gh) (h : Heap) : V → Value → Prop
  | .non, v => v = .none
  | .boo b, v => v = .bool b
  | .int i, v => ∃ t, v = .int i t
  | .flt x, v => ∃ t, v = .float x t ∧ O.T t = some x
  | .byt b, v => ∃ t, v = .bytes b t
  | .tup l, v => ∃ a its, v = .ref a ∧ ¬ O.own a ∧ IsTup h a its ∧ RepL O h l its.toList
  | .lst l, v => ∃ a its, v = .ref a ∧ ¬ O.own a ∧ h.IsList a its ∧ RepL O h l its.toList
  | .rng a b, v => ∃ r t u z, v = .ref r ∧ ¬ O.own r ∧ IsRange h r a b 1 t u z
noncomputable def RepL (O : Gh) (h : Heap) : List V → List Value → Prop
  | [], vs => vs = []
  | x :: l, vs => ∃ v r, vs = v :: r ∧ Rep O h x v ∧ RepL O h l r
end

/-- what a representation rests on: tuples, lists, ranges outside O stand as they stood -/
structure Stab (O O' : Gh) (h h' : Heap) : Prop where
  T : ∀ t x, O.T t = some x → O'.T t = some x
  at' : ∀ a o, ¬ O.own a → h.get? a = some o → ((∃ its n, o.data = .seq its n) ∨ (∃ vs, o.data = .fields vs ∧ o.cls = .type "range")) → h'.get? a = some o ∧ ¬ O'.own a

mutual
theorem Rep.stab {O O' : Gh} {h h' : Heap} (S : Stab O O' h h') : ∀ (x : V) (v : Value), Rep O h x v → Rep O' h' x v
  | .non, _, r => r
  | .boo _, _, r => r
  | .int _, _, r => r
  | .flt _, _, r => let ⟨t, e, z⟩ := r; ⟨t, e, S.T t _ z⟩
  | .byt _, _, r => r
  | .tup l, v, r => by
    obtain ⟨a, its, e, no, ⟨o, ho, hc, n, hd⟩, hr⟩ := r
    have k := S.at' a o no ho (.inl ⟨its, n, hd⟩)
    exact ⟨a, its, e, k.2, ⟨o, k.1, hc, n, hd⟩, RepL.stab S l _ hr⟩
  | .lst l, v, r => by
    obtain ⟨a, its, e, no, ⟨o, ho, hc, n, hd⟩, hr⟩ := r
    have k := S.at' a o no ho (.inl ⟨its, n, hd⟩)
    exact ⟨a, its, e, k.2, ⟨o, k.1, hc, n, hd⟩, RepL.stab S l _ hr⟩
  | .rng a b, v, r => by
    obtain ⟨r, t, u, z, e, no, hr⟩ := r
    have hr' : h.get? r = some _ := hr
    have k := S.at' r _ no hr' (.inr ⟨_, rfl, rfl⟩)
    exact ⟨r, t, u, z, e, k.2, k.1⟩
theorem RepL.stab {O O' : Gh} {h h' : Heap} (S : Stab O O' h h') : ∀ (l : List V) (vs : List Value), RepL O h l vs → RepL O' h' l vs
  | [], _, r => r
  | x :: l, vs, r => by
    obtain ⟨v, q, e, hx, hq⟩ := r
    exact ⟨v, q, e, Rep.stab S x v hx, RepL.stab S l q hq⟩
end

theorem Stab.keeps {O : Gh} {h h' : Heap} (k : KeepsH h h') : Stab O O h h' := ⟨fun _ _ e => e, fun a o no e _ => ⟨k a o e, no⟩⟩
theorem Rep.keeps {O : Gh} {h h' : Heap} {x : V} {v : Value} (r : Rep O h x v) (k : KeepsH h h') : Rep O h' x v := Rep.stab (.keeps k) x v r
theorem RepL.keeps {O : Gh} {h h' : Heap} {x : List V} {v : List Value} (r : RepL O h x v) (k : KeepsH h h') : RepL O h' x v := RepL.stab (.keeps k) x v r
theorem KeepsH.refl (h : Heap) : KeepsH h h := fun _ _ e => e
theorem KeepsH.trans {h₁ h₂ h₃ : Heap} (a : KeepsH h₁ h₂) (b : KeepsH h₂ h₃) : KeepsH h₁ h₃ := fun x o e => b x o (a x o e)
theorem KeepsH.push (h : Heap) (o : Obj) : KeepsH h (h.push o) := fun _ _ e => Heap.get?_push_of_some _ e

theorem RepL.length {O : Gh} {h : Heap} : ∀ {l : List V} {vs : List Value}, RepL O h l vs → l.length = vs.length
  | [], _, r => by cases r; rfl
  | x :: l, vs, r => by obtain ⟨v, q, rfl, _, hq⟩ := r; simp [RepL.length hq]
theorem RepL.size {O : Gh} {h : Heap} {l : List V} {its : Array Value} (r : RepL O h l its.toList) : l.length = its.size := by have := r.length; simpa using this
theorem RepL.append {O : Gh} {h : Heap} : ∀ {l l' : List V} {vs vs' : List Value}, RepL O h l vs → RepL O h l' vs' → RepL O h (l ++ l') (vs ++ vs')
  | [], _, _, _, r, r' => by cases r; exact r'
  | x :: l, _, vs, _, r, r' => by obtain ⟨v, q, rfl, hx, hq⟩ := r; exact ⟨v, _, rfl, hx, RepL.append hq r'⟩
theorem RepL.one {O : Gh} {h : Heap} {x : V} {v : Value} (r : Rep O h x v) : RepL O h [x] [v] := ⟨v, [], rfl, r, rfl⟩
theorem RepL.get {O : Gh} {h : Heap} : ∀ {l : List V} {vs : List Value}, RepL O h l vs → ∀ {i : Nat} {x : V}, l[i]? = some x → ∃ v, vs[i]? = some v ∧ Rep O h x v
  | [], _, _, i, x, e => by simp at e
  | y :: l, vs, r, i, x, e => by
    obtain ⟨v, q, rfl, hx, hq⟩ := r
    cases i with
    | zero => simp at e; subst e; exact ⟨v, rfl, hx⟩
    | succ i => simp at e; obtain ⟨w, h1, h2⟩ := RepL.get hq e; exact ⟨w, by simpa using h1, h2⟩
theorem RepL.get' {O : Gh} {h : Heap} : ∀ {l : List V} {vs : List Value}, RepL O h l vs → ∀ {i : Nat} {v : Value}, vs[i]? = some v → ∃ x, l[i]? = some x ∧ Rep O h x v
  | [], _, r, i, x, e => by cases r; simp at e
  | y :: l, vs, r, i, x, e => by
    obtain ⟨v, q, rfl, hx, hq⟩ := r
    cases i with
    | zero => simp at e; subst e; exact ⟨y, rfl, hx⟩
    | succ i => simp at e; obtain ⟨w, h1, h2⟩ := RepL.get' hq e; exact ⟨w, by simpa using h1, h2⟩
theorem RepL.take {O : Gh} {h : Heap} : ∀ {l : List V} {vs : List Value} (n : Nat), RepL O h l vs → RepL O h (l.take n) (vs.take n)
  | [], _, n, r => by cases r; simp [RepL]
  | y :: l, vs, n, r => by
    obtain ⟨v, q, rfl, hx, hq⟩ := r
    cases n with
    | zero => simp [RepL]
    | succ n => exact ⟨v, _, rfl, hx, RepL.take n hq⟩
theorem RepL.drop {O : Gh} {h : Heap} : ∀ {l : List V} {vs : List Value} (n : Nat), RepL O h l vs → RepL O h (l.drop n) (vs.drop n)
  | [], _, n, r => by cases r; simp [RepL]
  | y :: l, vs, n, r => by
    obtain ⟨v, q, rfl, hx, hq⟩ := r
    cases n with
    | zero => exact ⟨v, q, rfl, hx, hq⟩
    | succ n => exact RepL.drop n hq
theorem RepL.replicate {O : Gh} {h : Heap} {l : List V} {vs : List Value} (r : RepL O h l vs) : ∀ n, RepL O h (List.replicate n l).flatten (List.replicate n vs).flatten
  | 0 => by simp [RepL]
  | n + 1 => by
    rw [List.replicate_succ, List.replicate_succ, List.flatten_cons, List.flatten_cons]
    exact RepL.append r (RepL.replicate r n)

/-! lists of ints -/
noncomputable def ints? : List V → Option (List Int)
  | [] => some []
  | .int i :: l => (ints? l).map (i :: ·)
  | _ :: _ => none
theorem ints_are {O : Gh} {h : Heap} : ∀ {l : List V} {ns : List Int} {vs : List Value}, ints? l = some ns → RepL O h l vs → IntsAre vs ns
  | [], ns, vs, e, r => by cases e; cases r; exact .nil
  | x :: l, ns, vs, e, r => by
    obtain ⟨v, q, rfl, hx, hq⟩ := r
    cases x <;> first | (simp only [ints?] at e; cases e; done) | skip
    rename_i i
    simp only [ints?] at e
    cases hl : ints? l with
    | none => rw [hl] at e; cases e
    | some ms =>
      rw [hl] at e; cases e
      obtain ⟨t, rfl⟩ := hx
      exact .cons _ _ (ints_are hl hq)
theorem ints_map (ns : List Int) : ints? (ns.map .int) = some ns := by
  induction ns with
  | nil => rfl
  | cons n l ih => simp [ints?, ih]
theorem ints_eq : ∀ {l : List V} {ns : List Int}, ints? l = some ns → l = ns.map .int
  | [], ns, e => by cases e; rfl
  | x :: l, ns, e => by
    cases x <;> first | (simp only [ints?] at e; cases e; done) | skip
    simp only [ints?] at e
    cases hl : ints? l with
    | none => rw [hl] at e; cases e
    | some ms => rw [hl] at e; cases e; rw [ints_eq hl]; rfl
theorem repL_ints {O : Gh} {h : Heap} : ∀ {vs : List Value} {ns : List Int}, IntsAre vs ns → RepL O h (ns.map .int) vs
  | _, _, .nil => rfl
  | _, _, .cons _ _ r => ⟨_, _, rfl, ⟨_, rfl⟩, repL_ints r⟩
end Mine
namespace Mine
open PySem PySem.Calls PyProof.Rows

structure Room (A : Around) (n : Nat) : Prop where
  hh : A.handled = none
  dp : A.depth + n ≤ 900
  un : A.units + 10 * n ≤ 9000
theorem Room.in1 {A : Around} {n : Nat} (R : Room A (n + 1)) : Room A.in1 n := ⟨R.hh, by have := R.dp; show A.depth + n ≤ 900; omega, by have := R.un; show A.units + 1 + 10 * n ≤ 9000; omega⟩
theorem Room.deeper {A : Around} {n : Nat} {env : Env} (R : Room A (n + 1)) : Room (A.deeper env) n := ⟨R.hh, by have := R.dp; show A.depth + 1 + n ≤ 900; omega, by have := R.un; show A.units + 3 + 10 * n ≤ 9000; omega⟩
theorem Room.le {A : Around} {n m : Nat} (R : Room A n) (h : m ≤ n) : Room A m := ⟨R.hh, by have := R.dp; omega, by have := R.un; omega⟩
theorem cline_is : cLine = 9900 := rfl

/-- the ghost owns what is alive; its tokens were given -/
noncomputable def TB (T : Nat → Option UInt64) (tk : Nat) : Prop := 0 < tk ∧ ∀ t x, T t = some x → 0 < t ∧ t < tk
theorem TB.le {T : Nat → Option UInt64} {tk tk' : Nat} (B : TB T tk) (h : tk ≤ tk') : TB T tk' := ⟨Nat.lt_of_lt_of_le B.1 h, fun t x e => ⟨(B.2 t x e).1, Nat.lt_of_lt_of_le (B.2 t x e).2 h⟩⟩
noncomputable def LiveO (O : Gh) (h : Heap) : Prop := ∀ a, O.own a → ∃ o, h.get? a = some o
structure Ok (O : Gh) (h : Heap) (tk : Nat) : Prop where
  live : LiveO O h
  tb : TB O.T tk
theorem LiveO.keeps {O : Gh} {h h' : Heap} (L : LiveO O h) (k : KeepsH h h') : LiveO O h' := fun a ha => let ⟨o, e⟩ := L a ha; ⟨o, k a o e⟩
theorem LiveO.lt {O : Gh} {h : Heap} (L : LiveO O h) {a : Addr} (ha : O.own a) : a < h.objs.size := let ⟨_, e⟩ := L a ha; Heap.lt_size e
theorem LiveO.new {O : Gh} {h : Heap} (L : LiveO O h) {a : Addr} (ha : h.objs.size ≤ a) : ¬ O.own a := fun q => absurd (L.lt q) (Nat.not_lt.mpr ha)
structure Adv (G : Gh) (h : Heap) (G' : Gh) (h' : Heap) (tk' : Nat) : Prop where
  own : G'.own = G.own
  ext : ∀ t x, G.T t = some x → G'.T t = some x
  kp : KeepsH h h'
  tb : TB G'.T tk'
theorem Adv.stab {G G' : Gh} {h h' : Heap} {tk' : Nat} (a : Adv G h G' h' tk') : Stab G G' h h' := ⟨a.ext, fun x o no e _ => ⟨a.kp x o e, by rw [a.own]; exact no⟩⟩
theorem Adv.ok {G G' : Gh} {h h' : Heap} {tk tk' : Nat} (a : Adv G h G' h' tk') (L : Ok G h tk) : Ok G' h' tk' := ⟨fun x hx => let ⟨o, e⟩ := L.live x (by rw [← a.own]; exact hx); ⟨o, a.kp x o e⟩, a.tb⟩
theorem Adv.trans {G G' G'' : Gh} {h h' h'' : Heap} {tk' tk'' : Nat} (a : Adv G h G' h' tk') (b : Adv G' h' G'' h'' tk'') : Adv G h G'' h'' tk'' := ⟨b.own.trans a.own, fun t x e => b.ext t x (a.ext t x e), a.kp.trans b.kp, b.tb⟩
theorem Adv.le {G : Gh} {h h' : Heap} {tk tk' : Nat} (L : Ok G h tk) (k : KeepsH h h') (le : tk ≤ tk') : Adv G h G h' tk' := ⟨rfl, fun _ _ e => e, k, L.tb.le le⟩
theorem Adv.rfl {G : Gh} {h : Heap} {tk : Nat} (L : Ok G h tk) : Adv G h G h tk := .le L (.refl _) (Nat.le_refl _)
noncomputable def Gh.put (G : Gh) (tk : Nat) (x : UInt64) : Gh := ⟨G.own, fun t => if t = tk then some x else G.T t⟩
theorem Adv.flt {G : Gh} {h : Heap} {tk : Nat} (L : Ok G h tk) (x : UInt64) : Adv G h (G.put tk x) h (tk + 1) where
  own := Eq.refl _
  ext := fun t y e => by
    have : t ≠ tk := fun q => by have := (L.tb.2 t y e).2; omega
    show (if t = tk then some x else G.T t) = some y
    rw [if_neg this]; exact e
  kp := .refl _
  tb := ⟨Nat.succ_pos _, fun t y e => by
    have e' : (if t = tk then some x else G.T t) = some y := e
    split at e'
    · rename_i q; subst q; exact ⟨L.tb.1, Nat.lt_succ_self _⟩
    · have := L.tb.2 t y e'; omega⟩

/-- the value comes back, nothing that stood is turned -/
noncomputable def Done (O : Gh) (s : Shared) (x : V) (Q : Value → Shared → Prop) : Prop :=
  ∀ val h' tk' G', Adv O s.heap G' h' tk' → Rep G' h' x val → Q val { s with heap := h', toks := tk' }
noncomputable def DoneL (O : Gh) (s : Shared) (l : List V) (Q : List Value → Shared → Prop) : Prop :=
  ∀ vals h' tk' G', Adv O s.heap G' h' tk' → RepL G' h' l vals → Q vals { s with heap := h', toks := tk' }
theorem Done.after {O O' : Gh} {s : Shared} {x : V} {Q : Value → Shared → Prop} {h : Heap} {tk : Nat} (D : Done O s x Q) (k : Adv O s.heap O' h tk) : Done O' { s with heap := h, toks := tk } x Q :=
  fun val h' tk' G' k' r => D val h' tk' G' (k.trans k') r
theorem DoneL.after {O O' : Gh} {s : Shared} {x : List V} {Q : List Value → Shared → Prop} {h : Heap} {tk : Nat} (D : DoneL O s x Q) (k : Adv O s.heap O' h tk) : DoneL O' { s with heap := h, toks := tk } x Q :=
  fun val h' tk' G' k' r => D val h' tk' G' (k.trans k') r
theorem Done.imm {O : Gh} {s : Shared} {x : V} {Q : Value → Shared → Prop} (D : Done O s x Q) (L : Ok O s.heap s.toks) {val : Value} {tk : Nat} (r : Rep O s.heap x val) (le : s.toks ≤ tk := by omega) : Q val { s with toks := tk } :=
  D val s.heap tk O (.le L (KeepsH.refl _) le) r
theorem Done.imm0 {O : Gh} {s : Shared} {x : V} {Q : Value → Shared → Prop} (D : Done O s x Q) (L : Ok O s.heap s.toks) {val : Value} (r : Rep O s.heap x val) : Q val s :=
  D val s.heap s.toks O (.rfl L) r
theorem Done.push {O : Gh} {s : Shared} {x : V} {Q : Value → Shared → Prop} (D : Done O s x Q) (L : Ok O s.heap s.toks) {val : Value} {tk : Nat} {o : Obj} (r : Rep O (s.heap.push o) x val) (le : s.toks ≤ tk := by omega) : Q val { s with heap := s.heap.push o, toks := tk } :=
  D val _ tk O (.le L (KeepsH.push _ _) le) r
theorem Done.flt {O : Gh} {s : Shared} {x : UInt64} {Q : Value → Shared → Prop} (D : Done O s (.flt x) Q) (L : Ok O s.heap s.toks) : Q (.float x s.toks) { s with toks := s.toks + 1 } :=
  D _ s.heap _ _ (.flt L x) ⟨s.toks, rfl, by show (if s.toks = s.toks then some x else _) = some x; rw [if_pos rfl]⟩

section
variable {prog : Program} {w : World} {A : Around} {E : Value → Shared → Prop} {s : Shared} {O : Gh}

/-! new lists and tuples -/
theorem rep_newList {h : Heap} {l : List V} {vs : List Value} (L : LiveO O h) (r : RepL O h l vs) : Rep O (h.push { cls := .type "list", data := .seq vs.toArray }) (.lst l) (.ref h.objs.size) :=
  ⟨h.objs.size, vs.toArray, rfl, L.new (Nat.le_refl _), ⟨_, Heap.get?_push_size _ rfl, rfl, _, rfl⟩, by simpa using r.keeps (KeepsH.push h _)⟩
theorem rep_newTup {h : Heap} {l : List V} {vs : List Value} (L : LiveO O h) (r : RepL O h l vs) : Rep O (h.push { cls := .type "tuple", data := .seq vs.toArray }) (.tup l) (.ref h.objs.size) :=
  ⟨h.objs.size, vs.toArray, rfl, L.new (Nat.le_refl _), ⟨_, Heap.get?_push_size _ rfl, rfl, _, rfl⟩, by simpa using r.keeps (KeepsH.push h _)⟩

theorem newTuple_done {l : List V} {vs : List Value} {Q : Value → Shared → Prop} (L : Ok O s.heap s.toks) (r : RepL O s.heap l vs) (hl : l.length ≤ 1000) (D : Done O s (.tup l) Q) : wpAny (model prog w) A (newTuple vs) Q E s :=
  wpAny_newObj_type (D.push L (rep_newTup L.live r)) (by show vs.toArray.size ≤ sizeLine; rw [List.size_toArray, ← r.length, sizeLine_eq]; omega)
theorem newList_done {l : List V} {vs : List Value} {Q : Value → Shared → Prop} (L : Ok O s.heap s.toks) (r : RepL O s.heap l vs) (hl : l.length ≤ 1000) (D : Done O s (.lst l) Q) : wpAny (model prog w) A (newList vs) Q E s :=
  wpAny_newObj_type (D.push L (rep_newList L.live r)) (by show vs.toArray.size ≤ sizeLine; rw [List.size_toArray, ← r.length, sizeLine_eq]; omega)

/-! the operators -/
noncomputable def binV : Operator → V → V → Option V
  | .Add, .int a, .int b => some (.int (a + b))
  | .Add, .flt a, .flt b => some (.flt (Float64.add a b))
  | .Add, .byt a, .byt b => if a.size + b.size ≤ 1000 then some (.byt (a ++ b)) else none
  | .Add, .lst a, .lst b => if a.length + b.length ≤ 1000 then some (.lst (a ++ b)) else none
  | .Sub, .int a, .int b => some (.int (a - b))
  | .Sub, .flt a, .flt b => some (.flt (Float64.sub a b))
  | .Mult, .int a, .int b => if a.natAbs < 2 ^ 60 ∧ b.natAbs < 2 ^ 60 then some (.int (a * b)) else none
  | .Mult, .flt a, .flt b => some (.flt (Float64.mul a b))
  | .Mult, .lst a, .int n => if a.length ≤ 10 ∧ n.natAbs ≤ 100 then some (.lst (List.replicate n.toNat a).flatten) else none
  | .Div, .int a, .int b => if (b == 0) = false ∧ Float64.isInf (Float64.ofFrac (decide (a < 0) != decide (b < 0)) a.natAbs b.natAbs) = false then some (.flt (Float64.ofFrac (decide (a < 0) != decide (b < 0)) a.natAbs b.natAbs)) else none
  | .FloorDiv, .int a, .int b => if b ≠ 0 ∧ b.natAbs < 1073741824 then some (.int (a.fdiv b)) else none
  | .Mod, .int a, .int b => if b ≠ 0 then some (.int (a.fmod b)) else none
  | .Pow, .int a, .int n => if 0 ≤ n ∧ n ≤ 1000 ∧ a.natAbs < 2 ^ 60 then some (.int (a ^ n.toNat)) else none
  | .BitAnd, .int a, .int b => some (.int (Builtin.bitAnd a b))
  | _, _, _ => none

theorem add_lists' {l b : Addr} {i1 i2 : Array Value} {Q : Value → Shared → Prop} (hl : s.heap.IsList l i1) (hb : s.heap.IsList b i2)
    (h : Q (.ref s.heap.objs.size) { s with heap := s.heap.push { cls := .type "list", data := .seq (i1 ++ i2) } }) (hsz : i1.size + i2.size ≤ sizeLine) :
    wpAny (model prog w) A (binaryOp .Add (.ref l) (.ref b)) Q E s := by
  obtain ⟨⟨cls, dd, data, sl⟩, ho, hc, n, hd⟩ := id hl
  obtain ⟨⟨cls2, dd2, data2, sl2⟩, ho2, hc2, n2, hd2⟩ := id hb
  simp only at hc hd hc2 hd2
  subst hc hd hc2 hd2
  exact concat_meets ⟨_, ho, rfl⟩ ⟨_, ho2, rfl⟩ noFill_list_add seq_list_add PySem.F.slot_list_add PySem.F.entry_list_add (PySem.F.args_list_add_2 _ _) (list_addW l b i1 i2 n n2 dd dd2 sl sl2 hsz) ⟨ho, ho2, h⟩

theorem mul_list' {l : Addr} {items : Array Value} {x : Int} {u : Tok} {Q : Value → Shared → Prop} (hl : s.heap.IsList l items) (hlo : -(2 ^ 63 : Int) ≤ x) (hhi : x < 2 ^ 63) (hsz : items.size * x.toNat ≤ 2 ^ 24)
    (h : Q (.ref s.heap.objs.size) { s with heap := s.heap.push { cls := .type "list", data := .seq (List.replicate x.toNat items.toList).flatten.toArray } }) : wpAny (model prog w) A (binaryOp .Mult (.ref l) (.int x u)) Q E s := by
  obtain ⟨⟨cls, d, data, sl⟩, ho, hcl, k, hd⟩ := id hl
  simp only at hcl hd
  subst hcl hd
  refine wpAny_binaryOp_repeat_ref (T := "list") (U := "int") (by decide) ⟨_, ho, rfl⟩ (fun s' => typeIs_int s' x u) noFill_list_mul F.fills_int_mul F.slot_int_rmul repeat_list F.slot_int_index.lookup
    (call_meets F.slot_int_rmul (typeIs_int s x u) F.entry_int_rmul (F.args_int_rmul_2 _ _) (lm_int_rmul_list_any x u l items k d sl)
      ⟨ho, rfl, ⟨_, ho, rfl⟩, call_meets F.slot_list_mul ⟨_, ho, rfl⟩ F.entry_list_mul (F.args_list_mul_2 _ _)
        (lm_list_mul_any l items k d sl x u (by simp [Builtin.List.listFitsIndex]; omega) (by omega) (by simp [Builtin.List.listTooLong, sizeLine]; omega))
        ⟨ho, ?_⟩⟩)
  rw [listMul_foldl_if]
  exact h

theorem mulOk {a b : Int} (h : a.natAbs < 2 ^ 60) : IntMulOk a b := IntMulOk.of_left (intBits_le_64 (by omega) (by omega))

theorem binV_sound {op : Operator} {a b c : V} {va vb : Value} {Q : Value → Shared → Prop} (e : binV op a b = some c) (L : Ok O s.heap s.toks) (ra : Rep O s.heap a va) (rb : Rep O s.heap b vb)
    (D : Done O s c Q) : wpAny (model prog w) A (binaryOp op va vb) Q E s := by
  unfold binV at e
  split at e
  · cases e; obtain ⟨t, rfl⟩ := ra; obtain ⟨u, rfl⟩ := rb
    exact PyProof.Rows.add_int (D.imm L ⟨_, rfl⟩)
  · cases e; obtain ⟨t, rfl, _⟩ := ra; obtain ⟨u, rfl, _⟩ := rb
    exact PyProof.Rows.add_float (D.flt L)
  · obtain ⟨t, rfl⟩ := ra; obtain ⟨u, rfl⟩ := rb
    split at e
    · cases e
      exact wpAny_with_toks (Nat.le_refl _) (PySem.W.KBy.add_bytes (by omega) (fun t' k le => D.imm L ⟨_, rfl⟩ le))
    · cases e
  · obtain ⟨x, i1, rfl, _, hx, rx⟩ := ra; obtain ⟨y, i2, rfl, _, hy, ry⟩ := rb
    split at e
    · rename_i hsz
      cases e
      have e1 := rx.size
      have e2 := ry.size
      refine add_lists' hx hy (D.push L ?_) (by rw [← e1, ← e2, sizeLine_eq]; omega)
      have := rep_newList L.live (rx.append ry)
      rwa [show (i1.toList ++ i2.toList).toArray = i1 ++ i2 by simp] at this
    · cases e
  · cases e; obtain ⟨t, rfl⟩ := ra; obtain ⟨u, rfl⟩ := rb
    exact PyProof.Rows.sub_int (D.imm L ⟨_, rfl⟩)
  · cases e; obtain ⟨t, rfl, _⟩ := ra; obtain ⟨u, rfl, _⟩ := rb
    exact PyProof.Rows.sub_float (D.flt L)
  · obtain ⟨t, rfl⟩ := ra; obtain ⟨u, rfl⟩ := rb
    split at e
    · rename_i hm
      cases e
      exact PyProof.Rows.mul_int (D.imm L ⟨_, rfl⟩) (mulOk hm.1)
    · cases e
  · cases e; obtain ⟨t, rfl, _⟩ := ra; obtain ⟨u, rfl, _⟩ := rb
    exact PyProof.Rows.mul_float (D.flt L)
  · rename_i l n
    obtain ⟨x, i1, rfl, _, hx, rx⟩ := ra; obtain ⟨u, rfl⟩ := rb
    split at e
    · rename_i hm
      cases e
      have e1 := rx.size
      have hn : n.toNat ≤ 100 := by omega
      have hz : i1.size * n.toNat ≤ 10 * 100 := Nat.mul_le_mul (by omega) hn
      exact mul_list' hx (by omega) (by omega) (by omega) (D.push L (rep_newList L.live (rx.replicate _)))
    · cases e
  · obtain ⟨t, rfl⟩ := ra; obtain ⟨u, rfl⟩ := rb
    split at e
    · rename_i hm
      cases e
      exact AutoIntOps.truediv_2 (by rw [hm.1]; simp) (by rw [hm.2]; simp) (D.flt L)
    · cases e
  · obtain ⟨t, rfl⟩ := ra; obtain ⟨u, rfl⟩ := rb
    split at e
    · rename_i hm
      cases e
      exact PyProof.Rows.floordiv_int hm.1 (D.imm L ⟨_, rfl⟩) (.inl (PyProof.noPylong_small hm.2))
    · cases e
  · obtain ⟨t, rfl⟩ := ra; obtain ⟨u, rfl⟩ := rb
    split at e
    · rename_i hm
      cases e
      exact PyProof.Rows.mod_int' hm (D.imm L ⟨_, rfl⟩)
    · cases e
  · obtain ⟨t, rfl⟩ := ra; obtain ⟨u, rfl⟩ := rb
    split at e
    · rename_i hm
      cases e
      exact PyProof.Rows.pow_int_small hm.1 (by omega) (by omega) (D.imm L ⟨_, rfl⟩)
    · cases e
  · cases e; obtain ⟨t, rfl⟩ := ra; obtain ⟨u, rfl⟩ := rb
    exact PyProof.Rows.and_int (D.imm L ⟨_, rfl⟩)
  · cases e
end
end Mine
namespace Mine
open PySem PySem.Calls PyProof.Rows
section
variable {prog : Program} {w : World} {A : Around} {E : Value → Shared → Prop} {s : Shared} {O : Gh}

theorem ints_at : ∀ {vs : List Value} {ns : List Int}, IntsAre vs ns → ∀ {i : Nat} {v : Value}, vs[i]? = some v → ∃ n t, ns[i]? = some n ∧ v = .int n t
  | _, _, .nil, i, v, e => by simp at e
  | _, _, .cons n t r, i, v, e => by
    cases i with
    | zero => simp at e; subst e; exact ⟨n, t, rfl, rfl⟩
    | succ i => simp at e; obtain ⟨m, u, h1, h2⟩ := ints_at r e; exact ⟨m, u, by simpa using h1, h2⟩
theorem ints_len : ∀ {vs : List Value} {ns : List Int}, IntsAre vs ns → vs.length = ns.length
  | _, _, .nil => rfl
  | _, _, .cons _ _ r => by simp [ints_len r]

theorem all_eq_of_len : ∀ (x y : List Int), x.length = y.length → (List.range x.length).all (fun j => x.getD j 0 == y.getD j 0) = (x == y)
  | [], [], _ => rfl
  | [], _ :: _, h => by simp at h
  | _ :: _, [], h => by simp at h
  | a :: x, b :: y, h => by
    have ih := all_eq_of_len x y (by simpa using h)
    rw [List.length_cons, List.range_succ_eq_map, List.all_cons, List.all_map, List.cons_beq_cons, ← ih]
    rfl

theorem ne_lists {l b : Addr} {i1 i2 : Array Value} {x y : List Int} {Q : Value → Shared → Prop} (hl : s.heap.IsList l i1) (hb : s.heap.IsList b i2) (hx : IntsAre i1.toList x) (hy : IntsAre i2.toList y) (hu : A.units < cLine)
    (h : Q (.bool (!(x == y))) s) : wpAny (model prog w) A (compareOp .NotEq (.ref l) (.ref b)) Q E s := by
  have e1 : i1.size = x.length := by have := ints_len hx; simpa using this
  have e2 : i2.size = y.length := by have := ints_len hy; simpa using this
  by_cases hsz : i1.size = i2.size
  · refine SeqAt.RcNeAt.lists (e := fun j => x.getD j 0 == y.getD j 0) hl hb hsz hu (fun j h1 h2 => ?_) prog w E Q ?_
    · obtain ⟨n, t, hn, ev⟩ := ints_at hx (i := j) (v := i1[j]) (by simp [h1])
      obtain ⟨m, u, hm, ew⟩ := ints_at hy (i := j) (v := i2[j]) (by simp [h2])
      rw [ev, ew]
      have : (x.getD j 0 == y.getD j 0) = (n == m) := by simp [hn, hm]
      rw [this]
      exact SeqAt.EqAt.int_int n t m u
    · rw [e1, all_eq_of_len x y (by omega)]; exact h
  · have hne : (x == y) = false := by
      cases q : x == y with
      | false => rfl
      | true => have := beq_iff_eq.mp q; subst this; omega
    rw [hne] at h
    exact SeqAt.RcNeAt.lists_lengths hl hb (by simpa using hsz) hu prog w E Q h

theorem in_list {l : Addr} {i1 : Array Value} {x : List Int} {k : Int} {t : Tok} {Q : Value → Shared → Prop} (hl : s.heap.IsList l i1) (hx : IntsAre i1.toList x)
    (h : Q (.bool (x.contains k)) s) : wpAny (model prog w) A (compareOp .In (.int k t) (.ref l)) Q E s := by
  have key : ∀ {vs : List Value} {ns : List Int}, IntsAre vs ns → vs.any (isInt k) = ns.contains k := by
    intro vs ns hh
    induction hh with
    | nil => rfl
    | cons n u r ih => simp only [List.any_cons, List.contains_cons, ih, isInt]; congr 1; exact Bool.beq_comm
  refine SeqAt.in_listAt (isInt k) hl (fun y hy => ?_) ?_
  · obtain ⟨j, hj, rfl⟩ := Array.mem_iff_getElem.mp hy
    obtain ⟨n, u, hn, ev⟩ := ints_at hx (i := j) (v := i1[j]) (by simp [hj])
    rw [ev]
    exact SeqAt.EqAt.int_int n u k t
  · rw [← Array.any_toList, key hx]; exact h

noncomputable def cmpV : CmpOp → V → V → Option Bool
  | .Lt, .int a, .int b => some (decide (a < b))
  | .LtE, .int a, .int b => some (decide (a ≤ b))
  | .Gt, .int a, .int b => some (decide (b < a))
  | .GtE, .int a, .int b => some (decide (b ≤ a))
  | .Eq, .int a, .int b => some (a == b)
  | .NotEq, .int a, .int b => some (a != b)
  | .Lt, .flt a, .flt b => some (Float64.cmp a b == some Ordering.lt)
  | .Gt, .flt a, .flt b => some (Float64.cmp a b == some Ordering.gt)
  | .NotEq, .boo a, .boo b => some (a != b)
  | .NotEq, .lst a, .lst b => match ints? a, ints? b with | some x, some y => some (!(x == y)) | _, _ => none
  | .In, .int k, .lst a => match ints? a with | some x => some (x.contains k) | _ => none
  | _, _, _ => none

theorem cmpV_sound {op : CmpOp} {a b : V} {c : Bool} {va vb : Value} {Q : Value → Shared → Prop} (e : cmpV op a b = some c) (hu : A.units < cLine) (ra : Rep O s.heap a va) (rb : Rep O s.heap b vb)
    (D : Q (.bool c) s) : wpAny (model prog w) A (compareOp op va vb) Q E s := by
  unfold cmpV at e
  split at e
  · cases e; obtain ⟨t, rfl⟩ := ra; obtain ⟨u, rfl⟩ := rb; exact PyProof.Rows.lt_int D
  · cases e; obtain ⟨t, rfl⟩ := ra; obtain ⟨u, rfl⟩ := rb; exact PyProof.Rows.le_int D
  · cases e; obtain ⟨t, rfl⟩ := ra; obtain ⟨u, rfl⟩ := rb; exact PyProof.Rows.gt_int D
  · cases e; obtain ⟨t, rfl⟩ := ra; obtain ⟨u, rfl⟩ := rb; exact PyProof.Rows.ge_int D
  · cases e; obtain ⟨t, rfl⟩ := ra; obtain ⟨u, rfl⟩ := rb; exact PyProof.Rows.eq_int D
  · cases e; obtain ⟨t, rfl⟩ := ra; obtain ⟨u, rfl⟩ := rb; exact PyProof.Rows.ne_int D
  · cases e; obtain ⟨t, rfl, _⟩ := ra; obtain ⟨u, rfl, _⟩ := rb; exact AutoFloatOps.lt_0 D
  · cases e; obtain ⟨t, rfl, _⟩ := ra; obtain ⟨u, rfl, _⟩ := rb; exact AutoFloatOps.gt_0 D
  · cases e; cases ra; cases rb; exact PyProof.Rows.ne_bool D
  · obtain ⟨x, i1, rfl, _, hx, rx⟩ := ra; obtain ⟨y, i2, rfl, _, hy, ry⟩ := rb
    split at e
    · rename_i p q h1 h2
      cases e
      exact ne_lists hx hy (ints_are h1 rx) (ints_are h2 ry) hu D
    · cases e
  · obtain ⟨t, rfl⟩ := ra; obtain ⟨y, i2, rfl, _, hy, ry⟩ := rb
    split at e
    · rename_i p h1
      cases e
      exact in_list hy (ints_are h1 ry) D
    · cases e
  · cases e

/-! truth -/
noncomputable def truthV : V → Option Bool
  | .boo b => some b
  | .int i => some (i != 0)
  | _ => none
theorem truthV_sound {a : V} {c : Bool} {va : Value} {Q : Bool → Shared → Prop} (e : truthV a = some c) (ra : Rep O s.heap a va) (D : Q c s) : wpAny (model prog w) A (truthy va) Q E s := by
  unfold truthV at e
  split at e
  · cases e; cases ra; exact wpAny_truthy_bool D
  · cases e; obtain ⟨t, rfl⟩ := ra; exact PySem.P.truthy_int D
  · cases e

/-! items -/
noncomputable def idxV : V → V → Option V
  | .lst l, .int i => if 0 ≤ i ∧ i < 2 ^ 62 then l[i.toNat]? else none
  | .tup l, .int i => if 0 ≤ i ∧ i < 2 ^ 62 then l[i.toNat]? else none
  | .byt b, .int i => if 0 ≤ i ∧ i < b.size ∧ b.size ≤ 1000 then some (.int (b.toList.getD i.toNat 0).toNat) else none
  | _, _ => none

theorem seqIndex_is {i : Int} {n : Nat} (h0 : 0 ≤ i) (h1 : i < n) : seqIndex? i n = some i.toNat := by
  have hn : ¬ i < 0 := by omega
  simp [seqIndex?, hn, h0, h1]

end
end Mine
namespace Mine
open PySem PySem.Calls PyProof.Rows

/-! the language -/
inductive BF where
  | len | sum | min | sorted | abs | int | divmod | range
  deriving DecidableEq
noncomputable def BF.name : BF → Str
  | .len => Str.ofString "len" | .sum => Str.ofString "sum" | .min => Str.ofString "min" | .sorted => Str.ofString "sorted"
  | .abs => Str.ofString "abs" | .int => Str.ofString "int" | .divmod => Str.ofString "divmod" | .range => Str.ofString "range"
noncomputable def BF.val : BF → Value
  | .len => .builtin "len" | .sum => .builtin "sum" | .min => .builtin "min" | .sorted => .builtin "sorted"
  | .abs => .builtin "abs" | .int => .type "int" | .divmod => .builtin "divmod" | .range => .type "range"

inductive Tg where
  | name (i : Nat) (p : Pos)
  | tup (is : List (Nat × Pos)) (k : Nat) (p : Pos)

mutual
inductive Ex where
  | var (i : Nat) (p : Pos)
  | glo (x : Str) (i : Int) (p : Pos)
  | cint (i : Int) (p : Pos)
  | cflt (x : UInt64) (p : Pos)
  | cbyt (b : List UInt8) (p : Pos)
  | cboo (b : Bool) (p : Pos)
  | bin (op : Operator) (l r : Ex) (p : Pos)
  | cmp (op : CmpOp) (l r : Ex) (p : Pos)
  | not (e : Ex) (p : Pos)
  | and (a b : Ex) (p : Pos)
  | idx (l r : Ex) (p : Pos)
  | sl1 (l hi : Ex) (ps p : Pos)
  | sl2 (l lo : Ex) (ps p : Pos)
  | sl3 (l lo hi : Ex) (ps p : Pos)
  | tup (l : Exs) (k : Nat) (p : Pos)
  | lst (l : Exs) (p : Pos)
  | bcall (f : BF) (args : Exs) (pf p : Pos)
  | call (f : Nat) (x : Str) (args : Exs) (pf p : Pos)
  | comp (elt : Ex) (t : Tg) (it : Ex) (tests : Exs) (rest : Gens) (cn : List Str) (fr : List Nat) (sc : Scope) (p : Pos)
inductive Exs where
  | nil
  | cons (e : Ex) (r : Exs)
inductive Gens where
  | nil
  | cons (t : Tg) (it : Ex) (tests : Exs) (rest : Gens)
end

mutual
inductive St where
  | assign (i : Nat) (e : Ex) (pt p : Pos)
  | assignC (i : Nat) (e : Ex) (pt p : Pos)
  | own (i : Nat) (pt pl p : Pos)
  | append (i : Nat) (e : Ex) (pn pa pc p : Pos)
  | assignT (is : List (Nat × Pos)) (k : Nat) (pt : Pos) (e : Ex) (p : Pos)
  | aug (i : Nat) (op : Operator) (e : Ex) (pt p : Pos)
  | ite (t : Ex) (a b : Sts) (p : Pos)
  | whil (t : Ex) (a : Sts) (p : Pos)
  | for (t : Tg) (it : Ex) (a : Sts) (p : Pos)
  | ret (e : Ex) (p : Pos)
  | freeze
inductive Sts where
  | nil
  | cons (s : St) (r : Sts)
end

/-! back to the model's trees -/
noncomputable def nmAt (nm : List Str) (i : Nat) : Str := nm.getD i (Str.ofString "")
noncomputable def trT (nm : List Str) : Tg → Expr
  | .name i p => .Name (nmAt nm i) p
  | .tup is k p => .Tuple (is.map fun x => .Name (nmAt nm x.1) x.2) k p
mutual
noncomputable def tr (nm : List Str) : Ex → Expr
  | .var i p => .Name (nmAt nm i) p
  | .glo x _ p => .Name x p
  | .cint i p => .Constant (.int i) 0 p
  | .cflt x p => .Constant (.float x) 0 p
  | .cbyt b p => .Constant (.bytes b) 0 p
  | .cboo b p => .Constant (.bool b) 0 p
  | .bin op l r p => .BinOp (tr nm l) op (tr nm r) p
  | .cmp op l r p => .Compare (tr nm l) [op] [tr nm r] p
  | .not e p => .UnaryOp .Not (tr nm e) p
  | .and a b p => .BoolOp .And [tr nm a, tr nm b] p
  | .idx l r p => .Subscript (tr nm l) (tr nm r) p
  | .sl1 l hi ps p => .Subscript (tr nm l) (.Slice none (some (tr nm hi)) none ps) p
  | .sl2 l lo ps p => .Subscript (tr nm l) (.Slice (some (tr nm lo)) none none ps) p
  | .sl3 l lo hi ps p => .Subscript (tr nm l) (.Slice (some (tr nm lo)) (some (tr nm hi)) none ps) p
  | .tup l k p => .Tuple (trs nm l) k p
  | .lst l p => .List (trs nm l) p
  | .bcall f a pf p => .Call (.Name f.name pf) (trs nm a) [] p
  | .call _ x a pf p => .Call (.Name x pf) (trs nm a) [] p
  | .comp elt t it tests rest cn _ sc p => .ListComp (tr cn elt) (⟨trT cn t, tr nm it, trs cn tests, 0⟩ :: trG cn rest) sc p
noncomputable def trs (nm : List Str) : Exs → List Expr
  | .nil => []
  | .cons e r => tr nm e :: trs nm r
noncomputable def trG (nm : List Str) : Gens → List Comprehension
  | .nil => []
  | .cons t it tests rest => ⟨trT nm t, tr nm it, trs nm tests, 0⟩ :: trG nm rest
end
mutual
noncomputable def trSt (nm : List Str) : St → List Stmt
  | .assign i e pt p => [.Assign [.Name (nmAt nm i) pt] (tr nm e) p]
  | .assignC i e pt p => [.Assign [.Name (nmAt nm i) pt] (tr nm e) p]
  | .own i pt pl p => [.Assign [.Name (nmAt nm i) pt] (.List [] pl) p]
  | .append i e pn pa pc p => [.Expr (.Call (.Attribute (.Name (nmAt nm i) pn) (Str.ofString "append") pa) [tr nm e] [] pc) p]
  | .assignT is k pt e p => [.Assign [.Tuple (is.map fun x => .Name (nmAt nm x.1) x.2) k pt] (tr nm e) p]
  | .aug i op e pt p => [.AugAssign (.Name (nmAt nm i) pt) op (tr nm e) p]
  | .ite t a b p => [.If (tr nm t) (trSts nm a) (trSts nm b) p]
  | .whil t a p => [.While (tr nm t) (trSts nm a) [] p]
  | .for t it a p => [.For (trT nm t) (tr nm it) (trSts nm a) [] p]
  | .ret e p => [.Return (some (tr nm e)) p]
  | .freeze => []
noncomputable def trSts (nm : List Str) : Sts → List Stmt
  | .nil => []
  | .cons s r => trSt nm s ++ trSts nm r
end

/-! its meaning -/
abbrev Sg := List (Option V)
noncomputable def itemsV : V → Option (List V)
  | .lst l => some l
  | .tup l => some l
  | .byt b => some (b.toList.map fun c => .int c.toNat)
  | .rng a b => if a.natAbs ≤ 1000 ∧ b.natAbs ≤ 1000 then some ((List.range (b - a).toNat).map fun (i : Nat) => .int (a + (i : Int))) else none
  | _ => none

noncomputable def KasRun {α : Type} (cmp : Nat → Nat → Option Bool) : PySem.W.KasT α → Option α
  | .ret a => some a
  | .ask i j k => (cmp i j).bind fun b => KasRun cmp (k b)
noncomputable def ltRow : V → V → Option Bool
  | .tup (.flt a :: _), .tup (.flt b :: _) => if a == b then none else if Float64.cmp a b == some Ordering.eq then none else some (Float64.cmp a b == some Ordering.lt)
  | _, _ => none
noncomputable def sortV (l : List V) : Option (List V) :=
  if 2 ≤ l.length ∧ l.length < 64 then
    (KasRun (fun i j => ltRow (l.getD i .non) (l.getD j .non)) (PySem.W.kas_sort l.length)).map fun p => p.toList.map fun i => l.getD i .non
  else none
noncomputable def minL (l : List Int) : Int := l.foldl min (l.headD 0)
noncomputable def isTupF : V → Bool
  | .tup (.flt _ :: _) => true
  | _ => false

noncomputable def callB : BF → List V → Option V
  | .len, [.lst l] => if l.length ≤ 100000 then some (.int l.length) else none
  | .len, [.byt b] => if b.size ≤ 100000 then some (.int b.size) else none
  | .sum, [.lst l] => (ints? l).map fun x => .int x.sum
  | .min, [.lst l] => (ints? l).bind fun x => if x.isEmpty then none else some (.int (minL x))
  | .sorted, [.lst l] => if l.all isTupF then (sortV l).map .lst else none
  | .abs, [.int a] => some (.int (if a < 0 then -a else a))
  | .int, [.int a] => some (.int a)
  | .int, [.flt x] => match Float64.decode x with | .fin sg m e => some (.int (Float64.truncOf sg m e)) | _ => none
  | .divmod, [.int a, .int b] => if b ≠ 0 ∧ b.natAbs < 1073741824 then some (.tup [.int (a.fdiv b), .int (a.fmod b)]) else none
  | .range, [.int n] => if n.natAbs ≤ 1000 then some (.rng 0 n) else none
  | .range, [.int a, .int b] => if a.natAbs ≤ 1000 ∧ b.natAbs ≤ 1000 then some (.rng a b) else none
  | _, _ => none

noncomputable def sliceV : V → Option Int → Option Int → Option V
  | .lst l, none, some b => if 0 ≤ b ∧ l.length ≤ 100000 then some (.lst (l.take b.toNat)) else none
  | .lst l, some a, none => if 0 ≤ a ∧ l.length ≤ 100000 then some (.lst (l.drop a.toNat)) else none
  | .byt x, some a, some b => if 0 ≤ a ∧ a ≤ b ∧ b ≤ x.size ∧ x.size ≤ 1000 then some (.byt ((x.toList.drop a.toNat).take (b - a).toNat).toArray) else none
  | _, _, _ => none
noncomputable def asInt : V → Option Int
  | .int i => some i
  | _ => none

noncomputable def Tg.idx : Tg → List Nat
  | .name i _ => [i]
  | .tup is _ _ => is.map (·.1)
noncomputable def setL : Sg → List (Nat × Pos) → List V → Sg
  | σ, (i, _) :: is, v :: vs => setL (σ.set i (some v)) is vs
  | σ, _, _ => σ
noncomputable def setT (σ : Sg) : Tg → V → Option Sg
  | .name i _, v => some (σ.set i (some v))
  | .tup is _ _, .tup vs => if is.length = vs.length then some (setL σ is vs) else none
  | _, _ => none
/-- a comprehension's names: given a value once -/
noncomputable def bindT (σ : Sg) (t : Tg) (v : V) : Option Sg := if t.idx.all (fun i => (σ[i]?).join.isNone && decide (i < σ.length)) then setT σ t v else none
noncomputable def flatO (f : V → Option (List V)) : List V → Option (List V)
  | [] => some []
  | v :: r => (f v).bind fun a => (flatO f r).map (a ++ ·)

mutual
noncomputable def evE (Φ : Nat → List V → Option V) : Ex → Sg → Option V
  | .var i _, σ => (σ[i]?).join
  | .glo _ i _, _ => some (.int i)
  | .cint i _, _ => some (.int i)
  | .cflt x _, _ => some (.flt x)
  | .cbyt b _, _ => some (.byt b.toArray)
  | .cboo b _, _ => some (.boo b)
  | .bin op l r _, σ => (evE Φ l σ).bind fun a => (evE Φ r σ).bind fun b => binV op a b
  | .cmp op l r _, σ => (evE Φ l σ).bind fun a => (evE Φ r σ).bind fun b => (cmpV op a b).map .boo
  | .not e _, σ => (evE Φ e σ).bind fun a => (truthV a).map fun b => .boo (!b)
  | .and a b _, σ => (evE Φ a σ).bind fun x => (truthV x).bind fun t => if t then evE Φ b σ else some x
  | .idx l r _, σ => (evE Φ l σ).bind fun a => (evE Φ r σ).bind fun b => idxV a b
  | .sl1 l hi _ _, σ => (evE Φ l σ).bind fun a => ((evE Φ hi σ).bind asInt).bind fun b => sliceV a none (some b)
  | .sl2 l lo _ _, σ => (evE Φ l σ).bind fun a => ((evE Φ lo σ).bind asInt).bind fun b => sliceV a (some b) none
  | .sl3 l lo hi _ _, σ => (evE Φ l σ).bind fun a => ((evE Φ lo σ).bind asInt).bind fun b => ((evE Φ hi σ).bind asInt).bind fun c => sliceV a (some b) (some c)
  | .tup l _ _, σ => (evL Φ l σ).bind fun vs => if vs.length ≤ 1000 then some (.tup vs) else none
  | .lst l _, σ => (evL Φ l σ).bind fun vs => if vs.length ≤ 1000 then some (.lst vs) else none
  | .bcall f a _ _, σ => (evL Φ a σ).bind fun vs => callB f vs
  | .call f _ a _ _, σ => (evL Φ a σ).bind fun vs => Φ f vs
  | .comp elt t it tests rest cn fr _ _, σ =>
    (evE Φ it σ).bind fun v => (itemsV v).bind fun vs =>
      (flatO (fun x => (bindT (List.replicate (cn.length - fr.length) none ++ fr.map fun j => (σ[j]?).join) t x).bind fun τ =>
        (evTs Φ tests τ).bind fun ok => if ok then evG Φ rest (fun τ => evE Φ elt τ) τ else some []) vs).bind fun out =>
      if out.length ≤ 1000 ∧ vs.length ≤ 1000 then some (.lst out) else none
noncomputable def evT (Φ : Nat → List V → Option V) : Ex → Sg → Option Bool
  | .not e _, σ => (evT Φ e σ).map (! ·)
  | .and a b _, σ => (evT Φ a σ).bind fun x => if x then evT Φ b σ else some false
  | .cmp op l r _, σ => (evE Φ l σ).bind fun a => (evE Φ r σ).bind fun b => cmpV op a b
  | .var i _, σ => ((σ[i]?).join).bind truthV
  | .call f _ a _ _, σ => ((evL Φ a σ).bind fun vs => Φ f vs).bind truthV
  | _, _ => none
noncomputable def evL (Φ : Nat → List V → Option V) : Exs → Sg → Option (List V)
  | .nil, _ => some []
  | .cons e r, σ => (evE Φ e σ).bind fun v => (evL Φ r σ).map (v :: ·)
noncomputable def evTs (Φ : Nat → List V → Option V) : Exs → Sg → Option Bool
  | .nil, _ => some true
  | .cons e r, σ => (evT Φ e σ).bind fun b => if b then evTs Φ r σ else some false
noncomputable def evG (Φ : Nat → List V → Option V) : Gens → (Sg → Option V) → Sg → Option (List V)
  | .nil, f, τ => (f τ).map ([·])
  | .cons t it tests rest, f, τ =>
    (evE Φ it τ).bind fun v => (itemsV v).bind fun vs => if vs.length ≤ 1000 then
      flatO (fun x => (bindT τ t x).bind fun τ => (evTs Φ tests τ).bind fun ok => if ok then evG Φ rest f τ else some []) vs else none
end

structure S where
  vs : Sg
  own : Option (Nat × List V)
inductive Out where
  | next (s : S)
  | ret (v : V)

noncomputable def whileF (t : S → Option Bool) (b : S → Option Out) : Nat → S → Option Out
  | 0, _ => none
  | n + 1, s => (t s).bind fun c => if c then (b s).bind fun o => match o with | .next s => whileF t b n s | .ret v => some (.ret v) else some (.next s)
noncomputable def forF (f : V → S → Option Out) : List V → S → Option Out
  | [], s => some (.next s)
  | v :: r, s => (f v s).bind fun o => match o with | .next s => forF f r s | .ret v => some (.ret v)
/-- a name is given a value: not the one that holds the list being built -/
noncomputable def S.put (s : S) (i : Nat) (v : V) : Option S := if !(s.own.any fun x => x.1 == i) && decide (i < s.vs.length) then some { s with vs := s.vs.set i (some v) } else none
noncomputable def S.putT (s : S) (t : Tg) (v : V) : Option S := if t.idx.all (fun i => !(s.own.any fun x => x.1 == i) && decide (i < s.vs.length)) then (setT s.vs t v).map fun vs => { s with vs := vs } else none

mutual
noncomputable def exS (Φ : Nat → List V → Option V) : St → S → Option Out
  | .assign i e _ _, s => (evE Φ e s.vs).bind fun v => (s.put i v).map .next
  | .assignC i e _ _, s => (evE Φ e s.vs).bind fun v => (s.put i v).map .next
  | .own i _ _ _, s => if s.own.isSome || s.vs.length ≤ i then none else some (.next { vs := s.vs.set i none, own := some (i, []) })
  | .append i e _ _ _ _, s => (evE Φ e s.vs).bind fun v => match s.own with
    | some (j, l) => if j == i && decide (l.length ≤ 1000) then some (.next { s with own := some (j, l ++ [v]) }) else none
    | none => none
  | .assignT is k pt e _, s => (evE Φ e s.vs).bind fun v => (s.putT (.tup is k pt) v).map .next
  | .aug i op e _ _, s => ((s.vs[i]?).join).bind fun a => (evE Φ e s.vs).bind fun b => match op, a, b with
    | .Add, .int a, .int b => (s.put i (.int (a + b))).map .next
    | _, _, _ => none
  | .ite t a b _, s => (evT Φ t s.vs).bind fun c => if c then exSs Φ a s else exSs Φ b s
  | .whil t a _, s => whileF (fun s => evT Φ t s.vs) (fun s => exSs Φ a s) 100 s
  | .for t it a _, s => (evE Φ it s.vs).bind fun v => (itemsV v).bind fun vs => if vs.length ≤ 1000 then forF (fun x s => (s.putT t x).bind fun s => exSs Φ a s) vs s else none
  | .ret e _, s => (evE Φ e s.vs).map .ret
  | .freeze, s => match s.own with
    | some (i, l) => some (.next { vs := s.vs.set i (some (.lst l)), own := none })
    | none => none
noncomputable def exSs (Φ : Nat → List V → Option V) : Sts → S → Option Out
  | .nil, s => some (.next s)
  | .cons st r, s => (exS Φ st s).bind fun o => match o with | .next s => exSs Φ r s | .ret v => some (.ret v)
end
end Mine
namespace Mine
open PySem PySem.Calls PyProof.Rows

noncomputable def quietIter (T : String) : Bool := !(["enumerate", "zip", "dict_itemiterator", "dict_reverseitemiterator", "odict_iterator", "itertools.zip_longest", "itertools.pairwise"].contains T) && T != "range"
/-- an iterator over what stands for vs -/
structure It (prog : Program) (w : World) (A : Around) (O : Gh) (h : Heap) (vs : List V) (I : Addr) (fp : List Addr) (P : Nat → Value → Prop) (St : Nat → Heap → Prop) : Prop where
  walks : Walks prog w A I fp [I] vs.length P St
  st : St 0 h
  fpm : ∀ b ∈ fp, b = I ∨ ∃ o its k, h.get? b = some o ∧ o.data = .seq its k ∧ ¬ O.own b
  iobj : ∀ i h', St i h' → ∃ o fs T, h'.get? I = some o ∧ o.data = .fields fs ∧ o.cls = .type T ∧ quietIter T = true
  item : ∀ i u x O' h', P i u → vs[i]? = some x → Stab O O' h h' → Rep O' h' x u

section
variable {prog : Program} {w : World} {A : Around} {E : Value → Shared → Prop} {s : Shared} {O : Gh}

theorem it_mk {h : Heap} {vs : List V} {I : Addr} {fp : List Addr} {P : Nat → Value → Prop} {St : Nat → Heap → Prop} {n : Nat} (W : Walks prog w A I fp [I] n P St) (hn : n = vs.length) (st : St 0 h)
    (fpm : ∀ b ∈ fp, b = I ∨ ∃ o its k, h.get? b = some o ∧ o.data = .seq its k ∧ ¬ O.own b) (iobj : ∀ i h', St i h' → ∃ o fs T, h'.get? I = some o ∧ o.data = .fields fs ∧ o.cls = .type T ∧ quietIter T = true)
    (item : ∀ i u x O' h', P i u → vs[i]? = some x → Stab O O' h h' → Rep O' h' x u) : It prog w A O h vs I fp P St := ⟨hn ▸ W, st, fpm, iobj, item⟩

theorem pyIter_sound {v : V} {vs : List V} {val : Value} {Q : Value → Shared → Prop} (hh : A.handled = none) (r : Rep O s.heap v val) (e : itemsV v = some vs)
    (h : ∀ I h' fp P St, KeepsH s.heap h' → s.heap.objs.size ≤ I → It prog w A O h' vs I fp P St → Q (.ref I) { s with heap := h' }) : wpAny (model prog w) A (pyIter val) Q E s := by
  match v, r, e with
  | .non, _, e => cases e
  | .boo _, _, e => cases e
  | .int _, _, e => cases e
  | .flt _, _, e => cases e
  | .byt b, r, e =>
    cases e
    obtain ⟨t, rfl⟩ := r
    refine PySem.W.KBw.pyIter_bytes (h _ _ _ _ _ (KeepsH.push _ _) (Nat.le_refl _) (it_mk (PySem.W.KBw.walks (prog := prog) (w := w) hh s.heap.objs.size b t) (by simp) ⟨_, Heap.get?_push_size _ rfl, rfl, rfl⟩ (fun b hb => .inl (by simpa using hb)) (fun i h' st => ?_) ?_))
    · obtain ⟨o, ho, hc, hd⟩ := st
      exact ⟨o, _, _, ho, hd, hc, by decide⟩
    · intro i u x O' h' hp hx _
      obtain ⟨c, z, hc, rfl⟩ := hp
      simp at hx
      obtain ⟨c', hc', rfl⟩ := hx
      rw [hc] at hc'; cases hc'
      exact ⟨z, rfl⟩
  | .tup l, r, e =>
    cases e
    obtain ⟨a, its, rfl, no, ht, rl⟩ := r
    have ht' : s.heap.IsTuple a its := ht
    have hlt : a < s.heap.objs.size := by obtain ⟨_, q, _⟩ := ht'; exact Heap.lt_size q
    have ht2 : (s.heap.push { cls := .type "tuple_iterator", data := .fields #[.ref a, .int 0 0] }).IsTuple a its := by obtain ⟨o, q, z⟩ := ht'; exact ⟨o, Heap.get?_push_of_some _ q, z⟩
    refine wpAny_pyIter_tuple ht' (h _ _ _ _ _ (KeepsH.push _ _) (Nat.le_refl _) (it_mk (Walks.tuple (prog := prog) (w := w) hh s.heap.objs.size a (Nat.ne_of_lt hlt) its) rl.size.symm ⟨⟨_, Heap.get?_push_size _ rfl, rfl, rfl⟩, ht2⟩ (fun b hb => ?_) (fun i h' st => ?_) ?_))
    · rcases List.mem_cons.mp hb with rfl | hb
      · exact .inl rfl
      · rw [List.mem_singleton.mp hb]
        obtain ⟨o, q, _, n, hd⟩ := ht2
        exact .inr ⟨o, its, n, q, hd, no⟩
    · obtain ⟨⟨o, ho, hc, hd⟩, _⟩ := st
      exact ⟨o, _, _, ho, hd, hc, by decide⟩
    · intro i u x O' h' hp hx S
      obtain ⟨x', hx', r'⟩ := rl.get' (i := i) (v := u) (by simpa using hp)
      rw [hx] at hx'; cases hx'
      exact Rep.stab S _ _ (r'.keeps (KeepsH.push _ _))
  | .lst l, r, e =>
    cases e
    obtain ⟨a, its, rfl, no, ht, rl⟩ := r
    have hlt : a < s.heap.objs.size := by obtain ⟨_, q, _⟩ := ht; exact Heap.lt_size q
    have ht2 : (s.heap.push { cls := .type "list_iterator", data := .fields #[.ref a, .int 0 0] }).IsList a its := ht.push _
    refine wpAny_pyIter_list ht (h _ _ _ _ _ (KeepsH.push _ _) (Nat.le_refl _) (it_mk (Walks.list (prog := prog) (w := w) hh s.heap.objs.size a (Nat.ne_of_lt hlt) its) rl.size.symm ⟨⟨_, Heap.get?_push_size _ rfl, rfl, rfl⟩, ht2⟩ (fun b hb => ?_) (fun i h' st => ?_) ?_))
    · rcases List.mem_cons.mp hb with rfl | hb
      · exact .inl rfl
      · rw [List.mem_singleton.mp hb]
        obtain ⟨o, q, _, n, hd⟩ := ht2
        exact .inr ⟨o, its, n, q, hd, no⟩
    · obtain ⟨⟨o, ho, hc, hd⟩, _⟩ := st
      exact ⟨o, _, _, ho, hd, hc, by decide⟩
    · intro i u x O' h' hp hx S
      obtain ⟨x', hx', r'⟩ := rl.get' (i := i) (v := u) (by simpa using hp)
      rw [hx] at hx'; cases hx'
      exact Rep.stab S _ _ (r'.keeps (KeepsH.push _ _))
  | .rng a b, r, e =>
    obtain ⟨r, t, u, z, rfl, no, hr⟩ := r
    by_cases hb : a.natAbs ≤ 1000 ∧ b.natAbs ≤ 1000
    · have e' : some ((List.range (b - a).toNat).map fun (i : Nat) => V.int (a + (i : Int))) = some vs := by
        have : itemsV (.rng a b) = some ((List.range (b - a).toNat).map fun (i : Nat) => V.int (a + (i : Int))) := by simp [itemsV, hb]
        rw [← this]; exact e
      cases e'
      have hsz : Builtin.Range.rangeSize a b 1 = (((b - a).toNat : Nat) : Int) := by
        unfold Builtin.Range.rangeSize
        simp only [show (1 : Int) > 0 by decide, if_true, Int.ediv_one]
        split <;> omega
      refine wpAny_pyIter_range hr (small_one (by omega) (by omega) (by omega) (by omega)) (h _ _ _ _ _ (KeepsH.push _ _) (Nat.le_refl _) (it_mk (LCg.range_walks (prog := prog) (w := w) (I := s.heap.objs.size) hh a (b - a).toNat) (by simp) ?_ (fun b hb => .inl (by simpa using hb)) (fun i h' st => ?_) ?_))
      · show IsRangeIter _ _ _ _ _
        rw [hsz]
        simpa using Heap.get?_push_size _ rfl
      · have st' : h'.get? _ = some _ := st
        exact ⟨_, _, _, st', rfl, rfl, by decide⟩
      · intro i u x O' h' hp hx _
        obtain ⟨z, rfl⟩ := hp
        simp at hx
        obtain ⟨k, hk, rfl⟩ := hx
        obtain ⟨_, ek⟩ := List.getElem?_eq_some_iff.mp hk
        simp at ek
        subst ek
        exact ⟨z, rfl⟩
    · have : itemsV (.rng a b) = none := by simp only [itemsV, hb, if_false]
      rw [this] at e; cases e
end
end Mine
namespace Mine
open PySem PySem.Calls PyProof.Rows

/-! frames -/
structure FWf (env : Env) (nm : List Str) (g : Heap) : Prop where
  kind : env.scope.kind = .function
  glob : env.globals = mainGlobals
  blt : env.builtins = builtinsNs
  kinds : ∀ i, i < nm.length → env.kindOf (nmAt nm i) = some .local ∨ (env.kindOf (nmAt nm i) = some .cell ∧ ∃ c, env.cells.lookup (nmAt nm i) = some c)
  inj : ∀ i j, i < nm.length → j < nm.length → nmAt nm i = nmAt nm j → i = j
  dbg : ∀ i, i < nm.length → (nmAt nm i == ("__debug__" : Str)) = false
  apart : ∀ i j c, i < nm.length → j < nm.length → env.kindOf (nmAt nm i) = some .cell → env.kindOf (nmAt nm j) = some .cell → env.cells.lookup (nmAt nm i) = some c → env.cells.lookup (nmAt nm j) = some c → i = j
  newL : g.get? env.locals = none

abbrev known (σ : Sg) (i : Nat) (v : V) : Prop := (σ[i]?).join = some v

structure FInv (env : Env) (nm : List Str) (g : Heap) (O : Gh) (σ : Sg) (h : Heap) (tk : Nat) : Prop where
  keep : KeepsH g h
  len : σ.length ≤ nm.length
  ok : Ok O h tk
  ns : ∃ m, h.Ns env.locals m ∧ ∀ i v, known σ i v → env.kindOf (nmAt nm i) = some .local → ∃ val, m (nmAt nm i) = some val ∧ Rep O h v val
  cell : ∀ i c, i < nm.length → env.kindOf (nmAt nm i) = some .cell → env.cells.lookup (nmAt nm i) = some c → ∃ cv, h.IsCell c cv ∧ ∀ v, known σ i v → ∃ val, cv = some val ∧ Rep O h v val

theorem known.lt {σ : Sg} {i : Nat} {v : V} (k : known σ i v) : i < σ.length := by
  unfold known at k
  cases h : σ[i]? with
  | none => rw [h] at k; cases k
  | some x => exact (List.getElem?_eq_some_iff.mp h).1
theorem known_set {σ : Sg} {i j : Nat} {v x : V} (k : known (σ.set i (some v)) j x) : (j = i ∧ x = v) ∨ (j ≠ i ∧ known σ j x) := by
  unfold known at k ⊢
  by_cases h : j = i
  · subst h
    left
    rw [List.getElem?_set] at k
    simp only [if_true] at k
    split at k
    · simp at k; exact ⟨rfl, k.symm⟩
    · cases k
  · right
    rw [List.getElem?_set_ne (fun e => h e.symm)] at k
    exact ⟨h, k⟩
theorem known_setN {σ : Sg} {i j : Nat} {x : V} (k : known (σ.set i none) j x) : j ≠ i ∧ known σ j x := by
  unfold known at k ⊢
  by_cases h : j = i
  · subst h
    rw [List.getElem?_set] at k
    simp only [if_true] at k
    split at k <;> cases k
  · rw [List.getElem?_set_ne (fun e => h e.symm)] at k
    exact ⟨h, k⟩

theorem FInv.adv {env : Env} {nm : List Str} {g h h' : Heap} {O O' : Gh} {σ : Sg} {tk tk' : Nat} (F : FInv env nm g O σ h tk) (a : Adv O h O' h' tk') : FInv env nm g O' σ h' tk' where
  keep := F.keep.trans a.kp
  len := F.len
  ok := a.ok F.ok
  ns := let ⟨m, hn, hv⟩ := F.ns; ⟨m, hn.keeps a.kp, fun i v kn kd => let ⟨val, e, r⟩ := hv i v kn kd; ⟨val, e, Rep.stab a.stab _ _ r⟩⟩
  cell := fun i c hi kd hc => let ⟨cv, hcv, hv⟩ := F.cell i c hi kd hc; ⟨cv, hcv.keeps a.kp, fun v kn => let ⟨val, e, r⟩ := hv v kn; ⟨val, e, Rep.stab a.stab _ _ r⟩⟩
theorem FInv.keeps {env : Env} {nm : List Str} {g h h' : Heap} {O : Gh} {σ : Sg} {tk tk' : Nat} (F : FInv env nm g O σ h tk) (k : KeepsH h h') (le : tk ≤ tk') : FInv env nm g O σ h' tk' := F.adv (.le F.ok k le)

/-- fewer names are known -/
noncomputable def Less (σ τ : Sg) : Prop := σ.length ≤ τ.length ∧ ∀ i v, known σ i v → known τ i v
theorem FInv.less {env : Env} {nm : List Str} {g h : Heap} {O : Gh} {σ τ : Sg} {tk : Nat} (F : FInv env nm g O τ h tk) (l : Less σ τ) : FInv env nm g O σ h tk where
  keep := F.keep
  len := Nat.le_trans l.1 F.len
  ok := F.ok
  ns := let ⟨m, hn, hv⟩ := F.ns; ⟨m, hn, fun i v kn kd => hv i v (l.2 i v kn) kd⟩
  cell := fun i c hi kd hc => let ⟨cv, hcv, hv⟩ := F.cell i c hi kd hc; ⟨cv, hcv, fun v kn => hv v (l.2 i v kn)⟩

/-- a heap turned outside what the frame and its values rest on -/
theorem FInv.move {env : Env} {nm : List Str} {g h h' : Heap} {O O' : Gh} {σ : Sg} {tk tk' : Nat} (F : FInv env nm g O σ h tk) (k : KeepsH g h') (S : Stab O O' h h') (ok : Ok O' h' tk')
    (kL : ∀ o, h.get? env.locals = some o → h'.get? env.locals = some o)
    (kC : ∀ i c, i < nm.length → env.kindOf (nmAt nm i) = some .cell → env.cells.lookup (nmAt nm i) = some c → ∀ o, h.get? c = some o → h'.get? c = some o) : FInv env nm g O' σ h' tk' where
  keep := k
  len := F.len
  ok := ok
  ns := let ⟨m, hn, hv⟩ := F.ns; ⟨m, hn.at' kL, fun i v kn kd => let ⟨val, e, r⟩ := hv i v kn kd; ⟨val, e, Rep.stab S _ _ r⟩⟩
  cell := fun i c hi kd hc => let ⟨cv, ⟨o, ho, hd⟩, hv⟩ := F.cell i c hi kd hc; ⟨cv, ⟨o, kC i c hi kd hc o ho, hd⟩, fun v kn => let ⟨val, e, r⟩ := hv v kn; ⟨val, e, Rep.stab S _ _ r⟩⟩

/-- b is no tuple, no list, no range -/
noncomputable def Plainly (h : Heap) (b : Addr) : Prop := ∀ o, h.get? b = some o → (∃ es ep, o.data = .dict es ep) ∨ (∃ c, o.data = .cell c)
theorem stab_sameBut {O : Gh} {h h' : Heap} {a : Addr} (p : Plainly h a) (s : Heap.SameBut a h h') : Stab O O h h' := ⟨fun _ _ e => e, fun b o no e hd => by
  refine ⟨(s.2 b (fun q => ?_)).trans e, no⟩
  subst q
  rcases p o e with ⟨es, ep, z⟩ | ⟨c, z⟩ <;> rcases hd with ⟨its, n, y⟩ | ⟨vs, y, _⟩ <;> rw [z] at y <;> cases y⟩
theorem plainly_ns {h : Heap} {a : Addr} {m : Str → Option Value} (n : h.Ns a m) : Plainly h a := fun o e => by
  obtain ⟨o', es, ep, e', hd, _⟩ := n
  rw [e] at e'; cases e'
  exact .inl ⟨es, ep, hd⟩
theorem plainly_cell {h : Heap} {a : Addr} {v : Option Value} (n : h.IsCell a v) : Plainly h a := fun o e => by
  obtain ⟨o', e', hd⟩ := n
  rw [e] at e'; cases e'
  exact .inr ⟨_, hd⟩

section
variable {prog : Program} {w : World} {A : Around} {E : Value → Shared → Prop} {s : Shared} {O : Gh} {env : Env} {nm : List Str} {g : Heap} {σ : Sg}

theorem load_sound {i : Nat} {v : V} {Q : Value → Shared → Prop} (W : FWf env nm g) (F : FInv env nm g O σ s.heap s.toks) (k : known σ i v) (D : ∀ val, Rep O s.heap v val → Q val s) :
    wpAny (model prog w) A (loadName env (nmAt nm i)) Q E s := by
  have hi := Nat.lt_of_lt_of_le k.lt F.len
  rcases W.kinds i hi with kd | ⟨kd, c, hc⟩
  · obtain ⟨m, hn, hv⟩ := F.ns
    obtain ⟨val, e, r⟩ := hv i v k kd
    exact wpAny_loadName_local W.kind kd hn e (D val r)
  · obtain ⟨cv, hcv, hv⟩ := F.cell i c hi kd hc
    obtain ⟨val, rfl, r⟩ := hv v k
    exact wpAny_loadName_cell W.kind kd hc hcv (D val r)

theorem var_sound {i : Nat} {v : V} {pos : Pos} {Q : Value → Shared → Prop} (W : FWf env nm g) (F : FInv env nm g O σ s.heap s.toks) (k : known σ i v) (D : ∀ val, Rep O s.heap v val → Q val s) :
    wpAny (model prog w) A (eval (.Name (nmAt nm i) pos) env) Q E s :=
  wpAny_Name (load_sound W F k D) (W.dbg i (Nat.lt_of_lt_of_le k.lt F.len))

/-- names of the frame that it may give a value to -/
noncomputable def Storable (env : Env) (nm : List Str) (g : Heap) (i : Nat) : Prop :=
  i < nm.length ∧ (env.kindOf (nmAt nm i) = some .local ∨ (env.kindOf (nmAt nm i) = some .cell ∧ ∃ c, env.cells.lookup (nmAt nm i) = some c ∧ g.get? c = none))
/-- the objects that a frame turns -/
noncomputable def Turns (env : Env) (nm : List Str) (a : Addr) : Prop := a = env.locals ∨ ∃ j, j < nm.length ∧ env.kindOf (nmAt nm j) = some .cell ∧ env.cells.lookup (nmAt nm j) = some a

/-- what stands under a name of the frame -/
noncomputable def NameAt (env : Env) (nm : List Str) (h : Heap) (i : Nat) (v : Value) : Prop := ∃ m, h.Ns env.locals m ∧ m (nmAt nm i) = some v
noncomputable def KeepN (env : Env) (nm : List Str) (h h' : Heap) (P : Nat → Prop) : Prop := ∀ j v, j < nm.length → ¬ P j → env.kindOf (nmAt nm j) = some .local → NameAt env nm h j v → NameAt env nm h' j v
theorem NameAt.keeps {env : Env} {nm : List Str} {h h' : Heap} {i : Nat} {v : Value} (x : NameAt env nm h i v) (k : ∀ o, h.get? env.locals = some o → h'.get? env.locals = some o) : NameAt env nm h' i v := let ⟨m, a, b⟩ := x; ⟨m, a.at' k, b⟩
theorem KeepN.keeps {env : Env} {nm : List Str} {h h' : Heap} {P : Nat → Prop} (k : KeepsH h h') : KeepN env nm h h' P := fun _ _ _ _ _ x => x.keeps fun o e => k _ o e
theorem ns_uniq {h : Heap} {a : Addr} {m m₀ : Str → Option Value} (hn : h.Ns a m) (hn₀ : h.Ns a m₀) : ∀ x, m x = m₀ x := fun x => by
  obtain ⟨o, es, ep, ho, hd, _, hf⟩ := hn
  obtain ⟨o', es', ep', ho', hd', _, hf'⟩ := hn₀
  rw [ho] at ho'; cases ho'
  rw [hd] at hd'; cases hd'
  rw [← hf x, ← hf' x]

theorem store_any {i : Nat} {val : Value} {Q : Unit → Shared → Prop} (W : FWf env nm g) (F : FInv env nm g O σ s.heap s.toks) (st : Storable env nm g i)
    (D : ∀ a h' tk', s.toks ≤ tk' → Turns env nm a → Plainly s.heap a → Heap.SameBut a s.heap h' → (∃ o', h'.get? a = some o') → KeepsH g h' →
      (∃ m m', s.heap.Ns env.locals m ∧ h'.Ns env.locals m' ∧ (∀ j, j < nm.length → j ≠ i → env.kindOf (nmAt nm j) = some .local → m' (nmAt nm j) = m (nmAt nm j)) ∧ (env.kindOf (nmAt nm i) = some .local → m' (nmAt nm i) = some val)) →
      (∀ j c, j < nm.length → env.kindOf (nmAt nm j) = some .cell → env.cells.lookup (nmAt nm j) = some c → (j ≠ i → ∀ cv, s.heap.IsCell c cv → h'.IsCell c cv) ∧ (j = i → h'.IsCell c (some val))) →
      Q () { s with heap := h', toks := tk' }) : wpAny (model prog w) A (storeName env (nmAt nm i) val) Q E s := by
  obtain ⟨m, hn, hv⟩ := F.ns
  obtain ⟨hi, kd | ⟨kd, c, hc, gc⟩⟩ := st
  · refine wpAny_with_toks (Nat.le_refl _) (wpAny_storeName_local kd hn (fun h' hn' hs le => ?_) (by rw [W.kind]; rfl))
    refine D env.locals h' _ le (.inl rfl) (plainly_ns hn) hs (let ⟨o, _, _, e, _⟩ := hn'; ⟨o, e⟩) (fun b o e => (hs.2 b (fun q => ?_)).trans (F.keep b o e)) ⟨m, _, hn, hn', fun j hj hji _ => ?_, fun _ => ?_⟩ fun j c hj kj hc => ⟨fun _ cv hcv => ?_, fun q => ?_⟩
    · rw [q, W.newL] at e; cases e
    · rw [if_neg (fun e => hji (W.inj j i hj hi e))]
    · rw [if_pos rfl]
    · refine hcv.sameBut hs (fun q => ?_)
      obtain ⟨o, ho, hd⟩ := hcv
      obtain ⟨o', es, ep, ho', hd', _⟩ := hn
      rw [q, ho'] at ho; cases ho
      rw [hd'] at hd; cases hd
    · subst q; rw [kd] at kj; cases kj
  · obtain ⟨cv, hcv, _⟩ := F.cell i c hi kd hc
    have hLc : env.locals ≠ c := fun q => by
      obtain ⟨o, ho, hd⟩ := hcv
      obtain ⟨o', es, ep, ho', hd', _⟩ := hn
      rw [← q, ho'] at ho; cases ho
      rw [hd'] at hd; cases hd
    refine wpAny_storeName_cell W.kind kd hc hcv fun h' hv' hs => ?_
    refine D c h' s.toks (Nat.le_refl _) (.inr ⟨i, hi, kd, hc⟩) (plainly_cell hcv) hs (let ⟨o, e, _⟩ := hv'; ⟨o, e⟩) (fun b o e => (hs.2 b (fun q => ?_)).trans (F.keep b o e)) ⟨m, m, hn, hn.sameBut hs hLc, fun j hj hji _ => rfl, fun q => ?_⟩ fun j c' hj kj hc' => ⟨fun hji cv' hcv' => ?_, fun q => ?_⟩
    · rw [q, gc] at e; cases e
    · rw [kd] at q; cases q
    · exact hcv'.sameBut hs (fun q => hji (W.apart j i c hj hi kj kd (q ▸ hc') hc))
    · subst q; rw [hc] at hc'; cases hc'; exact hv'

theorem store_sound {i : Nat} {v : V} {val : Value} {Q : Unit → Shared → Prop} (W : FWf env nm g) (F : FInv env nm g O σ s.heap s.toks) (st : Storable env nm g i) (hil : i < σ.length) (r : Rep O s.heap v val)
    (D : ∀ a h' tk', s.toks ≤ tk' → Turns env nm a → Plainly s.heap a → Heap.SameBut a s.heap h' → KeepN env nm s.heap h' (· = i) → FInv env nm g O (σ.set i (some v)) h' tk' → Q () { s with heap := h', toks := tk' }) : wpAny (model prog w) A (storeName env (nmAt nm i) val) Q E s := by
  refine store_any W F st fun a h' tk' le ta pa hs al kp hm hc => D a h' tk' le ta pa hs (fun j v hj hji kd ⟨m₁, hn₁, hv₁⟩ => ?_) ?_
  · obtain ⟨m, m', hn, hn', h1, _⟩ := hm
    exact ⟨m', hn', by rw [h1 j hj hji kd, ns_uniq hn hn₁]; exact hv₁⟩
  have S : Stab O O s.heap h' := stab_sameBut pa hs
  refine ⟨kp, by rw [List.length_set]; exact F.len, ⟨fun b hb => ?_, F.ok.tb.le le⟩, ?_, fun j c hj kj hcl => ?_⟩
  · obtain ⟨o, e⟩ := F.ok.live b hb
    by_cases q : b = a
    · subst q; exact al
    · exact ⟨o, (hs.2 b q).trans e⟩
  · obtain ⟨m₀, hn₀, hv₀⟩ := F.ns
    obtain ⟨m, m', hn, hn', h1, h2⟩ := hm
    have em := ns_uniq hn hn₀
    refine ⟨m', hn', fun j x kn kj => ?_⟩
    rcases known_set kn with ⟨rfl, rfl⟩ | ⟨hji, kn'⟩
    · exact ⟨val, h2 kj, Rep.stab S _ _ r⟩
    · obtain ⟨val', e, r'⟩ := hv₀ j x kn' kj
      exact ⟨val', by rw [h1 j (Nat.lt_of_lt_of_le kn'.lt F.len) hji kj, em]; exact e, Rep.stab S _ _ r'⟩
  · obtain ⟨c1, c2⟩ := hc j c hj kj hcl
    by_cases q : j = i
    · subst q
      refine ⟨some val, c2 rfl, fun x kn => ⟨val, rfl, ?_⟩⟩
      rcases known_set kn with ⟨_, rfl⟩ | ⟨hji, _⟩
      · exact Rep.stab S _ _ r
      · exact absurd rfl hji
    · obtain ⟨cv, hcv, hv⟩ := F.cell j c hj kj hcl
      refine ⟨cv, c1 q cv hcv, fun x kn => ?_⟩
      rcases known_set kn with ⟨e, _⟩ | ⟨_, kn'⟩
      · exact absurd e q
      · obtain ⟨val', e, r'⟩ := hv x kn'
        exact ⟨val', e, Rep.stab S _ _ r'⟩

/-! targets -/
/-- no tuple, list, range, iterator is turned -/
noncomputable def Keeps2 (h h' : Heap) : Prop := ∀ b o, h.get? b = some o → ((∃ fs, o.data = .fields fs) ∨ ∃ its k, o.data = .seq its k) → h'.get? b = some o
theorem Keeps2.refl (h : Heap) : Keeps2 h h := fun _ _ e _ => e
theorem Keeps2.trans {h₁ h₂ h₃ : Heap} (a : Keeps2 h₁ h₂) (b : Keeps2 h₂ h₃) : Keeps2 h₁ h₃ := fun x o e d => b x o (a x o e d) d
theorem Keeps2.keeps {h₁ h₂ : Heap} (k : KeepsH h₁ h₂) : Keeps2 h₁ h₂ := fun x o e _ => k x o e
theorem Keeps2.sameBut {h h' : Heap} {a : Addr} (p : Plainly h a) (s : Heap.SameBut a h h') : Keeps2 h h' := fun b o e d => (s.2 b (fun q => by
  subst q
  rcases p o e with ⟨es, ep, z⟩ | ⟨c, z⟩ <;> rcases d with ⟨fs, y⟩ | ⟨its, k, y⟩ <;> rw [z] at y <;> cases y)).trans e
theorem Keeps2.stab {O : Gh} {h h' : Heap} (k : Keeps2 h h') : Stab O O h h' := ⟨fun _ _ e => e, fun b o no e hd => ⟨k b o e (by rcases hd with ⟨its, n, z⟩ | ⟨fs, z, _⟩; exact .inr ⟨_, _, z⟩; exact .inl ⟨_, z⟩), no⟩⟩
theorem Stab.trans {O O' O'' : Gh} {h₁ h₂ h₃ : Heap} (a : Stab O O' h₁ h₂) (b : Stab O' O'' h₂ h₃) : Stab O O'' h₁ h₃ := ⟨fun t x e => b.T t x (a.T t x e), fun x o n e hd => let ⟨e', n'⟩ := a.at' x o n e hd; b.at' x o n' e' hd⟩
theorem Stab.refl (O : Gh) (h : Heap) : Stab O O h h := ⟨fun _ _ e => e, fun _ _ n e _ => ⟨e, n⟩⟩

theorem assignEach_names (nm : List Str) (env : Env) : ∀ is : List (Nat × Pos), assignEach (is.map fun x => Expr.Name (nmAt nm x.1) x.2) env = is.map fun x => (false, assign (.Name (nmAt nm x.1) x.2) env)
  | [] => rfl
  | x :: is => by
    rw [List.map_cons, List.map_cons, ← assignEach_names nm env is]
    rfl

theorem setL_length : ∀ (is : List (Nat × Pos)) (σ : Sg) (vs : List V), (setL σ is vs).length = σ.length
  | [], _, _ => by simp [setL]
  | (i, _) :: is, _, [] => by simp [setL]
  | (i, _) :: is, σ, v :: vs => by simp only [setL]; rw [setL_length is]; simp

theorem stores_sound (W : FWf env nm g) : ∀ (is : List (Nat × Pos)) (σ : Sg) (vs : List V) (vals : List Value) (s : Shared) (Q : Unit → Shared → Prop), FInv env nm g O σ s.heap s.toks → (∀ x ∈ is, Storable env nm g x.1 ∧ x.1 < σ.length) → is.length = vs.length →
    RepL O s.heap vs vals → (∀ h' tk', Keeps2 s.heap h' → KeepN env nm s.heap h' (· ∈ is.map (·.1)) → FInv env nm g O (setL σ is vs) h' tk' → Q () { s with heap := h', toks := tk' }) →
    wpAny (model prog w) A (assignInOrder ((is.map fun x => (false, assign (.Name (nmAt nm x.1) x.2) env)).map (·.2)) vals) Q E s
  | [], σ, vs, vals, s, Q, F, _, hl, r, D => by
    cases vs with
    | cons _ _ => simp at hl
    | nil =>
      exact assignInOrder_nil (D s.heap s.toks (Keeps2.refl _) (.keeps (.refl _)) (by simpa [setL] using F))
  | (i, p) :: is, σ, vs, vals, s, Q, F, hs, hl, r, D => by
    cases vs with
    | nil => simp at hl
    | cons v vs =>
      obtain ⟨val, rest, rfl, rv, rr⟩ := r
      have hi := hs (i, p) List.mem_cons_self
      refine assignInOrder_cons (wpAny_assign_Name (store_sound W F hi.1 hi.2 rv fun a h' tk' le ta pa hsb kn F' => ?_))
      have S := Keeps2.sameBut pa hsb
      refine stores_sound W is _ vs rest _ Q F' (fun x hx => ⟨(hs x (List.mem_cons_of_mem _ hx)).1, by rw [List.length_set]; exact (hs x (List.mem_cons_of_mem _ hx)).2⟩) (by simpa using hl) (RepL.stab S.stab _ _ rr) fun h'' tk'' S2 kn2 F2 => ?_
      refine D h'' tk'' (S.trans S2) (fun j v hj hm kd x => kn2 j v hj (fun q => hm (List.mem_cons_of_mem _ q)) kd (kn j v hj (fun q => hm (by rw [q]; exact List.mem_cons_self)) kd x)) F2

theorem assignT_sound {t : Tg} {v : V} {σ' : Sg} {val : Value} {Q : Unit → Shared → Prop} (hh : A.handled = none) (W : FWf env nm g) (F : FInv env nm g O σ s.heap s.toks) (e : setT σ t v = some σ') (hs : ∀ i ∈ t.idx, Storable env nm g i ∧ i < σ.length) (r : Rep O s.heap v val)
    (D : ∀ h' tk', Keeps2 s.heap h' → KeepN env nm s.heap h' (· ∈ t.idx) → FInv env nm g O σ' h' tk' → Q () { s with heap := h', toks := tk' }) : wpAny (model prog w) A (assign (trT nm t) env val) Q E s := by
  cases t with
  | name i p =>
    have hi := hs i (by simp [Tg.idx])
    simp only [setT] at e
    cases e
    exact wpAny_assign_Name (store_sound W F hi.1 hi.2 r fun a h' tk' le ta pa hsb kn F' => D h' tk' (Keeps2.sameBut pa hsb) (fun j v hj hm => kn j v hj fun q => hm (by rw [q]; exact List.mem_singleton.mpr rfl)) F')
  | tup is k p =>
    cases v <;> first | (simp only [setT] at e; cases e; done) | skip
    rename_i vs
    simp only [setT] at e
    split at e
    · rename_i hl
      cases e
      obtain ⟨a, its, rfl, no, ht, rl⟩ := r
      have hn : (assignEach (is.map fun x => Expr.Name (nmAt nm x.1) x.2) env).length = its.size := by rw [assignEach_names, List.length_map, hl, rl.size]
      have hst : (assignEach (is.map fun x => Expr.Name (nmAt nm x.1) x.2) env).findIdx? (·.1) = none := by rw [assignEach_names]; simp [List.findIdx?_eq_none_iff]
      refine assign_Tuple_tuple hh ht hn hst fun h' he => ?_
      have k : KeepsH s.heap h' := fun b o e => he b o (Nat.ne_of_lt (Heap.lt_size e)) e
      rw [assignEach_names]
      refine stores_sound W is σ vs its.toList { s with heap := h' } Q (F.keeps k (Nat.le_refl _)) (fun x hx => hs x.1 (List.mem_map.mpr ⟨x, hx, rfl⟩)) hl (rl.keeps k) fun h'' tk'' S2 kn2 F2 => ?_
      exact D h'' tk'' ((Keeps2.keeps k).trans S2) (fun j v hj hm kd x => kn2 j v hj hm kd (KeepN.keeps (P := fun _ => False) k j v hj (fun q => q) kd x)) F2
    · cases e

theorem lot_sound {t : Tg} {I : Addr} {val : Value} {Q : Unit → Shared → Prop} (hi : ∃ o fs T, s.heap.get? I = some o ∧ o.data = .fields fs ∧ o.cls = .type T ∧ quietIter T = true) (D : Q () s) :
    wpAny (model prog w) A (letOwnedTupleGo (trT nm t) (.ref I) val) Q E s := by
  cases t with
  | name i p => exact wpAny_of_eq rfl D
  | tup is k p =>
    cases val <;> first | exact wpAny_of_eq rfl D | skip
    rename_i a
    obtain ⟨o, fs, T, ho, hd, hc, hq⟩ := hi
    show wpAny _ _ (letOwnedTupleGo (.Tuple _ k p) (.ref I) (.ref a)) _ _ _
    unfold letOwnedTupleGo
    refine wpAny_bind (wpAny_load ho ?_)
    rw [hc, hd]
    dsimp only
    unfold quietIter at hq
    rw [if_neg (by intro q; rw [Bool.and_eq_true] at q; rw [q.1] at hq; simp at hq)]
    exact wpAny_pure D
end
end Mine
namespace Mine
open PySem PySem.Calls PyProof.Rows
section
variable {prog : Program} {w : World} {A : Around} {E : Value → Shared → Prop} {s : Shared} {O : Gh}

theorem sub_plain (nm : List Str) (o i : Value) : ∀ r : Ex, subscripted (tr nm r) false o i = operate [o, i] (getItem o i) := by
  intro r
  cases r <;> rfl

theorem idx_sound {nm : List Str} {value : PySem.Expr} {r : Ex} {a b c : V} {va vb : Value} {Q : Value → Shared → Prop} (e : idxV a b = some c) (L : Ok O s.heap s.toks) (ra : Rep O s.heap a va) (rb : Rep O s.heap b vb)
    (D : Done O s c Q) : wpAny (model prog w) A (subscriptTail value (tr nm r) va vb) Q E s := by
  unfold idxV at e
  split at e
  · rename_i l i
    obtain ⟨x, its, rfl, _, hx, rx⟩ := ra; obtain ⟨u, rfl⟩ := rb
    split at e
    · rename_i hm
      obtain ⟨v, hv, rv⟩ := rx.get e
      exact tail_any hx.typeIs slot_list_getitem.lookup (wpAny_getItem_list hx hm.1 (by omega) (by simpa using hv) (D.imm0 L rv)) (sub_plain nm _ _ r)
    · cases e
  · rename_i l i
    obtain ⟨x, its, rfl, _, hx, rx⟩ := ra; obtain ⟨u, rfl⟩ := rb
    split at e
    · rename_i hm
      obtain ⟨v, hv, rv⟩ := rx.get e
      have hlt : i.toNat < its.size := by
        have := (List.getElem?_eq_some_iff.mp hv).1
        simpa using this
      exact tail_any hx.typeIs slot_tuple_getitem.lookup (getItem_tuple hx (by omega) (by omega) (seqIndex_is hm.1 (by omega)) (by simpa using hv) (D.imm0 L rv)) (sub_plain nm _ _ r)
    · cases e
  · rename_i b i
    obtain ⟨x, rfl⟩ := ra; obtain ⟨u, rfl⟩ := rb
    split at e
    · rename_i hm
      cases e
      refine tail_any (PySem.W.typeIs_bytes _ _ _) PySem.W.FB.slot_bytes_getitem.lookup ?_ (sub_plain nm _ _ r)
      have := PySem.W.getItem_bytes (prog := prog) (w := w) (A := A) (E := E) (s := s) (t := x) (u := u) (l := b.toList) (i := i) (Q := Q) (by simp; omega) hm.1 (by simp; omega) (D.imm L ⟨_, rfl⟩)
      simpa using this
    · cases e
  · cases e

/-! slices -/
noncomputable def partV : Option Int → Value → Prop
  | none, v => v = .none
  | some i, v => ∃ t, v = .int i t
theorem part_is {k : Option Int} {v : Value} (h : partV k v) : IsPart v k := by
  cases k with
  | none => cases h; constructor
  | some i => obtain ⟨t, rfl⟩ := h; constructor

theorem slice_sound {value : PySem.Expr} {lower upper : Option PySem.Expr} {ps : Pos} {a c : V} {lo hi : Option Int} {va vl vu : Value} {Q : Value → Shared → Prop} (e : sliceV a lo hi = some c) (L : Ok O s.heap s.toks)
    (ra : Rep O s.heap a va) (hl : partV lo vl) (hu : partV hi vu) (D : Done O s c Q) :
    wpAny (model prog w) A (subscriptTail value (.Slice lower upper none ps) va (.ref s.heap.objs.size)) Q E { s with heap := s.heap.push { cls := .type "slice", data := .fields #[vl, vu, .none] } } := by
  have pl := part_is hl
  have pu := part_is hu
  have k1 : KeepsH s.heap (s.heap.push { cls := .type "slice", data := .fields #[vl, vu, .none] }) := KeepsH.push _ _
  have A1 : Adv O s.heap O (s.heap.push { cls := .type "slice", data := .fields #[vl, vu, .none] }) s.toks := .le L k1 (Nat.le_refl _)
  have L1 := A1.ok L
  have D1 := D.after A1
  unfold sliceV at e
  split at e
  · rename_i l b
    obtain ⟨x, its, rfl, no, hx, rx⟩ := ra
    split at e
    · rename_i hm
      cases e
      have hx1 : (s.heap.push { cls := .type "slice", data := .fields #[vl, vu, .none] }).IsList x its := hx.push _
      refine tail_any hx1.typeIs slot_list_getitem.lookup (wpAny_getItem_list_slice hx1 (Heap.IsSliceOf.new _ _ _ _) pl pu .none (fun q => nomatch q) (D1.push L1 ?_ (Nat.le_refl _)) (by rw [← rx.size, sizeLine_eq]; omega)) rfl
      have e1 : slicePick its none (some b) none = (its.toList.take b.toNat).toArray := by
        have := slicePick_upto' its b.toNat
        rwa [show ((b.toNat : Nat) : Int) = b by omega] at this
      rw [e1]
      exact rep_newList L1.live ((rx.keeps k1).take _)
    · cases e
  · rename_i l b
    obtain ⟨x, its, rfl, no, hx, rx⟩ := ra
    split at e
    · rename_i hm
      cases e
      have hx1 : (s.heap.push { cls := .type "slice", data := .fields #[vl, vu, .none] }).IsList x its := hx.push _
      refine tail_any hx1.typeIs slot_list_getitem.lookup (wpAny_getItem_list_slice hx1 (Heap.IsSliceOf.new _ _ _ _) pl pu .none (fun q => nomatch q) (D1.push L1 ?_ (Nat.le_refl _)) (by rw [← rx.size, sizeLine_eq]; omega)) rfl
      have e1 : slicePick its (some b) none none = (its.toList.drop b.toNat).toArray := by
        have := slicePick_from' its b.toNat
        rwa [show ((b.toNat : Nat) : Int) = b by omega] at this
      rw [e1]
      exact rep_newList L1.live ((rx.keeps k1).drop _)
    · cases e
  · rename_i b lo hi
    obtain ⟨t, rfl⟩ := ra
    split at e
    · rename_i hm
      cases e
      refine tail_any (PySem.W.typeIs_bytes _ _ _) PySem.W.FB.slot_bytes_getitem.lookup ?_ rfl
      refine wpAny_with_toks (Nat.le_refl _) (getItem_meets (PySem.W.typeIs_bytes _ _ _) (by decide) PySem.W.FB.slot_bytes_getitem PySem.W.FB.entry_bytes_getitem (PySem.W.FB.args_bytes_getitem_2 _ _) (PySem.W.KBc.meets_slice2 b t _ pl pu)
        ⟨Heap.IsSliceOf.new _ _ _ _, Nat.le_trans (PySem.W.KBc.size_picked_le b _ _) (by rw [sizeLine_eq]; omega), fun t' k le => D1.imm L1 ⟨t', ?_⟩ le⟩)
      rw [PySem.W.KBc.picked_eq]
      show Value.bytes _ _ = Value.bytes _ _
      rw [show (some lo).elim 0 (clipAt b.size) = lo.toNat from clipAt_in hm.1 (by omega), show (some hi).elim b.size (clipAt b.size) = hi.toNat from clipAt_in (by omega) hm.2.2.1, show hi.toNat - lo.toNat = (hi - lo).toNat by omega]
    · cases e
  · cases e
end
end Mine
namespace Mine
open PySem PySem.Calls PyProof.Rows PySem.W
section
variable {prog : Program} {w : World} {A : Around} {E : Value → Shared → Prop} {s : Shared} {O : Gh}

/-! sorted, on tuples whose first is a float -/
theorem kasRun_wp {α : Type} {cmp : Nat → Nat → Option Bool} {ask : Nat → Nat → (Bool → Shared → Prop) → Shared → Prop} {G : α → Shared → Prop}
    (hask : ∀ i j b C, cmp i j = some b → C b s → ask i j C s) : ∀ (t : KasT α) (a : α), KasRun cmp t = some a → G a s → t.kasWp ask G s
  | .ret a, b, e, h => by
    have e' : some a = some b := e
    cases e'; exact h
  | .ask i j k, b, e, h => by
    have e' : ((cmp i j).bind fun c => KasRun cmp (k c)) = some b := e
    cases hc : cmp i j with
    | none => rw [hc] at e'; cases e'
    | some c =>
      rw [hc] at e'
      exact hask i j c _ hc (kasRun_wp hask (k c) b e' h)

theorem list_sort_ff {a : Addr} {vs : List Value} {n : Nat} {P : PySem.Fin → Shared → Prop} {p0 : Array Nat} {h3 : Heap} (ho : s.heap.get? a = some (seqObj "list" vs.toArray n)) (h2 : 2 ≤ vs.length) (h64 : vs.length < 64)
    (e3 : h3 = ((s.heap.update a (Obj.mapSeq fun _ => (#[] : Array Value))).push (seqObj "tuple" vs.toArray 0)).push (seqObj "list" #[] 0))
    (ask : wpAny (model prog w) A (keyKind' vs.toArray) (fun κ s' => (kas_sort vs.length).kasWp (kas_ask prog w A κ vs) (fun p s'' => s'' = { s with heap := h3 } ∧ p = p0) s') (fun _ _ => False) { s with heap := h3 })
    (h : ∀ k, (h3.update a (Obj.mapSeq fun _ => List.toArray (p0.toList.map fun i => vs.getD i Value.none))).get? a = some (seqObj "list" (List.toArray (p0.toList.map fun i => vs.getD i Value.none)) k) → P (.done (.ret .none)) { s with heap := h3.update a (Obj.mapSeq fun _ => List.toArray (p0.toList.map fun i => vs.getD i Value.none)) }) :
    wpAny (model prog w) A (Builtin.«list.sort» ⟨[.ref a], []⟩) P E s := by
  obtain ⟨e1, ho1⟩ : ∃ e1, (s.heap.update a (Obj.mapSeq fun _ => (#[] : Array Value))).get? a = some (seqObj "list" #[] e1) := ⟨_, get?_update_seq ho fun _ => #[]⟩
  have ho3 : h3.get? a = some (seqObj "list" #[] e1) := by
    rw [e3]; exact Heap.get?_push_of_some _ (Heap.get?_push_of_some _ ho1)
  rw [list_sort_plain]
  refine wpAny_bind (listItems_at ho rfl ?_)
  refine wpAny_bind (listUpdate_at ho rfl ?_ (by rw [List.size_toArray, sizeLine_eq]; omega) (Nat.zero_le _))
  refine wpAny_bind (seqEpoch_at ho1 rfl ?_)
  refine wpAny_bind (wpAny_newTuple ?_ (by show vs.length ≤ _; rw [sizeLine_eq]; omega))
  refine wpAny_bind (wpAny_newList ?_ (Nat.zero_le _))
  refine wpAny_holding ?_
  show wpAny (model prog w) A _ P E { s with heap := ((s.heap.update a (Obj.mapSeq fun _ => (#[] : Array Value))).push (seqObj "tuple" vs.toArray 0)).push (seqObj "list" #[] 0) }
  rw [← e3]
  dsimp only
  have hn2 : ¬ vs.toArray.size < 2 := by rw [List.size_toArray]; omega
  rw [if_neg hn2, if_neg hn2]
  refine wpAny_bind (wpAny_mono ask (fun κ s0 hk => ?_) fun _ _ x => x.elim)
  refine wpAny_bind (wpAny_mono (kat_run (Q := fun st' s' => ∃ p : Array Nat, p.size = vs.length ∧ arrOf st' = p.map (kas_item (vs.toArray.zip vs.toArray)) ∧ failedOf st' = none ∧ s' = { s with heap := h3 } ∧ p = p0)
    rfl h2 h64 (fun p' st' s' a1 a2 a3 a4 => ⟨p', a1, a2, a3, a4⟩) hk) ?_ fun _ _ e => e)
  rintro ⟨⟨⟩, st'⟩ s' ⟨p, hp, har, hf, rfl, rfl⟩
  dsimp only
  have hout := kat_snds rfl har
  have hsz : (List.toArray (p.toList.map fun i => vs.getD i Value.none)).size = vs.length := by rw [List.size_toArray, List.length_map, Array.length_toList, hp]
  rw [hout]
  have hc2 := get?_update_seq ho3 fun _ => List.toArray (p.toList.map fun i => vs.getD i Value.none)
  refine wpAny_bind (seqEpoch_at ho3 rfl ?_)
  refine wpAny_bind (listUpdate_at ho3 rfl ?_ (Nat.zero_le _) (Nat.le_trans (Nat.le_of_eq hsz) (by rw [sizeLine_eq]; omega)))
  rw [hf]
  simp only [bne_self_eq_false, Bool.false_eq_true, if_false]
  exact wpAny_pure (h _ hc2)

theorem sorted_ff {l : Addr} {vs : List Value} {p0 : Array Nat} {Q : Value → Shared → Prop} (hl : s.heap.IsList l vs.toArray) (h2 : 2 ≤ vs.length) (h64 : vs.length < 64)
    (ask : ∀ h3, KeepsH s.heap h3 → wpAny (model prog w) A.in1.in1 (keyKind' vs.toArray) (fun κ s' => (kas_sort vs.length).kasWp (kas_ask prog w A.in1.in1 κ vs) (fun p s'' => s'' = { s with heap := h3 } ∧ p = p0) s') (fun _ _ => False) { s with heap := h3 })
    (h : ∀ D h', s.heap.objs.size ≤ D → KeepsH s.heap h' → h'.IsList D (List.toArray (p0.toList.map fun i => vs.getD i Value.none)) → Q (.ref D) { s with heap := h' }) :
    wpAny (model prog w) A (call (.builtin "sorted") [.ref l]) Q E s := by
  refine Calls.call_function_entry kind_sorted plain_sorted entry_sorted (args_sorted1 _) ?_
  unfold Builtin.«sorted»
  refine wpAny_bind (m := checkCount "sorted" 1 1 _) (wpAny_pure ?_)
  refine wpAny_bind (collect_list hl ?_ (by rw [sizeLine_eq]; omega))
  refine wpAny_bind (wpAny_newList ?_ (by rw [sizeLine_eq]; omega))
  have hsz : ((s.heap.push (seqObj "list" #[] 0)).update s.heap.objs.size (Obj.mapSeq (· ++ vs.toArray))).objs.size = s.heap.objs.size + 1 := by
    rw [Heap.size_update, size_push']
  have hoL : (((s.heap.push (seqObj "list" #[] 0)).update s.heap.objs.size (Obj.mapSeq (· ++ vs.toArray))).push (seqObj "list" vs.toArray 0)).get? (s.heap.objs.size + 1) = some (seqObj "list" vs.toArray 0) := by
    rw [← hsz]; exact Heap.get?_push_size _ rfl
  have keep : ∀ b o, s.heap.get? b = some o → (((s.heap.push (seqObj "list" #[] 0)).update s.heap.objs.size (Obj.mapSeq (· ++ vs.toArray))).push (seqObj "list" vs.toArray 0)).get? b = some o := fun b o q => by
    have hlt : b < s.heap.objs.size := Heap.lt_size q
    rw [Heap.get?_push_ne _ _ _ (by rw [hsz]; exact Nat.ne_of_lt (Nat.lt_succ_of_lt hlt)), Heap.get?_update_ne _ _ _ _ (Nat.ne_of_lt hlt), Heap.get?_push_ne _ _ _ (Nat.ne_of_lt hlt)]
    exact q
  show wpAny _ _ _ _ _ { s with heap := ((s.heap.push (seqObj "list" #[] 0)).update s.heap.objs.size (Obj.mapSeq (· ++ vs.toArray))).push (seqObj "list" vs.toArray 0) }
  rw [hsz]
  generalize ((s.heap.push (seqObj "list" #[] 0)).update s.heap.objs.size (Obj.mapSeq (· ++ vs.toArray))).push (seqObj "list" vs.toArray 0) = h2 at hoL keep ⊢
  have keep3 : KeepsH s.heap (((h2.update (s.heap.objs.size + 1) (Obj.mapSeq fun _ => (#[] : Array Value))).push (seqObj "tuple" vs.toArray 0)).push (seqObj "list" #[] 0)) := fun b o q => by
    have hlt : b < s.heap.objs.size := Heap.lt_size q
    refine Heap.get?_push_of_some _ (Heap.get?_push_of_some _ ?_)
    rw [Heap.get?_update_ne _ _ _ _ (Nat.ne_of_lt (Nat.lt_succ_of_lt hlt))]
    exact keep b o q
  refine wpAny_bind (wpAny_holding (wpAny_call_entry slot_list_sort ⟨_, hoL, rfl⟩ entry_list_sort (list_sort_ff (s := { s with heap := h2 }) hoL (by assumption) h64 rfl (ask _ keep3) fun k hk => ⟨_, rfl, wpAny_pure ⟨_, rfl, h _ _ (Nat.le_succ _) (fun b o q => ?_) ⟨_, hk, rfl, _, rfl⟩⟩⟩) (args_list_sort _)))
  have hlt : b < s.heap.objs.size := Heap.lt_size q
  rw [Heap.get?_update_ne _ _ _ _ (Nat.ne_of_lt (Nat.lt_succ_of_lt hlt))]
  exact keep3 b o q

theorem eqBool_flt_ne {a b : UInt64} {t u : Tok} {Q : Bool → Shared → Prop} (ht : 0 < t) (hu : 0 < u) (hab : a ≠ b) (htu : t ≠ u) (hc : (Float64.cmp a b == some Ordering.eq) = false) (h : Q false s) :
    wpAny (model prog w) A (eqBool (.float a t) (.float b u)) Q E s := by
  unfold eqBool
  show wpAny _ _ (if (Value.float a t == Value.float b u) = true then _ else _) Q E s
  rw [if_neg (fun q => hab (by have := eq_of_beq q; injection this))]
  have e1 : isSame (.float a t) (.float b u) = pure false := by
    have h1 : (a == b && !Float64.isNaN a) = false := by
      have : (a == b) = false := beq_eq_false_iff_ne.mpr hab
      rw [this]; rfl
    show isSame.created (a == b && !Float64.isNaN a) t u = _
    rw [h1]
    unfold isSame.created
    have z1 : (t == 0) = false := beq_eq_false_iff_ne.mpr (Nat.ne_of_gt ht)
    have z2 : (u == 0) = false := beq_eq_false_iff_ne.mpr (Nat.ne_of_gt hu)
    have z3 : (t == u) = false := beq_eq_false_iff_ne.mpr htu
    rw [z1, z2, z3]
    rfl
  have fin : wpAny (model prog w) A (truthOfDropped =<< richCompare .Eq (.float a t) (.float b u)) Q E s := by
    refine wpAny_bind (show wpAny (model prog w) A (richCompare .Eq (.float a t) (.float b u)) _ E s from AutoFloatOps.eq_0 ?_)
    rw [hc]
    exact wpAny_truthy_bool h
  refine wpAny_bind (wpAny_of_eq e1 ?_)
  exact fin
theorem oneLt_flt {a b : UInt64} {t u : Tok} {Q : Bool → Shared → Prop} (h : Q (Float64.cmp a b == some Ordering.lt) s) : wpAny (model prog w) A (oneLt' true (.float a t) (.float b u)) Q E s := by
  rw [oneLt'_eq]
  simp only [if_true]
  refine wpAny_bind (wpAny_cRoomFor_byValue rfl ?_)
  refine wpAny_bind (wpAny_callSpecialIfBound?_slot (typeIs_float s a t) F.slot_float_lt (wpAny_call_entry F.slot_float_lt (typeIs_float s a t) F.entry_float_lt ?_ (F.args_float_lt_2 _ _)))
  show wpAny _ _ (ret (.bool (Float64.cmp a b == some Ordering.lt))) _ _ s
  exact wpAny_pure ⟨_, rfl, wpAny_truthy_bool h⟩
end
end Mine
namespace Mine
open PySem PySem.Calls PyProof.Rows PySem.W
section
variable {prog : Program} {w : World} {A : Around} {E : Value → Shared → Prop} {s : Shared} {O : Gh}

theorem foldl_min_le : ∀ (l : List Int) (x : Int), l.foldl min x ≤ x ∧ ∀ a ∈ l, l.foldl min x ≤ a
  | [], x => ⟨Int.le_refl _, fun _ h => nomatch h⟩
  | y :: l, x => by
    have ih := foldl_min_le l (min x y)
    refine ⟨Int.le_trans ih.1 (Int.min_le_left _ _), fun a ha => ?_⟩
    rcases List.mem_cons.mp ha with rfl | ha
    · exact Int.le_trans ih.1 (Int.min_le_right _ _)
    · exact ih.2 a ha
theorem foldl_min_mem : ∀ (l : List Int) (x : Int), l.foldl min x = x ∨ l.foldl min x ∈ l
  | [], _ => .inl rfl
  | y :: l, x => by
    rcases foldl_min_mem l (min x y) with h | h
    · rw [List.foldl_cons, h]
      rcases Int.le_total x y with q | q
      · exact .inl (Int.min_eq_left q)
      · exact .inr (by rw [Int.min_eq_right q]; exact .head _)
    · exact .inr (List.mem_cons_of_mem _ h)
theorem minL_is {ns : List Int} {M : Int} (hm : M ∈ ns) (hle : ∀ a ∈ ns, M ≤ a) : M = minL ns := by
  obtain ⟨n, l, rfl⟩ : ∃ n l, ns = n :: l := by
    match ns, hm with
    | n :: l, _ => exact ⟨n, l, rfl⟩
  have e : minL (n :: l) = (n :: l).foldl min n := rfl
  rw [e]
  refine Int.le_antisymm (hle _ ?_) ((foldl_min_le _ _).2 M hm)
  rcases foldl_min_mem (n :: l) n with h | h
  · rw [h]; exact .head _
  · exact h

theorem sum_done {l : Addr} {its : Array Value} {ns : List Int} {Q : Value → Shared → Prop} (hh : A.handled = none) (L : Ok O s.heap s.toks) (hl : s.heap.IsList l its) (hi : IntsAre its.toList ns) (D : Done O s (.int ns.sum) Q) :
    wpAny (model prog w) A (call (.builtin "sum") [.ref l]) Q E s := by
  obtain ⟨xs, hx⟩ := hi.allInts.items
  rw [Array.toArray_toList] at hx
  have hn := hi.numsOf
  subst hx
  rw [nums_intItems] at hn
  refine wpAny_with_toks (Nat.le_refl _) (sum_intListG hh hl fun h' tk t' hk le => ?_)
  have e : preSum (numAt xs) xs.size = ns.sum := by
    rw [preSum_eq, List.take_of_length_le (by simp), hn]
  rw [e]
  exact D _ _ _ O (.le L hk le) ⟨_, rfl⟩
theorem min_done {l : Addr} {its : Array Value} {ns : List Int} {Q : Value → Shared → Prop} (hh : A.handled = none) (L : Ok O s.heap s.toks) (hl : s.heap.IsList l its) (hi : IntsAre its.toList ns) (hne : 0 < ns.length) (D : Done O s (.int (minL ns)) Q) :
    wpAny (model prog w) A (call (.builtin "min") [.ref l]) Q E s := by
  obtain ⟨xs, hx⟩ := hi.allInts.items
  rw [Array.toArray_toList] at hx
  have hn := hi.numsOf
  have hlen := ints_len hi
  subst hx
  rw [nums_intItems] at hn
  have hsz : 0 < xs.size := by simp [intItems] at hlen; omega
  refine wpAny_with_toks (Nat.le_refl _) (min_intList hh hl hsz fun v h' tk hv hk le => ?_)
  obtain ⟨t, rfl⟩ := intItems_at hv
  obtain ⟨h1, h2⟩ := argBest_lt (numAt xs) (xs.size - 1)
  have e : numAt xs (argBest (fun i j => decide (numAt xs i < numAt xs j)) (xs.size - 1)) = minL ns := by
    rw [← hn]
    refine minL_is ?_ fun a ha => ?_
    · rw [numAt_eq]; exact getD_mem (by rw [List.length_map, Array.length_toList]; omega)
    · obtain ⟨j, hj, rfl⟩ := mem_getD ha
      rw [List.length_map, Array.length_toList] at hj
      rw [← numAt_eq]; exact h2 j (by omega)
  rw [e]
  exact D _ _ _ O (.le L hk le) ⟨_, rfl⟩

/-! rows -/
theorem tups_are {h : Heap} : ∀ {l : List V} {vs : List Value}, l.all isTupF = true → RepL O h l vs → ∃ fs, KatTups h vs fs ∧ fs.length = vs.length ∧ ∀ v ∈ fs, ∃ x t, v = .float x t
  | [], vs, _, r => by cases r; exact ⟨[], .nil, rfl, fun _ h => nomatch h⟩
  | x :: l, vs, e, r => by
    obtain ⟨v, q, rfl, hx, hq⟩ := r
    rw [List.all_cons, Bool.and_eq_true] at e
    obtain ⟨fs, hf, hlen, hall⟩ := tups_are e.2 hq
    match x, e.1, hx with
    | .tup (.flt a :: xs), _, hx =>
      obtain ⟨p, its, rfl, _, ⟨o, ho, hc, n, hd⟩, y, r', ey, ⟨t, rfl, _⟩, _⟩ := hx
      refine ⟨.float a t :: fs, .cons ho hc hd ?_ hf, by simp [hlen], fun v hv => ?_⟩
      · rw [← Array.getElem?_toList, ey]; rfl
      · rcases List.mem_cons.mp hv with rfl | hv
        · exact ⟨_, _, rfl⟩
        · exact hall v hv

theorem row_lt {x y : V} {vx vy : Value} {b : Bool} {C : Bool → Shared → Prop} (B : TB O.T s.toks) (rx : Rep O s.heap x vx) (ry : Rep O s.heap y vy) (e : ltRow x y = some b) (h : C b s) : wpAny (model prog w) A (keyLt' (tuples' true) vx vy) C E s := by
  unfold ltRow at e
  split at e
  · rename_i a xs c ys
    split at e
    · cases e
    · rename_i hab
      split at e
      · cases e
      · rename_i hc
        cases e
        obtain ⟨p, its, rfl, _, ⟨o, ho, _, n, hd⟩, v, r, ev, ⟨t, rfl, ht⟩, _⟩ := rx
        obtain ⟨p', its', rfl, _, ⟨o', ho', _, n', hd'⟩, v', r', ev', ⟨u, rfl, hu⟩, _⟩ := ry
        refine kat_lt ho hd ho' hd' ?_
        rw [ev, ev']
        have hne : a ≠ c := fun q => hab (by rw [q]; exact beq_self_eq_true _)
        refine kat_cons (eqBool_flt_ne (B.2 t _ ht).1 (B.2 u _ hu).1 hne (fun q => ?_) (by simpa using hc) (kat_no (oneLt_flt h)))
        rw [q, hu] at ht
        cases ht
        exact hne rfl
  · cases e

theorem getD_rep {h : Heap} {l : List V} {vs : List Value} (r : RepL O h l vs) (i : Nat) (hi : i < l.length) : Rep O h (l.getD i .non) (vs.getD i .none) := by
  obtain ⟨v, hv, rv⟩ := r.get (i := i) (x := l[i]) (by simp [hi])
  have e1 : l.getD i .non = l[i] := by simp [hi]
  have e2 : vs.getD i Value.none = v := by simp [List.getD, hv]
  rw [e1, e2]; exact rv
theorem getD_repAny {h : Heap} {l : List V} {vs : List Value} (r : RepL O h l vs) (i : Nat) : Rep O h (l.getD i .non) (vs.getD i .none) := by
  by_cases hi : i < l.length
  · exact getD_rep r i hi
  · have h2 := r.length
    have e1 : l.getD i .non = .non := by simp [Nat.le_of_not_lt hi]
    have e2 : vs.getD i Value.none = .none := by simp [h2 ▸ Nat.le_of_not_lt hi]
    rw [e1, e2]; rfl
theorem repL_map {h : Heap} {l : List V} {vs : List Value} (r : RepL O h l vs) : ∀ p : List Nat, RepL O h (p.map fun i => l.getD i .non) (p.map fun i => vs.getD i .none)
  | [] => rfl
  | i :: p => ⟨_, _, rfl, getD_repAny r i, repL_map r p⟩

theorem sorted_done {l : Addr} {its : Array Value} {xs ys : List V} {Q : Value → Shared → Prop} (L : Ok O s.heap s.toks) (hl : s.heap.IsList l its) (r : RepL O s.heap xs its.toList) (ha : xs.all isTupF = true) (e : sortV xs = some ys) (D : Done O s (.lst ys) Q) :
    wpAny (model prog w) A (call (.builtin "sorted") [.ref l]) Q E s := by
  unfold sortV at e
  split at e
  · rename_i hb
    cases hp : KasRun (fun i j => ltRow (xs.getD i .non) (xs.getD j .non)) (kas_sort xs.length) with
    | none => rw [hp] at e; cases e
    | some p =>
      rw [hp] at e
      cases e
      have hlen := r.length
      have hl' : s.heap.IsList l its.toList.toArray := by rw [Array.toArray_toList]; exact hl
      refine sorted_ff (vs := its.toList) (p0 := p) hl' (by omega) (by omega) (fun h3 k3 => ?_) fun Dl h' hD k hL => ?_
      · have r3 := r.keeps k3
        obtain ⟨fs, hf, hfl, hall⟩ := tups_are ha r3
        refine kat_kind (s := { s with heap := h3 }) (T := .type "float") hf (by omega) (fun v hv => ?_) rfl ?_
        · obtain ⟨x, t, rfl⟩ := hall v hv
          exact .now
        · rw [hlen] at hp
          refine kasRun_wp (s := { s with heap := h3 }) (fun i j b C hc hC => ?_) _ _ hp ⟨rfl, rfl⟩
          exact row_lt (s := { s with heap := h3 }) L.tb (getD_repAny r3 i) (getD_repAny r3 j) hc hC
      · refine D (.ref Dl) h' s.toks O (.le L k (Nat.le_refl _)) ⟨Dl, _, rfl, L.live.new hD, hL, ?_⟩
        exact repL_map (r.keeps k) p.toList
  · cases e

theorem callB_sound {f : BF} {vs : List V} {c : V} {vals : List Value} {Q : Value → Shared → Prop} (hh : A.handled = none) (e : callB f vs = some c) (L : Ok O s.heap s.toks) (r : RepL O s.heap vs vals) (D : Done O s c Q) :
    wpAny (model prog w) A (call f.val vals) Q E s := by
  unfold callB at e
  split at e
  · obtain ⟨v, q, rfl, ⟨x, its, rfl, _, hx, rx⟩, hq⟩ := r; cases hq
    split at e
    · rename_i l hm
      cases e
      have := rx.size
      refine Calls.call_len_list hx (by omega) ?_
      rw [← this]
      exact D.imm L ⟨_, rfl⟩
    · cases e
  · obtain ⟨v, q, rfl, ⟨t, rfl⟩, hq⟩ := r; cases hq
    split at e
    · cases e
      exact PySem.W.len_bytes (by omega) (D.imm L ⟨_, rfl⟩)
    · cases e
  · rename_i l
    obtain ⟨v, q, rfl, ⟨x, its, rfl, _, hx, rx⟩, hq⟩ := r; cases hq
    cases hi : ints? l with
    | none => rw [hi] at e; cases e
    | some ns => rw [hi] at e; cases e; exact sum_done hh L hx (ints_are hi rx) D
  · rename_i l
    obtain ⟨v, q, rfl, ⟨x, its, rfl, _, hx, rx⟩, hq⟩ := r; cases hq
    cases hi : ints? l with
    | none => rw [hi] at e; cases e
    | some ns =>
      rw [hi] at e
      simp only [Option.bind_some] at e
      split at e
      · cases e
      · rename_i hne
        cases e
        exact min_done hh L hx (ints_are hi rx) (by cases ns with | nil => simp at hne | cons _ _ => simp) D
  · rename_i l
    obtain ⟨v, q, rfl, ⟨x, its, rfl, _, hx, rx⟩, hq⟩ := r; cases hq
    split at e
    · rename_i ha
      cases hs : sortV l with
      | none => rw [hs] at e; cases e
      | some ys => rw [hs] at e; cases e; exact sorted_done L hx rx ha hs D
    · cases e
  · obtain ⟨v, q, rfl, ⟨t, rfl⟩, hq⟩ := r; cases hq
    cases e
    exact wpAny_with_toks (Nat.le_refl _) (call_abs_int fun u tk le => D.imm L ⟨_, rfl⟩ le)
  · obtain ⟨v, q, rfl, ⟨t, rfl⟩, hq⟩ := r; cases hq
    cases e
    exact call_int_int (D.imm0 L ⟨_, rfl⟩)
  · obtain ⟨v, q, rfl, ⟨t, rfl, _⟩, hq⟩ := r; cases hq
    split at e
    · rename_i hd
      cases e
      exact call_int_float hd (D.imm L ⟨_, rfl⟩)
    · cases e
  · obtain ⟨v, q, rfl, ⟨t, rfl⟩, v', q', rfl, ⟨t', rfl⟩, hq⟩ := r; cases hq
    split at e
    · rename_i hm
      cases e
      refine PyProof.Rows.divmod_int hm.1 (D.push L (rep_newTup L.live ?_)) (.inl (PyProof.noPylong_small hm.2))
      exact ⟨_, _, rfl, ⟨_, rfl⟩, _, _, rfl, ⟨_, rfl⟩, rfl⟩
    · cases e
  · obtain ⟨v, q, rfl, ⟨t, rfl⟩, hq⟩ := r; cases hq
    split at e
    · cases e
      exact call_range_1 (D.push L ⟨_, _, _, _, rfl, L.live.new (Nat.le_refl _), Heap.get?_push_size _ rfl⟩)
    · cases e
  · obtain ⟨v, q, rfl, ⟨t, rfl⟩, v', q', rfl, ⟨t', rfl⟩, hq⟩ := r; cases hq
    split at e
    · cases e
      exact call_range_2 (D.push L ⟨_, _, _, _, rfl, L.live.new (Nat.le_refl _), Heap.get?_push_size _ rfl⟩)
    · cases e
  · cases e
end
end Mine
namespace Mine
open PySem PySem.Calls PyProof.Rows

/-! what a piece of code may move -/
structure Mv (O : Gh) (h : Heap) (O' : Gh) (h' : Heap) : Prop where
  stab : Stab O O' h h'
  fld : ∀ b o fs, h.get? b = some o → o.data = .fields fs → h'.get? b = some o
theorem Mv.refl (O : Gh) (h : Heap) : Mv O h O h := ⟨.refl _ _, fun _ _ _ e _ => e⟩
theorem Mv.trans {O O' O'' : Gh} {h h' h'' : Heap} (a : Mv O h O' h') (b : Mv O' h' O'' h'') : Mv O h O'' h'' := ⟨a.stab.trans b.stab, fun x o fs e d => b.fld x o fs (a.fld x o fs e d) d⟩
theorem Adv.mv {O O' : Gh} {h h' : Heap} {tk : Nat} (a : Adv O h O' h' tk) : Mv O h O' h' := ⟨a.stab, fun b o _ e _ => a.kp b o e⟩
theorem Mv.keeps {O : Gh} {h h' : Heap} (k : KeepsH h h') : Mv O h O h' := ⟨.keeps k, fun b o _ e _ => k b o e⟩
theorem Mv.k2 {O : Gh} {h h' : Heap} (k : Keeps2 h h') : Mv O h O h' := ⟨k.stab, fun b o fs e d => k b o e (.inl ⟨fs, d⟩)⟩
/-- one's own list is turned -/
theorem Mv.ownList {O : Gh} {h h' : Heap} {D : Addr} {its : Array Value} (ow : O.own D) (hl : h.IsList D its) (s : Heap.SameBut D h h') : Mv O h O h' :=
  ⟨⟨fun _ _ e => e, fun b o no e _ => ⟨(s.2 b (fun q => no (q ▸ ow))).trans e, no⟩⟩, fun b o fs e d => (s.2 b (fun q => by
    subst q
    obtain ⟨o', e', _, n, d'⟩ := hl
    rw [e] at e'; cases e'
    rw [d] at d'; cases d')).trans e⟩

/-! walking an iterator -/
section
variable {prog : Program} {w : World} {A : Around} {E : Value → Shared → Prop} {s : Shared} {O O' : Gh} {h₀ : Heap} {vs : List V} {I : Addr} {fp : List Addr} {P : Nat → Value → Prop} {St : Nat → Heap → Prop}

theorem It.stay {i : Nat} {h h' : Heap} {O'' : Gh} (T : It prog w A O h₀ vs I fp P St) (st : St i h) (S : Stab O O' h₀ h) (m : Mv O' h O'' h') : St i h' := by
  refine T.walks.frame i h h' st fun b hb o e => ?_
  rcases T.fpm b hb with rfl | ⟨o', its, k, e', d, no⟩
  · obtain ⟨o₂, fs, N, e₂, d₂, _⟩ := T.iobj i h st
    rw [e] at e₂; cases e₂
    exact m.fld _ _ _ e d₂
  · have q := S.at' b o' no e' (.inl ⟨its, k, d⟩)
    rw [q.1] at e; cases e
    exact (m.stab.at' b _ q.2 q.1 (.inl ⟨its, k, d⟩)).1

noncomputable def ButI (I : Addr) (h h' : Heap) : Prop := ∀ b o, b ≠ I → h.get? b = some o → h'.get? b = some o
theorem It.stabI {i : Nat} {h h' : Heap} (T : It prog w A O h₀ vs I fp P St) (st : St i h) (k : ButI I h h') : Stab O' O' h h' := by
  refine ⟨fun _ _ e => e, fun b o no e hd => ⟨k b o (fun q => ?_) e, no⟩⟩
  subst q
  obtain ⟨o₂, fs, N, e₂, d₂, c₂, q₂⟩ := T.iobj i h st
  rw [e] at e₂; cases e₂
  rcases hd with ⟨its, n, z⟩ | ⟨vs, z, c⟩
  · rw [d₂] at z; cases z
  · rw [c₂] at c
    cases c
    revert q₂; decide

theorem It.next {i : Nat} {x : V} {Q : Option Value → Shared → Prop} (T : It prog w A O h₀ vs I fp P St) (st : St i s.heap) (S : Stab O O' h₀ s.heap) (hx : vs[i]? = some x)
    (k : ∀ u h' tk', s.toks ≤ tk' → St (i + 1) h' → Rep O' h' x u → ButI I s.heap h' → Stab O' O' s.heap h' → Q (some u) { s with heap := h', toks := tk' }) : wpAny (model prog w) A (pyNext (.ref I)) Q E s := by
  have hi : i < vs.length := (List.getElem?_eq_some_iff.mp hx).1
  refine wpAny_with_toks (Nat.le_refl _) (T.walks.item i s _ _ hi st fun u h' tk' hp st' hk le => ?_)
  have kb : ButI I s.heap h' := fun b o hb e => hk b o (by simpa using hb) e
  have S2 : Stab O' O' s.heap h' := T.stabI st kb
  exact k u h' tk' le st' (T.item i u x O' h' hp hx (S.trans S2)) kb S2
theorem It.stop {Q : Option Value → Shared → Prop} (T : It prog w A O h₀ vs I fp P St) (st : St vs.length s.heap)
    (k : ∀ h' tk', s.toks ≤ tk' → ButI I s.heap h' → Stab O' O' s.heap h' → Q none { s with heap := h', toks := tk' }) : wpAny (model prog w) A (pyNext (.ref I)) Q E s := by
  refine wpAny_with_toks (Nat.le_refl _) (T.walks.done s _ _ st fun h' tk' hk le => ?_)
  have kb : ButI I s.heap h' := fun b o hb e => hk b o (by simpa using hb) e
  exact k h' tk' le kb (T.stabI st kb)
end

/-! what the functions stand on -/
structure Cx where
  prog : Program
  w : World
  Φ : Nat → List V → Option V
  fns : List Str
  rk : Nat → Nat
  fa : Nat → Addr
  consts : List (Str × Int)
  mg : Str → Option Value
  mb : Str → Option Value

structure Base (c : Cx) (g : Heap) : Prop where
  ng : g.Ns mainGlobals c.mg
  nb : g.Ns builtinsNs c.mb
  fn : ∀ f x, c.fns[f]? = some x → c.mg x = some (.ref (c.fa f)) ∧ ∃ o fd, g.get? (c.fa f) = some o ∧ o.data = .func fd
  con : ∀ x i, c.consts.lookup x = some i → ∃ t, c.mg x = some (.int i t)
  blt : ∀ f : BF, c.mg f.name = none ∧ c.mb f.name = some f.val
  call : ∀ f x vs v, c.fns[f]? = some x → c.Φ f vs = some v → ∀ (A : Around) (s : Shared) (O : Gh) (vals : List Value) (Q : Value → Shared → Prop) (E : Value → Shared → Prop),
    Room A (c.rk f) → KeepsH g s.heap → Ok O s.heap s.toks → RepL O s.heap vs vals → Done O s v Q → wpAny (model c.prog c.w) A (call (.ref (c.fa f)) vals) Q E s
theorem Base.keeps {c : Cx} {g g' : Heap} (B : Base c g) (k : KeepsH g g') : Base c g' where
  ng := B.ng.keeps k
  nb := B.nb.keeps k
  fn := fun f x e => let ⟨a, o, fd, h, d⟩ := B.fn f x e; ⟨a, o, fd, k _ _ h, d⟩
  con := B.con
  blt := B.blt
  call := fun f x vs v e p A s O vals Q E R k' => B.call f x vs v e p A s O vals Q E R (k.trans k')

/-! well formed -/
noncomputable def relabelS (scope sc : Scope) : Scope :=
  { scope with names := scope.names.map fun (n, k) => if (k == .free && sc.kind == .function && sc.names.lookup n == some .cell) then (n, .cell) else (n, k) }
theorem relabel_eq (scope : Scope) (env : Env) : relabel scope env = relabelS scope env.scope := rfl
noncomputable def Exs.isNil : Exs → Bool
  | .nil => true
  | _ => false
noncomputable def isLoc (sc : Scope) (nm : List Str) (i : Nat) : Bool := decide (i < nm.length) && (sc.names.lookup (nmAt nm i) == some .local)
/-- a comprehension's scope -/
noncomputable def wfC (sc : Scope) (nm : List Str) (cn : List Str) (fr : List Nat) (sc' : Scope) : Bool :=
  (sc.kind == .function) && (sc'.kind == .function) && decide (cn.Nodup) && decide (fr.length ≤ cn.length) &&
  sc'.names.all (fun x => x.2 != .cell) && sc'.names.all (fun x => x.2 != .local || sc'.names.lookup x.1 == some .local) &&
  cn.all (fun x => x != ("__debug__" : Str)) &&
  (List.range (cn.length - fr.length)).all (fun i => sc'.names.lookup (nmAt cn i) == some .local) &&
  (List.range fr.length).all (fun k => let j := fr.getD k 0; decide (j < nm.length) && nmAt cn (cn.length - fr.length + k) == nmAt nm j && sc'.names.lookup (nmAt nm j) == some .free && sc.names.lookup (nmAt nm j) == some .cell) &&
  sc'.names.all (fun x => x.2 != .free || sc.names.lookup x.1 == some .cell && cn.contains x.1) &&
  decide ((sc'.names.map (·.1)).Nodup)
mutual
noncomputable def wfE (c : Cx) (sc : Scope) (nm : List Str) (n : Nat) : Ex → Bool
  | .var _ _ | .cint _ _ | .cflt _ _ | .cbyt _ _ | .cboo _ _ => true
  | .glo x i _ => sc.names.lookup x == some .globalImplicit && x != ("__debug__" : Str) && c.consts.lookup x == some i
  | .bin _ l r _ | .cmp _ l r _ | .and l r _ | .idx l r _ | .sl1 l r _ _ | .sl2 l r _ _ => wfE c sc nm n l && wfE c sc nm n r
  | .not e _ => wfE c sc nm n e
  | .sl3 l r q _ _ => wfE c sc nm n l && wfE c sc nm n r && wfE c sc nm n q
  | .tup l _ _ | .lst l _ => wfL c sc nm n l
  | .bcall f a _ _ => sc.names.lookup f.name == some .globalImplicit && wfL c sc nm n a && !a.isNil
  | .call f x a _ _ => sc.names.lookup x == some .globalImplicit && x != ("__debug__" : Str) && c.fns[f]? == some x && wfL c sc nm n a && !a.isNil && decide (c.rk f ≤ n)
  | .comp elt t it tests rest cn fr sc' _ =>
    wfC sc nm cn fr sc' && wfE c sc nm n it && wfE c (relabelS sc' sc) cn n elt && wfL c (relabelS sc' sc) cn n tests && wfG c (relabelS sc' sc) cn n rest && t.idx.all (isLoc (relabelS sc' sc) cn)
noncomputable def wfL (c : Cx) (sc : Scope) (nm : List Str) (n : Nat) : Exs → Bool
  | .nil => true
  | .cons e r => wfE c sc nm n e && wfL c sc nm n r
noncomputable def wfG (c : Cx) (sc : Scope) (nm : List Str) (n : Nat) : Gens → Bool
  | .nil => true
  | .cons t it tests rest => wfE c sc nm n it && wfL c sc nm n tests && wfG c sc nm n rest && t.idx.all (isLoc sc nm)
end

/-! what is to be shown of each -/
section
variable (c : Cx)
/-- the frame that evaluates -/
structure Fr1 (sc : Scope) (nm : List Str) (n : Nat) (env : Env) (g : Heap) (A : Around) : Prop where
  W : FWf env nm g
  sc : env.scope = sc
  R : Room A n
  B : Base c g
noncomputable def DoneB (O : Gh) (s : Shared) (x : Bool) (Q : Bool → Shared → Prop) : Prop := ∀ h' tk' G', Adv O s.heap G' h' tk' → Q x { s with heap := h', toks := tk' }
noncomputable def SndE (sc : Scope) (nm : List Str) (n : Nat) (e : Ex) : Prop := ∀ env g A O s σ v Q E, Fr1 c sc nm n env g A → FInv env nm g O σ s.heap s.toks → evE c.Φ e σ = some v → Done O s v Q → wpAny (model c.prog c.w) A (eval (tr nm e) env) Q E s
noncomputable def SndT (sc : Scope) (nm : List Str) (n : Nat) (e : Ex) : Prop := ∀ env g A O s σ v Q E, Fr1 c sc nm n env g A → FInv env nm g O σ s.heap s.toks → evT c.Φ e σ = some v → DoneB O s v Q → wpAny (model c.prog c.w) A (isTrue (tr nm e) env (eval (tr nm e) env)) Q E s
noncomputable def SndL (sc : Scope) (nm : List Str) (n : Nat) (l : Exs) : Prop := ∀ env g A O s σ vs pos Q E, Fr1 c sc nm n env g A → FInv env nm g O σ s.heap s.toks → evL c.Φ l σ = some vs → DoneL O s vs Q → wpAny (model c.prog c.w) A (spliced (backTo pos (starEach (trs nm l) env))) Q E s
noncomputable def SndTs (sc : Scope) (nm : List Str) (n : Nat) (l : Exs) : Prop := ∀ env g A O s σ v Q E, Fr1 c sc nm n env g A → FInv env nm g O σ s.heap s.toks → evTs c.Φ l σ = some v → DoneB O s v Q →
  wpAny (model c.prog c.w) A (forIn (trs nm l) true fun c r => if r = true then do let ok ← isTrue c env (eval c env); pure (ForInStep.yield ok) else pure (ForInStep.yield r)) Q E s
end
theorem DoneB.after {O O' : Gh} {s : Shared} {x : Bool} {Q : Bool → Shared → Prop} {h : Heap} {tk : Nat} (D : DoneB O s x Q) (k : Adv O s.heap O' h tk) : DoneB O' { s with heap := h, toks := tk } x Q :=
  fun h' tk' G' k' => D h' tk' G' (k.trans k')
end Mine
namespace Mine
open PySem PySem.Calls PyProof.Rows
section
variable {c : Cx} {sc : Scope} {nm : List Str} {n : Nat}

theorem behind_tr (op : CmpOp) (r : Ex) : behindInMarks op (tr nm r) = false := by cases r <;> rfl
theorem star_tr (e : Ex) (rest : List PySem.Expr) (env : Env) : starEach (tr nm e :: rest) env = (false, eval (tr nm e) env) :: starEach rest env := by cases e <;> rfl
theorem plain_trs (pos : Pos) (env : Env) : ∀ l : Exs, (backTo pos (starEach (trs nm l) env)).any (·.1) = false
  | .nil => rfl
  | .cons e r => by
    show (backTo pos (starEach (tr nm e :: trs nm r) env)).any (·.1) = false
    rw [star_tr]
    show (false || (backTo pos (starEach (trs nm r) env)).any (·.1)) = false
    rw [plain_trs pos env r]; rfl

theorem bind_some' {α β : Type} {x : Option α} {f : α → Option β} {b : β} (e : x.bind f = some b) : ∃ a, x = some a ∧ f a = some b := by
  cases x with
  | none => cases e
  | some a => exact ⟨a, rfl, e⟩
theorem map_some' {α β : Type} {x : Option α} {f : α → β} {b : β} (e : x.map f = some b) : ∃ a, x = some a ∧ f a = b := by
  cases x with
  | none => cases e
  | some a => cases e; exact ⟨a, rfl, rfl⟩

theorem var_snd (i : Nat) (p : Pos) : SndE c sc nm n (.var i p) := by
  intro env g A O s σ v Q E R F e D
  exact var_sound R.W F e fun val r => D.imm0 F.ok r
theorem cint_snd (i : Int) (p : Pos) : SndE c sc nm n (.cint i p) := by
  intro env g A O s σ v Q E R F e D
  cases e
  exact wpAny_Constant_int (D.imm F.ok ⟨_, rfl⟩)
theorem cflt_snd (i : UInt64) (p : Pos) : SndE c sc nm n (.cflt i p) := by
  intro env g A O s σ v Q E R F e D
  cases e
  exact wpAny_Constant_float (D.flt F.ok)
theorem cbyt_snd (i : List UInt8) (p : Pos) : SndE c sc nm n (.cbyt i p) := by
  intro env g A O s σ v Q E R F e D
  cases e
  exact PySem.W.Constant_bytes (D.imm F.ok ⟨_, rfl⟩)
theorem cboo_snd (i : Bool) (p : Pos) : SndE c sc nm n (.cboo i p) := by
  intro env g A O s σ v Q E R F e D
  cases e
  exact wpAny_Constant_bool (D.imm0 F.ok rfl)
theorem glob_load {x : Str} {v : Value} {pos : Pos} {env : Env} {g : Heap} {A : Around} {E : Value → Shared → Prop} {s : Shared} {Q : Value → Shared → Prop} (R : Fr1 c sc nm n env g A) (k : KeepsH g s.heap) (hs : (sc.names.lookup x == some .globalImplicit) = true) (hd : (x == ("__debug__" : Str)) = false)
    (hv : c.mg x = some v) (h : Q v s) : wpAny (model c.prog c.w) A (eval (.Name x pos) env) Q E s := by
  refine Name_function_global R.W.kind ?_ (loadGlobal_global (by rw [R.W.glob]; exact R.B.ng.keeps k) hv h) hd
  show env.scope.names.lookup x = _
  rw [R.sc]; exact eq_of_beq hs
theorem glo_snd (x : Str) (i : Int) (p : Pos) (w : wfE c sc nm n (.glo x i p) = true) : SndE c sc nm n (.glo x i p) := by
  intro env g A O s σ v Q E R F e D
  cases e
  unfold wfE at w
  simp only [Bool.and_eq_true, bne_iff_ne, ne_eq] at w
  obtain ⟨t, ht⟩ := R.B.con x i (eq_of_beq w.2)
  exact glob_load R F.keep w.1.1 (beq_eq_false_iff_ne.mpr w.1.2) ht (D.imm0 F.ok ⟨_, rfl⟩)

theorem bin_snd {op : Operator} {l r : Ex} {p : Pos} (hl : SndE c sc nm n l) (hr : SndE c sc nm n r) : SndE c sc nm n (.bin op l r p) := by
  intro env g A O s σ v Q E R F e D
  simp only [evE] at e
  obtain ⟨a, ea, e⟩ := bind_some' e
  obtain ⟨b, eb, e⟩ := bind_some' e
  exact wpAny_BinOp (hl env g A O s σ a _ E R F ea fun va h1 tk1 O1 a1 r1 => hr env g A O1 _ σ b _ E R (F.adv a1) eb fun vb h2 tk2 O2 a2 r2 =>
    binV_sound e ((F.adv a1).adv a2).ok (Rep.stab a2.stab _ _ r1) r2 ((D.after a1).after a2))
theorem Room.units {A : Around} {n : Nat} (R : Room A n) : A.units < cLine := by have := R.un; rw [cline_is]; omega
theorem cmp_snd {op : CmpOp} {l r : Ex} {p : Pos} (hl : SndE c sc nm n l) (hr : SndE c sc nm n r) : SndE c sc nm n (.cmp op l r p) := by
  intro env g A O s σ v Q E R F e D
  simp only [evE] at e
  obtain ⟨a, ea, e⟩ := bind_some' e
  obtain ⟨b, eb, e⟩ := bind_some' e
  obtain ⟨d, ed, rfl⟩ := map_some' e
  exact wpAny_Compare1 (hl env g A O s σ a _ E R F ea fun va h1 tk1 O1 a1 r1 => hr env g A O1 _ σ b _ E R (F.adv a1) eb fun vb h2 tk2 O2 a2 r2 =>
    cmpV_sound ed R.R.units (Rep.stab a2.stab _ _ r1) r2 (((D.after a1).after a2).imm0 ((F.adv a1).adv a2).ok rfl)) (behind_tr op r)
theorem not_snd {x : Ex} {p : Pos} (hx : SndE c sc nm n x) : SndE c sc nm n (.not x p) := by
  intro env g A O s σ v Q E R F e D
  simp only [evE] at e
  obtain ⟨a, ea, e⟩ := bind_some' e
  obtain ⟨d, ed, rfl⟩ := map_some' e
  exact wpAny_UnaryOp (hx env g A O s σ a _ E R F ea fun va h1 tk1 O1 a1 r1 => not_value (truthV_sound ed r1 ((D.after a1).imm0 (F.adv a1).ok rfl)))
theorem and_snd {x y : Ex} {p : Pos} (hx : SndE c sc nm n x) (hy : SndE c sc nm n y) : SndE c sc nm n (.and x y p) := by
  intro env g A O s σ v Q E R F e D
  simp only [evE] at e
  obtain ⟨a, ea, e⟩ := bind_some' e
  obtain ⟨d, ed, e⟩ := bind_some' e
  refine wpAny_And2 (hx env g A O s σ a _ E R F ea fun va h1 tk1 O1 a1 r1 => truthV_sound ed r1 ?_)
  cases d with
  | true => exact hy env g A O1 _ σ v _ E R (F.adv a1) e (D.after a1)
  | false =>
    cases e
    exact (D.after a1).imm0 (F.adv a1).ok r1
theorem idx_snd {l r : Ex} {p : Pos} (hl : SndE c sc nm n l) (hr : SndE c sc nm n r) : SndE c sc nm n (.idx l r p) := by
  intro env g A O s σ v Q E R F e D
  simp only [evE] at e
  obtain ⟨a, ea, e⟩ := bind_some' e
  obtain ⟨b, eb, e⟩ := bind_some' e
  exact Subscript_ (hl env g A O s σ a _ E R F ea fun va h1 tk1 O1 a1 r1 => hr env g A O1 _ σ b _ E R (F.adv a1) eb fun vb h2 tk2 O2 a2 r2 =>
    idx_sound e ((F.adv a1).adv a2).ok (Rep.stab a2.stab _ _ r1) r2 ((D.after a1).after a2))
theorem asInt_some {a : V} {i : Int} (e : asInt a = some i) : a = .int i := by
  cases a <;> first | (cases e; done) | skip
  cases e; rfl
theorem sl1_snd {l r : Ex} {ps p : Pos} (hl : SndE c sc nm n l) (hr : SndE c sc nm n r) : SndE c sc nm n (.sl1 l r ps p) := by
  intro env g A O s σ v Q E R F e D
  simp only [evE] at e
  obtain ⟨a, ea, e⟩ := bind_some' e
  obtain ⟨b, eb, e⟩ := bind_some' e
  obtain ⟨b', eb', eb⟩ := bind_some' eb
  cases asInt_some eb
  exact Subscript_ (hl env g A O s σ a _ E R F ea fun va h1 tk1 O1 a1 r1 => wpAny_Slice (wpAny_pure (hr env g A O1 _ σ _ _ E R (F.adv a1) eb' fun vb h2 tk2 O2 a2 r2 =>
    wpAny_pure (slice_sound e ((F.adv a1).adv a2).ok (Rep.stab a2.stab _ _ r1) (rfl : partV none .none) r2 ((D.after a1).after a2)))))
theorem sl2_snd {l r : Ex} {ps p : Pos} (hl : SndE c sc nm n l) (hr : SndE c sc nm n r) : SndE c sc nm n (.sl2 l r ps p) := by
  intro env g A O s σ v Q E R F e D
  simp only [evE] at e
  obtain ⟨a, ea, e⟩ := bind_some' e
  obtain ⟨b, eb, e⟩ := bind_some' e
  obtain ⟨b', eb', eb⟩ := bind_some' eb
  cases asInt_some eb
  exact Subscript_ (hl env g A O s σ a _ E R F ea fun va h1 tk1 O1 a1 r1 => wpAny_Slice (hr env g A O1 _ σ _ _ E R (F.adv a1) eb' fun vb h2 tk2 O2 a2 r2 =>
    wpAny_pure (wpAny_pure (slice_sound e ((F.adv a1).adv a2).ok (Rep.stab a2.stab _ _ r1) r2 (rfl : partV none .none) ((D.after a1).after a2)))))
theorem sl3_snd {l r q : Ex} {ps p : Pos} (hl : SndE c sc nm n l) (hr : SndE c sc nm n r) (hq : SndE c sc nm n q) : SndE c sc nm n (.sl3 l r q ps p) := by
  intro env g A O s σ v Q E R F e D
  simp only [evE] at e
  obtain ⟨a, ea, e⟩ := bind_some' e
  obtain ⟨b, eb, e⟩ := bind_some' e
  obtain ⟨b', eb', eb⟩ := bind_some' eb
  cases asInt_some eb
  obtain ⟨d, ed, e⟩ := bind_some' e
  obtain ⟨d', ed', ed⟩ := bind_some' ed
  cases asInt_some ed
  exact Subscript_ (hl env g A O s σ a _ E R F ea fun va h1 tk1 O1 a1 r1 => wpAny_Slice (hr env g A O1 _ σ _ _ E R (F.adv a1) eb' fun vb h2 tk2 O2 a2 r2 =>
    hq env g A O2 _ σ _ _ E R ((F.adv a1).adv a2) ed' fun vd h3 tk3 O3 a3 r3 =>
    wpAny_pure (slice_sound e (((F.adv a1).adv a2).adv a3).ok (Rep.stab (a2.trans a3).stab _ _ r1) (lo := some b) (by obtain ⟨t, rfl⟩ := r2; exact ⟨t, rfl⟩) r3 (((D.after a1).after a2).after a3))))

theorem nil_snd : SndL c sc nm n .nil := by
  intro env g A O s σ vs pos Q E R F e D
  cases e
  exact spliced_nil (D [] s.heap s.toks O (.rfl F.ok) rfl)
theorem cons_snd {x : Ex} {l : Exs} (hx : SndE c sc nm n x) (hl : SndL c sc nm n l) : SndL c sc nm n (.cons x l) := by
  intro env g A O s σ vs pos Q E R F e D
  simp only [evL] at e
  obtain ⟨a, ea, e⟩ := bind_some' e
  obtain ⟨b, eb, rfl⟩ := map_some' e
  exact args_cons (hx env g A O s σ a _ E R F ea fun va h1 tk1 O1 a1 r1 => hl env g A O1 _ σ b pos _ E R (F.adv a1) eb fun vb h2 tk2 O2 a2 r2 =>
    D _ _ _ _ (a1.trans a2) ⟨_, _, rfl, Rep.stab a2.stab _ _ r1, r2⟩) (star_tr x _ env)
theorem tup_snd {l : Exs} {k : Nat} {p : Pos} (hl : SndL c sc nm n l) : SndE c sc nm n (.tup l k p) := by
  intro env g A O s σ v Q E R F e D
  simp only [evE] at e
  obtain ⟨b, eb, e⟩ := bind_some' e
  split at e
  · rename_i hle
    cases e
    exact Tuple_ (hl env g A O s σ b p _ E R F eb fun vb h1 tk1 O1 a1 r1 => newTuple_done (F.adv a1).ok r1 hle (D.after a1))
  · cases e
theorem lst_snd {l : Exs} {p : Pos} (hl : SndL c sc nm n l) : SndE c sc nm n (.lst l p) := by
  intro env g A O s σ v Q E R F e D
  simp only [evE] at e
  obtain ⟨b, eb, e⟩ := bind_some' e
  split at e
  · rename_i hle
    cases e
    exact List_ (hl env g A O s σ b p _ E R F eb fun vb h1 tk1 O1 a1 r1 => newList_done (F.adv a1).ok r1 hle (D.after a1))
  · cases e

theorem bf_debug (f : BF) : (f.name == ("__debug__" : Str)) = false := by cases f <;> decide
theorem bcall_snd {f : BF} {a : Exs} {pf p : Pos} (w : wfE c sc nm n (.bcall f a pf p) = true) (ha : SndL c sc nm n a) : SndE c sc nm n (.bcall f a pf p) := by
  intro env g A O s σ v Q E R F e D
  simp only [evE] at e
  obtain ⟨b, eb, e'⟩ := bind_some' e
  unfold wfE at w
  simp only [Bool.and_eq_true] at w
  have hb := R.B.blt f
  refine wpAny_Call_NameR (Name_function_global R.W.kind (by show env.scope.names.lookup _ = _; rw [R.sc]; exact eq_of_beq w.1.1)
    (loadGlobal_builtin (by rw [R.W.glob]; exact R.B.ng.keeps F.keep) hb.1 (by rw [R.W.blt]; exact R.B.nb.keeps F.keep) hb.2 ?_) (bf_debug f))
  match a, ha, eb, w with
  | .nil, _, _, w => exact absurd w.2 (by simp [Exs.isNil])
  | .cons x r, ha, eb, _ =>
    have key := ha env g A O s σ b p (fun vs s₁ => wpAny (model c.prog c.w) A (call f.val vs) Q E s₁) E R F eb fun vb h1 tk1 O1 a1 r1 => callB_sound R.R.hh e' (F.adv a1).ok r1 (D.after a1)
    have hp := plain_trs (nm := nm) p env r
    cases f
    case int => exact callWith_type1 key (star_tr x _ env) hp
    case range => exact callWith_type1 key (star_tr x _ env) hp
    all_goals exact callWith_builtin1 key (star_tr x _ env) hp
theorem call_snd {f : Nat} {x : Str} {a : Exs} {pf p : Pos} (w : wfE c sc nm n (.call f x a pf p) = true) (ha : SndL c sc nm n a) : SndE c sc nm n (.call f x a pf p) := by
  intro env g A O s σ v Q E R F e D
  simp only [evE] at e
  obtain ⟨b, eb, e'⟩ := bind_some' e
  unfold wfE at w
  simp only [Bool.and_eq_true, bne_iff_ne, ne_eq, decide_eq_true_eq] at w
  obtain ⟨⟨⟨⟨⟨w1, w2⟩, w3⟩, w4⟩, w5⟩, w6⟩ := w
  have w3' := eq_of_beq w3
  obtain ⟨hm, o, fd, ho, hd⟩ := R.B.fn f x w3'
  refine wpAny_Call_NameR (glob_load R F.keep w1 (beq_eq_false_iff_ne.mpr w2) hm ?_)
  match a, ha, eb, w5 with
  | .nil, _, _, w5 => exact absurd w5 (by simp [Exs.isNil])
  | .cons y r, ha, eb, _ =>
    refine callWith_def hd (ha env g A O s σ b p _ E R F eb fun vb h1 tk1 O1 a1 r1 => ⟨a1.kp _ _ (F.keep _ _ ho), ?_⟩) (star_tr y _ env)
    exact R.B.call f x b v w3' e' A _ O1 vb Q E (R.R.le w6) (F.keep.trans a1.kp) (F.adv a1).ok r1 (D.after a1)

/-! tests -/
theorem notT_snd {x : Ex} {p : Pos} (hx : SndT c sc nm n x) : SndT c sc nm n (.not x p) := by
  intro env g A O s σ v Q E R F e D
  simp only [evT] at e
  obtain ⟨a, ea, rfl⟩ := map_some' e
  exact wpAny_isTrue_Not (hx env g A O s σ a _ E R F ea fun h1 tk1 O1 a1 => D h1 tk1 O1 a1)
theorem andT_snd {x y : Ex} {p : Pos} (hx : SndT c sc nm n x) (hy : SndT c sc nm n y) : SndT c sc nm n (.and x y p) := by
  intro env g A O s σ v Q E R F e D
  simp only [evT] at e
  obtain ⟨a, ea, e⟩ := bind_some' e
  refine isTrue_and (hx env g A O s σ a _ E R F ea fun h1 tk1 O1 a1 => ?_)
  cases a with
  | false => cases e; exact D h1 tk1 O1 a1
  | true =>
    refine isTrue_and (hy env g A O1 _ σ v _ E R (F.adv a1) e fun h2 tk2 O2 a2 => ?_)
    cases v with
    | false => exact D h2 tk2 O2 (a1.trans a2)
    | true => exact isTrue_and_nil (D h2 tk2 O2 (a1.trans a2))
theorem cmpT_snd {op : CmpOp} {l r : Ex} {p : Pos} (hl : SndE c sc nm n l) (hr : SndE c sc nm n r) : SndT c sc nm n (.cmp op l r p) := by
  intro env g A O s σ v Q E R F e D
  simp only [evT] at e
  obtain ⟨a, ea, e⟩ := bind_some' e
  obtain ⟨b, eb, e⟩ := bind_some' e
  exact wpAny_isTrue_Compare1 (hl env g A O s σ a _ E R F ea fun va h1 tk1 O1 a1 r1 => hr env g A O1 _ σ b _ E R (F.adv a1) eb fun vb h2 tk2 O2 a2 r2 =>
    cmpV_sound e R.R.units (Rep.stab a2.stab _ _ r1) r2 (wpAny_truthy_bool (D h2 tk2 O2 (a1.trans a2)))) (behind_tr op r)
theorem varT_snd (i : Nat) (p : Pos) : SndT c sc nm n (.var i p) := by
  intro env g A O s σ v Q E R F e D
  simp only [evT] at e
  obtain ⟨a, ea, e⟩ := bind_some' e
  exact isTrue_plain (var_snd i p env g A O s σ a _ E R F ea fun va h1 tk1 O1 a1 r1 => truthV_sound e r1 (D h1 tk1 O1 a1))
theorem callT_snd {f : Nat} {x : Str} {a : Exs} {pf p : Pos} (h : SndE c sc nm n (.call f x a pf p)) : SndT c sc nm n (.call f x a pf p) := by
  intro env g A O s σ v Q E R F e D
  simp only [evT] at e
  obtain ⟨b, eb, e⟩ := bind_some' e
  exact isTrue_plain (h env g A O s σ b _ E R F (by simpa only [evE] using eb) fun va h1 tk1 O1 a1 r1 => truthV_sound e r1 (D h1 tk1 O1 a1))
theorem noT_snd {x : Ex} (h : ∀ Φ σ, evT Φ x σ = none) : SndT c sc nm n x := by
  intro env g A O s σ v Q E R F e D
  rw [h] at e; cases e

theorem nilTs_snd : SndTs c sc nm n .nil := by
  intro env g A O s σ v Q E R F e D
  cases e
  exact wpAny_pure (D s.heap s.toks O (.rfl F.ok))
theorem skipTs {env : Env} {A : Around} {E : Value → Shared → Prop} {s : Shared} {Q : Bool → Shared → Prop} (h : Q false s) : ∀ l : List PySem.Expr,
    wpAny (model c.prog c.w) A (forIn l false fun c r => if r = true then do let ok ← isTrue c env (eval c env); pure (ForInStep.yield ok) else pure (ForInStep.yield r)) Q E s
  | [] => wpAny_pure h
  | e :: l => by
    simp only [List.forIn_cons, Bool.false_eq_true, if_false]
    exact wpAny_bind (wpAny_pure (skipTs h l))
theorem consTs_snd {x : Ex} {l : Exs} (hx : SndT c sc nm n x) (hl : SndTs c sc nm n l) : SndTs c sc nm n (.cons x l) := by
  intro env g A O s σ v Q E R F e D
  simp only [evTs] at e
  obtain ⟨a, ea, e⟩ := bind_some' e
  show wpAny _ _ (forIn (tr nm x :: trs nm l) true _) _ _ _
  simp only [List.forIn_cons, if_true]
  refine wpAny_bind (wpAny_bind (hx env g A O s σ a _ E R F ea fun h1 tk1 O1 a1 => wpAny_pure ?_))
  cases a with
  | true => exact hl env g A O1 _ σ v Q E R (F.adv a1) e (D.after a1)
  | false => cases e; exact skipTs (D h1 tk1 O1 a1) _
end
end Mine
namespace Mine
open PySem PySem.Calls PyProof.Rows
section
variable {prog : Program} {w : World} {A : Around} {E : Value → Shared → Prop} {s : Shared}

noncomputable def BodyWp (M : Model) (A : Around) (e : PySem.Expr) (elt : PySem.Expr) (gens : List Comprehension) (d : Nat) (acc : Value) (env : Env) (Q : Unit → Shared → Prop) (E : Value → Shared → Prop) (s : Shared) : Prop :=
  match gens[d + 1]? with
  | some g' => wpAny M A (eval g'.iter env) (fun x s₁ => wpAny M A (pyIter x) (fun it s₂ => wpAny M A (runOwn (.compStart e (d + 1) it acc env) env) (fun _ s₃ => Q () s₃) E s₂) E s₁) E s
  | none => wpAny M A (eval elt env) (fun v s₁ => wpAny M A (call (.builtin "list.append") [acc, v]) (fun _ s₂ => Q () s₂) E s₁) E s

theorem compTurn_wp {elt target iter : PySem.Expr} {ifs : List PySem.Expr} {gens : List Comprehension} {d : Nat} {scope : Scope} {pos : Pos} {it acc : Value} {env : Env} {R : PySem.Fin → Shared → Prop}
    (hg : gens[d]? = some ⟨target, iter, ifs, 0⟩) (hd : ∀ g', gens[d + 1]? = some g' → g'.is_async = 0 ∧ ∀ x, foldedSetIterable g'.iter env x = pure x)
    (h : wpAny (model prog w) A (pyNext it) (fun r s₁ => match r with
      | none => R (.done .next) s₁
      | some v => wpAny (model prog w) A (letOwnedTupleGo target it v) (fun _ s₂ => wpAny (model prog w) A (assign target env v) (fun _ s₃ =>
          wpAny (model prog w) A (forIn ifs true fun c r => if r = true then do let ok ← isTrue c env (eval c env); pure (ForInStep.yield ok) else pure (ForInStep.yield r)) (fun ok s₄ =>
            if ok = true then BodyWp (model prog w) A (.ListComp elt gens scope pos) elt gens d acc env (fun _ s₅ => R (.again (.compLoop (.ListComp elt gens scope pos) d it acc env)) s₅) E s₄
            else R (.again (.compLoop (.ListComp elt gens scope pos) d it acc env)) s₄) E s₃) E s₂) E s₁) E s) :
    wpAny (model prog w) A (compTurn (.ListComp elt gens scope pos) d it acc env) R E s := by
  unfold compTurn
  dsimp only
  rw [hg]
  dsimp only
  refine wpAny_bind (wpAny_standAt (wpAny_bind (wpAny_mono h (fun r s₁ h₁ => ?_) fun _ _ x => x)))
  cases r with
  | none => exact wpAny_pure h₁
  | some v =>
    dsimp only at h₁ ⊢
    refine wpAny_bind (wpAny_mono h₁ (fun _ s₂ h₂ => wpAny_bind (wpAny_mono h₂ (fun _ s₃ h₃ => wpAny_bind (wpAny_mono h₃ (fun ok s₄ h₄ => ?_) fun _ _ x => x)) fun _ _ x => x)) fun _ _ x => x)
    cases ok with
    | false => exact wpAny_pure h₄
    | true =>
      have h₄' : BodyWp (model prog w) A (.ListComp elt gens scope pos) elt gens d acc env (fun _ s₅ => R (.again (.compLoop (.ListComp elt gens scope pos) d it acc env)) s₅) E s₄ := h₄
      unfold BodyWp at h₄'
      cases hg' : gens[d + 1]? with
      | none =>
        rw [hg'] at h₄'
        dsimp only at h₄' ⊢
        exact wpAny_bind (wpAny_bind (wpAny_mono h₄' (fun x s₅ h₅ => wpAny_bind (wpAny_mono h₅ (fun _ s₆ h₆ => wpAny_pure (wpAny_pure h₆)) fun _ _ x => x)) fun _ _ x => x))
      | some g' =>
        rw [hg'] at h₄'
        obtain ⟨ha, hf⟩ := hd g' hg'
        dsimp only at h₄' ⊢
        rw [ha]
        refine wpAny_bind (wpAny_mono h₄' (fun x s₅ h₅ => wpAny_bind (wpAny_standAt (wpAny_bind ?_))) fun _ _ x => x)
        refine wpAny_of_eq (hf x) ?_
        refine wpAny_bind (wpAny_holding (wpAny_mono h₅ (fun it s₆ h₆ => wpAny_bind (wpAny_mono h₆ (fun _ s₇ h₇ => wpAny_pure h₇) fun _ _ x => x)) fun _ _ x => x))

theorem codeAny_compStart_at {elt target iter : PySem.Expr} {ifs : List PySem.Expr} {gens : List Comprehension} {d : Nat} {scope : Scope} {pos : Pos} {it acc : Value} {env : Env} {R : Result → Shared → Prop}
    (hg : gens[d]? = some ⟨target, iter, ifs, 0⟩)
    (h0 : codeAny (model prog w) A (.compLoop (.ListComp elt gens scope pos) d it acc env) R s)
    (h : wpAny (model prog w) A (pyIter it) (fun it' s' => codeAny (model prog w) A (.compLoop (.ListComp elt gens scope pos) d it' acc env) R s') (notedBy (model prog w) A env fun x s' => R (.error x) s') s) :
    codeAny (model prog w) A (.compStart (.ListComp elt gens scope pos) d it acc env) R s := by
  refine codeAny_of_tree ?_
  show wpAny _ _ ((compStart (.ListComp elt gens scope pos) d it acc env).onRaise (fun x => do noteFrame x env; standAt theWindowsPlace)) _ _ s
  refine wpAny_notedAt ?_
  unfold compStart
  have hc : clausesOf (.ListComp elt gens scope pos) = gens := rfl
  rw [hc, hg]
  refine wpAny_ite ?_
  split
  · rename_i q
    exact absurd q (by simp)
  refine wpAny_bind (wpAny_askSetting (wpAny_ite ?_))
  split
  · first
      | exact wpAny_bind (wpAny_pure (wpAny_pure (And.intro rfl h0)))
      | exact wpAny_pure (And.intro rfl h0)
  · first
      | exact wpAny_bind (wpAny_rule (wpAny_bind (wpAny_standAt (wpAny_bind (wpAny_mono h (fun it' s' h' => wpAny_pure (And.intro rfl h')) fun _ _ x => x)))))
end
end Mine
namespace Mine
open PySem PySem.Calls PyProof.Rows

theorem setL_other : ∀ (is : List (Nat × Pos)) (σ : Sg) (vs : List V) (k : Nat), k ∉ is.map (·.1) → (setL σ is vs)[k]? = σ[k]?
  | [], _, _, _, _ => by simp [setL]
  | (i, _) :: is, _, [], _, _ => by simp [setL]
  | (i, p) :: is, σ, v :: vs, k, h => by
    simp only [setL]
    rw [setL_other is _ vs k (fun q => h (List.mem_cons_of_mem _ q)), List.getElem?_set_ne (fun q => h (by rw [q]; exact List.mem_cons_self))]
theorem setT_length {σ σ' : Sg} {t : Tg} {v : V} (e : setT σ t v = some σ') : σ'.length = σ.length := by
  cases t with
  | name i p => simp only [setT] at e; cases e; simp
  | tup is k p =>
    cases v <;> first | (simp only [setT] at e; cases e; done) | skip
    simp only [setT] at e
    split at e
    · cases e; exact setL_length _ _ _
    · cases e
theorem setT_other {σ σ' : Sg} {t : Tg} {v : V} (e : setT σ t v = some σ') {k : Nat} (h : k ∉ t.idx) : σ'[k]? = σ[k]? := by
  cases t with
  | name i p => simp only [setT] at e; cases e; exact List.getElem?_set_ne (fun q => h (by simp [Tg.idx, q]))
  | tup is k' p =>
    cases v <;> first | (simp only [setT] at e; cases e; done) | skip
    simp only [setT] at e
    split at e
    · cases e; exact setL_other _ _ _ _ h
    · cases e
theorem bindT_some {σ σ' : Sg} {t : Tg} {v : V} (e : bindT σ t v = some σ') : setT σ t v = some σ' ∧ (∀ i ∈ t.idx, i < σ.length) ∧ Less σ σ' := by
  unfold bindT at e
  split at e
  · rename_i h
    rw [List.all_eq_true] at h
    refine ⟨e, fun i hi => ?_, by rw [setT_length e]; exact Nat.le_refl _, fun i x k => ?_⟩
    · have := h i hi
      simp only [Bool.and_eq_true, decide_eq_true_eq] at this
      exact this.2
    · by_cases hm : i ∈ t.idx
      · have := h i hm
        simp only [Bool.and_eq_true, Option.isNone_iff_eq_none] at this
        have k' : (σ[i]?).join = some x := k
        rw [this.1] at k'; cases k'
      · show ((σ'[i]?).join) = some x
        rw [setT_other e hm]; exact k
  · cases e

theorem flatO_cons {f : V → Option (List V)} {v : V} {r out : List V} (e : flatO f (v :: r) = some out) : ∃ a b, f v = some a ∧ flatO f r = some b ∧ out = a ++ b := by
  simp only [flatO] at e
  obtain ⟨a, ea, e⟩ := bind_some' e
  obtain ⟨b, eb, rfl⟩ := map_some' e
  exact ⟨a, b, ea, eb, rfl⟩

structure AccAt (g : Heap) (O : Gh) (h : Heap) (D : Addr) (l : List V) : Prop where
  g0 : g.get? D = none
  ow : O.own D
  at' : ∃ ys, PlainL h D ys ∧ RepL O h l ys.toList
theorem AccAt.seq {g : Heap} {O : Gh} {h : Heap} {D : Addr} {l : List V} (a : AccAt g O h D l) : ∃ o its k, h.get? D = some o ∧ o.data = .seq its k :=
  let ⟨ys, ⟨o, n, ho, _, _, hd⟩, _⟩ := a.at'; ⟨o, ys, n, ho, hd⟩
theorem AccAt.move {g : Heap} {O O' : Gh} {h h' : Heap} {D : Addr} {l : List V} (a : AccAt g O h D l) (ow : O'.own = O.own) (S : Stab O O' h h') (k : ∀ o, h.get? D = some o → h'.get? D = some o) : AccAt g O' h' D l where
  g0 := a.g0
  ow := by rw [ow]; exact a.ow
  at' := let ⟨ys, ⟨o, n, ho, r⟩, hr⟩ := a.at'; ⟨ys, ⟨o, n, k o ho, r⟩, RepL.stab S _ _ hr⟩
theorem Mv.butI {O O' : Gh} {hb h h' : Heap} {I : Addr} (m : Mv O hb O' h) (hI : hb.get? I = none) (k : ButI I h h') : Mv O hb O' h' :=
  ⟨⟨m.stab.T, fun b o no e d => let q := m.stab.at' b o no e d; ⟨k b o (fun r => by rw [r, hI] at e; cases e) q.1, q.2⟩⟩, fun b o fs e d => k b o (fun r => by rw [r, hI] at e; cases e) (m.fld b o fs e d)⟩

section
variable {c : Cx} {sc : Scope} {nm : List Str} {n : Nat}

noncomputable def SndG (c : Cx) (sc : Scope) (cn : List Str) (n : Nat) (elt : Ex) (G : Gens) : Prop := ∀ env g A O s τ out acc D d gens scope pos Q E, Fr1 c sc cn n env g A → FInv env cn g O τ s.heap s.toks → evG c.Φ G (fun τ => evE c.Φ elt τ) τ = some out →
  AccAt g O s.heap D acc → acc.length + out.length ≤ 1000 → gens.drop (d + 1) = trG cn G →
  (∀ h' tk' O', O'.own = O.own → FInv env cn g O' τ h' tk' → Mv O s.heap O' h' → AccAt g O' h' D (acc ++ out) → Q () { s with heap := h', toks := tk' }) →
  BodyWp (model c.prog c.w) A (.ListComp (tr cn elt) gens scope pos) (tr cn elt) gens d (.ref D) env Q E s

theorem FInv.locAt {env : Env} {g h : Heap} {O : Gh} {σ : Sg} {tk : Nat} (F : FInv env nm g O σ h tk) : ∃ o es ep, h.get? env.locals = some o ∧ o.data = .dict es ep := let ⟨_, ⟨o, es, ep, e, d, _⟩, _⟩ := F.ns; ⟨o, es, ep, e, d⟩

/-- an object that is no dict and no cell is turned -/
theorem FInv.turn {env : Env} {g h h' : Heap} {O : Gh} {σ : Sg} {tk tk' : Nat} {I : Addr} (F : FInv env nm g O σ h tk) (hI : ∃ o, h.get? I = some o ∧ (∀ es ep, o.data ≠ .dict es ep) ∧ (∀ cv, o.data ≠ .cell cv)) (gI : g.get? I = none)
    (k : ButI I h h') (S : Stab O O h h') (al : O.own I → ∃ o, h'.get? I = some o) (le : tk ≤ tk') : FInv env nm g O σ h' tk' := by
  obtain ⟨oI, eI, n1, n2⟩ := hI
  refine F.move (fun b o e => k b o (fun q => ?_) (F.keep b o e)) S ⟨fun b hb => ?_, F.ok.tb.le le⟩ (fun o e => k _ o (fun q => ?_) e) fun i cc hi kd hc o e => k _ o (fun q => ?_) e
  · rw [q, gI] at e; cases e
  · by_cases q : b = I
    · rw [q]; exact al (q ▸ hb)
    · obtain ⟨o, e⟩ := F.ok.live b hb
      exact ⟨o, k b o q e⟩
  · obtain ⟨o', es, ep, e', d'⟩ := F.locAt
    rw [q, eI] at e'; cases e'
    exact n1 _ _ d'
  · obtain ⟨cv, ⟨o', e', d'⟩, _⟩ := F.cell i cc hi kd hc
    rw [q, eI] at e'; cases e'
    exact n2 _ d'

theorem nilG_snd {elt : Ex} (he : SndE c sc nm n elt) : SndG c sc nm n elt .nil := by
  intro env g A O s τ out acc D d gens scope pos Q E R F e a hl hg D'
  simp only [evG] at e
  obtain ⟨v, ev, rfl⟩ := map_some' e
  have hn : gens[d + 1]? = none := by
    have h2 : gens.drop (d + 1) = [] := hg
    exact List.getElem?_eq_none_iff.mpr (List.drop_eq_nil_iff.mp h2)
  unfold BodyWp
  rw [hn]
  refine he env g A O s τ v _ E R F ev fun va h1 tk1 O1 a1 r1 => ?_
  have F1 := F.adv a1
  have acc1 := a.move a1.own a1.stab (a1.kp D)
  obtain ⟨ys, hys, rys⟩ := acc1.at'
  refine list_append_plainL hys (fun h2 hl2 sb => ?_) (by rw [← rys.size, sizeLine_eq]; omega)
  have mv2 : Mv O1 h1 O1 h2 := Mv.ownList acc1.ow hys.isList sb
  obtain ⟨oD, its, k, eD, dD⟩ := acc1.seq
  refine D' h2 tk1 O1 a1.own (F1.turn ⟨oD, eD, (fun es ep q => by rw [dD] at q; cases q), fun cv q => by rw [dD] at q; cases q⟩ a.g0 (fun b o q e => (sb.2 b q).trans e) mv2.stab (fun _ => let ⟨o, _, e, _⟩ := hl2; ⟨o, e⟩) (Nat.le_refl _)) (a1.mv.trans mv2)
    ⟨a.g0, acc1.ow, _, hl2, ?_⟩
  rw [Array.toList_push]
  exact (RepL.stab mv2.stab _ _ rys).append (RepL.one (Rep.stab mv2.stab _ _ r1))

theorem isLoc_st {env : Env} {g : Heap} {i : Nat} (hs : env.scope = sc) (h : isLoc sc nm i = true) : Storable env nm g i := by
  unfold isLoc at h
  simp only [Bool.and_eq_true, decide_eq_true_eq] at h
  exact ⟨h.1, .inl (by show env.scope.names.lookup _ = _; rw [hs]; exact eq_of_beq h.2)⟩
theorem fold_tr (iter : Ex) (env : Env) (x : Value) : foldedSetIterable (tr nm iter) env x = pure x := by cases iter <;> rfl
theorem trG_head {G : Gens} {g' : Comprehension} (h : (trG nm G)[0]? = some g') : g'.is_async = 0 ∧ ∀ (env : Env) x, foldedSetIterable g'.iter env x = pure x := by
  cases G with
  | nil => cases h
  | cons t it tests rest =>
    cases h
    exact ⟨rfl, fun env x => fold_tr it env x⟩

theorem comp_loop {t : Tg} {iterE : PySem.Expr} {tests : Exs} {rest : Gens} {elt : Ex} (hts : SndTs c sc nm n tests) (hr : SndG c sc nm n elt rest) (ht : t.idx.all (isLoc sc nm) = true)
    {env : Env} {g hb : Heap} {A : Around} {O : Gh} {s : Shared} {τ : Sg} {vs out acc : List V} {D I : Addr} {d : Nat} {gens : List Comprehension} {scope : Scope} {pos : Pos} {fp : List Addr} {P : Nat → Value → Prop} {St : Nat → Heap → Prop} {R' : Result → Shared → Prop}
    (R : Fr1 c sc nm n env g A) (F : FInv env nm g O τ s.heap s.toks) (T : It c.prog c.w A O s.heap vs I fp P St) (gI : g.get? I = none) (nI : ¬ O.own I) (kb : KeepsH hb s.heap) (bI : hb.get? I = none)
    (e : flatO (fun x => (bindT τ t x).bind fun τ => (evTs c.Φ tests τ).bind fun ok => if ok then evG c.Φ rest (fun τ => evE c.Φ elt τ) τ else some []) vs = some out)
    (a : AccAt g O s.heap D acc) (hl : acc.length + out.length ≤ 1000) (hg : gens.drop d = ⟨trT nm t, iterE, trs nm tests, 0⟩ :: trG nm rest)
    (post : ∀ h' tk' O', O'.own = O.own → FInv env nm g O' τ h' tk' → Mv O hb O' h' → AccAt g O' h' D (acc ++ out) → R' (.ok .next) { s with heap := h', toks := tk' }) :
    codeAny (model c.prog c.w) A (.compLoop (.ListComp (tr nm elt) gens scope pos) d (.ref I) (.ref D) env) R' s := by
  have hgd : gens[d]? = some ⟨trT nm t, iterE, trs nm tests, 0⟩ := by
    have := congrArg (·[0]?) hg
    simpa using this
  have hgd1 : gens.drop (d + 1) = trG nm rest := by
    have := congrArg (·.drop 1) hg
    simpa [List.drop_drop, Nat.add_comm] using this
  have hasync : ∀ g', gens[d + 1]? = some g' → g'.is_async = 0 ∧ ∀ x, foldedSetIterable g'.iter env x = pure x := by
    intro g' h
    have h0 : (gens.drop (d + 1))[0]? = some g' := by simpa using h
    rw [hgd1] at h0
    obtain ⟨q1, q2⟩ := trG_head h0
    exact ⟨q1, q2 env⟩
  refine codeAny_loop rfl (fun k s' => ∃ i h tk O' done rest', s' = { s with heap := h, toks := tk } ∧ k = vs.length - i ∧ i ≤ vs.length ∧ O'.own = O.own ∧ St i h ∧ Stab O O' s.heap h ∧ Mv O hb O' h ∧ FInv env nm g O' τ h tk ∧ AccAt g O' h D (acc ++ done) ∧
    flatO (fun x => (bindT τ t x).bind fun τ => (evTs c.Φ tests τ).bind fun ok => if ok then evG c.Φ rest (fun τ => evE c.Φ elt τ) τ else some []) (vs.drop i) = some rest' ∧ done ++ rest' = out) ?_ vs.length
    ⟨0, s.heap, s.toks, O, [], out, rfl, rfl, Nat.zero_le _, rfl, T.st, .refl _ _, .keeps kb, F, by simpa using a, by simpa using e, rfl⟩
  rintro k s' ⟨i, h, tk, O', done, rest', rfl, rfl, hi, own', st, S, mv, F', a', e', hout⟩
  refine wpAny_noted ?_
  refine compTurn_wp hgd hasync ?_
  obtain ⟨oI, fsI, TI, eI, dI, cI, qI⟩ := T.iobj i h st
  have hIfield : ∃ o, h.get? I = some o ∧ (∀ es ep, o.data ≠ .dict es ep) ∧ (∀ cv, o.data ≠ .cell cv) := ⟨oI, eI, (fun es ep q => by rw [dI] at q; cases q), fun cv q => by rw [dI] at q; cases q⟩
  have hDI : D ≠ I := fun q => by
    obtain ⟨oD, its, k, eD, dD⟩ := a'.seq
    rw [q, eI] at eD; cases eD
    rw [dI] at dD; cases dD
  by_cases hlt : i < vs.length
  · have hx : vs[i]? = some vs[i] := by simp [hlt]
    have hdrop : vs.drop i = vs[i] :: vs.drop (i + 1) := (List.getElem_cons_drop (h := hlt)).symm
    rw [hdrop] at e'
    obtain ⟨p, q, ep, eq, rfl⟩ := flatO_cons e'
    obtain ⟨τ1, et, ep⟩ := bind_some' ep
    obtain ⟨ok, eok, ep⟩ := bind_some' ep
    obtain ⟨es, hidx, hless⟩ := bindT_some et
    refine T.next (s := { s with heap := h, toks := tk }) st S hx fun u h1 tk1 le1 st1 r1 kb1 S1 => ?_
    have F1 : FInv env nm g O' τ h1 tk1 := F'.turn hIfield gI kb1 S1 (fun _ => let ⟨o, _, _, e, _⟩ := T.iobj (i + 1) h1 st1; ⟨o, e⟩) le1
    refine lot_sound (s := { s with heap := h1, toks := tk1 }) (T.iobj (i + 1) h1 st1) ?_
    refine assignT_sound (s := { s with heap := h1, toks := tk1 }) R.R.hh R.W F1 es (fun j hj => ⟨isLoc_st R.sc (List.all_eq_true.mp ht j hj), hidx j hj⟩) r1 fun h2 tk2 k2 _ F2 => ?_
    have st2 : St (i + 1) h2 := T.stay st1 (S.trans S1) (Mv.k2 (O := O') k2)
    have a2 : AccAt g O' h2 D (acc ++ done) := (a'.move rfl S1 (fun o e => kb1 D o hDI e)).move rfl k2.stab (fun o e => k2 D o e (by
      obtain ⟨oD, its, k, eD, dD⟩ := (a'.move rfl S1 (fun o e => kb1 D o hDI e)).seq
      rw [e] at eD; cases eD
      exact .inr ⟨_, _, dD⟩))
    have mv2 : Mv O hb O' h2 := (mv.butI bI kb1).trans (.k2 k2)
    refine hts env g A O' { s with heap := h2, toks := tk2 } τ1 ok _ _ R F2 eok fun h3 tk3 O3 a3 => ?_
    have st3 : St (i + 1) h3 := T.stay st2 ((S.trans S1).trans k2.stab) a3.mv
    have F3 := F2.adv a3
    have acc3 := a2.move a3.own a3.stab (a3.kp D)
    have S3 := (((S.trans S1).trans k2.stab).trans a3.stab)
    have hlen : done.length + (p.length + q.length) = out.length := by rw [← hout]; simp
    cases ok with
    | false =>
      have ep' : p = [] := by simpa using ep.symm
      subst ep'
      rw [if_neg (by simp)]
      exact ⟨rfl, _, by omega, i + 1, h3, tk3, O3, done, q, rfl, rfl, hlt, a3.own.trans own', st3, S3, mv2.trans a3.mv, F3.less hless, acc3, eq, by simpa using hout⟩
    | true =>
      have ep' : evG c.Φ rest (fun τ => evE c.Φ elt τ) τ1 = some p := by simpa using ep
      rw [if_pos rfl]
      refine hr env g A O3 { s with heap := h3, toks := tk3 } τ1 p (acc ++ done) D d gens scope pos _ _ R F3 ep' acc3 (by simp; omega) hgd1 fun h4 tk4 O4 own4 F4 mv4 acc4 => ?_
      refine ⟨rfl, _, by omega, i + 1, h4, tk4, O4, done ++ p, q, rfl, rfl, hlt, own4.trans (a3.own.trans own'), T.stay st3 S3 mv4, S3.trans mv4.stab, (mv2.trans a3.mv).trans mv4, F4.less hless, by simpa [List.append_assoc] using acc4, eq, by simpa using hout⟩
  · have hieq : i = vs.length := by omega
    subst hieq
    rw [List.drop_length] at e'
    cases e'
    refine T.stop (s := { s with heap := h, toks := tk }) (O' := O') st fun h1 tk1 le1 kb1 S1 => ?_
    have hout' : done = out := by simpa using hout
    rw [hout'] at a'
    have al : O'.own I → ∃ o, h1.get? I = some o := fun q => absurd (own' ▸ q) nI
    exact post h1 tk1 O' own' (F'.turn hIfield gI kb1 S1 al le1) (mv.butI bI kb1) (a'.move rfl S1 (fun o e => kb1 D o hDI e))
end
end Mine
namespace Mine
open PySem PySem.Calls PyProof.Rows
section
variable {c : Cx} {sc : Scope} {nm : List Str} {n : Nat}

theorem none_of_ge {g h : Heap} {a : Addr} (k : KeepsH g h) (ha : h.objs.size ≤ a) : g.get? a = none := by
  cases e : g.get? a with
  | none => rfl
  | some o => exact absurd (Heap.lt_size (k a o e)) (Nat.not_lt.mpr ha)

theorem Room.mark {A : Around} {n : Nat} (R : Room A n) : Room (A.mark none) n := by rw [Around.mark_none]; exact R

theorem consG_snd {t : Tg} {it : Ex} {tests : Exs} {rest : Gens} {elt : Ex} (hi : SndE c sc nm n it) (hts : SndTs c sc nm n tests) (hr : SndG c sc nm n elt rest) (ht : t.idx.all (isLoc sc nm) = true) : SndG c sc nm n elt (.cons t it tests rest) := by
  intro env g A O s τ out acc D d gens scope pos Q E R F e a hl hg post
  simp only [evG] at e
  obtain ⟨v, ev, e⟩ := bind_some' e
  obtain ⟨vs, evs, e⟩ := bind_some' e
  split at e
  · have hg1 : gens[d + 1]? = some ⟨trT nm t, tr nm it, trs nm tests, 0⟩ := by
      have := congrArg (·[0]?) hg
      simpa [trG] using this
    unfold BodyWp
    rw [hg1]
    dsimp only
    refine hi env g A O s τ v _ E R F ev fun va h1 tk1 O1 a1 r1 => ?_
    have F1 := F.adv a1
    refine pyIter_sound (s := { s with heap := h1, toks := tk1 }) R.R.hh r1 evs fun I h2 fp P St k2 hI T => ?_
    have F2 := F1.keeps k2 (Nat.le_refl _)
    have nI : ¬ O1.own I := F1.ok.live.new hI
    have acc2 : AccAt g O1 h2 D acc := a.move a1.own (a1.stab.trans (.keeps k2)) (fun o e => k2 D o (a1.kp D o e))
    refine wpAny_runOwn ?_
    rw [Around.mark_none]
    have loop : ∀ (R' : Result → Shared → Prop), (∀ h' tk' O', O'.own = O1.own → FInv env nm g O' τ h' tk' → Mv O1 h1 O' h' → AccAt g O' h' D (acc ++ out) → R' (.ok .next) { s with heap := h', toks := tk' }) →
        codeAny (model c.prog c.w) A (.compLoop (.ListComp (tr nm elt) gens scope pos) (d + 1) (.ref I) (.ref D) env) R' { s with heap := h2, toks := tk1 } := fun R' hR' =>
      comp_loop (s := { s with heap := h2, toks := tk1 }) (iterE := tr nm it) hts hr ht R F2 T (none_of_ge F1.keep hI) nI k2 (none_of_ge (KeepsH.refl _) hI) e acc2 hl (by rw [hg]; rfl) hR'
    have fin : ∀ h' tk' O', O'.own = O1.own → FInv env nm g O' τ h' tk' → Mv O1 h1 O' h' → AccAt g O' h' D (acc ++ out) → Q () { s with heap := h', toks := tk' } := fun h' tk' O' ow F' mv' a' => post h' tk' O' (ow.trans a1.own) F' (a1.mv.trans mv') a'
    exact codeAny_compStart_at hg1 (loop _ fin) (T.walks.self 0 { s with heap := h2, toks := tk1 } _ _ T.st (loop _ fin))
  · cases e

/-! a comprehension's frame -/
theorem lookup_relabel (cond : Str → NameKind → Bool) : ∀ (names : List (Str × NameKind)) (x : Str), (names.map fun (n, k) => if cond n k then (n, NameKind.cell) else (n, k)).lookup x = (names.lookup x).map fun k => if cond x k then .cell else k
  | [], x => rfl
  | (m, k) :: r, x => by
    have ih := lookup_relabel cond r x
    show List.lookup x ((if cond m k = true then (m, NameKind.cell) else (m, k)) :: _) = _
    by_cases hc : cond m k = true
    · rw [if_pos hc]
      cases hx : x == m with
      | true =>
        have := eq_of_beq hx
        subst this
        simp [hc]
      | false => simp only [List.lookup_cons, hx]; exact ih
    · rw [if_neg hc]
      cases hx : x == m with
      | true =>
        have := eq_of_beq hx
        subst this
        simp [hc]
      | false => simp only [List.lookup_cons, hx]; exact ih

theorem closure_go (env : Env) : ∀ (names : List (Str × NameKind)) (cs : List (Str × Addr)), (∀ x ∈ names, x.2 = .free → ∃ a, env.cells.lookup x.1 = some a) →
    ∃ cl, (forIn names cs fun x r => (if (x.2 == .free) = true then do let a ← cellOf env x.1; pure (ForInStep.yield ((x.1, a) :: r)) else pure (ForInStep.yield r) : Sem _)) = pure cl ∧
      (∀ x a, cl.lookup x = some a → cs.lookup x = some a ∨ env.cells.lookup x = some a) ∧ (∀ x a, cs.lookup x = some a → ∃ a', cl.lookup x = some a') ∧ ∀ x ∈ names, x.2 = .free → ∃ a, cl.lookup x.1 = some a
  | [], cs, _ => ⟨cs, by rw [List.forIn_nil], fun x a h => .inl h, fun x a h => ⟨a, h⟩, fun x h => nomatch h⟩
  | (m, k) :: r, cs, h => by
    rw [List.forIn_cons]
    by_cases hk : (k == NameKind.free) = true
    · obtain ⟨a, ha⟩ := h (m, k) List.mem_cons_self (eq_of_beq hk)
      obtain ⟨cl, h1, h2, h3, h4⟩ := closure_go env r ((m, a) :: cs) fun x hx => h x (List.mem_cons_of_mem _ hx)
      have ha' : env.cells.lookup m = some a := ha
      refine ⟨cl, ?_, fun x b hb => ?_, fun x b hb => ?_, fun x hx hf => ?_⟩
      · have e1 : cellOf env m = pure a := by unfold cellOf; rw [ha']
        simp only [hk, if_true, e1, pure_bind]
        exact h1
      · rcases h2 x b hb with q | q
        · cases hx : x == m with
          | true => rw [List.lookup_cons, hx] at q; cases q; rw [eq_of_beq hx]; exact .inr ha'
          | false => rw [List.lookup_cons, hx] at q; exact .inl q
        · exact .inr q
      · cases hx : x == m with
        | true => exact h3 x a (by rw [List.lookup_cons, hx])
        | false => exact h3 x b (by rw [List.lookup_cons, hx]; exact hb)
      · rcases List.mem_cons.mp hx with rfl | hx
        · exact h3 m a (by rw [List.lookup_cons, beq_self_eq_true])
        · exact h4 x hx hf
    · obtain ⟨cl, h1, h2, h3, h4⟩ := closure_go env r cs fun x hx => h x (List.mem_cons_of_mem _ hx)
      refine ⟨cl, ?_, h2, h3, fun x hx hf => ?_⟩
      · simp only [hk]
        exact h1
      · rcases List.mem_cons.mp hx with rfl | hx
        · have hf' : k = NameKind.free := hf
          exact absurd (by rw [hf']; rfl) hk
        · exact h4 x hx hf
theorem closure_ok {scope : Scope} {env : Env} (h : ∀ x ∈ scope.names, x.2 = .free → ∃ a, env.cells.lookup x.1 = some a) :
    ∃ cl, closureFor scope env = pure cl ∧ (∀ x a, cl.lookup x = some a → env.cells.lookup x = some a) ∧ ∀ x ∈ scope.names, x.2 = .free → ∃ a, cl.lookup x.1 = some a := by
  obtain ⟨cl, h1, h2, _, h4⟩ := closure_go env scope.names [] h
  refine ⟨cl, ?_, fun x a hx => (h2 x a hx).resolve_left (fun q => by cases q), h4⟩
  unfold closureFor
  exact (bind_pure _).trans h1
end
end Mine
namespace Mine
open PySem PySem.Calls PyProof.Rows

theorem It.lift {prog : Program} {w : World} {A : Around} {O O₂ : Gh} {h h' : Heap} {vs : List V} {I : Addr} {fp : List Addr} {P : Nat → Value → Prop} {St : Nat → Heap → Prop} (T : It prog w A O h vs I fp P St) (k : KeepsH h h') (S : Stab O O₂ h h')
    (ow : ∀ b o, h.get? b = some o → ¬ O.own b → ¬ O₂.own b) : It prog w A O₂ h' vs I fp P St where
  walks := T.walks
  st := T.walks.frame 0 h h' T.st fun b _ o e => k b o e
  fpm := fun b hb => (T.fpm b hb).imp id fun ⟨o, its, n, e, d, no⟩ => ⟨o, its, n, k b o e, d, ow b o e no⟩
  iobj := T.iobj
  item := fun i u x O' h2 hp hx S2 => T.item i u x O' h2 hp hx (S.trans S2)

section
variable {c : Cx} {sc : Scope} {nm : List Str} {n : Nat}

/-- the names of a comprehension, from the frame around -/
noncomputable def inner (cn : List Str) (fr : List Nat) (σ : Sg) : Sg := List.replicate (cn.length - fr.length) none ++ fr.map fun j => (σ[j]?).join
theorem inner_known {cn : List Str} {fr : List Nat} {σ : Sg} {i : Nat} {v : V} (k : known (inner cn fr σ) i v) : ∃ q j, i = cn.length - fr.length + q ∧ fr[q]? = some j ∧ known σ j v := by
  unfold known inner at k
  by_cases h : i < cn.length - fr.length
  · rw [List.getElem?_append_left (by simpa using h)] at k
    simp [h] at k
  · rw [List.getElem?_append_right (by simpa using h)] at k
    simp only [List.length_replicate, List.getElem?_map] at k
    cases hj : fr[i - (cn.length - fr.length)]? with
    | none => rw [hj] at k; cases k
    | some j => rw [hj] at k; exact ⟨i - (cn.length - fr.length), j, by omega, hj, by simpa using k⟩

structure WfC (sc : Scope) (nm : List Str) (cn : List Str) (fr : List Nat) (sc' : Scope) : Prop where
  k1 : sc.kind = .function
  k2 : sc'.kind = .function
  nod : cn.Nodup
  le : fr.length ≤ cn.length
  nocell : ∀ x ∈ sc'.names, x.2 ≠ .cell
  locs : ∀ x ∈ sc'.names, x.2 = .local → sc'.names.lookup x.1 = some .local
  dbg : ∀ i, i < cn.length → (nmAt cn i == ("__debug__" : Str)) = false
  loc : ∀ i, i < cn.length - fr.length → sc'.names.lookup (nmAt cn i) = some .local
  free : ∀ q j, fr[q]? = some j → j < nm.length ∧ nmAt cn (cn.length - fr.length + q) = nmAt nm j ∧ sc'.names.lookup (nmAt nm j) = some .free ∧ sc.names.lookup (nmAt nm j) = some .cell
  frees : ∀ x ∈ sc'.names, x.2 = .free → ∃ j, j < nm.length ∧ x.1 = nmAt nm j ∧ sc.names.lookup (nmAt nm j) = some .cell

theorem nodup_inj {l : List Str} (h : l.Nodup) {i j : Nat} (hi : i < l.length) (hj : j < l.length) (q : l[i] = l[j]) : i = j := by
  rcases Nat.lt_trichotomy i j with k | k | k
  · exact absurd q (List.pairwise_iff_getElem.mp h i j hi hj k)
  · exact k
  · exact absurd q.symm (List.pairwise_iff_getElem.mp h j i hj hi k)
theorem nmAt_mem {cn : List Str} {i : Nat} (h : i < cn.length) : nmAt cn i = cn[i] := by simp [nmAt, h]
theorem wfC_is {cn : List Str} {fr : List Nat} {sc' : Scope} (h : wfC sc nm cn fr sc' = true) : WfC sc nm cn fr sc' := by
  unfold wfC at h
  simp only [Bool.and_eq_true, decide_eq_true_eq, List.all_eq_true, List.mem_range, beq_iff_eq, bne_iff_ne, Bool.or_eq_true, ne_eq] at h
  obtain ⟨⟨⟨⟨⟨⟨⟨⟨⟨⟨h1, h2⟩, h3⟩, h4⟩, h5⟩, h6⟩, h7⟩, h8⟩, h9⟩, h10⟩, h11⟩ := h
  have hfree : ∀ q j, fr[q]? = some j → j < nm.length ∧ nmAt cn (cn.length - fr.length + q) = nmAt nm j ∧ sc'.names.lookup (nmAt nm j) = some .free ∧ sc.names.lookup (nmAt nm j) = some .cell := by
    intro q j hq
    have hlt := (List.getElem?_eq_some_iff.mp hq).1
    have e : fr.getD q 0 = j := by simp [List.getD, hq]
    have := h9 q hlt
    rw [e] at this
    exact ⟨this.1.1.1, this.1.1.2, this.1.2, this.2⟩
  refine ⟨h1, h2, h3, h4, h5, fun x hx hl => (h6 x hx).resolve_left (fun q => q hl), fun i hi => ?_, h8, hfree, fun x hx hf => ?_⟩
  · rw [nmAt_mem hi]
    exact beq_eq_false_iff_ne.mpr (h7 _ (List.getElem_mem hi))
  · obtain ⟨q1, q2⟩ := (h10 x hx).resolve_left (fun q => q hf)
    have hm : x.1 ∈ cn := by simpa using q2
    obtain ⟨i, hi, ei⟩ := List.mem_iff_getElem.mp hm
    by_cases hlt : i < cn.length - fr.length
    · have e1 := h8 i hlt
      rw [nmAt_mem hi, ei] at e1
      have : sc'.names.lookup x.1 = some .free := by
        have hn : (sc'.names.map (·.1)).Nodup := h11
        clear h9 h10 h8 h7 h6 h5 h11 hfree
        revert hn hx e1
        generalize sc'.names = names
        intro hx e1 hn
        induction names with
        | nil => cases hx
        | cons y r ih =>
          obtain ⟨m, k⟩ := y
          rw [List.map_cons, List.nodup_cons] at hn
          rcases List.mem_cons.mp hx with rfl | hx
          · have hf' : k = .free := hf
            rw [List.lookup_cons, beq_self_eq_true, hf']
          · have hne : (x.1 == m) = false := beq_eq_false_iff_ne.mpr fun q => hn.1 (by rw [← q]; exact List.mem_map.mpr ⟨x, hx, rfl⟩)
            rw [List.lookup_cons, hne] at e1 ⊢
            exact ih hx e1 hn.2
      rw [this] at e1; cases e1
    · obtain ⟨j, hj⟩ : ∃ j, fr[i - (cn.length - fr.length)]? = some j := ⟨fr[i - (cn.length - fr.length)]'(by omega), by simp⟩
      obtain ⟨f1, f2, _, f4⟩ := hfree _ j hj
      rw [show cn.length - fr.length + (i - (cn.length - fr.length)) = i by omega, nmAt_mem hi, ei] at f2
      exact ⟨j, f1, f2, f4⟩

theorem comp_core {elt : Ex} {t : Tg} {it : Ex} {tests : Exs} {rest : Gens} {cn : List Str} {fr : List Nat} {sc' : Scope} {p : Pos} (wc : WfC sc nm cn fr sc') (hi : SndE c sc nm n it) (hts : SndTs c (relabelS sc' sc) cn n tests) (hr : SndG c (relabelS sc' sc) cn n elt rest)
    (ht : t.idx.all (isLoc (relabelS sc' sc) cn) = true) {env : Env} {g : Heap} {A : Around} {O : Gh} {s : Shared} {σ : Sg} {v : V} {E : Value → Shared → Prop} (R : Fr1 c sc nm n env g A) (F : FInv env nm g O σ s.heap s.toks)
    (e : evE c.Φ (.comp elt t it tests rest cn fr sc' p) σ = some v) (use : Option (Value → Sem Unit)) {Q : Value → Shared → Prop} {RR : Value → Addr → Result → Shared → Prop} (hRR : RR = fun acc C => compPost (model c.prog c.w) A E use Q acc C)
    (post : ∀ D C h' tk' G' m, Adv O s.heap G' h' tk' → h'.Ns C m → s.heap.get? C = none → (∀ o, h'.get? D = some o → C ≠ D) → Rep G' h' v (.ref D) → RR (.ref D) C (.ok .next) { s with heap := h', toks := tk' }) :
    wpAny (model c.prog c.w) A (comprehension (.ListComp (tr cn elt) (⟨trT cn t, tr nm it, trs cn tests, 0⟩ :: trG cn rest) sc' p) sc' env (firstIterPos (⟨trT cn t, tr nm it, trs cn tests, 0⟩ :: trG cn rest) p) (newList []) false (eval (tr nm it) env) use) Q E s := by
  simp only [evE] at e
  obtain ⟨v₁, ev, e⟩ := bind_some' e
  obtain ⟨vs, evs, e⟩ := bind_some' e
  obtain ⟨out, eo, e⟩ := bind_some' e
  split at e
  case isFalse => cases e
  rename_i hle
  cases e
  have hkind : ∀ x ∈ sc'.names, x.2 = .free → ∃ a, env.cells.lookup x.1 = some a := fun x hx hf => by
    obtain ⟨j, hj, ex, hc⟩ := wc.frees x hx hf
    rcases R.W.kinds j hj with kd | ⟨_, a, ha⟩
    · have kd' : env.scope.names.lookup (nmAt nm j) = some .local := kd
      rw [R.sc, hc] at kd'; cases kd'
    · exact ⟨a, by rw [ex]; exact ha⟩
  obtain ⟨cl, hclos, hcl, hclf⟩ := closure_ok hkind
  refine wpAny_comprehension_free (use := use) rfl (fun x => fold_tr it env x) hclos wc.k2 wc.locs ?_
  refine hi env g A O s σ v₁ _ E R F ev fun va h1 tk1 O1 a1 r1 => ?_
  have F1 := F.adv a1
  refine pyIter_sound (s := { s with heap := h1, toks := tk1 }) R.R.hh r1 evs fun I h2 fp P St k2 hI T => ?_
  refine wpAny_newObj_type (wpAny_newFunctionEnv wc.nocell (by intro y hy; simp at hy) (fun h4 hns hsb => ?_) wc.k2)
  dsimp only at hns hsb ⊢
  generalize hH3 : h2.push { cls := .type "list", dict := none, data := .seq ([] : List Value).toArray } = h3 at hns hsb ⊢
  have hC : h3.objs.size = h2.objs.size + 1 := by rw [← hH3, Heap.size_push]
  have hle12 : h1.objs.size ≤ h2.objs.size := Nat.le_of_lt (Nat.lt_of_le_of_lt hI (by obtain ⟨o, _, _, q, _⟩ := T.iobj 0 h2 T.st; exact Heap.lt_size q))
  have hDC : h2.objs.size ≠ h3.objs.size := by omega
  have k3 : KeepsH h2 h3 := hH3 ▸ KeepsH.push _ _
  have k4 : KeepsH h3 h4 := fun b o q => hsb.extBut b o (Nat.ne_of_lt (Heap.lt_size q)) (Heap.get?_push_of_some _ q)
  have k24 := k3.trans k4
  have hD4 : PlainL h4 h2.objs.size #[] := by
    refine ⟨{ cls := .type "list", dict := none, data := .seq ([] : List Value).toArray }, _, k4 _ _ ?_, rfl, rfl, rfl⟩
    rw [← hH3]
    exact Heap.get?_push_size _ rfl
  have F2 := F1.keeps k2 (Nat.le_refl _)
  have own2 : ∀ b o, h2.get? b = some o → ¬ O1.own b → ¬ (O1.own b ∨ b = h2.objs.size) := fun b o q no => fun z => z.elim no fun z => by rw [z] at q; exact absurd (Heap.lt_size q) (Nat.lt_irrefl _)
  -- the ghost in the comprehension
  have S24 : Stab O1 ⟨fun b => O1.own b ∨ b = h2.objs.size, O1.T⟩ h2 h4 := ⟨fun _ _ q => q, fun b o no q _ => ⟨k24 b o q, own2 b o q no⟩⟩
  have T4 := T.lift k24 S24 own2
  have nI : ¬ O1.own I := F1.ok.live.new hI
  have hIlt : I < h2.objs.size := by obtain ⟨o, _, _, q, _⟩ := T.iobj 0 h2 T.st; exact Heap.lt_size q
  have ok4 : Ok ⟨fun b => O1.own b ∨ b = h2.objs.size, O1.T⟩ h4 tk1 := ⟨fun b hb => by
    rcases hb with hb | rfl
    · obtain ⟨o, q⟩ := F2.ok.live b hb
      exact ⟨o, k24 b o q⟩
    · obtain ⟨o, _, q, _⟩ := hD4; exact ⟨o, q⟩, F2.ok.tb⟩
  have klook : ∀ x, (relabelS sc' sc).names.lookup x = (sc'.names.lookup x).map fun k => if (k == .free && sc.kind == .function && sc.names.lookup x == some .cell) then .cell else k :=
    fun x => lookup_relabel (fun n k => k == .free && sc.kind == .function && sc.names.lookup n == some .cell) sc'.names x
  have kloc : ∀ i, i < cn.length - fr.length → (relabelS sc' sc).names.lookup (nmAt cn i) = some .local := fun i h => by
    rw [klook, wc.loc i h]; rfl
  have kfree : ∀ q j, fr[q]? = some j → (relabelS sc' sc).names.lookup (nmAt cn (cn.length - fr.length + q)) = some .cell := fun q j hq => by
    obtain ⟨_, f2, f3, f4⟩ := wc.free q j hq
    rw [klook, f2, f3, f4, wc.k1]; rfl
  have hsc : (compEnvC sc' cl h3.objs.size env).scope = relabelS sc' sc := by show relabel sc' env = _; rw [relabel_eq, R.sc]
  have kcell : ∀ i, i < cn.length → (compEnvC sc' cl h3.objs.size env).kindOf (nmAt cn i) = some .cell → ∃ q j, i = cn.length - fr.length + q ∧ fr[q]? = some j := fun i hi kd => by
    by_cases h : i < cn.length - fr.length
    · have kd' : (compEnvC sc' cl h3.objs.size env).scope.names.lookup (nmAt cn i) = some .cell := kd
      rw [hsc, kloc i h] at kd'; cases kd'
    · refine ⟨i - (cn.length - fr.length), fr[i - (cn.length - fr.length)]'(by omega), by omega, by simp⟩
  have hcl2 : ∀ q j, fr[q]? = some j → ∀ a, cl.lookup (nmAt cn (cn.length - fr.length + q)) = some a → env.cells.lookup (nmAt nm j) = some a := fun q j hq a ha => by
    have := hcl _ a ha
    rw [(wc.free q j hq).2.1] at this; exact this
  have hcl3 : ∀ q j, fr[q]? = some j → ∃ a, cl.lookup (nmAt cn (cn.length - fr.length + q)) = some a := fun q j hq => by
    obtain ⟨_, f2, f3, f4⟩ := wc.free q j hq
    rw [f2]
    have hm : (nmAt nm j, NameKind.free) ∈ sc'.names := by
      clear hRR post klook kloc kfree hsc kcell hcl2
      revert f3
      generalize sc'.names = names
      intro f3
      induction names with
      | nil => cases f3
      | cons y r ih =>
        obtain ⟨m, k⟩ := y
        cases hx : nmAt nm j == m with
        | true => rw [List.lookup_cons, hx] at f3; cases f3; rw [eq_of_beq hx]; exact .head _
        | false => rw [List.lookup_cons, hx] at f3; exact List.mem_cons_of_mem _ (ih f3)
    exact hclf _ hm rfl
  have kout : ∀ q j, fr[q]? = some j → env.kindOf (nmAt nm j) = some .cell := fun q j hq => by
    show env.scope.names.lookup _ = _
    rw [R.sc]; exact (wc.free q j hq).2.2.2
  have inj : ∀ i j, i < cn.length → j < cn.length → nmAt cn i = nmAt cn j → i = j := fun i j h1 h2 q => by
    rw [nmAt_mem h1, nmAt_mem h2] at q
    exact nodup_inj wc.nod h1 h2 q
  have W4 : FWf (compEnvC sc' cl h3.objs.size env) cn h1 := {
    kind := by rw [hsc]; exact wc.k2
    glob := R.W.glob
    blt := R.W.blt
    kinds := fun i hi => by
      by_cases h : i < cn.length - fr.length
      · exact .inl (by show (compEnvC sc' cl h3.objs.size env).scope.names.lookup _ = _; rw [hsc]; exact kloc i h)
      · have hq : fr[i - (cn.length - fr.length)]? = some (fr[i - (cn.length - fr.length)]'(by omega)) := by simp
        have := hcl3 _ _ hq
        have k := kfree _ _ hq
        rw [show cn.length - fr.length + (i - (cn.length - fr.length)) = i by omega] at this k
        exact .inr ⟨by show (compEnvC sc' cl h3.objs.size env).scope.names.lookup _ = _; rw [hsc]; exact k, this⟩
    inj := inj
    dbg := wc.dbg
    apart := fun i j a h1 h2 kd1 kd2 e1 e2 => by
      obtain ⟨q1, j1, rfl, hj1⟩ := kcell i h1 kd1
      obtain ⟨q2, j2, rfl, hj2⟩ := kcell j h2 kd2
      have := R.W.apart j1 j2 a (wc.free _ _ hj1).1 (wc.free _ _ hj2).1 (kout _ _ hj1) (kout _ _ hj2) (hcl2 _ _ hj1 a e1) (hcl2 _ _ hj2 a e2)
      subst this
      exact inj _ _ h1 h2 (by rw [(wc.free _ _ hj1).2.1, (wc.free _ _ hj2).2.1])
    newL := none_of_ge k2 (by show h2.objs.size ≤ h3.objs.size; omega) }
  have F4 : FInv (compEnvC sc' cl h3.objs.size env) cn h1 ⟨fun b => O1.own b ∨ b = h2.objs.size, O1.T⟩ (inner cn fr σ) h4 tk1 := {
    keep := k2.trans k24
    len := by simp only [inner, List.length_append, List.length_replicate, List.length_map]; have := wc.le; omega
    ok := ok4
    ns := ⟨_, hns, fun i x kn kd => by
      obtain ⟨q, j, rfl, hj, _⟩ := inner_known kn
      have kd' : (compEnvC sc' cl h3.objs.size env).scope.names.lookup _ = some NameKind.local := kd
      rw [hsc, kfree q j hj] at kd'; cases kd'⟩
    cell := fun i a hi kd ha => by
      obtain ⟨q, j, rfl, hj⟩ := kcell i hi kd
      obtain ⟨cv, hcv, hv⟩ := F2.cell j a (wc.free _ _ hj).1 (kout _ _ hj) (hcl2 _ _ hj a ha)
      refine ⟨cv, hcv.keeps k24, fun x kn => ?_⟩
      obtain ⟨q', j', e', hj', kn'⟩ := inner_known kn
      have : q' = q := by omega
      subst this
      rw [hj] at hj'; cases hj'
      obtain ⟨val, ec, rv⟩ := hv x kn'
      exact ⟨val, ec, Rep.stab S24 _ _ rv⟩ }
  have R4 : Fr1 c (relabelS sc' sc) cn n (compEnvC sc' cl h3.objs.size env) h1 A := ⟨W4, hsc, R.R, R.B.keeps (F.keep.trans a1.kp)⟩
  have acc4 : AccAt h1 ⟨fun b => O1.own b ∨ b = h2.objs.size, O1.T⟩ h4 h2.objs.size [] := ⟨none_of_ge k2 (Nat.le_refl _), .inr rfl, #[], hD4, rfl⟩
  have nI4 : ¬ (O1.own I ∨ I = h2.objs.size) := fun z => z.elim nI fun z => absurd z (Nat.ne_of_lt hIlt)
  have loop : codeAny (model c.prog c.w) A (.compLoop (.ListComp (tr cn elt) (⟨trT cn t, tr nm it, trs cn tests, 0⟩ :: trG cn rest) sc' p) 0 (.ref I) (.ref h2.objs.size) (compEnvC sc' cl h3.objs.size env)) (RR (.ref h2.objs.size) h3.objs.size)
      { s with heap := h4, toks := tk1 } := by
    refine comp_loop (s := { s with heap := h4, toks := tk1 }) (iterE := tr nm it) hts hr ht R4 F4 T4 (none_of_ge (KeepsH.refl _) hI) nI4 (k2.trans k24) (none_of_ge (KeepsH.refl _) hI) eo acc4 (by simpa using hle.1) rfl fun h' tk' O' ow F' mv' acc' => ?_
    obtain ⟨m', hn', _⟩ := F'.ns
    obtain ⟨ys, hys, rys⟩ := acc'.at'
    have S' : Stab O' ⟨O.own, O'.T⟩ h' h' := ⟨fun _ _ q => q, fun b o no q _ => ⟨q, fun z => no (by rw [ow]; exact .inl (by rw [a1.own]; exact z))⟩⟩
    have adv : Adv O s.heap ⟨O.own, O'.T⟩ h' tk' := ⟨rfl, fun x y q => mv'.stab.T x y (by exact a1.ext x y q), a1.kp.trans F'.keep, F'.ok.tb⟩
    refine post h2.objs.size h3.objs.size h' tk' ⟨O.own, O'.T⟩ m' adv hn' (none_of_ge (a1.kp.trans k2) (by rw [hC]; exact Nat.le_succ _)) (fun _ _ => hDC.symm) ⟨_, ys, rfl, fun z => ?_, hys.isList, ?_⟩
    · obtain ⟨o, q⟩ := F2.ok.live h2.objs.size (by rw [a1.own]; exact z)
      exact absurd (Heap.lt_size q) (Nat.lt_irrefl _)
    · have := RepL.stab S' _ _ rys
      simpa using this
  have hgo : codeAny (model c.prog c.w) A (.compStart (.ListComp (tr cn elt) (⟨trT cn t, tr nm it, trs cn tests, 0⟩ :: trG cn rest) sc' p) 0 (.ref I) (.ref h2.objs.size) (compEnvC sc' cl h3.objs.size env)) (RR (.ref h2.objs.size) h3.objs.size)
      { s with heap := h4, toks := tk1 } :=
    codeAny_compStart_at rfl loop (T4.walks.self 0 { s with heap := h4, toks := tk1 } _ _ T4.st loop)
  rw [hRR] at hgo
  exact hgo
end
end Mine
namespace Mine
open PySem PySem.Calls PyProof.Rows
section
variable {c : Cx} {sc : Scope} {nm : List Str} {n : Nat}

theorem comp_snd {elt : Ex} {t : Tg} {it : Ex} {tests : Exs} {rest : Gens} {cn : List Str} {fr : List Nat} {sc' : Scope} {p : Pos} (wc : WfC sc nm cn fr sc') (hi : SndE c sc nm n it) (hts : SndTs c (relabelS sc' sc) cn n tests) (hr : SndG c (relabelS sc' sc) cn n elt rest)
    (ht : t.idx.all (isLoc (relabelS sc' sc) cn) = true) : SndE c sc nm n (.comp elt t it tests rest cn fr sc' p) := by
  intro env g A O s σ v Q E R F e D
  show wpAny _ _ (eval (.ListComp (tr cn elt) (⟨trT cn t, tr nm it, trs cn tests, 0⟩ :: trG cn rest) sc' p) env) _ _ _
  rw [eval_ListComp]
  refine comp_core wc hi hts hr ht R F e none rfl fun Dl C h' tk' G' m adv hn hC hDC rep => ?_
  refine ⟨m, hn, fun h'' sb => D _ h'' tk' G' ⟨adv.own, adv.ext, fun b o q => sb.extBut b o (fun z => by rw [z, hC] at q; cases q) (adv.kp b o q), adv.tb⟩ ?_⟩
  exact Rep.stab (stab_sameBut (plainly_ns hn) sb) _ _ rep
end

mutual
theorem evE_sound (c : Cx) : ∀ (e : Ex) (sc : Scope) (nm : List Str) (n : Nat), wfE c sc nm n e = true → SndE c sc nm n e
  | .var i p, _, _, _, _ => var_snd i p
  | .glo x i p, _, _, _, w => glo_snd x i p w
  | .cint i p, _, _, _, _ => cint_snd i p
  | .cflt x p, _, _, _, _ => cflt_snd x p
  | .cbyt b p, _, _, _, _ => cbyt_snd b p
  | .cboo b p, _, _, _, _ => cboo_snd b p
  | .bin op l r p, sc, nm, n, w => by
    simp only [wfE, Bool.and_eq_true] at w
    exact bin_snd (evE_sound c l sc nm n w.1) (evE_sound c r sc nm n w.2)
  | .cmp op l r p, sc, nm, n, w => by
    simp only [wfE, Bool.and_eq_true] at w
    exact cmp_snd (evE_sound c l sc nm n w.1) (evE_sound c r sc nm n w.2)
  | .not e p, sc, nm, n, w => by
    simp only [wfE] at w
    exact not_snd (evE_sound c e sc nm n w)
  | .and l r p, sc, nm, n, w => by
    simp only [wfE, Bool.and_eq_true] at w
    exact and_snd (evE_sound c l sc nm n w.1) (evE_sound c r sc nm n w.2)
  | .idx l r p, sc, nm, n, w => by
    simp only [wfE, Bool.and_eq_true] at w
    exact idx_snd (evE_sound c l sc nm n w.1) (evE_sound c r sc nm n w.2)
  | .sl1 l r ps p, sc, nm, n, w => by
    simp only [wfE, Bool.and_eq_true] at w
    exact sl1_snd (evE_sound c l sc nm n w.1) (evE_sound c r sc nm n w.2)
  | .sl2 l r ps p, sc, nm, n, w => by
    simp only [wfE, Bool.and_eq_true] at w
    exact sl2_snd (evE_sound c l sc nm n w.1) (evE_sound c r sc nm n w.2)
  | .sl3 l r q ps p, sc, nm, n, w => by
    simp only [wfE, Bool.and_eq_true] at w
    exact sl3_snd (evE_sound c l sc nm n w.1.1) (evE_sound c r sc nm n w.1.2) (evE_sound c q sc nm n w.2)
  | .tup l k p, sc, nm, n, w => by
    simp only [wfE] at w
    exact tup_snd (evL_sound c l sc nm n w)
  | .lst l p, sc, nm, n, w => by
    simp only [wfE] at w
    exact lst_snd (evL_sound c l sc nm n w)
  | .bcall f a pf p, sc, nm, n, w => by
    have w' := w
    simp only [wfE, Bool.and_eq_true] at w'
    exact bcall_snd w (evL_sound c a sc nm n w'.1.2)
  | .call f x a pf p, sc, nm, n, w => by
    have w' := w
    simp only [wfE, Bool.and_eq_true] at w'
    exact call_snd w (evL_sound c a sc nm n w'.1.1.2)
  | .comp elt t it tests rest cn fr sc' p, sc, nm, n, w => by
    simp only [wfE, Bool.and_eq_true] at w
    obtain ⟨⟨⟨⟨⟨w1, w2⟩, w3⟩, w4⟩, w5⟩, w6⟩ := w
    exact comp_snd (wfC_is w1) (evE_sound c it sc nm n w2) (evTs_sound c tests _ cn n w4) (evG_sound c rest _ cn n w5 elt (evE_sound c elt _ cn n w3)) w6
theorem evT_sound (c : Cx) : ∀ (e : Ex) (sc : Scope) (nm : List Str) (n : Nat), wfE c sc nm n e = true → SndT c sc nm n e
  | .var i p, _, _, _, _ => varT_snd i p
  | .glo x i p, _, _, _, _ => noT_snd fun _ _ => by simp [evT]
  | .cint i p, _, _, _, _ => noT_snd fun _ _ => by simp [evT]
  | .cflt x p, _, _, _, _ => noT_snd fun _ _ => by simp [evT]
  | .cbyt b p, _, _, _, _ => noT_snd fun _ _ => by simp [evT]
  | .cboo b p, _, _, _, _ => noT_snd fun _ _ => by simp [evT]
  | .bin op l r p, _, _, _, _ => noT_snd fun _ _ => by simp [evT]
  | .cmp op l r p, sc, nm, n, w => by
    simp only [wfE, Bool.and_eq_true] at w
    exact cmpT_snd (evE_sound c l sc nm n w.1) (evE_sound c r sc nm n w.2)
  | .not e p, sc, nm, n, w => by
    simp only [wfE] at w
    exact notT_snd (evT_sound c e sc nm n w)
  | .and l r p, sc, nm, n, w => by
    simp only [wfE, Bool.and_eq_true] at w
    exact andT_snd (evT_sound c l sc nm n w.1) (evT_sound c r sc nm n w.2)
  | .idx l r p, _, _, _, _ => noT_snd fun _ _ => by simp [evT]
  | .sl1 l r ps p, _, _, _, _ => noT_snd fun _ _ => by simp [evT]
  | .sl2 l r ps p, _, _, _, _ => noT_snd fun _ _ => by simp [evT]
  | .sl3 l r q ps p, _, _, _, _ => noT_snd fun _ _ => by simp [evT]
  | .tup l k p, _, _, _, _ => noT_snd fun _ _ => by simp [evT]
  | .lst l p, _, _, _, _ => noT_snd fun _ _ => by simp [evT]
  | .bcall f a pf p, _, _, _, _ => noT_snd fun _ _ => by simp [evT]
  | .call f x a pf p, sc, nm, n, w => by
    have w' := w
    simp only [wfE, Bool.and_eq_true] at w'
    exact callT_snd (call_snd w (evL_sound c a sc nm n w'.1.1.2))
  | .comp elt t it tests rest cn fr sc' p, _, _, _, _ => noT_snd fun _ _ => by simp [evT]
theorem evL_sound (c : Cx) : ∀ (l : Exs) (sc : Scope) (nm : List Str) (n : Nat), wfL c sc nm n l = true → SndL c sc nm n l
  | .nil, _, _, _, _ => nil_snd
  | .cons e r, sc, nm, n, w => by
    simp only [wfL, Bool.and_eq_true] at w
    exact cons_snd (evE_sound c e sc nm n w.1) (evL_sound c r sc nm n w.2)
theorem evTs_sound (c : Cx) : ∀ (l : Exs) (sc : Scope) (nm : List Str) (n : Nat), wfL c sc nm n l = true → SndTs c sc nm n l
  | .nil, _, _, _, _ => nilTs_snd
  | .cons e r, sc, nm, n, w => by
    simp only [wfL, Bool.and_eq_true] at w
    exact consTs_snd (evT_sound c e sc nm n w.1) (evTs_sound c r sc nm n w.2)
theorem evG_sound (c : Cx) : ∀ (G : Gens) (sc : Scope) (nm : List Str) (n : Nat), wfG c sc nm n G = true → ∀ elt : Ex, SndE c sc nm n elt → SndG c sc nm n elt G
  | .nil, _, _, _, _, _, he => nilG_snd he
  | .cons t it tests rest, sc, nm, n, w, elt, he => by
    simp only [wfG, Bool.and_eq_true] at w
    exact consG_snd (evE_sound c it sc nm n w.1.1.1) (evTs_sound c tests sc nm n w.1.1.2) (evG_sound c rest sc nm n w.1.2 elt he) w.2
end
end Mine
namespace Mine
open PySem PySem.Calls PyProof.Rows

/-! statements: well formed -/
noncomputable def stB (sc : Scope) (nm : List Str) (i : Nat) : Bool := decide (i < nm.length) && (sc.names.lookup (nmAt nm i) == some .local || sc.names.lookup (nmAt nm i) == some .cell)
noncomputable def swB (sc : Scope) (x : Str) (pt : Pos) : Ex → Bool
  | .comp _ _ _ _ _ _ _ sc' p => sc.kind == .function && sc.names.lookup x == some .local && pt.line == p.line && !(sc'.names.any fun y => y.1 == x && (y.2 == .local || y.2 == .cell))
  | _ => false
noncomputable def Ex.isTup : Ex → Bool
  | .tup .. => true
  | _ => false
mutual
noncomputable def wfS (c : Cx) (sc : Scope) (nm : List Str) (n : Nat) : St → Bool
  | .assign i e pt _ => stB sc nm i && wfE c sc nm n e && !(swB sc (nmAt nm i) pt e)
  | .assignC i e pt _ => isLoc sc nm i && wfE c sc nm n e && swB sc (nmAt nm i) pt e
  | .own i _ _ _ => isLoc sc nm i
  | .append i e _ pa pc _ => isLoc sc nm i && wfE c sc nm n e && (pa.endLine == pc.line)
  | .assignT is _ _ e _ => (is.map (·.1)).all (stB sc nm) && wfE c sc nm n e && !e.isTup
  | .aug i _ e _ _ => stB sc nm i && wfE c sc nm n e
  | .ite t a b _ => wfE c sc nm n t && wfSs c sc nm n a && wfSs c sc nm n b
  | .whil t a _ => wfE c sc nm n t && wfSs c sc nm n a
  | .for t it a _ => t.idx.all (stB sc nm) && wfE c sc nm n it && wfSs c sc nm n a
  | .ret e _ => wfE c sc nm n e
  | .freeze => true
noncomputable def wfSs (c : Cx) (sc : Scope) (nm : List Str) (n : Nat) : Sts → Bool
  | .nil => true
  | .cons s r => wfS c sc nm n s && wfSs c sc nm n r
end

section
variable {c : Cx} {sc : Scope} {nm : List Str} {n : Nat}

structure FrS (c : Cx) (sc : Scope) (nm : List Str) (n : Nat) (env : Env) (g : Heap) (A : Around) : Prop where
  r : Fr1 c sc nm n env g A
  newC : ∀ i a, i < nm.length → env.kindOf (nmAt nm i) = some .cell → env.cells.lookup (nmAt nm i) = some a → g.get? a = none
theorem FrS.st {env : Env} {g : Heap} {A : Around} (R : FrS c sc nm n env g A) {i : Nat} (h : stB sc nm i = true) : Storable env nm g i := by
  unfold stB at h
  simp only [Bool.and_eq_true, decide_eq_true_eq, Bool.or_eq_true] at h
  refine ⟨h.1, (R.r.W.kinds i h.1).imp id fun ⟨kd, a, ha⟩ => ⟨kd, a, ha, R.newC i a h.1 kd ha⟩⟩

structure SInv (env : Env) (nm : List Str) (g : Heap) (O₀ O : Gh) (S : S) (h : Heap) (tk : Nat) : Prop where
  F : FInv env nm g O S.vs h tk
  own0 : S.own = none → O.own = O₀.own
  own1 : ∀ i l, S.own = some (i, l) → ∃ D, AccAt g O h D l ∧ ¬ O₀.own D ∧ (O.own = fun b => O₀.own b ∨ b = D) ∧ env.kindOf (nmAt nm i) = some .local ∧ i < nm.length ∧ NameAt env nm h i (.ref D)
theorem SInv.sub {env : Env} {g : Heap} {O₀ O : Gh} {S : S} {h : Heap} {tk : Nat} (I : SInv env nm g O₀ O S h tk) : ∀ b, O₀.own b → O.own b := by
  intro b hb
  cases q : S.own with
  | none => rw [I.own0 q]; exact hb
  | some x => obtain ⟨D, _, _, e, _⟩ := I.own1 x.1 x.2 q; rw [e]; exact .inl hb
theorem SInv.adv {env : Env} {g : Heap} {O₀ O O' : Gh} {S : S} {h h' : Heap} {tk tk' : Nat} (I : SInv env nm g O₀ O S h tk) (a : Adv O h O' h' tk') : SInv env nm g O₀ O' S h' tk' where
  F := I.F.adv a
  own0 := fun q => a.own.trans (I.own0 q)
  own1 := fun i l q => let ⟨D, x, nd, e, kd, hi, na⟩ := I.own1 i l q; ⟨D, x.move a.own a.stab (a.kp D), nd, a.own.trans e, kd, hi, na.keeps fun o e => a.kp _ o e⟩

noncomputable def DoneS (env : Env) (nm : List Str) (g : Heap) (O₀ O : Gh) (s : Shared) (o : Out) (Q : Flow → Shared → Prop) : Prop :=
  match o with
  | .next S' => ∀ h' tk' O', SInv env nm g O₀ O' S' h' tk' → Mv O s.heap O' h' → Q .next { s with heap := h', toks := tk' }
  | .ret v => ∀ val h' tk' G', G'.own = O₀.own → (∀ t x, O.T t = some x → G'.T t = some x) → KeepsH g h' → TB G'.T tk' → Rep G' h' v val → Q (.ret val) { s with heap := h', toks := tk' }
theorem DoneS.mono {env : Env} {g : Heap} {O₀ O : Gh} {s : Shared} {o : Out} {Q Q' : Flow → Shared → Prop} (D : DoneS env nm g O₀ O s o Q) (h1 : ∀ s', Q .next s' → Q' .next s') (h2 : ∀ v s', Q (.ret v) s' → Q' (.ret v) s') : DoneS env nm g O₀ O s o Q' := by
  cases o with
  | next S' => exact fun h' tk' O' I m => h1 _ (D h' tk' O' I m)
  | ret v => exact fun val h' tk' G' a b k t r => h2 _ _ (D val h' tk' G' a b k t r)
theorem DoneS.after {env : Env} {g : Heap} {O₀ O O1 : Gh} {s : Shared} {o : Out} {Q : Flow → Shared → Prop} {h1 : Heap} {tk1 : Nat} (D : DoneS env nm g O₀ O s o Q) (m : Mv O s.heap O1 h1) : DoneS env nm g O₀ O1 { s with heap := h1, toks := tk1 } o Q := by
  cases o with
  | next S' => exact fun h' tk' O' I m' => D h' tk' O' I (m.trans m')
  | ret v => exact fun val h' tk' G' a b k t r => D val h' tk' G' a (fun x y q => b x y (m.stab.T x y q)) k t r

/-- the flow of a statement, with the rest of the block behind -/
noncomputable def Then (M : Model) (A : Around) (env : Env) (rest : List Stmt) (Q : Flow → Shared → Prop) (E : Value → Shared → Prop) : Flow → Shared → Prop := fun f s' => match f with | .next => wpAny M A (execs rest env) Q E s' | f => Q f s'
noncomputable def SndS (c : Cx) (sc : Scope) (nm : List Str) (n : Nat) (st : St) : Prop := ∀ env g A O₀ O s S o rest Q E, FrS c sc nm n env g A → SInv env nm g O₀ O S s.heap s.toks → exS c.Φ st S = some o →
  DoneS env nm g O₀ O s o (Then (model c.prog c.w) A env rest Q E) → wpAny (model c.prog c.w) A (execs (trSt nm st ++ rest) env) Q E s
noncomputable def SndSs (c : Cx) (sc : Scope) (nm : List Str) (n : Nat) (l : Sts) : Prop := ∀ env g A O₀ O s S o Q E, FrS c sc nm n env g A → SInv env nm g O₀ O S s.heap s.toks → exSs c.Φ l S = some o →
  DoneS env nm g O₀ O s o Q → wpAny (model c.prog c.w) A (execs (trSts nm l) env) Q E s

theorem nilS_snd : SndSs c sc nm n .nil := by
  intro env g A O₀ O s S o Q E R I e D
  cases e
  exact wpAny_execs_nil (D s.heap s.toks O I (.refl _ _))
theorem consS_snd {st : St} {r : Sts} (h1 : SndS c sc nm n st) (h2 : SndSs c sc nm n r) : SndSs c sc nm n (.cons st r) := by
  intro env g A O₀ O s S o Q E R I e D
  simp only [exSs] at e
  obtain ⟨o1, e1, e⟩ := bind_some' e
  refine h1 env g A O₀ O s S o1 (trSts nm r) Q E R I e1 ?_
  cases o1 with
  | next S1 => exact fun h' tk' O' I' m' => h2 env g A O₀ O' _ S1 o Q E R I' e (D.after m')
  | ret v => cases e; exact D

theorem swaps_tr {env : Env} {x : Str} {pt : Pos} {line : Nat} (hs : env.scope = sc) (hk : sc.kind = .function) (e : Ex) : swapsWith (tr nm e) (some (.Name x pt)) line env = pure (swB sc x pt e) := by
  cases e
  case comp elt t it tests rest cn fr sc' p =>
    show (pure (env.blockKind == .function && env.kindOf x == some .local && pt.line == p.line && !(sc'.names.any fun (n, k) => n == x && (k == .local || k == .cell))) : Sem Bool) = _
    have hb : env.blockKind = sc.kind := by
      unfold Env.blockKind
      rw [hs, hk]; rfl
    rw [hb]
    show pure (sc.kind == .function && env.scope.names.lookup x == some .local && pt.line == p.line && _) = _
    rw [hs]
    rfl
  all_goals rfl

theorem AccAt.k2 {g h h' : Heap} {O : Gh} {D : Addr} {l : List V} (a : AccAt g O h D l) (k : Keeps2 h h') : AccAt g O h' D l := a.move rfl k.stab fun o e => k D o e (by
  obtain ⟨o', its, n, e', d⟩ := a.seq
  rw [e] at e'; cases e'
  exact .inr ⟨_, _, d⟩)
theorem SInv.set {env : Env} {g : Heap} {O₀ O : Gh} {T T' : S} {h h' : Heap} {tk tk' : Nat} {P : Nat → Prop} (I : SInv env nm g O₀ O T h tk) (F' : FInv env nm g O T'.vs h' tk') (ho : T'.own = T.own) (k2 : Keeps2 h h') (kn : KeepN env nm h h' P)
    (hP : ∀ i l, T.own = some (i, l) → ¬ P i) : SInv env nm g O₀ O T' h' tk' where
  F := F'
  own0 := fun q => I.own0 (ho ▸ q)
  own1 := fun i l q => let ⟨D, x, nd, e, kd, hi, na⟩ := I.own1 i l (ho ▸ q); ⟨D, x.k2 k2, nd, e, kd, hi, kn i _ hi (hP i l (ho ▸ q)) kd na⟩
theorem put_some {T T' : S} {i : Nat} {v : V} (e : T.put i v = some T') : T' = { T with vs := T.vs.set i (some v) } ∧ i < T.vs.length ∧ ∀ j l, T.own = some (j, l) → ¬ j = i := by
  unfold S.put at e
  split at e
  · rename_i h
    cases e
    simp only [Bool.and_eq_true, Bool.not_eq_true', decide_eq_true_eq] at h
    refine ⟨rfl, h.2, fun j l q hj => ?_⟩
    rw [q, hj] at h
    simp at h
  · cases e
theorem putT_some {T T' : S} {t : Tg} {v : V} (e : T.putT t v = some T') : ∃ vs, setT T.vs t v = some vs ∧ T' = { T with vs := vs } ∧ (∀ i ∈ t.idx, i < T.vs.length) ∧ ∀ j l, T.own = some (j, l) → ¬ j ∈ t.idx := by
  unfold S.putT at e
  split at e
  · rename_i h
    obtain ⟨vs, ev, rfl⟩ := map_some' e
    rw [List.all_eq_true] at h
    refine ⟨vs, ev, rfl, fun i hi => ?_, fun j l q hj => ?_⟩
    · have := h i hi
      simp only [Bool.and_eq_true, decide_eq_true_eq] at this
      exact this.2
    · have := h j hj
      rw [q] at this
      simp at this
  · cases e

theorem assign_snd {i : Nat} {e : Ex} {pt p : Pos} (w : wfS c sc nm n (.assign i e pt p) = true) : SndS c sc nm n (.assign i e pt p) := by
  intro env g A O₀ O s T o rest Q E R I x D
  simp only [wfS, Bool.and_eq_true, Bool.not_eq_true'] at w
  simp only [exS] at x
  obtain ⟨v, ev, x⟩ := bind_some' x
  obtain ⟨T', et, rfl⟩ := map_some' x
  obtain ⟨rfl, hil, hown⟩ := put_some et
  refine wpAny_execs_cons (wpAny_Assign_Name (evE_sound c e sc nm n w.1.2 env g A O s T.vs v _ E R.r I.F ev fun va h1 tk1 O1 a1 r1 => ?_) (by rw [swaps_tr R.r.sc (by rw [← R.r.sc]; exact R.r.W.kind), w.2]))
  have I1 := I.adv a1
  refine store_sound (s := { s with heap := h1, toks := tk1 }) R.r.W I1.F (R.st w.1.1) hil r1 fun a h' tk' _ ta pa sb kn F' => ?_
  have k2 := Keeps2.sameBut pa sb
  exact D h' tk' O1 (I1.set F' rfl k2 kn hown) (a1.mv.trans (.k2 k2))

theorem assignT_snd {is : List (Nat × Pos)} {k : Nat} {pt : Pos} {e : Ex} {p : Pos} (w : wfS c sc nm n (.assignT is k pt e p) = true) : SndS c sc nm n (.assignT is k pt e p) := by
  intro env g A O₀ O s T o rest Q E R I x D
  simp only [wfS, Bool.and_eq_true, Bool.not_eq_true'] at w
  simp only [exS] at x
  obtain ⟨v, ev, x⟩ := bind_some' x
  obtain ⟨T', et, rfl⟩ := map_some' x
  obtain ⟨vs, es, rfl, hil, hown⟩ := putT_some et
  refine wpAny_execs_cons (Assign_Tuple (evE_sound c e sc nm n w.1.2 env g A O s T.vs v _ E R.r I.F ev fun va h1 tk1 O1 a1 r1 => ?_) (by cases e <;> rfl) (by cases e <;> first | rfl | (simp [Ex.isTup] at w)))
  have I1 := I.adv a1
  refine assignT_sound (t := .tup is k pt) (s := { s with heap := h1, toks := tk1 }) R.r.R.hh R.r.W I1.F es (fun i hi => ⟨R.st (List.all_eq_true.mp w.1.1 i hi), hil i hi⟩) r1 fun h' tk' k2 kn F' => ?_
  exact D h' tk' O1 (I1.set F' rfl k2 kn hown) (a1.mv.trans (.k2 k2))

theorem aug_snd {i : Nat} {op : Operator} {e : Ex} {pt p : Pos} (w : wfS c sc nm n (.aug i op e pt p) = true) : SndS c sc nm n (.aug i op e pt p) := by
  intro env g A O₀ O s T o rest Q E R I x D
  simp only [wfS, Bool.and_eq_true] at w
  simp only [exS] at x
  obtain ⟨a, ea, x⟩ := bind_some' x
  obtain ⟨b, eb, x⟩ := bind_some' x
  split at x
  · rename_i a0 b0 _ _
    obtain ⟨T', et, rfl⟩ := map_some' x
    obtain ⟨rfl, hil, hown⟩ := put_some et
    refine wpAny_execs_cons (wpAny_AugAssign_Name (load_sound R.r.W I.F ea fun va ra => evE_sound c e sc nm n w.2 env g A O s T.vs _ _ E R.r I.F eb fun vb h1 tk1 O1 a1 r1 => ?_))
    obtain ⟨t, rfl⟩ := ra
    obtain ⟨u, rfl⟩ := r1
    refine PyProof.Rows.iadd_int ?_
    have r3 : Rep O1 h1 (.int (a0 + b0)) (.int (a0 + b0) tk1) := ⟨_, rfl⟩
    have A2 : Adv O1 h1 O1 h1 (tk1 + 1) := .le (I.F.adv a1).ok (.refl _) (Nat.le_succ _)
    have I1 := (I.adv a1).adv A2
    refine store_sound (v := .int (a0 + b0)) (s := { s with heap := h1, toks := tk1 + 1 }) R.r.W I1.F (R.st w.1) hil r3 fun a h' tk' _ ta pa sb kn F' => ?_
    have k2 := Keeps2.sameBut pa sb
    exact D h' tk' O1 (I1.set F' rfl k2 kn hown) (a1.mv.trans (.k2 k2))
  · cases x

theorem ite_snd {t : Ex} {a b : Sts} {p : Pos} (w : wfE c sc nm n t = true) (ha : SndSs c sc nm n a) (hb : SndSs c sc nm n b) : SndS c sc nm n (.ite t a b p) := by
  intro env g A O₀ O s T o rest Q E R I x D
  simp only [exS] at x
  obtain ⟨v, ev, x⟩ := bind_some' x
  refine wpAny_execs_cons (wpAny_If (evT_sound c t sc nm n w env g A O s T.vs v _ E R.r I.F ev fun h1 tk1 O1 a1 => ?_))
  cases v with
  | true => exact ha env g A O₀ O1 _ T o _ E R (I.adv a1) x (D.after a1.mv)
  | false => exact hb env g A O₀ O1 _ T o _ E R (I.adv a1) x (D.after a1.mv)

theorem ret_snd {e : Ex} {p : Pos} (w : wfE c sc nm n e = true) : SndS c sc nm n (.ret e p) := by
  intro env g A O₀ O s T o rest Q E R I x D
  simp only [exS] at x
  obtain ⟨v, ev, rfl⟩ := map_some' x
  refine wpAny_execs_cons (wpAny_Return_some (evE_sound c e sc nm n w env g A O s T.vs v _ E R.r I.F ev fun va h1 tk1 O1 a1 r1 => ?_))
  have I1 := I.adv a1
  have S' : Stab O1 ⟨O₀.own, O1.T⟩ h1 h1 := ⟨fun _ _ q => q, fun b o no q _ => ⟨q, fun z => no (I1.sub b z)⟩⟩
  exact D va h1 tk1 ⟨O₀.own, O1.T⟩ rfl a1.ext I1.F.keep a1.tb (Rep.stab S' _ _ r1)

theorem while_snd {t : Ex} {a : Sts} {p : Pos} (w : wfE c sc nm n t = true) (ha : SndSs c sc nm n a) : SndS c sc nm n (.whil t a p) := by
  intro env g A O₀ O s T o rest Q E R I x D
  simp only [exS] at x
  refine wpAny_execs_cons (wpAny_While (codeAny_whileLoop (fun k s' => ∃ T1 h tk O1, s' = { s with heap := h, toks := tk } ∧ SInv env nm g O₀ O1 T1 h tk ∧ Mv O s.heap O1 h ∧
    whileF (fun s => evT c.Φ t s.vs) (fun s => exSs c.Φ a s) k T1 = some o) ?_ 100 ⟨T, s.heap, s.toks, O, rfl, I, .refl _ _, x⟩))
  rintro k s' ⟨T1, h, tk, O1, rfl, I1, m1, x1⟩
  cases k with
  | zero => cases x1
  | succ k =>
    simp only [whileF] at x1
    obtain ⟨v, ev, x1⟩ := bind_some' x1
    refine evT_sound c t sc nm n w env g A O1 _ T1.vs v _ _ R.r I1.F ev fun h2 tk2 O2 a2 => ?_
    cases v with
    | false =>
      cases x1
      exact wpAny_execs_nil (D h2 tk2 O2 (I1.adv a2) (m1.trans a2.mv))
    | true =>
      rw [if_pos rfl] at x1
      obtain ⟨o1, e1, x1⟩ := bind_some' x1
      refine ha env g A O₀ O2 { s with heap := h2, toks := tk2 } T1 o1 _ _ R (I1.adv a2) e1 ?_
      cases o1 with
      | next T2 => exact fun h' tk' O' I' m' => ⟨k, Nat.lt_succ_self _, T2, h', tk', O', rfl, I', (m1.trans a2.mv).trans m', x1⟩
      | ret v =>
        cases x1
        exact fun val h' tk' G' q1 q2 q3 q4 q5 => D val h' tk' G' q1 (fun y z r => q2 y z ((m1.trans a2.mv).stab.T y z r)) q3 q4 q5
end
end Mine
namespace Mine
open PySem PySem.Calls PyProof.Rows
section
variable {c : Cx} {sc : Scope} {nm : List Str} {n : Nat}

theorem isLoc_lt {i : Nat} (h : isLoc sc nm i = true) : i < nm.length := by
  unfold isLoc at h
  simp only [Bool.and_eq_true, decide_eq_true_eq] at h
  exact h.1
theorem isLoc_kind {env : Env} {i : Nat} (hs : env.scope = sc) (h : isLoc sc nm i = true) : env.kindOf (nmAt nm i) = some .local := by
  unfold isLoc at h
  simp only [Bool.and_eq_true, decide_eq_true_eq] at h
  show env.scope.names.lookup _ = _; rw [hs]; exact eq_of_beq h.2

theorem freeze_snd : SndS c sc nm n .freeze := by
  intro env g A O₀ O s T o rest Q E R I x D
  simp only [exS] at x
  cases q : T.own with
  | none => rw [q] at x; cases x
  | some il =>
    obtain ⟨i, l⟩ := il
    rw [q] at x
    cases x
    obtain ⟨Dl, acc, nD, ow, kd, hi, na⟩ := I.own1 i l q
    have S' : Stab O ⟨O₀.own, O.T⟩ s.heap s.heap := ⟨fun _ _ z => z, fun b o no z _ => ⟨z, fun y => no (I.sub b y)⟩⟩
    have F' : FInv env nm g ⟨O₀.own, O.T⟩ (T.vs.set i (some (.lst l))) s.heap s.toks := {
      keep := I.F.keep
      len := by rw [List.length_set]; exact I.F.len
      ok := ⟨fun b hb => I.F.ok.live b (I.sub b hb), I.F.ok.tb⟩
      ns := by
        obtain ⟨m, hn, hv⟩ := I.F.ns
        refine ⟨m, hn, fun j v kn kj => ?_⟩
        rcases known_set kn with ⟨rfl, rfl⟩ | ⟨_, kn'⟩
        · obtain ⟨m', hn', hm'⟩ := na
          obtain ⟨ys, hys, rys⟩ := acc.at'
          exact ⟨.ref Dl, by rw [ns_uniq hn hn']; exact hm', Dl, ys, rfl, nD, hys.isList, RepL.stab S' _ _ rys⟩
        · obtain ⟨val, e, r⟩ := hv j v kn' kj
          exact ⟨val, e, Rep.stab S' _ _ r⟩
      cell := fun j a hj kj hc => by
        obtain ⟨cv, hcv, hv⟩ := I.F.cell j a hj kj hc
        refine ⟨cv, hcv, fun v kn => ?_⟩
        rcases known_set kn with ⟨rfl, _⟩ | ⟨_, kn'⟩
        · rw [kd] at kj; cases kj
        · obtain ⟨val, e, r⟩ := hv v kn'
          exact ⟨val, e, Rep.stab S' _ _ r⟩ }
    have I' : SInv env nm g O₀ ⟨O₀.own, O.T⟩ { vs := T.vs.set i (some (.lst l)), own := none } s.heap s.toks := ⟨F', fun _ => rfl, fun i l q => nomatch q⟩
    exact D s.heap s.toks _ I' ⟨S', fun _ _ _ z _ => z⟩

theorem own_snd {i : Nat} {pt pl p : Pos} (w : wfS c sc nm n (.own i pt pl p) = true) : SndS c sc nm n (.own i pt pl p) := by
  intro env g A O₀ O s T o rest Q E R I x D
  simp only [wfS] at w
  simp only [exS] at x
  split at x
  · cases x
  rename_i hc
  cases x
  simp only [Bool.or_eq_true, decide_eq_true_eq, not_or, Bool.not_eq_true, Option.isSome_eq_false_iff, Option.isNone_iff_eq_none] at hc
  have kd := isLoc_kind R.r.sc w
  have hi := isLoc_lt w
  refine wpAny_execs_cons (wpAny_Assign_Name (List_ (spliced_nil (wpAny_newObj_type ?_))) rfl)
  have F1 : FInv env nm g O T.vs (s.heap.push { cls := .type "list", data := .seq ([] : List Value).toArray }) s.toks := I.F.keeps (KeepsH.push _ _) (Nat.le_refl _)
  have hD1 : (s.heap.push { cls := .type "list", data := .seq ([] : List Value).toArray }).get? s.heap.objs.size = some { cls := .type "list", data := .seq ([] : List Value).toArray } := Heap.get?_push_size _ rfl
  refine store_any (s := { s with heap := s.heap.push { cls := .type "list", data := .seq ([] : List Value).toArray } }) R.r.W F1 (isLoc_st R.r.sc w) fun a h' tk' le ta pa sb al kp hm hcl => ?_
  have k2 := Keeps2.sameBut pa sb
  have hD' : h'.get? s.heap.objs.size = some { cls := .type "list", data := .seq ([] : List Value).toArray } := k2 _ _ hD1 (.inr ⟨_, _, rfl⟩)
  have alive : ∀ b o, s.heap.get? b = some o → b ≠ s.heap.objs.size := fun b o e q => by rw [q] at e; exact absurd (Heap.lt_size e) (Nat.lt_irrefl _)
  have ow := I.own0 hc.1
  have S' : Stab O ⟨fun b => O₀.own b ∨ b = s.heap.objs.size, O.T⟩ s.heap h' := ⟨fun _ _ z => z, fun b o no z d => ⟨(Keeps2.stab (O := O) ((Keeps2.keeps (KeepsH.push _ _)).trans k2)).at' b o no z d |>.1, fun y => y.elim (fun y => no (by rw [ow]; exact y)) (alive b o z)⟩⟩
  have F' : FInv env nm g ⟨fun b => O₀.own b ∨ b = s.heap.objs.size, O.T⟩ (T.vs.set i none) h' tk' := {
    keep := kp
    len := by rw [List.length_set]; exact I.F.len
    ok := ⟨fun b hb => by
      rcases hb with hb | rfl
      · by_cases q : b = a
        · subst q; exact al
        · obtain ⟨o, e⟩ := F1.ok.live b (by rw [ow]; exact hb)
          exact ⟨o, (sb.2 b q).trans e⟩
      · exact ⟨_, hD'⟩, I.F.ok.tb.le le⟩
    ns := by
      obtain ⟨m₀, hn₀, hv₀⟩ := I.F.ns
      obtain ⟨m, m', hn, hn', h1, h2⟩ := hm
      have em := ns_uniq hn (hn₀.keeps (KeepsH.push _ _))
      refine ⟨m', hn', fun j v kn kj => ?_⟩
      obtain ⟨hji, kn'⟩ := known_setN kn
      obtain ⟨val, e, r⟩ := hv₀ j v kn' kj
      exact ⟨val, by rw [h1 j (Nat.lt_of_lt_of_le kn'.lt I.F.len) hji kj, em]; exact e, Rep.stab S' _ _ r⟩
    cell := fun j b hj kj hb => by
      obtain ⟨cv, hcv, hv⟩ := I.F.cell j b hj kj hb
      have hji : j ≠ i := fun q => by rw [q, kd] at kj; cases kj
      refine ⟨cv, (hcl j b hj kj hb).1 hji cv (hcv.keeps (KeepsH.push _ _)), fun v kn => ?_⟩
      obtain ⟨_, kn'⟩ := known_setN kn
      obtain ⟨val, e, r⟩ := hv v kn'
      exact ⟨val, e, Rep.stab S' _ _ r⟩ }
  have I' : SInv env nm g O₀ ⟨fun b => O₀.own b ∨ b = s.heap.objs.size, O.T⟩ { vs := T.vs.set i none, own := some (i, []) } h' tk' := {
    F := F'
    own0 := fun q => nomatch q
    own1 := fun j l q => by
      cases q
      refine ⟨s.heap.objs.size, ⟨none_of_ge I.F.keep (Nat.le_refl _), .inr rfl, #[], ⟨_, _, hD', rfl, rfl, rfl⟩, rfl⟩, fun z => ?_, rfl, kd, hi, ?_⟩
      · obtain ⟨o, e⟩ := I.F.ok.live _ (by rw [ow]; exact z)
        exact alive _ o e rfl
      obtain ⟨m, m', hn, hn', h1, h2⟩ := hm
      exact ⟨m', hn', h2 kd⟩ }
  exact D h' tk' _ I' ⟨S', fun b o fs e d => k2 b o (KeepsH.push _ _ b o e) (.inl ⟨fs, d⟩)⟩

theorem append_snd {i : Nat} {e : Ex} {pn pa pc p : Pos} (w : wfS c sc nm n (.append i e pn pa pc p) = true) : SndS c sc nm n (.append i e pn pa pc p) := by
  intro env g A O₀ O s T o rest Q E R I x D
  simp only [wfS, Bool.and_eq_true] at w
  simp only [exS] at x
  obtain ⟨v, ev, x⟩ := bind_some' x
  cases q : T.own with
  | none => rw [q] at x; cases x
  | some il =>
    obtain ⟨j, l⟩ := il
    rw [q] at x
    dsimp only at x
    split at x
    case isFalse => cases x
    rename_i hji
    cases x
    simp only [Bool.and_eq_true, beq_iff_eq, decide_eq_true_eq] at hji
    obtain ⟨rfl, hlen⟩ := hji
    obtain ⟨Dl, acc, nD, ow, kd, hi, na⟩ := I.own1 j l q
    have htr : backTo pc (starEach [tr nm e] env) = [(false, eval (tr nm e) env)] := by rw [star_tr]; rfl
    refine wpAny_execs_cons (wpAny_Expr ?_ (by unfold interactive; rw [R.r.W.kind]; rfl) rfl)
    refine wpAny_Call_append rfl (by rw [htr]; rfl) w.2 htr ?_
    obtain ⟨m, hn, hm⟩ := na
    refine wpAny_Name (wpAny_loadName_local R.r.W.kind kd hn hm ?_) (R.r.W.dbg j hi)
    obtain ⟨ys0, hys0, _⟩ := acc.at'
    refine ⟨Dl, ys0, rfl, hys0, ?_⟩
    refine evE_sound c e sc nm n w.1.2 env g A O s T.vs v _ E R.r I.F ev fun va h1 tk1 O1 a1 r1 => ?_
    have I1 := I.adv a1
    have acc1 := acc.move a1.own a1.stab (a1.kp Dl)
    obtain ⟨ys, hys, rys⟩ := acc1.at'
    refine list_append_plainL hys (fun h2 hl2 sb => ?_) (by rw [← rys.size, sizeLine_eq]; omega)
    have mv2 : Mv O1 h1 O1 h2 := Mv.ownList acc1.ow hys.isList sb
    obtain ⟨oD, its, k, eD, dD⟩ := acc1.seq
    have F2 := I1.F.turn ⟨oD, eD, (fun es ep q => by rw [dD] at q; cases q), fun cv q => by rw [dD] at q; cases q⟩ acc.g0 (fun b o q e => (sb.2 b q).trans e) mv2.stab (fun _ => let ⟨o, _, e, _⟩ := hl2; ⟨o, e⟩) (Nat.le_refl _)
    have hLD : env.locals ≠ Dl := fun z => by
      obtain ⟨o', es, ep, e', d'⟩ := I1.F.locAt
      rw [z, eD] at e'; cases e'
      rw [dD] at d'; cases d'
    refine D h2 tk1 O1 ⟨F2, (fun z => nomatch z), fun j' l' z => ?_⟩ (a1.mv.trans mv2)
    cases z
    refine ⟨Dl, ⟨acc.g0, acc1.ow, _, hl2, ?_⟩, nD, a1.own.trans ow, kd, hi, NameAt.keeps ⟨m, hn.keeps a1.kp, hm⟩ fun o e => (sb.2 _ hLD).trans e⟩
    rw [Array.toList_push]
    exact (RepL.stab mv2.stab _ _ rys).append (RepL.one (Rep.stab mv2.stab _ _ r1))
end
end Mine
namespace Mine
open PySem PySem.Calls PyProof.Rows
section
variable {c : Cx} {sc : Scope} {nm : List Str} {n : Nat}

/-- a dict that no frame knows is turned -/
theorem SInv.butDict {env : Env} {g h₀ h h' : Heap} {O₀ O : Gh} {T : S} {tk : Nat} {C : Addr} (I : SInv env nm g O₀ O T h tk) (pC : Plainly h C) (sb : Heap.SameBut C h h') (gC : g.get? C = none) (hL : env.locals ≠ C)
    (hcl : ∀ i a, i < nm.length → env.kindOf (nmAt nm i) = some .cell → env.cells.lookup (nmAt nm i) = some a → a ≠ C) (ho : ∀ b, O.own b → b ≠ C) : SInv env nm g O₀ O T h' tk where
  F := I.F.move (fun b o e => (sb.2 b (fun q => by rw [q, gC] at e; cases e)).trans (I.F.keep b o e)) (stab_sameBut pC sb) ⟨fun b hb => let ⟨o, e⟩ := I.F.ok.live b hb; ⟨o, (sb.2 b (ho b hb)).trans e⟩, I.F.ok.tb⟩
    (fun o e => (sb.2 _ hL).trans e) fun i a hi kd ha o e => (sb.2 _ (hcl i a hi kd ha)).trans e
  own0 := I.own0
  own1 := fun i l q => let ⟨D, x, nd, e, kd, hi, na⟩ := I.own1 i l q; ⟨D, x.k2 (Keeps2.sameBut pC sb), nd, e, kd, hi, na.keeps fun o e => (sb.2 _ hL).trans e⟩

theorem assignC_snd {i : Nat} {e : Ex} {pt p : Pos} (w : wfS c sc nm n (.assignC i e pt p) = true) : SndS c sc nm n (.assignC i e pt p) := by
  intro env g A O₀ O s T o rest Q E R I x D
  simp only [wfS, Bool.and_eq_true] at w
  cases e
  case comp elt t it tests rest' cn fr sc' p' =>
    simp only [exS] at x
    obtain ⟨v, ev, x⟩ := bind_some' x
    obtain ⟨T', et, rfl⟩ := map_some' x
    obtain ⟨rfl, hil, hown⟩ := put_some et
    have w2 := w.1.2
    simp only [wfE, Bool.and_eq_true] at w2
    obtain ⟨⟨⟨⟨⟨w1, w2⟩, w3⟩, w4⟩, w5⟩, w6⟩ := w2
    refine wpAny_execs_cons ?_
    show wpAny _ _ (exec (.Assign [.Name (nmAt nm i) pt] (tr nm (.comp elt t it tests rest' cn fr sc' p')) p) env) _ _ _
    rw [exec_Assign_Name_used _ _ _ _ (by rw [swaps_tr R.r.sc (by rw [← R.r.sc]; exact R.r.W.kind), w.2])]
    refine wpAny_bind (wpAny_standAt (wpAny_bind ?_))
    show wpAny _ A (do let _ ← comprehension (.ListComp (tr cn elt) (⟨trT cn t, tr nm it, trs cn tests, 0⟩ :: trG cn rest') sc' p') sc' env (firstIterPos (⟨trT cn t, tr nm it, trs cn tests, 0⟩ :: trG cn rest') p') (newList []) false (eval (tr nm it) env) (some (assign (.Name (nmAt nm i) pt) env))) _ _ s
    refine wpAny_bind (wpAny_mono (comp_core (use := some (assign (.Name (nmAt nm i) pt) env)) (Q := fun _ s' => Then (model c.prog c.w) A env rest Q E .next s') (wfC_is w1) (evE_sound c it sc nm n w2) (evTs_sound c tests _ cn n w4) (evG_sound c rest' _ cn n w5 elt (evE_sound c elt _ cn n w3)) w6
      R.r I.F ev rfl fun Dl C h' tk' G' m adv hn hC hDC rep => ?_) (fun _ s' hq => wpAny_pure (wpAny_pure hq)) fun _ _ e => e)
    show wpAny _ A (assign (.Name (nmAt nm i) pt) env (.ref Dl)) _ _ _
    have I1 := I.adv adv
    refine wpAny_assign_Name (store_sound (s := { s with heap := h', toks := tk' }) R.r.W I1.F (isLoc_st R.r.sc w.1.1) hil rep fun a h2 tk2 _ ta pa sb kn F2 => ?_)
    have neC : ∀ b o, s.heap.get? b = some o → b ≠ C := fun b o q z => by rw [z, hC] at q; cases q
    have hL : env.locals ≠ C := let ⟨o, _, _, q, _⟩ := I.F.locAt; neC _ o q
    have hcl : ∀ i a, i < nm.length → env.kindOf (nmAt nm i) = some .cell → env.cells.lookup (nmAt nm i) = some a → a ≠ C := fun i a hi kd ha => let ⟨_, ⟨o, q, _⟩, _⟩ := I.F.cell i a hi kd ha; neC _ o q
    have haC : C ≠ a := by
      rcases ta with rfl | ⟨j, hj, kd, ha⟩
      · exact hL.symm
      · exact (hcl j a hj kd ha).symm
    have k2 := Keeps2.sameBut pa sb
    have hn2 := hn.sameBut sb haC
    have I2 := I1.set (T' := { T with vs := T.vs.set i (some v) }) F2 rfl k2 kn hown
    refine ⟨m, hn2, fun h3 sb3 => ?_⟩
    have pC := plainly_ns hn2
    have I3 := I2.butDict (h₀ := s.heap) pC sb3 (by cases q : g.get? C with | none => rfl | some o => have := I.F.keep C o q; rw [hC] at this; cases this) hL hcl (fun b hb => by
      obtain ⟨o, q⟩ := I.F.ok.live b (by rw [← adv.own]; exact hb)
      exact neC b o q)
    exact D h3 tk2 G' I3 (adv.mv.trans ((Mv.k2 k2).trans (.k2 (Keeps2.sameBut pC sb3))))
  all_goals
    have := w.2
    simp [swB] at this

theorem SInv.turn {env : Env} {g h h' : Heap} {O₀ O : Gh} {T : S} {tk tk' : Nat} {J : Addr} (I : SInv env nm g O₀ O T h tk) (hI : ∃ o fs, h.get? J = some o ∧ o.data = .fields fs) (gI : g.get? J = none)
    (k : ButI J h h') (St : Stab O O h h') (nJ : ¬ O.own J) (le : tk ≤ tk') : SInv env nm g O₀ O T h' tk' := by
  obtain ⟨oI, fs, eI, dI⟩ := hI
  have hL : env.locals ≠ J := fun q => by
    obtain ⟨o', es, ep, e', d'⟩ := I.F.locAt
    rw [q, eI] at e'; cases e'
    rw [dI] at d'; cases d'
  refine ⟨I.F.turn ⟨oI, eI, (fun es ep q => by rw [dI] at q; cases q), fun cv q => by rw [dI] at q; cases q⟩ gI k St (fun q => absurd q nJ) le, I.own0, fun i l q => ?_⟩
  obtain ⟨D, x, nd, e, kd, hi, na⟩ := I.own1 i l q
  exact ⟨D, x.move rfl St fun o e' => k D o (fun z => by
    obtain ⟨oD, its, n, eD, dD⟩ := x.seq
    rw [z, eI] at eD; cases eD
    rw [dI] at dD; cases dD) e', nd, e, kd, hi, na.keeps fun o e => k _ o hL e⟩

theorem for_snd {t : Tg} {it : Ex} {a : Sts} {p : Pos} (w : wfS c sc nm n (.for t it a p) = true) (ha : SndSs c sc nm n a) : SndS c sc nm n (.for t it a p) := by
  intro env g A O₀ O s T o rest Q E R I x D
  simp only [wfS, Bool.and_eq_true] at w
  simp only [exS] at x
  obtain ⟨v, ev, x⟩ := bind_some' x
  obtain ⟨vs, evs, x⟩ := bind_some' x
  split at x
  case isFalse => cases x
  refine wpAny_execs_cons (wpAny_For (evE_sound c it sc nm n w.1.2 env g A O s T.vs v _ E R.r I.F ev fun va h1 tk1 O1 a1 r1 => ?_) (fun x => fold_tr it env x))
  have I1 := I.adv a1
  refine pyIter_sound (s := { s with heap := h1, toks := tk1 }) R.r.R.hh r1 evs fun J h2 fp P St k2 hJ W => ?_
  have I2 : SInv env nm g O₀ O1 T h2 tk1 := I1.adv (.le I1.F.ok k2 (Nat.le_refl _))
  have gJ : g.get? J = none := none_of_ge I1.F.keep hJ
  have nJ : ¬ O1.own J := I1.F.ok.live.new hJ
  have nJ0 : ¬ O₀.own J := fun z => nJ (I1.sub J z)
  have bJ : h1.get? J = none := none_of_ge (.refl _) hJ
  refine codeAny_forLoop_any (fun k s' => ∃ i h tk O' T', s' = { s with heap := h, toks := tk } ∧ k = vs.length - i ∧ i ≤ vs.length ∧ St i h ∧ Stab O1 O' h2 h ∧ Mv O1 h1 O' h ∧ SInv env nm g O₀ O' T' h tk ∧ ¬ O'.own J ∧
    forF (fun x s => (s.putT t x).bind fun s => exSs c.Φ a s) (vs.drop i) T' = some o) ?_ vs.length ⟨0, h2, tk1, O1, T, rfl, rfl, Nat.zero_le _, W.st, .refl _ _, .keeps k2, I2, nJ, by simpa using x⟩
  rintro k s' ⟨i, h, tk, O', T', rfl, rfl, hi, st, Sb, mv, I', nJ', x'⟩
  obtain ⟨oI, fsI, TI, eI, dI, cI, qI⟩ := W.iobj i h st
  by_cases hlt : i < vs.length
  · have hx : vs[i]? = some vs[i] := by simp [hlt]
    have hdrop : vs.drop i = vs[i] :: vs.drop (i + 1) := (List.getElem_cons_drop (h := hlt)).symm
    rw [hdrop] at x'
    simp only [forF] at x'
    obtain ⟨o1, e1, x'⟩ := bind_some' x'
    obtain ⟨T1, et, e1⟩ := bind_some' e1
    obtain ⟨vs', es, rfl, hil, hown⟩ := putT_some et
    refine W.next (s := { s with heap := h, toks := tk }) st Sb hx fun u h3 tk3 le3 st3 r3 kb3 S3 => ?_
    have I3 := I'.turn ⟨oI, fsI, eI, dI⟩ gJ kb3 S3 nJ' le3
    refine lot_sound (s := { s with heap := h3, toks := tk3 }) (W.iobj (i + 1) h3 st3) ?_
    refine assignT_sound (s := { s with heap := h3, toks := tk3 }) R.r.R.hh R.r.W I3.F es (fun j hj => ⟨R.st (List.all_eq_true.mp w.1.1 j hj), hil j hj⟩) r3 fun h4 tk4 k4 kn4 F4 => ?_
    have st4 : St (i + 1) h4 := W.stay st3 (Sb.trans S3) (Mv.k2 (O := O') k4)
    have I4 := I3.set (T' := { T' with vs := vs' }) F4 rfl k4 kn4 hown
    have mv4 : Mv O1 h1 O' h4 := (mv.butI bJ kb3).trans (.k2 k4)
    have S4 := (Sb.trans S3).trans k4.stab
    refine ha env g A O₀ O' { s with heap := h4, toks := tk4 } _ o1 _ _ R I4 e1 ?_
    cases o1 with
    | next T2 =>
      intro h5 tk5 O5 I5 mv5
      have st5 := W.stay st4 S4 mv5
      refine ⟨vs.length - (i + 1), by omega, i + 1, h5, tk5, O5, T2, rfl, rfl, hlt, st5, S4.trans mv5.stab, mv4.trans mv5, I5, fun z => ?_, x'⟩
      cases q : T2.own with
      | none => rw [I5.own0 q] at z; exact nJ0 z
      | some il =>
        obtain ⟨D', acc', _, ow', _⟩ := I5.own1 il.1 il.2 q
        rw [ow'] at z
        rcases z with z | z
        · exact nJ0 z
        · obtain ⟨o5, fs5, T5, e5, d5, _⟩ := W.iobj (i + 1) h5 st5
          obtain ⟨oD, its, n, eD, dD⟩ := acc'.seq
          rw [← z, e5] at eD; cases eD
          rw [d5] at dD; cases dD
    | ret v =>
      cases x'
      exact fun val h' tk' G' q1 q2 q3 q4 q5 => D val h' tk' G' q1 (fun y z r => q2 y z (mv4.stab.T y z (a1.ext y z r))) q3 q4 q5
  · have hieq : i = vs.length := by omega
    subst hieq
    rw [List.drop_length] at x'
    cases x'
    refine W.stop (s := { s with heap := h, toks := tk }) (O' := O') st fun h3 tk3 le3 kb3 S3 => ?_
    exact wpAny_execs_nil (D h3 tk3 O' (I'.turn ⟨oI, fsI, eI, dI⟩ gJ kb3 S3 nJ' le3) (a1.mv.trans (mv.butI bJ kb3)))
end

mutual
theorem exS_sound (c : Cx) : ∀ (st : St) (sc : Scope) (nm : List Str) (n : Nat), wfS c sc nm n st = true → SndS c sc nm n st
  | .assign .., _, _, _, w => assign_snd w
  | .assignC .., _, _, _, w => assignC_snd w
  | .own .., _, _, _, w => own_snd w
  | .append .., _, _, _, w => append_snd w
  | .assignT .., _, _, _, w => assignT_snd w
  | .aug .., _, _, _, w => aug_snd w
  | .ite t a b p, sc, nm, n, w => by
    simp only [wfS, Bool.and_eq_true] at w
    exact ite_snd w.1.1 (exSs_sound c a sc nm n w.1.2) (exSs_sound c b sc nm n w.2)
  | .whil t a p, sc, nm, n, w => by
    simp only [wfS, Bool.and_eq_true] at w
    exact while_snd w.1 (exSs_sound c a sc nm n w.2)
  | .for t it a p, sc, nm, n, w => by
    have w' := w
    simp only [wfS, Bool.and_eq_true] at w'
    exact for_snd w (exSs_sound c a sc nm n w'.2)
  | .ret e p, sc, nm, n, w => by
    simp only [wfS] at w
    exact ret_snd w
  | .freeze, _, _, _, _ => freeze_snd
theorem exSs_sound (c : Cx) : ∀ (l : Sts) (sc : Scope) (nm : List Str) (n : Nat), wfSs c sc nm n l = true → SndSs c sc nm n l
  | .nil, _, _, _, _ => nilS_snd
  | .cons s r, sc, nm, n, w => by
    simp only [wfSs, Bool.and_eq_true] at w
    exact consS_snd (exS_sound c s sc nm n w.1) (exSs_sound c r sc nm n w.2)
end
end Mine
namespace Mine
open PySem PySem.Calls PyProof.Rows

structure Fn where
  name : Str
  params : Arguments
  body : List Stmt
  scope : Scope
  nm : List Str
  code : Sts
  k : Nat
noncomputable def Fn.start (F : Fn) (vs : List V) : S := { vs := vs.map some ++ List.replicate (F.nm.length - F.k) none, own := none }
noncomputable def runF (Φ : Nat → List V → Option V) (F : Fn) (vs : List V) : Option V :=
  if vs.length = F.k then (match exSs Φ F.code (F.start vs) with | some (.ret v) => some v | _ => none) else none

structure FnOk (c : Cx) (F : Fn) (n : Nat) : Prop where
  body : trSts F.nm F.code = F.body
  wf : wfSs c F.scope F.nm n F.code = true
  kind : F.scope.kind = .function
  loc : ∀ i, i < F.nm.length → F.scope.names.lookup (nmAt F.nm i) = some .local
  nodup : F.nm.Nodup
  dbg : ∀ i, i < F.nm.length → (nmAt F.nm i == ("__debug__" : Str)) = false
  ps : F.params.args.map (·.arg) = F.nm.take F.k
  kle : F.k ≤ F.nm.length
  co : F.scope.isCoroutine = false
  gen : F.scope.isGenerator = false
  nocell : ∀ x ∈ F.scope.names, x.2 ≠ .cell
  bind : ∀ pm cd doc vals, vals.length = F.k → bindArgs (docDef F.name F.params F.body F.scope pm cd doc) ⟨vals, []⟩ = pure ((F.params.args.map (·.arg)).zip vals)

theorem lookup_of_mem {k : Str} {v : Value} : ∀ {l : List (Str × Value)}, (l.map (·.1)).Nodup → (k, v) ∈ l → l.lookup k = some v
  | [], _, h => nomatch h
  | (m, u) :: r, hn, h => by
    rw [List.map_cons, List.nodup_cons] at hn
    rcases List.mem_cons.mp h with e | h
    · cases e; rw [List.lookup_cons, beq_self_eq_true]
    · have hne : (k == m) = false := beq_eq_false_iff_ne.mpr fun q => hn.1 (by rw [← q]; exact List.mem_map.mpr ⟨(k, v), h, rfl⟩)
      rw [List.lookup_cons, hne]
      exact lookup_of_mem hn.2 h
theorem zip_keys : ∀ (ks : List Str) (vs : List Value), ks.length = vs.length → (ks.zip vs).map (·.1) = ks
  | [], [], _ => rfl
  | [], _ :: _, h => by simp at h
  | _ :: _, [], h => by simp at h
  | k :: ks, v :: vs, h => by
    have := zip_keys ks vs (by simpa using h)
    simp only [List.zip_cons_cons, List.map_cons, this]
theorem nodup_reverse {l : List Str} (h : l.Nodup) : l.reverse.Nodup := List.pairwise_reverse.mpr (h.imp fun q => q.symm)
theorem lookup_zip {ks : List Str} {vs : List Value} (hn : ks.Nodup) (hl : ks.length = vs.length) {i : Nat} {v : Value} (hi : i < ks.length) (hv : vs[i]? = some v) : (ks.zip vs).reverse.lookup ks[i] = some v := by
  refine lookup_of_mem ?_ ?_
  · rw [List.map_reverse, zip_keys ks vs hl]
    exact nodup_reverse hn
  · refine List.mem_reverse.mpr (List.mem_iff_getElem?.mpr ⟨i, ?_⟩)
    rw [List.getElem?_zip_eq_some]
    exact ⟨by simp [hi], hv⟩

theorem nodup_nm {nm : List Str} (h : nm.Nodup) {i j : Nat} (hi : i < nm.length) (hj : j < nm.length) (q : nmAt nm i = nmAt nm j) : i = j := by
  rw [nmAt_mem hi, nmAt_mem hj] at q
  exact nodup_inj h hi hj q
theorem start_known {F : Fn} {vs : List V} {i : Nat} {v : V} (k : known (F.start vs).vs i v) : vs[i]? = some v := by
  unfold known Fn.start at k
  dsimp only at k
  by_cases h : i < vs.length
  · rw [List.getElem?_append_left (by simpa using h), List.getElem?_map] at k
    cases q : vs[i]? with
    | none => rw [q] at k; cases k
    | some x => rw [q] at k; cases k; rfl
  · rw [List.getElem?_append_right (by simpa using h)] at k
    rw [List.getElem?_replicate] at k
    split at k <;> cases k

theorem fun_sound {c : Cx} {F : Fn} {n : Nat} (ok : FnOk c F n) {g : Heap} (B : Base c g) (hlim : g.NoLimit) {a : Addr} {o : Obj} {pm cd doc : Value} (ho : g.get? a = some o)
    (hd : o.data = .func (docDef F.name F.params F.body F.scope pm cd doc)) (hcd : g.CodeRec cd F.name) {vs : List V} {v : V} (e : runF c.Φ F vs = some v)
    (A : Around) (s : Shared) (O : Gh) (vals : List Value) (Q : Value → Shared → Prop) (E : Value → Shared → Prop) (R : Room A (n + 1)) (k : KeepsH g s.heap) (L : Ok O s.heap s.toks) (r : RepL O s.heap vs vals) (D : Done O s v Q) :
    wpAny (model c.prog c.w) A (call (.ref a) vals) Q E s := by
  unfold runF at e
  split at e
  case isFalse => cases e
  rename_i hk
  split at e
  case h_2 => cases e
  rename_i v' hx
  cases e
  have hlen : vals.length = F.k := by rw [← r.length, hk]
  have hz : F.params.args.map (·.arg) = F.nm.take F.k := ok.ps
  have hkl : (F.nm.take F.k).length = F.k := by rw [List.length_take]; exact Nat.min_eq_left ok.kle
  refine wpAny_call ?_
  refine call_plain_ret (binds := (F.params.args.map (·.arg)).zip vals) (by have := R.dp; show A.depth < 1000; omega) (k a o ho) hd (hlim.keeps k) (hcd.keeps k) (ok.bind pm cd doc vals hlen) (fun x hx => ?_) (fun h₁ Fr₁ => ?_) ok.co ok.gen ok.kind ok.nocell
  · have hm : x.1 ∈ F.nm.take F.k := by rw [← hz]; exact (List.of_mem_zip hx).1
    obtain ⟨i, hi, ei⟩ := List.mem_iff_getElem.mp (List.mem_of_mem_take hm)
    have := ok.loc i hi
    rw [nmAt_mem hi, ei] at this
    exact this
  · have W : FWf (envOf F.name F.scope s.heap.objs.size a cd) F.nm s.heap := {
      kind := ok.kind
      glob := rfl
      blt := rfl
      kinds := fun i hi => .inl (ok.loc i hi)
      inj := fun i j hi hj q => nodup_nm ok.nodup hi hj q
      dbg := ok.dbg
      apart := fun i j c hi hj kd _ _ _ => by
        have kd' : F.scope.names.lookup (nmAt F.nm i) = some .cell := kd
        rw [ok.loc i hi] at kd'; cases kd'
      newL := none_of_ge (.refl _) (Nat.le_refl _) }
    have R1 : Fr1 c F.scope F.nm n (envOf F.name F.scope s.heap.objs.size a cd) s.heap (A.deeper (envOf F.name F.scope s.heap.objs.size a cd)) := ⟨W, rfl, R.deeper, B.keeps k⟩
    have RS : FrS c F.scope F.nm n (envOf F.name F.scope s.heap.objs.size a cd) s.heap (A.deeper (envOf F.name F.scope s.heap.objs.size a cd)) := ⟨R1, fun i c hi kd _ => by
      have kd' : F.scope.names.lookup (nmAt F.nm i) = some .cell := kd
      rw [ok.loc i hi] at kd'; cases kd'⟩
    have A1 : Adv O s.heap O h₁ (s.toks + ((F.params.args.map (·.arg)).zip vals).length) := .le L Fr₁.keep (Nat.le_add_right _ _)
    have F1 : FInv (envOf F.name F.scope s.heap.objs.size a cd) F.nm s.heap O (F.start vs).vs h₁ (s.toks + ((F.params.args.map (·.arg)).zip vals).length) := {
      keep := Fr₁.keep
      len := by simp only [Fn.start, List.length_append, List.length_map, List.length_replicate, hk]; have := ok.kle; omega
      ok := A1.ok L
      ns := ⟨_, Fr₁.ns, fun i x kn _ => by
        have hx := start_known kn
        have hi : i < F.k := by rw [← hk]; exact (List.getElem?_eq_some_iff.mp hx).1
        obtain ⟨val, hv, rv⟩ := r.get hx
        refine ⟨val, ?_, Rep.stab A1.stab _ _ rv⟩
        have hi2 : i < (F.nm.take F.k).length := by rw [hkl]; exact hi
        have e1 : nmAt F.nm i = (F.nm.take F.k)[i] := by rw [nmAt_mem (Nat.lt_of_lt_of_le hi ok.kle), List.getElem_take]
        show List.lookup (nmAt F.nm i) ((F.params.args.map (·.arg)).zip vals).reverse = some val
        rw [hz, e1]
        exact lookup_zip (List.Pairwise.sublist (List.take_sublist _ _) ok.nodup) (by rw [hkl, hlen]) hi2 hv⟩
      cell := fun i cc hi kd _ => by
        have kd' : F.scope.names.lookup (nmAt F.nm i) = some .cell := kd
        rw [ok.loc i hi] at kd'; cases kd' }
    have I1 : SInv (envOf F.name F.scope s.heap.objs.size a cd) F.nm s.heap O O (F.start vs) h₁ (s.toks + ((F.params.args.map (·.arg)).zip vals).length) := ⟨F1, fun _ => rfl, fun i l q => nomatch q⟩
    rw [← ok.body]
    refine exSs_sound c F.code F.scope F.nm n ok.wf _ s.heap _ O O { s with heap := h₁, toks := s.toks + ((F.params.args.map (·.arg)).zip vals).length } (F.start vs) (.ret v) _ _ RS I1 hx ?_
    exact fun val h' tk' G' ow ext kp tb rep => D val h' tk' G' ⟨ow, ext, kp, tb⟩ rep
end Mine
namespace Mine
open PySem PySem.Calls PyProof.Rows

/-- the k-th statement of the row's text, with what it means in the small language -/
noncomputable def rowFn (k : Nat) (nm : List Str) (code : Sts) (n : Nat) : Fn :=
  match PySem.Challenge.pw_tp0001_01.main.body[k]? with
  | some (.FunctionDef name args body _ _ _ scope _ _ _) => { name, params := args, body, scope, nm, code, k := n }
  | _ => { name := Str.ofString "", params := { posonlyargs := [], args := [], vararg := none, kwonlyargs := [], kw_defaults := [], kwarg := none, defaults := [] }, body := [], scope := { kind := .function, names := [], isGenerator := false, isCoroutine := false, more := [] }, nm, code, k := n }

noncomputable def sc0 : Scope := { kind := .function, names := [(Str.ofString ".0", .local), (Str.ofString "x", .local)], isGenerator := false, isCoroutine := false, more := [] }
noncomputable def sc1 : Scope := { kind := .function, names := [(Str.ofString ".0", .local), (Str.ofString "word", .local), (Str.ofString "_law_number", .globalImplicit)], isGenerator := false, isCoroutine := false, more := [] }
noncomputable def sc2 : Scope := { kind := .function, names := [(Str.ofString ".0", .local), (Str.ofString "mask", .local)], isGenerator := false, isCoroutine := false, more := [] }
noncomputable def sc3 : Scope := { kind := .function, names := [(Str.ofString ".0", .local), (Str.ofString "k", .local), (Str.ofString "j", .local), (Str.ofString "range", .globalImplicit), (Str.ofString "heard", .free)], isGenerator := false, isCoroutine := false, more := [] }
noncomputable def sc4 : Scope := { kind := .function, names := [(Str.ofString ".0", .local), (Str.ofString "k", .local), (Str.ofString "both", .local), (Str.ofString "m", .local), (Str.ofString "range", .globalImplicit), (Str.ofString "count", .free), (Str.ofString "heard", .free)], isGenerator := false, isCoroutine := false, more := [] }
noncomputable def sc5 : Scope := { kind := .function, names := [(Str.ofString ".0", .local), (Str.ofString "m", .local), (Str.ofString "three", .local), (Str.ofString "n", .local), (Str.ofString "range", .globalImplicit), (Str.ofString "count", .free), (Str.ofString "heard", .free)], isGenerator := false, isCoroutine := false, more := [] }
noncomputable def sc6 : Scope := { kind := .function, names := [(Str.ofString ".0", .local), (Str.ofString "light", .local), (Str.ofString "int", .globalImplicit)], isGenerator := false, isCoroutine := false, more := [] }
noncomputable def sc7 : Scope := { kind := .function, names := [(Str.ofString ".0", .local), (Str.ofString "m", .local), (Str.ofString "three", .local)], isGenerator := false, isCoroutine := false, more := [] }
noncomputable def frgbtoyiqNm : List Str := [Str.ofString "r", Str.ofString "g", Str.ofString "b", Str.ofString "y", Str.ofString "i", Str.ofString "q"]
noncomputable def frgbtoyiqCode : Sts :=
    (.cons (.assign 3 (.bin .Add (.bin .Add (.bin .Mult (.cflt 0x3fd3333333333333 ⟨4, 8, 4, 11⟩) (.var 0 ⟨4, 14, 4, 15⟩) ⟨4, 8, 4, 15⟩) (.bin .Mult (.cflt 0x3fe2e147ae147ae1 ⟨4, 18, 4, 22⟩) (.var 1 ⟨4, 25, 4, 26⟩) ⟨4, 18, 4, 26⟩) ⟨4, 8, 4, 26⟩) (.bin .Mult (.cflt 0x3fbc28f5c28f5c29 ⟨4, 29, 4, 33⟩) (.var 2 ⟨4, 36, 4, 37⟩) ⟨4, 29, 4, 37⟩) ⟨4, 8, 4, 37⟩) ⟨4, 4, 4, 5⟩ ⟨4, 4, 4, 37⟩)
    (.cons (.assign 4 (.bin .Sub (.bin .Mult (.cflt 0x3fe7ae147ae147ae ⟨5, 8, 5, 12⟩) (.bin .Sub (.var 0 ⟨5, 16, 5, 17⟩) (.var 3 ⟨5, 20, 5, 21⟩) ⟨5, 16, 5, 21⟩) ⟨5, 8, 5, 22⟩) (.bin .Mult (.cflt 0x3fd147ae147ae148 ⟨5, 25, 5, 29⟩) (.bin .Sub (.var 2 ⟨5, 33, 5, 34⟩) (.var 3 ⟨5, 37, 5, 38⟩) ⟨5, 33, 5, 38⟩) ⟨5, 25, 5, 39⟩) ⟨5, 8, 5, 39⟩) ⟨5, 4, 5, 5⟩ ⟨5, 4, 5, 39⟩)
    (.cons (.assign 5 (.bin .Add (.bin .Mult (.cflt 0x3fdeb851eb851eb8 ⟨6, 8, 6, 12⟩) (.bin .Sub (.var 0 ⟨6, 16, 6, 17⟩) (.var 3 ⟨6, 20, 6, 21⟩) ⟨6, 16, 6, 21⟩) ⟨6, 8, 6, 22⟩) (.bin .Mult (.cflt 0x3fda3d70a3d70a3d ⟨6, 25, 6, 29⟩) (.bin .Sub (.var 2 ⟨6, 33, 6, 34⟩) (.var 3 ⟨6, 37, 6, 38⟩) ⟨6, 33, 6, 38⟩) ⟨6, 25, 6, 39⟩) ⟨6, 8, 6, 39⟩) ⟨6, 4, 6, 5⟩ ⟨6, 4, 6, 39⟩)
    (.cons (.ret (.tup (.cons (.var 3 ⟨7, 12, 7, 13⟩) (.cons (.var 4 ⟨7, 15, 7, 16⟩) (.cons (.var 5 ⟨7, 18, 7, 19⟩) .nil))) 0 ⟨7, 11, 7, 20⟩) ⟨7, 4, 7, 20⟩)
    .nil))))
noncomputable def frgbtoyiq : Fn := rowFn 2 frgbtoyiqNm frgbtoyiqCode 3
noncomputable def fyiqtorgbNm : List Str := [Str.ofString "y", Str.ofString "i", Str.ofString "q", Str.ofString "r", Str.ofString "g", Str.ofString "b"]
noncomputable def fyiqtorgbCode : Sts :=
    (.cons (.assign 3 (.bin .Add (.bin .Add (.var 0 ⟨9, 8, 9, 9⟩) (.bin .Mult (.cflt 0x3fee4cdbef721b32 ⟨9, 12, 9, 30⟩) (.var 1 ⟨9, 33, 9, 34⟩) ⟨9, 12, 9, 34⟩) ⟨9, 8, 9, 34⟩) (.bin .Mult (.cflt 0x3fe3f42ceedac0be ⟨9, 37, 9, 55⟩) (.var 2 ⟨9, 58, 9, 59⟩) ⟨9, 37, 9, 59⟩) ⟨9, 8, 9, 59⟩) ⟨9, 4, 9, 5⟩ ⟨9, 4, 9, 59⟩)
    (.cons (.assign 4 (.bin .Sub (.bin .Sub (.var 0 ⟨10, 8, 10, 9⟩) (.bin .Mult (.cflt 0x3fd1961eec8cbb3a ⟨10, 12, 10, 31⟩) (.var 1 ⟨10, 34, 10, 35⟩) ⟨10, 12, 10, 35⟩) ⟨10, 8, 10, 35⟩) (.bin .Mult (.cflt 0x3fe45794d16efff3 ⟨10, 38, 10, 56⟩) (.var 2 ⟨10, 59, 10, 60⟩) ⟨10, 38, 10, 60⟩) ⟨10, 8, 10, 60⟩) ⟨10, 4, 10, 5⟩ ⟨10, 4, 10, 60⟩)
    (.cons (.assign 5 (.bin .Add (.bin .Sub (.var 0 ⟨11, 8, 11, 9⟩) (.bin .Mult (.cflt 0x3ff1bc99b7dee436 ⟨11, 12, 11, 30⟩) (.var 1 ⟨11, 33, 11, 34⟩) ⟨11, 12, 11, 34⟩) ⟨11, 8, 11, 34⟩) (.bin .Mult (.cflt 0x3ffb5817a6224a7f ⟨11, 37, 11, 55⟩) (.var 2 ⟨11, 58, 11, 59⟩) ⟨11, 37, 11, 59⟩) ⟨11, 8, 11, 59⟩) ⟨11, 4, 11, 5⟩ ⟨11, 4, 11, 59⟩)
    (.cons (.ite (.cmp .Lt (.var 3 ⟨12, 7, 12, 8⟩) (.cflt 0x0000000000000000 ⟨12, 11, 12, 14⟩) ⟨12, 7, 12, 14⟩) (.cons (.assign 3 (.cflt 0x0000000000000000 ⟨13, 12, 13, 15⟩) ⟨13, 8, 13, 9⟩ ⟨13, 8, 13, 15⟩)
    .nil) .nil ⟨12, 4, 13, 15⟩)
    (.cons (.ite (.cmp .Lt (.var 4 ⟨14, 7, 14, 8⟩) (.cflt 0x0000000000000000 ⟨14, 11, 14, 14⟩) ⟨14, 7, 14, 14⟩) (.cons (.assign 4 (.cflt 0x0000000000000000 ⟨15, 12, 15, 15⟩) ⟨15, 8, 15, 9⟩ ⟨15, 8, 15, 15⟩)
    .nil) .nil ⟨14, 4, 15, 15⟩)
    (.cons (.ite (.cmp .Lt (.var 5 ⟨16, 7, 16, 8⟩) (.cflt 0x0000000000000000 ⟨16, 11, 16, 14⟩) ⟨16, 7, 16, 14⟩) (.cons (.assign 5 (.cflt 0x0000000000000000 ⟨17, 12, 17, 15⟩) ⟨17, 8, 17, 9⟩ ⟨17, 8, 17, 15⟩)
    .nil) .nil ⟨16, 4, 17, 15⟩)
    (.cons (.ite (.cmp .Gt (.var 3 ⟨18, 7, 18, 8⟩) (.cflt 0x3ff0000000000000 ⟨18, 11, 18, 14⟩) ⟨18, 7, 18, 14⟩) (.cons (.assign 3 (.cflt 0x3ff0000000000000 ⟨19, 12, 19, 15⟩) ⟨19, 8, 19, 9⟩ ⟨19, 8, 19, 15⟩)
    .nil) .nil ⟨18, 4, 19, 15⟩)
    (.cons (.ite (.cmp .Gt (.var 4 ⟨20, 7, 20, 8⟩) (.cflt 0x3ff0000000000000 ⟨20, 11, 20, 14⟩) ⟨20, 7, 20, 14⟩) (.cons (.assign 4 (.cflt 0x3ff0000000000000 ⟨21, 12, 21, 15⟩) ⟨21, 8, 21, 9⟩ ⟨21, 8, 21, 15⟩)
    .nil) .nil ⟨20, 4, 21, 15⟩)
    (.cons (.ite (.cmp .Gt (.var 5 ⟨22, 7, 22, 8⟩) (.cflt 0x3ff0000000000000 ⟨22, 11, 22, 14⟩) ⟨22, 7, 22, 14⟩) (.cons (.assign 5 (.cflt 0x3ff0000000000000 ⟨23, 12, 23, 15⟩) ⟨23, 8, 23, 9⟩ ⟨23, 8, 23, 15⟩)
    .nil) .nil ⟨22, 4, 23, 15⟩)
    (.cons (.ret (.tup (.cons (.var 3 ⟨24, 12, 24, 13⟩) (.cons (.var 4 ⟨24, 15, 24, 16⟩) (.cons (.var 5 ⟨24, 18, 24, 19⟩) .nil))) 0 ⟨24, 11, 24, 20⟩) ⟨24, 4, 24, 20⟩)
    .nil))))))))))
noncomputable def fyiqtorgb : Fn := rowFn 3 fyiqtorgbNm fyiqtorgbCode 3
noncomputable def fInt2APNm : List Str := [Str.ofString "num", Str.ofString "val", Str.ofString "AP", Str.ofString "mod"]
noncomputable def fInt2APCode : Sts :=
    (.cons (.assign 1 (.cbyt [] ⟨28, 10, 28, 13⟩) ⟨28, 4, 28, 7⟩ ⟨28, 4, 28, 13⟩)
    (.cons (.assign 2 (.cbyt [65, 66, 67, 68, 69, 70, 71, 72, 73, 74, 75, 76, 77, 78, 79, 80] ⟨29, 9, 29, 28⟩) ⟨29, 4, 29, 6⟩ ⟨29, 4, 29, 28⟩)
    (.cons (.assign 0 (.bcall .int (.cons (.bcall .abs (.cons (.var 0 ⟨30, 18, 30, 21⟩) .nil) ⟨30, 14, 30, 17⟩ ⟨30, 14, 30, 22⟩) .nil) ⟨30, 10, 30, 13⟩ ⟨30, 10, 30, 23⟩) ⟨30, 4, 30, 7⟩ ⟨30, 4, 30, 23⟩)
    (.cons (.whil (.var 0 ⟨31, 10, 31, 13⟩) (.cons (.assignT [(0, ⟨32, 8, 32, 11⟩), (3, ⟨32, 13, 32, 16⟩)] 0 ⟨32, 8, 32, 16⟩ (.bcall .divmod (.cons (.var 0 ⟨32, 26, 32, 29⟩) (.cons (.cint 16 ⟨32, 31, 32, 33⟩) .nil)) ⟨32, 19, 32, 25⟩ ⟨32, 19, 32, 34⟩) ⟨32, 8, 32, 34⟩)
    (.cons (.assign 1 (.bin .Add (.sl3 (.var 2 ⟨33, 14, 33, 16⟩) (.var 3 ⟨33, 17, 33, 20⟩) (.bin .Add (.var 3 ⟨33, 21, 33, 24⟩) (.cint 1 ⟨33, 27, 33, 28⟩) ⟨33, 21, 33, 28⟩) ⟨33, 17, 33, 28⟩ ⟨33, 14, 33, 29⟩) (.var 1 ⟨33, 32, 33, 35⟩) ⟨33, 14, 33, 35⟩) ⟨33, 8, 33, 11⟩ ⟨33, 8, 33, 35⟩)
    .nil)) ⟨31, 4, 33, 35⟩)
    (.cons (.ret (.var 1 ⟨34, 11, 34, 14⟩) ⟨34, 4, 34, 14⟩)
    .nil)))))
noncomputable def fInt2AP : Fn := rowFn 6 fInt2APNm fInt2APCode 1
noncomputable def fISNONTERMINALNm : List Str := [Str.ofString "x"]
noncomputable def fISNONTERMINALCode : Sts :=
    (.cons (.ret (.cmp .GtE (.var 0 ⟨43, 11, 43, 12⟩) (.glo (Str.ofString "NT_OFFSET") 256 ⟨43, 16, 43, 25⟩) ⟨43, 11, 43, 25⟩) ⟨43, 4, 43, 25⟩)
    .nil)
noncomputable def fISNONTERMINAL : Fn := rowFn 10 fISNONTERMINALNm fISNONTERMINALCode 1
noncomputable def flawtellsNm : List Str := [Str.ofString "kind", Str.ofString "x", Str.ofString "y", Str.ofString "blue", Str.ofString "luma"]
noncomputable def flawtellsCode : Sts :=
    (.cons (.assign 4 (.bin .Add (.bin .Add (.bin .Mult (.cint 30 ⟨46, 11, 46, 13⟩) (.var 1 ⟨46, 16, 46, 17⟩) ⟨46, 11, 46, 17⟩) (.bin .Mult (.cint 59 ⟨46, 20, 46, 22⟩) (.var 2 ⟨46, 25, 46, 26⟩) ⟨46, 20, 46, 26⟩) ⟨46, 11, 46, 26⟩) (.bin .Mult (.cint 11 ⟨46, 29, 46, 31⟩) (.var 3 ⟨46, 34, 46, 38⟩) ⟨46, 29, 46, 38⟩) ⟨46, 11, 46, 38⟩) ⟨46, 4, 46, 8⟩ ⟨46, 4, 46, 38⟩)
    (.cons (.ite (.cmp .Eq (.var 0 ⟨47, 7, 47, 11⟩) (.cint 0 ⟨47, 15, 47, 16⟩) ⟨47, 7, 47, 16⟩) (.cons (.ret (.bin .Mult (.cint 100 ⟨48, 15, 48, 18⟩) (.var 4 ⟨48, 21, 48, 25⟩) ⟨48, 15, 48, 25⟩) ⟨48, 8, 48, 25⟩)
    .nil) .nil ⟨47, 4, 48, 25⟩)
    (.cons (.ite (.cmp .Eq (.var 0 ⟨49, 7, 49, 11⟩) (.cint 1 ⟨49, 15, 49, 16⟩) ⟨49, 7, 49, 16⟩) (.cons (.ret (.bin .Sub (.bin .Mult (.cint 74 ⟨50, 15, 50, 17⟩) (.bin .Sub (.bin .Mult (.cint 100 ⟨50, 21, 50, 24⟩) (.var 1 ⟨50, 27, 50, 28⟩) ⟨50, 21, 50, 28⟩) (.var 4 ⟨50, 31, 50, 35⟩) ⟨50, 21, 50, 35⟩) ⟨50, 15, 50, 36⟩) (.bin .Mult (.cint 27 ⟨50, 39, 50, 41⟩) (.bin .Sub (.bin .Mult (.cint 100 ⟨50, 45, 50, 48⟩) (.var 3 ⟨50, 51, 50, 55⟩) ⟨50, 45, 50, 55⟩) (.var 4 ⟨50, 58, 50, 62⟩) ⟨50, 45, 50, 62⟩) ⟨50, 39, 50, 63⟩) ⟨50, 15, 50, 63⟩) ⟨50, 8, 50, 63⟩)
    .nil) .nil ⟨49, 4, 50, 63⟩)
    (.cons (.ret (.bin .Add (.bin .Mult (.cint 48 ⟨51, 11, 51, 13⟩) (.bin .Sub (.bin .Mult (.cint 100 ⟨51, 17, 51, 20⟩) (.var 1 ⟨51, 23, 51, 24⟩) ⟨51, 17, 51, 24⟩) (.var 4 ⟨51, 27, 51, 31⟩) ⟨51, 17, 51, 31⟩) ⟨51, 11, 51, 32⟩) (.bin .Mult (.cint 41 ⟨51, 35, 51, 37⟩) (.bin .Sub (.bin .Mult (.cint 100 ⟨51, 41, 51, 44⟩) (.var 3 ⟨51, 47, 51, 51⟩) ⟨51, 41, 51, 51⟩) (.var 4 ⟨51, 54, 51, 58⟩) ⟨51, 41, 51, 58⟩) ⟨51, 35, 51, 59⟩) ⟨51, 11, 51, 59⟩) ⟨51, 4, 51, 59⟩)
    .nil))))
noncomputable def flawtells : Fn := rowFn 12 flawtellsNm flawtellsCode 4
noncomputable def flawcoloursNm : List Str := [Str.ofString "kind", Str.ofString "blue", Str.ofString "rows", Str.ofString "x", Str.ofString "y", Str.ofString "told"]
noncomputable def flawcoloursCode : Sts :=
    (.cons (.own 2 ⟨53, 4, 53, 8⟩ ⟨53, 11, 53, 13⟩ ⟨53, 4, 53, 13⟩)
    (.cons (.for (.name 3 ⟨54, 8, 54, 9⟩) (.bcall .range (.cons (.cint 4 ⟨54, 19, 54, 20⟩) .nil) ⟨54, 13, 54, 18⟩ ⟨54, 13, 54, 21⟩) (.cons (.for (.name 4 ⟨55, 12, 55, 13⟩) (.bcall .range (.cons (.cint 4 ⟨55, 23, 55, 24⟩) .nil) ⟨55, 17, 55, 22⟩ ⟨55, 17, 55, 25⟩) (.cons (.assign 5 (.call 0 (Str.ofString "rgb_to_yiq") (.cons (.bin .Div (.var 3 ⟨56, 30, 56, 31⟩) (.cint 4 ⟨56, 34, 56, 35⟩) ⟨56, 30, 56, 35⟩) (.cons (.bin .Div (.var 4 ⟨56, 37, 56, 38⟩) (.cint 4 ⟨56, 41, 56, 42⟩) ⟨56, 37, 56, 42⟩) (.cons (.bin .Div (.var 1 ⟨56, 44, 56, 48⟩) (.cint 4 ⟨56, 51, 56, 52⟩) ⟨56, 44, 56, 52⟩) .nil))) ⟨56, 19, 56, 29⟩ ⟨56, 19, 56, 53⟩) ⟨56, 12, 56, 16⟩ ⟨56, 12, 56, 53⟩)
    (.cons (.append 2 (.tup (.cons (.idx (.var 5 ⟨57, 25, 57, 29⟩) (.var 0 ⟨57, 30, 57, 34⟩) ⟨57, 25, 57, 35⟩) (.cons (.var 5 ⟨57, 37, 57, 41⟩) (.cons (.var 3 ⟨57, 43, 57, 44⟩) (.cons (.var 4 ⟨57, 46, 57, 47⟩) .nil)))) 0 ⟨57, 24, 57, 48⟩) ⟨57, 12, 57, 16⟩ ⟨57, 12, 57, 23⟩ ⟨57, 12, 57, 49⟩ ⟨57, 12, 57, 49⟩)
    .nil)) ⟨55, 8, 57, 49⟩)
    .nil) ⟨54, 4, 57, 49⟩)
    (.cons .freeze
    (.cons (.ret (.bcall .sorted (.cons (.var 2 ⟨58, 18, 58, 22⟩) .nil) ⟨58, 11, 58, 17⟩ ⟨58, 11, 58, 23⟩) ⟨58, 4, 58, 23⟩)
    .nil))))
noncomputable def flawcolours : Fn := rowFn 13 flawcoloursNm flawcoloursCode 2
noncomputable def flawlimitsNm : List Str := [Str.ofString "drawn", Str.ofString "rows", Str.ofString "v", Str.ofString "a", Str.ofString "b"]
noncomputable def flawlimitsCode : Sts :=
    (.cons (.own 1 ⟨60, 4, 60, 8⟩ ⟨60, 11, 60, 13⟩ ⟨60, 4, 60, 13⟩)
    (.cons (.for (.name 2 ⟨61, 8, 61, 9⟩) (.var 0 ⟨61, 13, 61, 18⟩) (.cons (.assign 3 (.bin .Sub (.bin .Mod (.var 2 ⟨62, 12, 62, 13⟩) (.cint 7 ⟨62, 16, 62, 17⟩) ⟨62, 12, 62, 17⟩) (.cint 3 ⟨62, 20, 62, 21⟩) ⟨62, 12, 62, 21⟩) ⟨62, 8, 62, 9⟩ ⟨62, 8, 62, 21⟩)
    (.cons (.assign 4 (.bin .Sub (.bin .Mod (.bin .FloorDiv (.var 2 ⟨63, 12, 63, 13⟩) (.cint 7 ⟨63, 17, 63, 18⟩) ⟨63, 12, 63, 18⟩) (.cint 7 ⟨63, 21, 63, 22⟩) ⟨63, 12, 63, 22⟩) (.cint 3 ⟨63, 25, 63, 26⟩) ⟨63, 12, 63, 26⟩) ⟨63, 8, 63, 9⟩ ⟨63, 8, 63, 26⟩)
    (.cons (.append 1 (.tup (.cons (.var 3 ⟨64, 21, 64, 22⟩) (.cons (.var 4 ⟨64, 24, 64, 25⟩) (.cons (.bin .Sub (.bin .Add (.bin .Mult (.var 3 ⟨64, 27, 64, 28⟩) (.bin .Mod (.bin .FloorDiv (.var 2 ⟨64, 32, 64, 33⟩) (.cint 49 ⟨64, 37, 64, 39⟩) ⟨64, 32, 64, 39⟩) (.cint 4 ⟨64, 42, 64, 43⟩) ⟨64, 32, 64, 43⟩) ⟨64, 27, 64, 44⟩) (.bin .Mult (.var 4 ⟨64, 47, 64, 48⟩) (.bin .Mod (.bin .FloorDiv (.var 2 ⟨64, 52, 64, 53⟩) (.cint 196 ⟨64, 57, 64, 60⟩) ⟨64, 52, 64, 60⟩) (.cint 4 ⟨64, 63, 64, 64⟩) ⟨64, 52, 64, 64⟩) ⟨64, 47, 64, 65⟩) ⟨64, 27, 64, 65⟩) (.bin .Mod (.bin .FloorDiv (.var 2 ⟨64, 68, 64, 69⟩) (.cint 784 ⟨64, 73, 64, 76⟩) ⟨64, 68, 64, 76⟩) (.cint 2 ⟨64, 79, 64, 80⟩) ⟨64, 68, 64, 80⟩) ⟨64, 27, 64, 80⟩) .nil))) 0 ⟨64, 20, 64, 81⟩) ⟨64, 8, 64, 12⟩ ⟨64, 8, 64, 19⟩ ⟨64, 8, 64, 82⟩ ⟨64, 8, 64, 82⟩)
    .nil))) ⟨61, 4, 64, 82⟩)
    (.cons .freeze
    (.cons (.ret (.var 1 ⟨65, 11, 65, 15⟩) ⟨65, 4, 65, 15⟩)
    .nil))))
noncomputable def flawlimits : Fn := rowFn 14 flawlimitsNm flawlimitsCode 1
noncomputable def flawallowedNm : List Str := [Str.ofString "limits", Str.ofString "x", Str.ofString "y", Str.ofString "a", Str.ofString "b", Str.ofString "c"]
noncomputable def flawallowedCode : Sts :=
    (.cons (.for (.tup [(3, ⟨67, 8, 67, 9⟩), (4, ⟨67, 11, 67, 12⟩), (5, ⟨67, 14, 67, 15⟩)] 0 ⟨67, 8, 67, 15⟩) (.var 0 ⟨67, 19, 67, 25⟩) (.cons (.ite (.cmp .Gt (.bin .Add (.bin .Mult (.var 3 ⟨68, 11, 68, 12⟩) (.var 1 ⟨68, 15, 68, 16⟩) ⟨68, 11, 68, 16⟩) (.bin .Mult (.var 4 ⟨68, 19, 68, 20⟩) (.var 2 ⟨68, 23, 68, 24⟩) ⟨68, 19, 68, 24⟩) ⟨68, 11, 68, 24⟩) (.var 5 ⟨68, 27, 68, 28⟩) ⟨68, 11, 68, 28⟩) (.cons (.ret (.cboo false ⟨69, 19, 69, 24⟩) ⟨69, 12, 69, 24⟩)
    .nil) .nil ⟨68, 8, 69, 24⟩)
    .nil) ⟨67, 4, 69, 24⟩)
    (.cons (.ret (.cboo true ⟨70, 11, 70, 15⟩) ⟨70, 4, 70, 15⟩)
    .nil))
noncomputable def flawallowed : Fn := rowFn 15 flawallowedNm flawallowedCode 3
noncomputable def flawnumberNm : List Str := [Str.ofString "word", Str.ofString "number", Str.ofString "letter"]
noncomputable def flawnumberCode : Sts :=
    (.cons (.assign 1 (.cint 0 ⟨72, 13, 72, 14⟩) ⟨72, 4, 72, 10⟩ ⟨72, 4, 72, 14⟩)
    (.cons (.for (.name 2 ⟨73, 8, 73, 14⟩) (.var 0 ⟨73, 18, 73, 22⟩) (.cons (.assign 1 (.bin .Sub (.bin .Add (.bin .Mult (.cint 16 ⟨74, 17, 74, 19⟩) (.var 1 ⟨74, 22, 74, 28⟩) ⟨74, 17, 74, 28⟩) (.var 2 ⟨74, 31, 74, 37⟩) ⟨74, 17, 74, 37⟩) (.cint 65 ⟨74, 40, 74, 42⟩) ⟨74, 17, 74, 42⟩) ⟨74, 8, 74, 14⟩ ⟨74, 8, 74, 42⟩)
    .nil) ⟨73, 4, 74, 42⟩)
    (.cons (.ret (.var 1 ⟨75, 11, 75, 17⟩) ⟨75, 4, 75, 17⟩)
    .nil)))
noncomputable def flawnumber : Fn := rowFn 16 flawnumberNm flawnumberCode 1
noncomputable def flawhighestNm : List Str := [Str.ofString "word", Str.ofString "place", Str.ofString "first", Str.ofString "turn"]
noncomputable def flawhighestCode : Sts :=
    (.cons (.assign 1 (.bin .Sub (.bin .Mult (.cint 4 ⟨77, 12, 77, 13⟩) (.bcall .len (.cons (.var 0 ⟨77, 20, 77, 24⟩) .nil) ⟨77, 16, 77, 19⟩ ⟨77, 16, 77, 25⟩) ⟨77, 12, 77, 25⟩) (.cint 1 ⟨77, 28, 77, 29⟩) ⟨77, 12, 77, 29⟩) ⟨77, 4, 77, 9⟩ ⟨77, 4, 77, 29⟩)
    (.cons (.assign 2 (.bin .Sub (.idx (.var 0 ⟨78, 12, 78, 16⟩) (.cint 0 ⟨78, 17, 78, 18⟩) ⟨78, 12, 78, 19⟩) (.cint 65 ⟨78, 22, 78, 24⟩) ⟨78, 12, 78, 24⟩) ⟨78, 4, 78, 9⟩ ⟨78, 4, 78, 24⟩)
    (.cons (.for (.name 3 ⟨79, 8, 79, 12⟩) (.bcall .range (.cons (.cint 3 ⟨79, 22, 79, 23⟩) .nil) ⟨79, 16, 79, 21⟩ ⟨79, 16, 79, 24⟩) (.cons (.ite (.cmp .Lt (.var 2 ⟨80, 11, 80, 16⟩) (.cint 8 ⟨80, 19, 80, 20⟩) ⟨80, 11, 80, 20⟩) (.cons (.assign 2 (.bin .Mult (.cint 2 ⟨81, 20, 81, 21⟩) (.var 2 ⟨81, 24, 81, 29⟩) ⟨81, 20, 81, 29⟩) ⟨81, 12, 81, 17⟩ ⟨81, 12, 81, 29⟩)
    (.cons (.assign 1 (.bin .Sub (.var 1 ⟨82, 20, 82, 25⟩) (.cint 1 ⟨82, 28, 82, 29⟩) ⟨82, 20, 82, 29⟩) ⟨82, 12, 82, 17⟩ ⟨82, 12, 82, 29⟩)
    .nil)) .nil ⟨80, 8, 82, 29⟩)
    .nil) ⟨79, 4, 82, 29⟩)
    (.cons (.ret (.var 1 ⟨83, 11, 83, 16⟩) ⟨83, 4, 83, 16⟩)
    .nil))))
noncomputable def flawhighest : Fn := rowFn 17 flawhighestNm flawhighestCode 1
noncomputable def flawNm : List Str := [Str.ofString "script", Str.ofString "x", Str.ofString "drawn", Str.ofString "kind", Str.ofString "blue", Str.ofString "colours", Str.ofString "value", Str.ofString "told", Str.ofString "y", Str.ofString "limits", Str.ofString "count", Str.ofString "masks", Str.ofString "line", Str.ofString "a", Str.ofString "b", Str.ofString "c", Str.ofString "mask", Str.ofString "place", Str.ofString "heard", Str.ofString "pairs", Str.ofString "threes", Str.ofString "fours", Str.ofString "whole", Str.ofString "due", Str.ofString "lights", Str.ofString "least"]
noncomputable def flawCode : Sts :=
    (.cons (.assignC 2 (.comp (.bin .Mod (.var 1 ⟨85, 13, 85, 14⟩) (.bin .Pow (.cint 10 ⟨85, 17, 85, 19⟩) (.cint 6 ⟨85, 23, 85, 24⟩) ⟨85, 17, 85, 24⟩) ⟨85, 13, 85, 24⟩) (.name 1 ⟨85, 29, 85, 30⟩) (.sl1 (.var 0 ⟨85, 34, 85, 40⟩) (.cint 7 ⟨85, 42, 85, 43⟩) ⟨85, 41, 85, 43⟩ ⟨85, 34, 85, 44⟩) .nil .nil [Str.ofString ".0", Str.ofString "x"] [] sc0 ⟨85, 12, 85, 45⟩) ⟨85, 4, 85, 9⟩ ⟨85, 4, 85, 45⟩)
    (.cons (.assign 2 (.bin .Add (.var 2 ⟨86, 12, 86, 17⟩) (.sl2 (.lst (.cons (.cint 473 ⟨86, 21, 86, 24⟩) (.cons (.cint 275 ⟨86, 26, 86, 29⟩) (.cons (.cint 263 ⟨86, 31, 86, 34⟩) (.cons (.cint 377 ⟨86, 36, 86, 39⟩) (.cons (.cint 64 ⟨86, 41, 86, 43⟩) .nil))))) ⟨86, 20, 86, 44⟩) (.bcall .len (.cons (.var 2 ⟨86, 49, 86, 54⟩) .nil) ⟨86, 45, 86, 48⟩ ⟨86, 45, 86, 55⟩) ⟨86, 45, 86, 56⟩ ⟨86, 20, 86, 57⟩) ⟨86, 12, 86, 57⟩) ⟨86, 4, 86, 9⟩ ⟨86, 4, 86, 57⟩)
    (.cons (.assign 3 (.bin .Mod (.bcall .sum (.cons (.var 2 ⟨87, 15, 87, 20⟩) .nil) ⟨87, 11, 87, 14⟩ ⟨87, 11, 87, 21⟩) (.cint 3 ⟨87, 24, 87, 25⟩) ⟨87, 11, 87, 25⟩) ⟨87, 4, 87, 8⟩ ⟨87, 4, 87, 25⟩)
    (.cons (.assign 4 (.bin .Mod (.bin .FloorDiv (.bcall .sum (.cons (.var 2 ⟨88, 15, 88, 20⟩) .nil) ⟨88, 11, 88, 14⟩ ⟨88, 11, 88, 21⟩) (.cint 3 ⟨88, 25, 88, 26⟩) ⟨88, 11, 88, 26⟩) (.cint 4 ⟨88, 29, 88, 30⟩) ⟨88, 11, 88, 30⟩) ⟨88, 4, 88, 8⟩ ⟨88, 4, 88, 30⟩)
    (.cons (.assign 5 (.call 6 (Str.ofString "_law_colours") (.cons (.var 3 ⟨89, 27, 89, 31⟩) (.cons (.var 4 ⟨89, 33, 89, 37⟩) .nil)) ⟨89, 14, 89, 26⟩ ⟨89, 14, 89, 38⟩) ⟨89, 4, 89, 11⟩ ⟨89, 4, 89, 38⟩)
    (.cons (.for (.tup [(6, ⟨90, 8, 90, 13⟩), (7, ⟨90, 15, 90, 19⟩), (1, ⟨90, 21, 90, 22⟩), (8, ⟨90, 24, 90, 25⟩)] 0 ⟨90, 8, 90, 25⟩) (.var 5 ⟨90, 29, 90, 36⟩) (.cons (.ite (.cmp .NotEq (.bin .Sub (.bcall .int (.cons (.bin .Add (.bin .Mult (.var 6 ⟨91, 15, 91, 20⟩) (.cflt 0x40e3880000000000 ⟨91, 23, 91, 30⟩) ⟨91, 15, 91, 30⟩) (.cflt 0x412e848100000000 ⟨91, 33, 91, 42⟩) ⟨91, 15, 91, 42⟩) .nil) ⟨91, 11, 91, 14⟩ ⟨91, 11, 91, 43⟩) (.cint 1000000 ⟨91, 46, 91, 53⟩) ⟨91, 11, 91, 53⟩) (.call 5 (Str.ofString "_law_tells") (.cons (.var 3 ⟨91, 68, 91, 72⟩) (.cons (.var 1 ⟨91, 74, 91, 75⟩) (.cons (.var 8 ⟨91, 77, 91, 78⟩) (.cons (.var 4 ⟨91, 80, 91, 84⟩) .nil)))) ⟨91, 57, 91, 67⟩ ⟨91, 57, 91, 85⟩) ⟨91, 11, 91, 85⟩) (.cons (.ret (.cboo false ⟨92, 19, 92, 24⟩) ⟨92, 12, 92, 24⟩)
    .nil) .nil ⟨91, 8, 92, 24⟩)
    .nil) ⟨90, 4, 92, 24⟩)
    (.cons (.assign 9 (.call 7 (Str.ofString "_law_limits") (.cons (.var 2 ⟨93, 25, 93, 30⟩) .nil) ⟨93, 13, 93, 24⟩ ⟨93, 13, 93, 31⟩) ⟨93, 4, 93, 10⟩ ⟨93, 4, 93, 31⟩)
    (.cons (.assign 10 (.bcall .len (.cons (.var 9 ⟨94, 16, 94, 22⟩) .nil) ⟨94, 12, 94, 15⟩ ⟨94, 12, 94, 23⟩) ⟨94, 4, 94, 9⟩ ⟨94, 4, 94, 23⟩)
    (.cons (.own 11 ⟨95, 4, 95, 9⟩ ⟨95, 12, 95, 14⟩ ⟨95, 4, 95, 14⟩)
    (.cons (.assign 12 (.cbyt [42, 32, 49, 32, 70, 69, 84, 67, 72, 32, 40, 70, 76, 65, 71, 83, 32, 40] ⟨96, 11, 96, 32⟩) ⟨96, 4, 96, 8⟩ ⟨96, 4, 96, 32⟩)
    (.cons (.for (.tup [(13, ⟨97, 8, 97, 9⟩), (14, ⟨97, 11, 97, 12⟩), (15, ⟨97, 14, 97, 15⟩)] 0 ⟨97, 8, 97, 15⟩) (.var 9 ⟨97, 19, 97, 25⟩) (.cons (.assign 16 (.cint 0 ⟨98, 15, 98, 16⟩) ⟨98, 8, 98, 12⟩ ⟨98, 8, 98, 16⟩)
    (.cons (.for (.name 17 ⟨99, 12, 99, 17⟩) (.bcall .range (.cons (.cint 16 ⟨99, 27, 99, 29⟩) .nil) ⟨99, 21, 99, 26⟩ ⟨99, 21, 99, 30⟩) (.cons (.ite (.call 4 (Str.ofString "ISNONTERMINAL") (.cons (.bin .Sub (.bin .Sub (.bin .Add (.cint 256 ⟨100, 29, 100, 32⟩) (.var 15 ⟨100, 35, 100, 36⟩) ⟨100, 29, 100, 36⟩) (.bin .Mult (.var 13 ⟨100, 39, 100, 40⟩) (.idx (.idx (.var 5 ⟨100, 43, 100, 50⟩) (.var 17 ⟨100, 51, 100, 56⟩) ⟨100, 43, 100, 57⟩) (.cint 2 ⟨100, 58, 100, 59⟩) ⟨100, 43, 100, 60⟩) ⟨100, 39, 100, 60⟩) ⟨100, 29, 100, 60⟩) (.bin .Mult (.var 14 ⟨100, 63, 100, 64⟩) (.idx (.idx (.var 5 ⟨100, 67, 100, 74⟩) (.var 17 ⟨100, 75, 100, 80⟩) ⟨100, 67, 100, 81⟩) (.cint 3 ⟨100, 82, 100, 83⟩) ⟨100, 67, 100, 84⟩) ⟨100, 63, 100, 84⟩) ⟨100, 29, 100, 84⟩) .nil) ⟨100, 15, 100, 28⟩ ⟨100, 15, 100, 85⟩) (.cons (.aug 16 .Add (.bin .Pow (.cint 2 ⟨101, 24, 101, 25⟩) (.var 17 ⟨101, 29, 101, 34⟩) ⟨101, 24, 101, 34⟩) ⟨101, 16, 101, 20⟩ ⟨101, 16, 101, 34⟩)
    .nil) .nil ⟨100, 12, 101, 34⟩)
    .nil) ⟨99, 8, 101, 34⟩)
    (.cons (.append 11 (.var 16 ⟨102, 21, 102, 25⟩) ⟨102, 8, 102, 13⟩ ⟨102, 8, 102, 20⟩ ⟨102, 8, 102, 26⟩ ⟨102, 8, 102, 26⟩)
    (.cons (.assign 12 (.bin .Add (.bin .Add (.var 12 ⟨103, 15, 103, 19⟩) (.cbyt [32] ⟨103, 22, 103, 26⟩) ⟨103, 15, 103, 26⟩) (.call 2 (Str.ofString "Int2AP") (.cons (.var 16 ⟨103, 36, 103, 40⟩) .nil) ⟨103, 29, 103, 35⟩ ⟨103, 29, 103, 41⟩) ⟨103, 15, 103, 41⟩) ⟨103, 8, 103, 12⟩ ⟨103, 8, 103, 41⟩)
    .nil)))) ⟨97, 4, 103, 41⟩)
    (.cons .freeze
    (.cons (.assign 18 (.comp (.call 9 (Str.ofString "_law_number") (.cons (.var 1 ⟨104, 25, 104, 29⟩) .nil) ⟨104, 13, 104, 24⟩ ⟨104, 13, 104, 30⟩) (.name 1 ⟨104, 35, 104, 39⟩) (.call 3 (Str.ofString "ParseFlags") (.cons (.bin .Add (.var 12 ⟨104, 54, 104, 58⟩) (.cbyt [41, 41] ⟨104, 61, 104, 66⟩) ⟨104, 54, 104, 66⟩) .nil) ⟨104, 43, 104, 53⟩ ⟨104, 43, 104, 67⟩) .nil .nil [Str.ofString ".0", Str.ofString "word"] [] sc1 ⟨104, 12, 104, 68⟩) ⟨104, 4, 104, 9⟩ ⟨104, 4, 104, 68⟩)
    (.cons (.ite (.cmp .NotEq (.var 18 ⟨105, 7, 105, 12⟩) (.comp (.var 1 ⟨105, 17, 105, 21⟩) (.name 1 ⟨105, 26, 105, 30⟩) (.var 11 ⟨105, 34, 105, 39⟩) (.cons (.cmp .Gt (.var 1 ⟨105, 43, 105, 47⟩) (.cint 0 ⟨105, 50, 105, 51⟩) ⟨105, 43, 105, 51⟩) .nil) .nil [Str.ofString ".0", Str.ofString "mask"] [] sc2 ⟨105, 16, 105, 52⟩) ⟨105, 7, 105, 52⟩) (.cons (.ret (.cboo false ⟨106, 15, 106, 20⟩) ⟨106, 8, 106, 20⟩)
    .nil) .nil ⟨105, 4, 106, 20⟩)
    (.cons (.assign 18 (.bin .Add (.var 18 ⟨107, 12, 107, 17⟩) (.bin .Mult (.lst (.cons (.cint 0 ⟨107, 21, 107, 22⟩) .nil) ⟨107, 20, 107, 23⟩) (.bin .Sub (.var 10 ⟨107, 27, 107, 32⟩) (.bcall .len (.cons (.var 18 ⟨107, 39, 107, 44⟩) .nil) ⟨107, 35, 107, 38⟩ ⟨107, 35, 107, 45⟩) ⟨107, 27, 107, 45⟩) ⟨107, 20, 107, 46⟩) ⟨107, 12, 107, 46⟩) ⟨107, 4, 107, 9⟩ ⟨107, 4, 107, 46⟩)
    (.cons (.assignC 19 (.comp (.tup (.cons (.var 1 ⟨108, 14, 108, 15⟩) (.cons (.bin .BitAnd (.idx (.var 3 ⟨108, 17, 108, 22⟩) (.var 2 ⟨108, 23, 108, 24⟩) ⟨108, 17, 108, 25⟩) (.idx (.var 3 ⟨108, 28, 108, 33⟩) (.var 1 ⟨108, 34, 108, 35⟩) ⟨108, 28, 108, 36⟩) ⟨108, 17, 108, 36⟩) .nil)) 0 ⟨108, 13, 108, 37⟩) (.name 1 ⟨108, 42, 108, 43⟩) (.bcall .range (.cons (.var 10 ⟨108, 53, 108, 58⟩) .nil) ⟨108, 47, 108, 52⟩ ⟨108, 47, 108, 59⟩) .nil (.cons (.name 2 ⟨108, 64, 108, 65⟩) (.bcall .range (.cons (.var 1 ⟨108, 75, 108, 76⟩) .nil) ⟨108, 69, 108, 74⟩ ⟨108, 69, 108, 77⟩) .nil .nil) [Str.ofString ".0", Str.ofString "k", Str.ofString "j", Str.ofString "heard"] [18] sc3 ⟨108, 12, 108, 78⟩) ⟨108, 4, 108, 9⟩ ⟨108, 4, 108, 78⟩)
    (.cons (.assignC 20 (.comp (.tup (.cons (.var 3 ⟨109, 15, 109, 16⟩) (.cons (.bin .BitAnd (.var 2 ⟨109, 18, 109, 22⟩) (.idx (.var 5 ⟨109, 25, 109, 30⟩) (.var 3 ⟨109, 31, 109, 32⟩) ⟨109, 25, 109, 33⟩) ⟨109, 18, 109, 33⟩) .nil)) 0 ⟨109, 14, 109, 34⟩) (.tup [(1, ⟨109, 39, 109, 40⟩), (2, ⟨109, 42, 109, 46⟩)] 0 ⟨109, 39, 109, 46⟩) (.var 19 ⟨109, 50, 109, 55⟩) .nil (.cons (.name 3 ⟨109, 60, 109, 61⟩) (.bcall .range (.cons (.bin .Add (.var 1 ⟨109, 71, 109, 72⟩) (.cint 1 ⟨109, 75, 109, 76⟩) ⟨109, 71, 109, 76⟩) (.cons (.var 4 ⟨109, 78, 109, 83⟩) .nil)) ⟨109, 65, 109, 70⟩ ⟨109, 65, 109, 84⟩) .nil .nil) [Str.ofString ".0", Str.ofString "k", Str.ofString "both", Str.ofString "m", Str.ofString "count", Str.ofString "heard"] [10, 18] sc4 ⟨109, 13, 109, 85⟩) ⟨109, 4, 109, 10⟩ ⟨109, 4, 109, 85⟩)
    (.cons (.assignC 21 (.comp (.bin .BitAnd (.var 2 ⟨110, 13, 110, 18⟩) (.idx (.var 5 ⟨110, 21, 110, 26⟩) (.var 3 ⟨110, 27, 110, 28⟩) ⟨110, 21, 110, 29⟩) ⟨110, 13, 110, 29⟩) (.tup [(1, ⟨110, 34, 110, 35⟩), (2, ⟨110, 37, 110, 42⟩)] 0 ⟨110, 34, 110, 42⟩) (.var 20 ⟨110, 46, 110, 52⟩) .nil (.cons (.name 3 ⟨110, 57, 110, 58⟩) (.bcall .range (.cons (.bin .Add (.var 1 ⟨110, 68, 110, 69⟩) (.cint 1 ⟨110, 72, 110, 73⟩) ⟨110, 68, 110, 73⟩) (.cons (.var 4 ⟨110, 75, 110, 80⟩) .nil)) ⟨110, 62, 110, 67⟩ ⟨110, 62, 110, 81⟩) .nil .nil) [Str.ofString ".0", Str.ofString "m", Str.ofString "three", Str.ofString "n", Str.ofString "count", Str.ofString "heard"] [10, 18] sc5 ⟨110, 12, 110, 82⟩) ⟨110, 4, 110, 9⟩ ⟨110, 4, 110, 82⟩)
    (.cons (.assign 22 (.idx (.var 18 ⟨111, 12, 111, 17⟩) (.cint 0 ⟨111, 18, 111, 19⟩) ⟨111, 12, 111, 20⟩) ⟨111, 4, 111, 9⟩ ⟨111, 4, 111, 20⟩)
    (.cons (.for (.name 16 ⟨112, 8, 112, 12⟩) (.var 18 ⟨112, 16, 112, 21⟩) (.cons (.assign 22 (.bin .BitAnd (.var 22 ⟨113, 16, 113, 21⟩) (.var 16 ⟨113, 24, 113, 28⟩) ⟨113, 16, 113, 28⟩) ⟨113, 8, 113, 13⟩ ⟨113, 8, 113, 28⟩)
    .nil) ⟨112, 4, 113, 28⟩)
    (.cons (.assign 23 (.cint 15 ⟨114, 10, 114, 12⟩) ⟨114, 4, 114, 7⟩ ⟨114, 4, 114, 12⟩)
    (.cons (.whil (.and (.cmp .GtE (.var 23 ⟨115, 10, 115, 13⟩) (.cint 0 ⟨115, 17, 115, 18⟩) ⟨115, 10, 115, 18⟩) (.not (.call 8 (Str.ofString "_law_allowed") (.cons (.var 9 ⟨115, 41, 115, 47⟩) (.cons (.idx (.idx (.var 5 ⟨115, 49, 115, 56⟩) (.var 23 ⟨115, 57, 115, 60⟩) ⟨115, 49, 115, 61⟩) (.cint 2 ⟨115, 62, 115, 63⟩) ⟨115, 49, 115, 64⟩) (.cons (.idx (.idx (.var 5 ⟨115, 66, 115, 73⟩) (.var 23 ⟨115, 74, 115, 77⟩) ⟨115, 66, 115, 78⟩) (.cint 3 ⟨115, 79, 115, 80⟩) ⟨115, 66, 115, 81⟩) .nil))) ⟨115, 28, 115, 40⟩ ⟨115, 28, 115, 82⟩) ⟨115, 24, 115, 82⟩) ⟨115, 10, 115, 83⟩) (.cons (.assign 23 (.bin .Sub (.var 23 ⟨116, 14, 116, 17⟩) (.cint 1 ⟨116, 20, 116, 21⟩) ⟨116, 14, 116, 21⟩) ⟨116, 8, 116, 11⟩ ⟨116, 8, 116, 21⟩)
    .nil) ⟨115, 4, 116, 21⟩)
    (.cons (.ite (.cmp .NotEq (.cmp .In (.cint 0 ⟨117, 8, 117, 9⟩) (.var 21 ⟨117, 13, 117, 18⟩) ⟨117, 8, 117, 18⟩) (.cmp .Lt (.var 23 ⟨117, 24, 117, 27⟩) (.cint 0 ⟨117, 30, 117, 31⟩) ⟨117, 24, 117, 31⟩) ⟨117, 7, 117, 32⟩) (.cons (.ret (.cboo false ⟨118, 15, 118, 20⟩) ⟨118, 8, 118, 20⟩)
    .nil) .nil ⟨117, 4, 118, 20⟩)
    (.cons (.ite (.cmp .Lt (.var 23 ⟨119, 7, 119, 10⟩) (.cint 0 ⟨119, 13, 119, 14⟩) ⟨119, 7, 119, 14⟩) (.cons (.ret (.cmp .Eq (.var 22 ⟨120, 15, 120, 20⟩) (.cint 0 ⟨120, 24, 120, 25⟩) ⟨120, 15, 120, 25⟩) ⟨120, 8, 120, 25⟩)
    .nil) .nil ⟨119, 4, 120, 25⟩)
    (.cons (.assignT [(6, ⟨121, 4, 121, 9⟩), (7, ⟨121, 11, 121, 15⟩), (1, ⟨121, 17, 121, 18⟩), (8, ⟨121, 20, 121, 21⟩)] 0 ⟨121, 4, 121, 21⟩ (.idx (.var 5 ⟨121, 24, 121, 31⟩) (.var 23 ⟨121, 32, 121, 35⟩) ⟨121, 24, 121, 36⟩) ⟨121, 4, 121, 36⟩)
    (.cons (.assignC 24 (.comp (.bcall .int (.cons (.bin .Add (.bin .Mult (.cflt 0x4010000000000000 ⟨122, 18, 122, 21⟩) (.var 1 ⟨122, 24, 122, 29⟩) ⟨122, 18, 122, 29⟩) (.cflt 0x3fe0000000000000 ⟨122, 32, 122, 35⟩) ⟨122, 18, 122, 35⟩) .nil) ⟨122, 14, 122, 17⟩ ⟨122, 14, 122, 36⟩) (.name 1 ⟨122, 41, 122, 46⟩) (.call 1 (Str.ofString "yiq_to_rgb") (.cons (.idx (.var 7 ⟨122, 61, 122, 65⟩) (.cint 0 ⟨122, 66, 122, 67⟩) ⟨122, 61, 122, 68⟩) (.cons (.idx (.var 7 ⟨122, 70, 122, 74⟩) (.cint 1 ⟨122, 75, 122, 76⟩) ⟨122, 70, 122, 77⟩) (.cons (.idx (.var 7 ⟨122, 79, 122, 83⟩) (.cint 2 ⟨122, 84, 122, 85⟩) ⟨122, 79, 122, 86⟩) .nil))) ⟨122, 50, 122, 60⟩ ⟨122, 50, 122, 87⟩) .nil .nil [Str.ofString ".0", Str.ofString "light"] [] sc6 ⟨122, 13, 122, 88⟩) ⟨122, 4, 122, 10⟩ ⟨122, 4, 122, 88⟩)
    (.cons (.ite (.cmp .NotEq (.var 24 ⟨123, 7, 123, 13⟩) (.lst (.cons (.var 1 ⟨123, 18, 123, 19⟩) (.cons (.var 8 ⟨123, 21, 123, 22⟩) (.cons (.var 4 ⟨123, 24, 123, 28⟩) .nil))) ⟨123, 17, 123, 29⟩) ⟨123, 7, 123, 29⟩) (.cons (.ret (.cboo false ⟨124, 15, 124, 20⟩) ⟨124, 8, 124, 20⟩)
    .nil) .nil ⟨123, 4, 124, 20⟩)
    (.cons (.assign 25 (.bcall .min (.cons (.comp (.var 2 ⟨125, 17, 125, 22⟩) (.tup [(1, ⟨125, 27, 125, 28⟩), (2, ⟨125, 30, 125, 35⟩)] 0 ⟨125, 27, 125, 35⟩) (.var 20 ⟨125, 39, 125, 45⟩) .nil .nil [Str.ofString ".0", Str.ofString "m", Str.ofString "three"] [] sc7 ⟨125, 16, 125, 46⟩) .nil) ⟨125, 12, 125, 15⟩ ⟨125, 12, 125, 47⟩) ⟨125, 4, 125, 9⟩ ⟨125, 4, 125, 47⟩)
    (.cons (.ret (.and (.cmp .Eq (.call 10 (Str.ofString "_law_highest") (.cons (.call 2 (Str.ofString "Int2AP") (.cons (.var 22 ⟨126, 31, 126, 36⟩) .nil) ⟨126, 24, 126, 30⟩ ⟨126, 24, 126, 37⟩) .nil) ⟨126, 11, 126, 23⟩ ⟨126, 11, 126, 38⟩) (.var 23 ⟨126, 42, 126, 45⟩) ⟨126, 11, 126, 45⟩) (.cmp .Eq (.call 10 (Str.ofString "_law_highest") (.cons (.call 2 (Str.ofString "Int2AP") (.cons (.var 25 ⟨126, 70, 126, 75⟩) .nil) ⟨126, 63, 126, 69⟩ ⟨126, 63, 126, 76⟩) .nil) ⟨126, 50, 126, 62⟩ ⟨126, 50, 126, 77⟩) (.var 23 ⟨126, 81, 126, 84⟩) ⟨126, 50, 126, 84⟩) ⟨126, 11, 126, 84⟩) ⟨126, 4, 126, 84⟩)
    .nil)))))))))))))))))))))))))))))
noncomputable def flaw : Fn := rowFn 18 flawNm flawCode 1
end Mine
namespace Mine
open PySem PySem.Calls PyProof.Rows

noncomputable def fnNames : List Str := [Str.ofString "rgb_to_yiq", Str.ofString "yiq_to_rgb", Str.ofString "Int2AP", Str.ofString "ParseFlags", Str.ofString "ISNONTERMINAL", Str.ofString "_law_tells", Str.ofString "_law_colours", Str.ofString "_law_limits", Str.ofString "_law_allowed", Str.ofString "_law_number", Str.ofString "_law_highest"]
noncomputable def rkF (f : Nat) : Nat := if f = 6 then 2 else if f = 3 then 8 else 1
noncomputable def theConsts : List (Str × Int) := [(Str.ofString "NT_OFFSET", 256)]
noncomputable def mkC (prog : Program) (w : World) (Φ : Nat → List V → Option V) (fa : Nat → Addr) (mg mb : Str → Option Value) : Cx := { prog, w, Φ, fns := fnNames, rk := rkF, fa, consts := theConsts, mg, mb }

noncomputable def fnCheck (F : Fn) : Bool :=
  F.scope.kind == .function && (List.range F.nm.length).all (fun i => F.scope.names.lookup (nmAt F.nm i) == some .local) && decide F.nm.Nodup && F.nm.all (fun x => !(x == ("__debug__" : Str))) &&
  decide (F.params.args.map (·.arg) = F.nm.take F.k) && decide (F.k ≤ F.nm.length) && !F.scope.isCoroutine && !F.scope.isGenerator && F.scope.names.all (fun x => x.2 != .cell)
theorem fnOk_of {c : Cx} {F : Fn} {n : Nat} (b : trSts F.nm F.code = F.body) (w : wfSs c F.scope F.nm n F.code = true) (h : fnCheck F = true)
    (bd : ∀ pm cd doc vals, vals.length = F.k → bindArgs (docDef F.name F.params F.body F.scope pm cd doc) ⟨vals, []⟩ = pure ((F.params.args.map (·.arg)).zip vals)) : FnOk c F n := by
  unfold fnCheck at h
  simp only [Bool.and_eq_true, List.all_eq_true, List.mem_range, beq_iff_eq, decide_eq_true_eq, Bool.not_eq_true', bne_iff_ne, ne_eq] at h
  obtain ⟨⟨⟨⟨⟨⟨⟨⟨h1, h2⟩, h3⟩, h4⟩, h5⟩, h6⟩, h7⟩, h8⟩, h9⟩ := h
  exact ⟨b, w, h1, h2, h3, fun i hi => by rw [nmAt_mem hi]; exact h4 _ (List.getElem_mem hi), h5, h6, h7, h8, h9, bd⟩

section
variable (prog : Program) (w : World) (Φ : Nat → List V → Option V) (fa : Nat → Addr) (mg mb : Str → Option Value)
theorem ok_rgb : FnOk (mkC prog w Φ fa mg mb) frgbtoyiq 0 := fnOk_of (by rfl) (by rfl) (by rfl) fun pm cd doc vals h => by
  match vals, h with
  | [a, b, c], _ => rfl
theorem ok_yiq : FnOk (mkC prog w Φ fa mg mb) fyiqtorgb 0 := fnOk_of (by rfl) (by rfl) (by rfl) fun pm cd doc vals h => by
  match vals, h with
  | [a, b, c], _ => rfl
theorem ok_i2a : FnOk (mkC prog w Φ fa mg mb) fInt2AP 0 := fnOk_of (by rfl) (by rfl) (by rfl) fun pm cd doc vals h => by
  match vals, h with
  | [a], _ => rfl
theorem ok_non : FnOk (mkC prog w Φ fa mg mb) fISNONTERMINAL 0 := fnOk_of (by rfl) (by rfl) (by rfl) fun pm cd doc vals h => by
  match vals, h with
  | [a], _ => rfl
theorem ok_tells : FnOk (mkC prog w Φ fa mg mb) flawtells 0 := fnOk_of (by rfl) (by rfl) (by rfl) fun pm cd doc vals h => by
  match vals, h with
  | [a, b, c, d], _ => rfl
theorem ok_colours : FnOk (mkC prog w Φ fa mg mb) flawcolours 1 := fnOk_of (by rfl) (by rfl) (by rfl) fun pm cd doc vals h => by
  match vals, h with
  | [a, b], _ => rfl
theorem ok_limits : FnOk (mkC prog w Φ fa mg mb) flawlimits 0 := fnOk_of (by rfl) (by rfl) (by rfl) fun pm cd doc vals h => by
  match vals, h with
  | [a], _ => rfl
theorem ok_allowed : FnOk (mkC prog w Φ fa mg mb) flawallowed 0 := fnOk_of (by rfl) (by rfl) (by rfl) fun pm cd doc vals h => by
  match vals, h with
  | [a, b, c], _ => rfl
theorem ok_number : FnOk (mkC prog w Φ fa mg mb) flawnumber 0 := fnOk_of (by rfl) (by rfl) (by rfl) fun pm cd doc vals h => by
  match vals, h with
  | [a], _ => rfl
theorem ok_highest : FnOk (mkC prog w Φ fa mg mb) flawhighest 0 := fnOk_of (by rfl) (by rfl) (by rfl) fun pm cd doc vals h => by
  match vals, h with
  | [a], _ => rfl
theorem wf_law : wfSs (mkC prog w Φ fa mg mb) flaw.scope flawNm 8 flawCode = true := by rfl
theorem body_law : trSts flawNm flawCode = flaw.body := by rfl
end
end Mine
namespace Mine
open PySem PySem.Calls PyProof.Rows

/-! what ParseFlags answers on the law's lines -/
noncomputable def isFlagCh (c : UInt8) : Bool := c == 32 || (65 ≤ c && c ≤ 80)
noncomputable def lineStart : List UInt8 := [42, 32, 49, 32, 70, 69, 84, 67, 72, 32, 40, 70, 76, 65, 71, 83, 32, 40]
noncomputable def parseV : List V → Option V
  | [.byt b] =>
    let l := b.toList
    let m := (l.drop 18).take (l.length - 20)
    if l = lineStart ++ m ++ [41, 41] ∧ m.all isFlagCh = true ∧ m.length ≤ 200 then some (.tup ((PySem.Builtin.Bytes.words (m.length + 1) (m.length + 1) m).map fun x => .byt x.toArray)) else none
  | _ => none

noncomputable def noΦ : Nat → List V → Option V := fun _ _ => none
noncomputable def leafΦ : Nat → List V → Option V
  | 0, vs => runF noΦ frgbtoyiq vs
  | 1, vs => runF noΦ fyiqtorgb vs
  | 2, vs => runF noΦ fInt2AP vs
  | 3, vs => parseV vs
  | 4, vs => runF noΦ fISNONTERMINAL vs
  | 5, vs => runF noΦ flawtells vs
  | 7, vs => runF noΦ flawlimits vs
  | 8, vs => runF noΦ flawallowed vs
  | 9, vs => runF noΦ flawnumber vs
  | 10, vs => runF noΦ flawhighest vs
  | _, _ => none
noncomputable def fullΦ (f : Nat) (vs : List V) : Option V := if f = 6 then runF leafΦ flawcolours vs else leafΦ f vs
noncomputable def runLaw (l : List Int) : Option V := runF fullΦ flaw [.lst (l.map .int)]
end Mine
namespace Mine
open PySem PySem.Calls

/-! the colours: twelve lists -/
noncomputable def cols (k b : Nat) : List V := match runF leafΦ flawcolours [.int k, .int b] with
  | some (.lst l) => l
  | _ => []
noncomputable def ptsOf : Nat → List (Int × Int)
  | 0 => [(0,0),(1,0),(0,1),(2,0),(1,1),(3,0),(0,2),(2,1),(1,2),(3,1),(0,3),(2,2),(1,3),(3,2),(2,3),(3,3)]
  | 1 => [(0,3),(0,2),(0,1),(1,3),(0,0),(1,2),(1,1),(2,3),(1,0),(2,2),(2,1),(3,3),(2,0),(3,2),(3,1),(3,0)]
  | _ => [(0,3),(1,3),(2,3),(0,2),(3,3),(1,2),(2,2),(0,1),(3,2),(1,1),(2,1),(0,0),(3,1),(1,0),(2,0),(3,0)]
noncomputable def isInt : Option V → Int → Bool
  | some (.int i), j => i == j
  | _, _ => false
noncomputable def truncV (x : UInt64) : Option V := callB .int [.flt x]
noncomputable def rowOk (k b : Nat) (p : Int × Int) : V → Bool
  | .tup [.flt v, .tup [.flt t0, .flt t1, .flt t2], .int x, .int y] =>
    x == p.1 && y == p.2 &&
    (match truncV (Float64.add (Float64.mul v 0x40e3880000000000) 0x412e848100000000) with | some (.int i) => isInt (runF noΦ flawtells [.int k, .int x, .int y, .int b]) (i - 1000000) | _ => false) &&
    (match runF noΦ fyiqtorgb [.flt t0, .flt t1, .flt t2] with
     | some (.tup [.flt l0, .flt l1, .flt l2]) => isInt (truncV (Float64.add (Float64.mul 0x4010000000000000 l0) 0x3fe0000000000000)) x && isInt (truncV (Float64.add (Float64.mul 0x4010000000000000 l1) 0x3fe0000000000000)) y && isInt (truncV (Float64.add (Float64.mul 0x4010000000000000 l2) 0x3fe0000000000000)) b
     | _ => false)
  | _ => false
noncomputable def allOk (k b : Nat) : Bool := (cols k b).length == 16 && ((cols k b).zip (ptsOf k)).all fun x => rowOk k b x.2 x.1
end Mine
namespace Mine

/-! half planes on the sixteen points: Doignon's number is four -/
noncomputable def Grid (x y : Int) : Prop := 0 ≤ x ∧ x ≤ 3 ∧ 0 ≤ y ∧ y ≤ 3
noncomputable def up (c : Nat → Int) (i : Nat) : Nat → Int := fun j => if j = i then c i + 1 else c j
theorem up_same {c : Nat → Int} {i : Nat} : up c i i = c i + 1 := by simp [up]
theorem up_ne {c : Nat → Int} {i k : Nat} (h : k ≠ i) : up c i k = c k := by simp [up, h]
noncomputable def meas (B : Int) (c : Nat → Int) : Nat → Nat
  | 0 => 0
  | n + 1 => meas B c n + (B - c n).toNat
theorem meas_congr {B : Int} {c c' : Nat → Int} : ∀ n, (∀ j, j < n → c j = c' j) → meas B c n = meas B c' n
  | 0, _ => rfl
  | n + 1, h => by simp only [meas]; rw [meas_congr n fun j hj => h j (by omega), h n (by omega)]
theorem meas_up {B : Int} {c : Nat → Int} {i : Nat} (hB : c i < B) : ∀ n, i < n → meas B (up c i) n < meas B c n
  | 0, h => by omega
  | n + 1, h => by
    simp only [meas]
    by_cases hi : i = n
    · subst hi
      have e1 : meas B (up c i) i = meas B c i := meas_congr i fun j hj => by simp [up, show j ≠ i by omega]
      have e2 : up c i i = c i + 1 := by simp [up]
      rw [e1, e2]; omega
    · have := meas_up hB n (by omega)
      have e2 : up c i n = c n := by simp [up, show n ≠ i by omega]
      rw [e2]; omega

theorem pigeonB : ∀ a0 a1 a2 a3 a4 c0 c1 c2 c3 c4 : Bool, (a0 = a1 ∧ c0 = c1) ∨ (a0 = a2 ∧ c0 = c2) ∨ (a0 = a3 ∧ c0 = c3) ∨ (a0 = a4 ∧ c0 = c4) ∨ (a1 = a2 ∧ c1 = c2) ∨ (a1 = a3 ∧ c1 = c3) ∨ (a1 = a4 ∧ c1 = c4) ∨ (a2 = a3 ∧ c2 = c3) ∨ (a2 = a4 ∧ c2 = c4) ∨ (a3 = a4 ∧ c3 = c4) := by decide +kernel
theorem par_eq {x y : Int} (h : (x % 2 == 0) = (y % 2 == 0)) : x % 2 = y % 2 := by
  by_cases hx : x % 2 = 0
  · rw [hx] at h ⊢
    have := (beq_iff_eq.mp (h.symm.trans (by rfl)))
    omega
  · have h1 : (x % 2 == 0) = false := beq_eq_false_iff_ne.mpr hx
    rw [h1] at h
    have := beq_eq_false_iff_ne.mp h.symm
    omega
theorem pigeon5 (q : Nat → Int × Int) : ∃ i j, i < 5 ∧ j < 5 ∧ i ≠ j ∧ (q i).1 % 2 = (q j).1 % 2 ∧ (q i).2 % 2 = (q j).2 % 2 := by
  have h := pigeonB ((q 0).1 % 2 == 0) ((q 1).1 % 2 == 0) ((q 2).1 % 2 == 0) ((q 3).1 % 2 == 0) ((q 4).1 % 2 == 0) ((q 0).2 % 2 == 0) ((q 1).2 % 2 == 0) ((q 2).2 % 2 == 0) ((q 3).2 % 2 == 0) ((q 4).2 % 2 == 0)
  rcases h with h | h | h | h | h | h | h | h | h | h
  · exact ⟨0, 1, by decide, by decide, by decide, par_eq h.1, par_eq h.2⟩
  · exact ⟨0, 2, by decide, by decide, by decide, par_eq h.1, par_eq h.2⟩
  · exact ⟨0, 3, by decide, by decide, by decide, par_eq h.1, par_eq h.2⟩
  · exact ⟨0, 4, by decide, by decide, by decide, par_eq h.1, par_eq h.2⟩
  · exact ⟨1, 2, by decide, by decide, by decide, par_eq h.1, par_eq h.2⟩
  · exact ⟨1, 3, by decide, by decide, by decide, par_eq h.1, par_eq h.2⟩
  · exact ⟨1, 4, by decide, by decide, by decide, par_eq h.1, par_eq h.2⟩
  · exact ⟨2, 3, by decide, by decide, by decide, par_eq h.1, par_eq h.2⟩
  · exact ⟨2, 4, by decide, by decide, by decide, par_eq h.1, par_eq h.2⟩
  · exact ⟨3, 4, by decide, by decide, by decide, par_eq h.1, par_eq h.2⟩
/-- among five or more that no point meets, one may be left out -/
theorem leave_out {n : Nat} (hn : 5 ≤ n) (a b : Nat → Int) (B : Int) (hB : ∀ i x y, Grid x y → a i * x + b i * y ≤ B) : ∀ (m : Nat) (c : Nat → Int), meas B c n ≤ m → (∀ x y, Grid x y → ∃ i, i < n ∧ c i < a i * x + b i * y) →
    ∃ i, i < n ∧ ∀ x y, Grid x y → ∃ j, j < n ∧ j ≠ i ∧ c j < a j * x + b j * y := by
  intro m
  induction m with
  | zero =>
    intro c hm hinf
    refine ⟨0, by omega, fun x y g => ?_⟩
    exfalso
    obtain ⟨i, hi, h⟩ := hinf x y g
    have hlt : c i < B := by have := hB i x y g; omega
    have := meas_up hlt n hi
    omega
  | succ m ih =>
    intro c hm hinf
    by_cases hA : ∃ i, i < n ∧ ∀ x y, Grid x y → ∃ j, j < n ∧ up c i j < a j * x + b j * y
    · obtain ⟨i, hi, hA⟩ := hA
      by_cases hc : c i < B
      · obtain ⟨k, hk, h⟩ := ih (up c i) (by have := meas_up hc n hi; omega) hA
        refine ⟨k, hk, fun x y g => ?_⟩
        obtain ⟨j, hj, hjk, h⟩ := h x y g
        refine ⟨j, hj, hjk, ?_⟩
        unfold up at h
        split at h
        · rename_i e; subst e; omega
        · exact h
      · refine ⟨i, hi, fun x y g => ?_⟩
        obtain ⟨j, hj, h⟩ := hinf x y g
        refine ⟨j, hj, fun e => ?_, h⟩
        subst e
        have := hB j x y g
        omega
    · exfalso
      have hq : ∀ i, i < n → ∃ x y, Grid x y ∧ ∀ j, j < n → a j * x + b j * y ≤ up c i j := fun i hi => by
        apply Classical.byContradiction
        intro hno
        refine hA ⟨i, hi, fun x y g => ?_⟩
        apply Classical.byContradiction
        intro hno2
        refine hno ⟨x, y, g, fun j hj => ?_⟩
        apply Classical.byContradiction
        intro h
        exact hno2 ⟨j, hj, by omega⟩
      have hq2 : ∀ i, ∃ p : Int × Int, i < n → Grid p.1 p.2 ∧ ∀ j, j < n → a j * p.1 + b j * p.2 ≤ up c i j := fun i => by
        by_cases hi : i < n
        · obtain ⟨x, y, g, h⟩ := hq i hi
          exact ⟨(x, y), fun _ => ⟨g, h⟩⟩
        · exact ⟨(0, 0), fun h => absurd h hi⟩
      let q : Nat → Int × Int := fun i => Classical.choose (hq2 i)
      have hqs : ∀ i, i < n → Grid (q i).1 (q i).2 ∧ ∀ j, j < n → a j * (q i).1 + b j * (q i).2 ≤ up c i j := fun i => Classical.choose_spec (hq2 i)
      obtain ⟨i, j, hi, hj, hij, p1, p2⟩ := pigeon5 q
      obtain ⟨gi, ci⟩ := hqs i (by omega)
      obtain ⟨gj, cj⟩ := hqs j (by omega)
      generalize (q i).1 = xi at *
      generalize (q i).2 = yi at *
      generalize (q j).1 = xj at *
      generalize (q j).2 = yj at *
      have gm : Grid ((xi + xj) / 2) ((yi + yj) / 2) := by unfold Grid at *; omega
      obtain ⟨k, hk, h⟩ := hinf _ _ gm
      have h1 := ci k hk
      have h2 := cj k hk
      have ex : 2 * ((xi + xj) / 2) = xi + xj := by omega
      have ey : 2 * ((yi + yj) / 2) = yi + yj := by omega
      have hs : 2 * (a k * ((xi + xj) / 2) + b k * ((yi + yj) / 2)) = (a k * xi + b k * yi) + (a k * xj + b k * yj) := by
        have e1 : 2 * (a k * ((xi + xj) / 2) + b k * ((yi + yj) / 2)) = a k * (2 * ((xi + xj) / 2)) + b k * (2 * ((yi + yj) / 2)) := by
          rw [Int.mul_add, Int.mul_left_comm 2 (a k), Int.mul_left_comm 2 (b k)]
        rw [e1, ex, ey, Int.mul_add, Int.mul_add]
        omega
      have u1 : up c i k + up c j k ≤ 2 * c k + 1 := by
        by_cases e1 : k = i
        · subst e1
          rw [up_same, up_ne hij]; omega
        · by_cases e2 : k = j
          · subst e2
            rw [up_same, up_ne e1]; omega
          · rw [up_ne e1, up_ne e2]; omega
      generalize a k * ((xi + xj) / 2) + b k * ((yi + yj) / 2) = z at *
      omega
end Mine
namespace Mine

abbrev HP := Int × Int × Int
noncomputable def sat (h : HP) (x y : Int) : Prop := h.1 * x + h.2.1 * y ≤ h.2.2
noncomputable def Feas (L : List HP) : Prop := ∃ x y, Grid x y ∧ ∀ h ∈ L, sat h x y

theorem bound_one (a b x y : Int) (g : Grid x y) : a * x + b * y ≤ 3 * (a.natAbs : Int) + 3 * (b.natAbs : Int) := by
  have key : ∀ a x : Int, 0 ≤ x → x ≤ 3 → a * x ≤ 3 * (a.natAbs : Int) := fun a x h0 h1 => by
    have e1 : a * x ≤ (a.natAbs : Int) * x := Int.mul_le_mul_of_nonneg_right (by omega) h0
    have e2 : (a.natAbs : Int) * x ≤ (a.natAbs : Int) * 3 := Int.mul_le_mul_of_nonneg_left h1 (by omega)
    omega
  have h1 := key a x g.1 g.2.1
  have h2 := key b y g.2.2.1 g.2.2.2
  omega
theorem bound_all : ∀ (L : List HP), ∃ B : Int, 0 ≤ B ∧ ∀ h ∈ L, ∀ x y, Grid x y → h.1 * x + h.2.1 * y ≤ B
  | [] => ⟨0, by omega, fun _ h => (nomatch h)⟩
  | h :: L => by
    obtain ⟨B, hB, hL⟩ := bound_all L
    refine ⟨B + (3 * (h.1.natAbs : Int) + 3 * (h.2.1.natAbs : Int)), by omega, fun k hk x y g => ?_⟩
    rcases List.mem_cons.mp hk with rfl | hk
    · have := bound_one k.1 k.2.1 x y g; omega
    · have := hL k hk x y g; omega

theorem leave_list (L : List HP) (hn : 5 ≤ L.length) (h : ¬ Feas L) : ∃ i, i < L.length ∧ ¬ Feas (L.eraseIdx i) := by
  obtain ⟨B, hB, hL⟩ := bound_all L
  have at' : ∀ i, i < L.length → L.getD i (0, 0, 0) ∈ L := fun i hi => by
    have : L.getD i (0, 0, 0) = L[i] := by simp [hi]
    rw [this]; exact List.getElem_mem hi
  have hb : ∀ i x y, Grid x y → (L.getD i (0, 0, 0)).1 * x + (L.getD i (0, 0, 0)).2.1 * y ≤ B := fun i x y g => by
    by_cases hi : i < L.length
    · exact hL _ (at' i hi) x y g
    · have : L.getD i (0, 0, 0) = (0, 0, 0) := by simp [Nat.le_of_not_lt hi]
      rw [this]; simpa using hB
  obtain ⟨i, hi, hx⟩ := leave_out (n := L.length) hn (fun i => (L.getD i (0, 0, 0)).1) (fun i => (L.getD i (0, 0, 0)).2.1) B hb _ (fun i => (L.getD i (0, 0, 0)).2.2) (Nat.le_refl _) (fun x y g => by
    apply Classical.byContradiction
    intro hno
    refine h ⟨x, y, g, fun k hk => ?_⟩
    obtain ⟨j, hj, rfl⟩ := List.mem_iff_getElem.mp hk
    apply Classical.byContradiction
    intro hs
    refine hno ⟨j, hj, ?_⟩
    have e : L.getD j (0, 0, 0) = L[j] := by simp [hj]
    rw [e]
    unfold sat at hs
    omega)
  refine ⟨i, hi, fun ⟨x, y, g, hs⟩ => ?_⟩
  obtain ⟨j, hj, hji, hlt⟩ := hx x y g
  have hm : L.getD j (0, 0, 0) ∈ L.eraseIdx i := by
    have e : L.getD j (0, 0, 0) = L[j] := by simp [hj]
    rw [e, List.mem_eraseIdx_iff_getElem?]
    exact ⟨j, hji, by simp [hj]⟩
  have := hs _ hm
  unfold sat at this
  omega

theorem helly : ∀ (n : Nat) (L : List HP), L.length = n + 4 → (∀ M, List.Sublist M L → M.length = 4 → Feas M) → Feas L
  | 0, L, hl, h => h L (List.Sublist.refl L) hl
  | n + 1, L, hl, h => by
    apply Classical.byContradiction
    intro hno
    obtain ⟨i, hi, hx⟩ := leave_list L (by omega) hno
    refine hx (helly n (L.eraseIdx i) ?_ fun M hM hl' => h M (hM.trans (List.eraseIdx_sublist L i)) hl')
    rw [List.length_eraseIdx_of_lt hi, hl]; omega

theorem sub_idx {α : Type} {x : α} {M : List α} : ∀ {H : List α}, List.Sublist (x :: M) H → ∃ i, H[i]? = some x ∧ List.Sublist M (H.drop (i + 1))
  | [], h => by cases h
  | y :: H, h => by
    cases h with
    | cons _ h =>
      obtain ⟨i, hi, hs⟩ := sub_idx h
      exact ⟨i + 1, by simpa using hi, by simpa using hs⟩
    | cons_cons _ h => exact ⟨0, rfl, by simpa using h⟩

/-! the law's lists -/
noncomputable def pairsN (H : List Nat) : List (Nat × Nat) := (List.range H.length).flatMap fun k => (List.range k).map fun j => (k, H.getD j 0 &&& H.getD k 0)
noncomputable def nexts (n k : Nat) : List Nat := (List.range (n - (k + 1))).map fun i => k + 1 + i
noncomputable def threesN (H : List Nat) : List (Nat × Nat) := (pairsN H).flatMap fun p => (nexts H.length p.1).map fun m => (m, p.2 &&& H.getD m 0)
noncomputable def foursN (H : List Nat) : List Nat := (threesN H).flatMap fun t => (nexts H.length t.1).map fun q => t.2 &&& H.getD q 0
noncomputable def wholeN (H : List Nat) : Nat := H.foldl (· &&& ·) (H.getD 0 0)

theorem nexts_mem {n k m : Nat} : m ∈ nexts n k ↔ k < m ∧ m < n := by
  unfold nexts
  simp only [List.mem_map, List.mem_range]
  constructor
  · rintro ⟨i, hi, rfl⟩; omega
  · rintro ⟨h1, h2⟩; exact ⟨m - (k + 1), by omega, by omega⟩
theorem pairs_mem {H : List Nat} {k v : Nat} : (k, v) ∈ pairsN H ↔ ∃ j, j < k ∧ k < H.length ∧ v = H.getD j 0 &&& H.getD k 0 := by
  unfold pairsN
  simp only [List.mem_flatMap, List.mem_range, List.mem_map, Prod.mk.injEq]
  constructor
  · rintro ⟨k', hk, j, hj, rfl, rfl⟩; exact ⟨j, hj, hk, rfl⟩
  · rintro ⟨j, hj, hk, rfl⟩; exact ⟨k, hk, j, hj, rfl, rfl⟩
theorem threes_mem {H : List Nat} {m v : Nat} : (m, v) ∈ threesN H ↔ ∃ j k, j < k ∧ k < m ∧ m < H.length ∧ v = H.getD j 0 &&& H.getD k 0 &&& H.getD m 0 := by
  unfold threesN
  simp only [List.mem_flatMap, List.mem_map, Prod.mk.injEq, nexts_mem]
  constructor
  · rintro ⟨⟨k, b⟩, hp, m', ⟨h1, h2⟩, rfl, rfl⟩
    obtain ⟨j, hj, hk, rfl⟩ := pairs_mem.mp hp
    exact ⟨j, k, hj, h1, h2, rfl⟩
  · rintro ⟨j, k, hj, hk, hm, rfl⟩
    exact ⟨(k, _), pairs_mem.mpr ⟨j, hj, by omega, rfl⟩, m, ⟨hk, hm⟩, rfl, rfl⟩
theorem fours_mem {H : List Nat} {v : Nat} : v ∈ foursN H ↔ ∃ j k m q, j < k ∧ k < m ∧ m < q ∧ q < H.length ∧ v = H.getD j 0 &&& H.getD k 0 &&& H.getD m 0 &&& H.getD q 0 := by
  unfold foursN
  simp only [List.mem_flatMap, List.mem_map, nexts_mem]
  constructor
  · rintro ⟨⟨m, b⟩, hp, q, ⟨h1, h2⟩, rfl⟩
    obtain ⟨j, k, hj, hk, hm, rfl⟩ := threes_mem.mp hp
    exact ⟨j, k, m, q, hj, hk, h1, h2, rfl⟩
  · rintro ⟨j, k, m, q, hj, hk, hm, hq, rfl⟩
    exact ⟨(m, _), threes_mem.mpr ⟨j, k, hj, hk, by omega, rfl⟩, q, ⟨hm, hq⟩, rfl⟩
theorem foldl_and_bit : ∀ (H : List Nat) (x p : Nat), (H.foldl (· &&& ·) x).testBit p = (x.testBit p && H.all fun m => m.testBit p)
  | [], x, p => by simp
  | m :: H, x, p => by rw [List.foldl_cons, foldl_and_bit H, Nat.testBit_and, List.all_cons, Bool.and_assoc]
theorem whole_bit {H : List Nat} (h0 : H ≠ []) (p : Nat) : (wholeN H).testBit p = H.all fun m => m.testBit p := by
  unfold wholeN
  rw [foldl_and_bit]
  cases H with
  | nil => exact absurd rfl h0
  | cons m H => simp
end Mine
namespace Mine

noncomputable def okAt (pts : List (Int × Int)) (h : HP) (p : Nat) : Bool := decide (h.1 * (pts.getD p (0, 0)).1 + h.2.1 * (pts.getD p (0, 0)).2 ≤ h.2.2)
noncomputable def maskUpto (pts : List (Int × Int)) (h : HP) : Nat → Nat
  | 0 => 0
  | k + 1 => if okAt pts h k then maskUpto pts h k + 2 ^ k else maskUpto pts h k
theorem getD_lt {l : List Nat} {i : Nat} (h : i < l.length) : l.getD i 0 = l[i] := by simp [h]
theorem mask_lt (pts : List (Int × Int)) (h : HP) : ∀ k, maskUpto pts h k < 2 ^ k
  | 0 => by simp [maskUpto]
  | k + 1 => by
    have ih := mask_lt pts h k
    have e : 2 ^ (k + 1) = 2 ^ k + 2 ^ k := by rw [Nat.pow_succ]; omega
    simp only [maskUpto]
    split <;> omega
theorem mask_bit (pts : List (Int × Int)) (h : HP) (p : Nat) : ∀ k, (maskUpto pts h k).testBit p = (decide (p < k) && okAt pts h p)
  | 0 => by simp [maskUpto]
  | k + 1 => by
    have ih := mask_bit pts h p k
    have hlt := mask_lt pts h k
    simp only [maskUpto]
    by_cases hok : okAt pts h k = true
    · rw [if_pos hok, Nat.add_comm]
      by_cases hp : p = k
      · subst hp
        rw [Nat.testBit_two_pow_add_eq, Nat.testBit_lt_two_pow hlt]
        simp [hok]
      · by_cases hpk : p < k
        · rw [Nat.testBit_two_pow_add_gt hpk, ih]
          simp [hpk, show p < k + 1 by omega]
        · have h1 : 2 ^ k + maskUpto pts h k < 2 ^ p := by
            have e : 2 ^ (k + 1) = 2 ^ k + 2 ^ k := by rw [Nat.pow_succ]; omega
            have e2 : 2 ^ (k + 1) ≤ 2 ^ p := Nat.pow_le_pow_right (by omega) (by omega)
            omega
          rw [Nat.testBit_lt_two_pow h1]
          simp [show ¬ p < k + 1 by omega]
    · rw [if_neg hok, ih]
      by_cases hp : p = k
      · subst hp; simp [hok]
      · have : decide (p < k) = decide (p < k + 1) := by
          by_cases hpk : p < k
          · simp [hpk, show p < k + 1 by omega]
          · simp [hpk, show ¬ p < k + 1 by omega]
        rw [this]

structure PtsOk (pts : List (Int × Int)) (fa fb : Int) : Prop where
  grid : ∀ p, p < 16 → Grid (pts.getD p (0, 0)).1 (pts.getD p (0, 0)).2
  all : ∀ x y, Grid x y → ∃ p, p < 16 ∧ pts.getD p (0, 0) = (x, y)
  ord : ∀ p q, p < q → q < 16 → fa * (pts.getD p (0, 0)).1 + fb * (pts.getD p (0, 0)).2 < fa * (pts.getD q (0, 0)).1 + fb * (pts.getD q (0, 0)).2

noncomputable def maskP (pts : List (Int × Int)) (h : HP) : Nat := maskUpto pts h 16
theorem sat_bit {pts : List (Int × Int)} {h : HP} {p : Nat} (hp : p < 16) : (maskP pts h).testBit p = true ↔ sat h (pts.getD p (0, 0)).1 (pts.getD p (0, 0)).2 := by
  unfold maskP
  rw [mask_bit]
  simp only [hp, decide_true, Bool.true_and, okAt, decide_eq_true_eq, sat]
theorem bit_small {pts : List (Int × Int)} {h : HP} {p : Nat} (hp : 16 ≤ p) : (maskP pts h).testBit p = false := by
  unfold maskP
  rw [mask_bit]
  simp [show ¬ p < 16 by omega]

section
variable {pts : List (Int × Int)} {fa fb : Int} (P : PtsOk pts fa fb) (L : List HP)
include P

theorem feas_bit (M : List HP) : Feas M ↔ ∃ p, p < 16 ∧ ∀ h ∈ M, (maskP pts h).testBit p = true := by
  constructor
  · rintro ⟨x, y, g, hs⟩
    obtain ⟨p, hp, e⟩ := P.all x y g
    exact ⟨p, hp, fun h hm => (sat_bit hp).mpr (by rw [e]; exact hs h hm)⟩
  · rintro ⟨p, hp, hs⟩
    exact ⟨_, _, P.grid p hp, fun h hm => (sat_bit hp).mp (hs h hm)⟩

theorem getD_map (i : Nat) (hi : i < L.length) : (L.map (maskP pts)).getD i 0 = maskP pts (L[i]) := by simp [hi]

theorem four_law (hn : 4 ≤ L.length) : 0 ∈ foursN (L.map (maskP pts)) ↔ wholeN (L.map (maskP pts)) = 0 := by
  have hne : L.map (maskP pts) ≠ [] := fun q => by
    have := congrArg List.length q
    simp at this
    rw [this] at hn
    simp at hn
  constructor
  · intro h
    obtain ⟨j, k, m, q, h1, h2, h3, h4, e⟩ := fours_mem.mp h
    apply Nat.eq_of_testBit_eq
    intro p
    rw [whole_bit hne, Nat.zero_testBit]
    have e2 := congrArg (fun x => Nat.testBit x p) e
    simp only [Nat.zero_testBit, Nat.testBit_and] at e2
    have hlen : (L.map (maskP pts)).length = L.length := by simp
    apply Classical.byContradiction
    intro hall
    rw [Bool.not_eq_false, List.all_eq_true] at hall
    have at' : ∀ i, i < (L.map (maskP pts)).length → ((L.map (maskP pts)).getD i 0).testBit p = true := fun i hi => by
      refine hall _ ?_
      have : (L.map (maskP pts)).getD i 0 = (L.map (maskP pts))[i] := getD_lt hi
      rw [this]; exact List.getElem_mem hi
    rw [at' j (by omega), at' k (by omega), at' m (by omega), at' q h4] at e2
    simp at e2
  · intro h
    have hno : ¬ Feas L := fun hf => by
      obtain ⟨p, hp, hs⟩ := (feas_bit P L).mp hf
      have := whole_bit hne p
      rw [h, Nat.zero_testBit] at this
      have h2 : (L.map (maskP pts)).all (fun m => m.testBit p) = true := List.all_eq_true.mpr fun m hm => by
        obtain ⟨x, hx, rfl⟩ := List.mem_map.mp hm
        exact hs x hx
      rw [h2] at this; cases this
    have : ∃ M, List.Sublist M L ∧ M.length = 4 ∧ ¬ Feas M := by
      apply Classical.byContradiction
      intro hc
      refine hno (helly (L.length - 4) L (by omega) fun M hM hl => ?_)
      apply Classical.byContradiction
      intro hf
      exact hc ⟨M, hM, hl, hf⟩
    obtain ⟨M, hM, hl, hf⟩ := this
    match M, hl, hM, hf with
    | [w, x, y, z], _, hM, hf =>
      obtain ⟨j, hj, hM⟩ := sub_idx hM
      obtain ⟨k, hk, hM⟩ := sub_idx hM
      obtain ⟨m, hm, hM⟩ := sub_idx hM
      obtain ⟨q, hq, _⟩ := sub_idx hM
      simp only [List.getElem?_drop] at hk hm hq
      obtain ⟨hj1, hj2⟩ := List.getElem?_eq_some_iff.mp hj
      obtain ⟨hk1, hk2⟩ := List.getElem?_eq_some_iff.mp hk
      obtain ⟨hm1, hm2⟩ := List.getElem?_eq_some_iff.mp hm
      obtain ⟨hq1, hq2⟩ := List.getElem?_eq_some_iff.mp hq
      refine fours_mem.mpr ⟨j, j + 1 + k, j + 1 + (k + 1 + m), j + 1 + (k + 1 + (m + 1 + q)), ?_, ?_, ?_, ?_, ?_⟩
      rotate_left 4
      · rw [getD_map P L j hj1, getD_map P L _ hk1, getD_map P L _ hm1, getD_map P L _ hq1, hj2, hk2, hm2, hq2]
        apply Nat.eq_of_testBit_eq
        intro p
        rw [Nat.zero_testBit]
        simp only [Nat.testBit_and]
        by_cases hp : p < 16
        · apply Eq.symm
          apply Classical.byContradiction
          intro hc
          rw [Bool.not_eq_false] at hc
          simp only [Bool.and_eq_true] at hc
          refine hf ((feas_bit P _).mpr ⟨p, hp, fun h hmem => ?_⟩)
          simp only [List.mem_cons, List.not_mem_nil, or_false] at hmem
          rcases hmem with rfl | rfl | rfl | rfl
          · exact hc.1.1.1
          · exact hc.1.1.2
          · exact hc.1.2
          · exact hc.2
        · rw [bit_small (h := w) (by omega)]; simp
      · omega
      · omega
      · omega
      · simpa using hq1

theorem three_law {d : Nat} (hn : 3 ≤ L.length) (hd : (wholeN (L.map (maskP pts))).testBit d = true) (hup : ∀ p, d < p → (wholeN (L.map (maskP pts))).testBit p = false) :
    (∀ t ∈ threesN (L.map (maskP pts)), t.2.testBit d = true) ∧ ∃ t ∈ threesN (L.map (maskP pts)), t.2 < 2 ^ (d + 1) := by
  have hne : L.map (maskP pts) ≠ [] := fun q => by
    have := congrArg List.length q
    simp at this
    rw [this] at hn
    simp at hn
  have hall : ∀ m ∈ L.map (maskP pts), m.testBit d = true := by
    rw [whole_bit hne] at hd
    exact List.all_eq_true.mp hd
  have at' : ∀ i, i < (L.map (maskP pts)).length → ((L.map (maskP pts)).getD i 0).testBit d = true := fun i hi => by
    refine hall _ ?_
    have : (L.map (maskP pts)).getD i 0 = (L.map (maskP pts))[i] := getD_lt hi
    rw [this]; exact List.getElem_mem hi
  refine ⟨fun t ht => ?_, ?_⟩
  · obtain ⟨m, v⟩ := t
    obtain ⟨j, k, h1, h2, h3, rfl⟩ := threes_mem.mp ht
    show Nat.testBit (_ &&& _ &&& _) d = true
    simp only [Nat.testBit_and]
    rw [at' j (by omega), at' k (by omega), at' m h3]; rfl
  · have hd16 : d < 16 := by
      apply Classical.byContradiction
      intro hc
      have := at' 0 (by simp; omega)
      rw [getD_map P L 0 (by omega), bit_small (by omega)] at this
      cases this
    -- the half plane above d
    let Hd : HP := (-fa, -fb, -(fa * (pts.getD d (0, 0)).1 + fb * (pts.getD d (0, 0)).2 + 1))
    have hHd : ∀ p, p < 16 → ((maskP pts Hd).testBit p = true ↔ d < p) := fun p hp => by
      rw [sat_bit hp]
      show -fa * (pts.getD p (0, 0)).1 + -fb * (pts.getD p (0, 0)).2 ≤ -(fa * (pts.getD d (0, 0)).1 + fb * (pts.getD d (0, 0)).2 + 1) ↔ d < p
      rw [Int.neg_mul, Int.neg_mul]
      constructor
      · intro h
        apply Classical.byContradiction
        intro hc
        by_cases e : p = d
        · subst e; omega
        · have := P.ord p d (by omega) hd16
          omega
      · intro h
        have := P.ord d p h hp
        omega
    have hno : ¬ Feas (L ++ [Hd]) := fun hf => by
      obtain ⟨p, hp, hs⟩ := (feas_bit P _).mp hf
      have h1 : d < p := (hHd p hp).mp (hs Hd (by simp))
      have h2 := hup p h1
      rw [whole_bit hne] at h2
      have h3 : (L.map (maskP pts)).all (fun m => m.testBit p) = true := List.all_eq_true.mpr fun m hm => by
        obtain ⟨x, hx, rfl⟩ := List.mem_map.mp hm
        exact hs x (by simp [hx])
      rw [h3] at h2; cases h2
    have : ∃ M, List.Sublist M (L ++ [Hd]) ∧ M.length = 4 ∧ ¬ Feas M := by
      apply Classical.byContradiction
      intro hc
      refine hno (helly (L.length + 1 - 4) (L ++ [Hd]) (by simp; omega) fun M hM hl => ?_)
      apply Classical.byContradiction
      intro hf
      exact hc ⟨M, hM, hl, hf⟩
    obtain ⟨M, hM, hl, hf⟩ := this
    obtain ⟨M1, M2, rfl, hM1, hM2⟩ := List.sublist_append_iff.mp hM
    have hFL : ∀ M, List.Sublist M L → Feas M := fun M hM => (feas_bit P M).mpr ⟨d, hd16, fun h hm => hall _ (List.mem_map.mpr ⟨h, hM.subset hm, rfl⟩)⟩
    have hM2' : M2 = [Hd] := by
      cases hM2 with
      | cons _ h =>
        have : M2 = [] := List.sublist_nil.mp h
        subst this
        rw [List.append_nil] at hf
        exact absurd (hFL M1 hM1) hf
      | cons_cons _ h => rw [List.sublist_nil.mp h]
    subst hM2'
    have hl3 : M1.length = 3 := by simpa using hl
    match M1, hl3, hM1, hf with
    | [x, y, z], _, hM1, hf =>
      obtain ⟨j, hj, hM⟩ := sub_idx hM1
      obtain ⟨k, hk, hM⟩ := sub_idx hM
      obtain ⟨m, hm, _⟩ := sub_idx hM
      simp only [List.getElem?_drop] at hk hm
      obtain ⟨hj1, hj2⟩ := List.getElem?_eq_some_iff.mp hj
      obtain ⟨hk1, hk2⟩ := List.getElem?_eq_some_iff.mp hk
      obtain ⟨hm1, hm2⟩ := List.getElem?_eq_some_iff.mp hm
      refine ⟨(j + 1 + (k + 1 + m), maskP pts x &&& maskP pts y &&& maskP pts z), threes_mem.mpr ⟨j, j + 1 + k, ?_, ?_, ?_, ?_⟩, ?_⟩
      rotate_left 3
      · rw [getD_map P L j hj1, getD_map P L _ hk1, getD_map P L _ hm1, hj2, hk2, hm2]
      · refine Nat.lt_pow_two_of_testBit _ fun p hp => ?_
        simp only [Nat.testBit_and]
        by_cases hp16 : p < 16
        · apply Classical.byContradiction
          intro hc
          rw [Bool.not_eq_false] at hc
          simp only [Bool.and_eq_true] at hc
          refine hf ((feas_bit P _).mpr ⟨p, hp16, fun h hmem => ?_⟩)
          simp only [List.cons_append, List.nil_append, List.mem_cons, List.not_mem_nil, or_false] at hmem
          rcases hmem with rfl | rfl | rfl | rfl
          · exact hc.1.1
          · exact hc.1.2
          · exact hc.2
          · exact (hHd p hp16).mpr (by omega)
        · rw [bit_small (h := x) (by omega)]; simp
      · omega
      · omega
      · simpa using hm1
end
end Mine
namespace Mine
open PySem

noncomputable def hpA (v : Int) : Int := v.fmod 7 - 3
noncomputable def hpB (v : Int) : Int := (v.fdiv 7).fmod 7 - 3
noncomputable def hpC (v : Int) : Int := hpA v * (v.fdiv 49).fmod 4 + hpB v * (v.fdiv 196).fmod 4 - (v.fdiv 784).fmod 2
noncomputable def hpOf (v : Int) : HP := (hpA v, hpB v, hpC v)
noncomputable def limV (v : Int) : V := .tup [.int (hpA v), .int (hpB v), .int (hpC v)]

theorem fmod_b (v n : Int) (h : 0 < n) : 0 ≤ v.fmod n ∧ v.fmod n < n := by
  rw [Int.fmod_eq_emod_of_nonneg v (by omega : (0 : Int) ≤ n)]
  exact ⟨Int.emod_nonneg _ (by omega), Int.emod_lt_of_pos _ (by omega)⟩
theorem hpA_b (v : Int) : -3 ≤ hpA v ∧ hpA v ≤ 3 := by have := fmod_b v 7 (by decide); unfold hpA; omega
theorem hpB_b (v : Int) : -3 ≤ hpB v ∧ hpB v ≤ 3 := by have := fmod_b (v.fdiv 7) 7 (by decide); unfold hpB; omega

noncomputable def limBody : Sts := match flawlimitsCode with
  | .cons _ (.cons (.for _ _ b _) _) => b
  | _ => .nil
theorem lim_step (d o2 o3 o4 : Option V) (acc : List V) (v : Int) (hl : acc.length ≤ 1000) :
    ((S.putT ⟨[d, none, o2, o3, o4], some (1, acc)⟩ (.name 2 ⟨0, 0, 0, 0⟩) (.int v)).bind fun s => exSs noΦ limBody s) = some (.next ⟨[d, none, some (.int v), some (.int (hpA v)), some (.int (hpB v))], some (1, acc ++ [limV v])⟩) := by
  have h1 : (hpA v).natAbs < 2 ^ 60 := by have := hpA_b v; omega
  have h2 : (hpB v).natAbs < 2 ^ 60 := by have := hpB_b v; omega
  have h3 : ((v.fdiv 49).fmod 4).natAbs < 2 ^ 60 := by have := fmod_b (v.fdiv 49) 4 (by decide); omega
  have h4 : ((v.fdiv 196).fmod 4).natAbs < 2 ^ 60 := by have := fmod_b (v.fdiv 196) 4 (by decide); omega
  have e1 : (S.putT ⟨[d, none, o2, o3, o4], some (1, acc)⟩ (.name 2 ⟨0, 0, 0, 0⟩) (.int v)) = some ⟨[d, none, some (.int v), o3, o4], some (1, acc)⟩ := rfl
  rw [e1]
  show exSs noΦ limBody ⟨[d, none, some (.int v), o3, o4], some (1, acc)⟩ = _
  unfold limBody flawlimitsCode
  dsimp only
  simp only [hpA] at h1
  simp only [hpB] at h2
  simp [exSs, exS, evE, evL, binV, S.put, h1, h2, h3, h4, hl, limV, hpA, hpB, hpC]

theorem lim_loop : ∀ (D : List Int) (d o2 o3 o4 : Option V) (acc : List V), acc.length + D.length ≤ 1000 →
    ∃ p2 p3 p4, forF (fun x s => (s.putT (.name 2 ⟨0, 0, 0, 0⟩) x).bind fun s => exSs noΦ limBody s) (D.map .int) ⟨[d, none, o2, o3, o4], some (1, acc)⟩ = some (.next ⟨[d, none, p2, p3, p4], some (1, acc ++ D.map limV)⟩)
  | [], d, o2, o3, o4, acc, _ => ⟨o2, o3, o4, by simp [forF]⟩
  | v :: D, d, o2, o3, o4, acc, h => by
    rw [List.length_cons] at h
    obtain ⟨p2, p3, p4, e⟩ := lim_loop D d (some (.int v)) (some (.int (hpA v))) (some (.int (hpB v))) (acc ++ [limV v]) (by simp; omega)
    refine ⟨p2, p3, p4, ?_⟩
    rw [List.map_cons, forF, lim_step d o2 o3 o4 acc v (by omega)]
    show forF _ (D.map .int) _ = _
    rw [e]
    simp
theorem runF_of {Φ : Nat → List V → Option V} {F : Fn} {vs : List V} {v : V} (hk : vs.length = F.k) (h : exSs Φ F.code (F.start vs) = some (.ret v)) : runF Φ F vs = some v := by
  unfold runF
  rw [if_pos hk, h]
theorem ex_next {Φ : Nat → List V → Option V} {st : St} {r : Sts} {T T' : S} {o : Option Out} (h : exS Φ st T = some (.next T')) (h2 : exSs Φ r T' = o) : exSs Φ (.cons st r) T = o := by
  simp only [exSs, h, Option.bind_some]; exact h2
theorem ex_ret {Φ : Nat → List V → Option V} {st : St} {r : Sts} {T : S} {v : V} (h : exS Φ st T = some (.ret v)) : exSs Φ (.cons st r) T = some (.ret v) := by
  simp only [exSs, h, Option.bind_some]
theorem ex_assign {Φ : Nat → List V → Option V} {i : Nat} {e : Ex} {pt p : Pos} {T T' : S} {v : V} (h : evE Φ e T.vs = some v) (h2 : T.put i v = some T') : exS Φ (.assign i e pt p) T = some (.next T') := by
  simp only [exS, h, Option.bind_some, h2, Option.map_some]
theorem ex_assignC {Φ : Nat → List V → Option V} {i : Nat} {e : Ex} {pt p : Pos} {T T' : S} {v : V} (h : evE Φ e T.vs = some v) (h2 : T.put i v = some T') : exS Φ (.assignC i e pt p) T = some (.next T') := by
  simp only [exS, h, Option.bind_some, h2, Option.map_some]
theorem ex_assignT {Φ : Nat → List V → Option V} {is : List (Nat × Pos)} {k : Nat} {e : Ex} {pt p : Pos} {T T' : S} {v : V} (h : evE Φ e T.vs = some v) (h2 : T.putT (.tup is k pt) v = some T') : exS Φ (.assignT is k pt e p) T = some (.next T') := by
  simp only [exS, h, Option.bind_some, h2, Option.map_some]
theorem ex_ite {Φ : Nat → List V → Option V} {t : Ex} {a b : Sts} {p : Pos} {T : S} {c : Bool} {o : Option Out} (h : evT Φ t T.vs = some c) (h2 : (if c then exSs Φ a T else exSs Φ b T) = o) : exS Φ (.ite t a b p) T = o := by
  simp only [exS, h, Option.bind_some]; exact h2
theorem ex_for {Φ : Nat → List V → Option V} {t : Tg} {it : Ex} {a : Sts} {p : Pos} {T : S} {v : V} {vs : List V} {o : Option Out} (h1 : evE Φ it T.vs = some v) (h2 : itemsV v = some vs) (h3 : vs.length ≤ 1000)
    (h : forF (fun x s => (s.putT t x).bind fun s => exSs Φ a s) vs T = o) : exS Φ (.for t it a p) T = o := by
  simp only [exS, h1, h2, Option.bind_some, h3, if_true]; exact h
theorem limits_run (D : List Int) (h : D.length ≤ 1000) : runF noΦ flawlimits [.lst (D.map .int)] = some (.lst (D.map limV)) := by
  obtain ⟨p2, p3, p4, e⟩ := lim_loop D (some (.lst (D.map .int))) none none none [] (by simpa using h)
  refine runF_of rfl ?_
  refine ex_next (T' := ⟨[some (.lst (D.map .int)), none, none, none, none], some (1, [])⟩) rfl ?_
  refine ex_next (ex_for (v := .lst (D.map .int)) rfl rfl (by simpa using h) e) ?_
  refine ex_next (T' := ⟨[some (.lst (D.map .int)), some (.lst (D.map limV)), p2, p3, p4], none⟩) rfl ?_
  exact ex_ret rfl

noncomputable def stN : Sts → Nat → St
  | .nil, _ => .freeze
  | .cons s _, 0 => s
  | .cons _ r, n + 1 => stN r n
noncomputable def forT : St → Tg
  | .for t _ _ _ => t
  | _ => .name 0 ⟨0, 0, 0, 0⟩
noncomputable def forB : St → Sts
  | .for _ _ a _ => a
  | _ => .nil
/-! one limit after the other -/
theorem allowed_run (x y : Int) (hx : 0 ≤ x ∧ x ≤ 3) (hy : 0 ≤ y ∧ y ≤ 3) (D : List Int) (h : D.length ≤ 1000) :
    runF noΦ flawallowed [.lst (D.map limV), .int x, .int y] = some (.boo (D.all fun v => decide (hpA v * x + hpB v * y ≤ hpC v))) := by
  have loop : ∀ (D : List Int) (d o3 o4 o5 : Option V), ∃ q3 q4 q5, forF (fun z s => (s.putT (forT (stN flawallowedCode 0)) z).bind fun s => exSs noΦ (forB (stN flawallowedCode 0)) s) (D.map limV) ⟨[d, some (.int x), some (.int y), o3, o4, o5], none⟩ =
      if (D.all fun v => decide (hpA v * x + hpB v * y ≤ hpC v)) then some (.next ⟨[d, some (.int x), some (.int y), q3, q4, q5], none⟩) else some (.ret (.boo false)) := by
    intro D
    induction D with
    | nil => intro d o3 o4 o5; exact ⟨o3, o4, o5, rfl⟩
    | cons v D ih =>
      intro d o3 o4 o5
      obtain ⟨q3, q4, q5, e⟩ := ih d (some (.int (hpA v))) (some (.int (hpB v))) (some (.int (hpC v)))
      refine ⟨q3, q4, q5, ?_⟩
      rw [List.map_cons, forF]
      have e1 : (S.putT ⟨[d, some (.int x), some (.int y), o3, o4, o5], none⟩ (forT (stN flawallowedCode 0)) (limV v)) = some ⟨[d, some (.int x), some (.int y), some (.int (hpA v)), some (.int (hpB v)), some (.int (hpC v))], none⟩ := rfl
      rw [e1]
      have h1 : (hpA v).natAbs < 2 ^ 60 := by have := hpA_b v; omega
      have h2 : (hpB v).natAbs < 2 ^ 60 := by have := hpB_b v; omega
      have h3 : x.natAbs < 2 ^ 60 := by omega
      have h4 : y.natAbs < 2 ^ 60 := by omega
      have e2 : exSs noΦ (forB (stN flawallowedCode 0)) ⟨[d, some (.int x), some (.int y), some (.int (hpA v)), some (.int (hpB v)), some (.int (hpC v))], none⟩ =
          if decide (hpA v * x + hpB v * y ≤ hpC v) then some (.next ⟨[d, some (.int x), some (.int y), some (.int (hpA v)), some (.int (hpB v)), some (.int (hpC v))], none⟩) else some (.ret (.boo false)) := by
        show exSs noΦ (.cons (.ite _ _ _ _) .nil) _ = _
        simp [exSs, exS, evT, evE, binV, cmpV, h1, h2, h3, h4]
        by_cases hc : hpA v * x + hpB v * y ≤ hpC v
        · simp [hc, show ¬ (hpC v < hpA v * x + hpB v * y) by omega]
        · simp [hc, show hpC v < hpA v * x + hpB v * y by omega]
      rw [Option.bind_some, e2]
      by_cases hc : hpA v * x + hpB v * y ≤ hpC v
      · simp only [hc, decide_true, if_true, Option.bind_some, List.all_cons, Bool.true_and]
        exact e
      · simp only [hc, decide_false, List.all_cons, Bool.false_and]
        rfl
  obtain ⟨q3, q4, q5, e⟩ := loop D (some (.lst (D.map limV))) none none none
  refine runF_of rfl ?_
  by_cases hc : (D.all fun v => decide (hpA v * x + hpB v * y ≤ hpC v)) = true
  · rw [hc, if_pos rfl] at e
    rw [hc]
    refine ex_next (ex_for (v := .lst (D.map limV)) rfl rfl (by simpa using h) e) ?_
    exact ex_ret rfl
  · rw [Bool.not_eq_true] at hc
    rw [hc, if_neg (by simp)] at e
    rw [hc]
    exact ex_ret (ex_for (v := .lst (D.map limV)) rfl rfl (by simpa using h) e)
end Mine
namespace Mine
open PySem

/-! words -/
noncomputable def letter (d : Nat) : UInt8 := (65 + d).toUInt8
noncomputable def hexR : Nat → Nat → List UInt8 → List UInt8
  | 0, _, acc => acc
  | k + 1, x, acc => if x = 0 then acc else hexR k (x / 16) (letter (x % 16) :: acc)
noncomputable def apB : Array UInt8 := #[65, 66, 67, 68, 69, 70, 71, 72, 73, 74, 75, 76, 77, 78, 79, 80]
theorem ap_cut (m : Nat) (h : m < 16) : sliceV (.byt apB) (some (m : Int)) (some ((m : Int) + 1)) = some (.byt #[letter m]) := by
  have : m = 0 ∨ m = 1 ∨ m = 2 ∨ m = 3 ∨ m = 4 ∨ m = 5 ∨ m = 6 ∨ m = 7 ∨ m = 8 ∨ m = 9 ∨ m = 10 ∨ m = 11 ∨ m = 12 ∨ m = 13 ∨ m = 14 ∨ m = 15 := by omega
  rcases this with rfl | rfl | rfl | rfl | rfl | rfl | rfl | rfl | rfl | rfl | rfl | rfl | rfl | rfl | rfl | rfl <;> rfl

theorem hex_len : ∀ (k x : Nat) (acc : List UInt8), (hexR k x acc).length ≤ k + acc.length
  | 0, _, acc => by simp [hexR]
  | k + 1, x, acc => by
    unfold hexR
    split
    · omega
    · have := hex_len k (x / 16) (letter (x % 16) :: acc)
      simp at this; omega
theorem hex_zero (k : Nat) (acc : List UInt8) : hexR k 0 acc = acc := by cases k <;> simp [hexR]

theorem i2a_loop : ∀ (k x : Nat) (acc : List UInt8) (o : Option V) (n : Nat), x < 16 ^ k → k < n → acc.length + k ≤ 900 →
    ∃ q, whileF (fun s => evT noΦ (.var 0 ⟨0, 0, 0, 0⟩) s.vs) (fun s => exSs noΦ (match stN fInt2APCode 3 with | .whil _ a _ => a | _ => .nil) s) n ⟨[some (.int x), some (.byt acc.toArray), some (.byt apB), o], none⟩ =
      some (.next ⟨[some (.int 0), some (.byt (hexR k x acc).toArray), some (.byt apB), q], none⟩)
  | k, 0, acc, o, n + 1, _, _, _ => ⟨o, by rw [hex_zero]; rfl⟩
  | 0, x + 1, _, _, _, h, _, _ => by simp at h
  | k + 1, x + 1, acc, o, n + 1, h, hk, hl => by
    have hlt : (x + 1) / 16 < 16 ^ k := by rw [Nat.pow_succ] at h; omega
    obtain ⟨q, e⟩ := i2a_loop k ((x + 1) / 16) (letter ((x + 1) % 16) :: acc) (some (.int (((x + 1) % 16 : Nat) : Int))) n hlt (by omega) (by simp; omega)
    refine ⟨q, ?_⟩
    rw [whileF]
    have t1 : evT noΦ (.var 0 ⟨0, 0, 0, 0⟩) [some (.int ((x + 1 : Nat) : Int)), some (.byt acc.toArray), some (.byt apB), o] = some true := by
      have : (((x + 1 : Nat) : Int) != 0) = true := bne_iff_ne.mpr (by omega)
      show truthV (.int ((x + 1 : Nat) : Int)) = some true
      simp only [truthV, this]
    have t2 : exSs noΦ (match stN fInt2APCode 3 with | .whil _ a _ => a | _ => .nil) ⟨[some (.int ((x + 1 : Nat) : Int)), some (.byt acc.toArray), some (.byt apB), o], none⟩ =
        some (.next ⟨[some (.int (((x + 1) / 16 : Nat) : Int)), some (.byt (letter ((x + 1) % 16) :: acc).toArray), some (.byt apB), some (.int (((x + 1) % 16 : Nat) : Int))], none⟩) := by
      refine ex_next (T' := ⟨[some (.int (((x + 1) / 16 : Nat) : Int)), some (.byt acc.toArray), some (.byt apB), some (.int (((x + 1) % 16 : Nat) : Int))], none⟩) ?_ ?_
      · have e1 : ((x + 1 : Nat) : Int).fdiv 16 = (((x + 1) / 16 : Nat) : Int) := by rw [Int.fdiv_eq_ediv_of_nonneg _ (by omega)]; omega
        have e2 : ((x + 1 : Nat) : Int).fmod 16 = (((x + 1) % 16 : Nat) : Int) := by rw [Int.fmod_eq_emod_of_nonneg _ (by omega)]; omega
        have e3 : callB .divmod [.int ((x + 1 : Nat) : Int), .int 16] = some (.tup [.int (((x + 1) / 16 : Nat) : Int), .int (((x + 1) % 16 : Nat) : Int)]) := by
          show (if (16 : Int) ≠ 0 ∧ (16 : Int).natAbs < 1073741824 then some (V.tup [.int (((x + 1 : Nat) : Int).fdiv 16), .int (((x + 1 : Nat) : Int).fmod 16)]) else none) = _
          rw [if_pos (by decide), e1, e2]
        exact ex_assignT e3 rfl
      · refine ex_next (T' := ⟨[some (.int (((x + 1) / 16 : Nat) : Int)), some (.byt (letter ((x + 1) % 16) :: acc).toArray), some (.byt apB), some (.int (((x + 1) % 16 : Nat) : Int))], none⟩) ?_ rfl
        have hc := ap_cut ((x + 1) % 16) (Nat.mod_lt _ (by omega))
        have hb : binV .Add (.byt #[letter ((x + 1) % 16)]) (.byt acc.toArray) = some (.byt (letter ((x + 1) % 16) :: acc).toArray) := by
          show (if (#[letter ((x + 1) % 16)] : Array UInt8).size + acc.toArray.size ≤ 1000 then some (V.byt (#[letter ((x + 1) % 16)] ++ acc.toArray)) else none) = _
          rw [if_pos (by simp; omega)]
          simp
        refine ex_assign (v := .byt (letter ((x + 1) % 16) :: acc).toArray) ?_ rfl
        show ((sliceV (.byt apB) (some (((x + 1) % 16 : Nat) : Int)) (some ((((x + 1) % 16 : Nat) : Int) + 1))).bind fun a => (some (V.byt acc.toArray)).bind fun b => binV .Add a b) = _
        rw [hc]
        exact hb
    rw [t1, Option.bind_some, if_pos rfl, t2, Option.bind_some]
    exact e

noncomputable def hexW (x : Nat) : List UInt8 := hexR 4 x []
theorem i2a_run (x : Nat) (h : x < 65536) : runF noΦ fInt2AP [.int x] = some (.byt (hexW x).toArray) := by
  obtain ⟨q, e⟩ := i2a_loop 4 x [] none 100 (by simpa using h) (by omega) (by simp)
  refine runF_of rfl ?_
  refine ex_next (T' := ⟨[some (.int x), some (.byt #[]), none, none], none⟩) rfl ?_
  refine ex_next (T' := ⟨[some (.int x), some (.byt #[]), some (.byt apB), none], none⟩) rfl ?_
  refine ex_next (T' := ⟨[some (.int x), some (.byt #[]), some (.byt apB), none], none⟩) ?_ ?_
  · have : ¬ ((x : Int) < 0) := by omega
    refine ex_assign (v := .int x) ?_ rfl
    show callB .int [V.int (if (x : Int) < 0 then -(x : Int) else x)] = _
    rw [if_neg this]
    rfl
  · refine ex_next (T' := _) (by simp only [exS]; exact e) ?_
    exact ex_ret rfl
end Mine
namespace Mine
open PySem

/-! the word's number -/
noncomputable def val : List UInt8 → Int → Int
  | [], n => n
  | c :: l, n => val l (16 * n + c.toNat - 65)
theorem letter_nat (d : Nat) (h : d < 16) : (letter d).toNat = 65 + d := by
  unfold letter
  rw [Nat.toUInt8, UInt8.toNat_ofNat']
  omega
theorem val_hex : ∀ (k x : Nat) (acc : List UInt8), x < 16 ^ k → val (hexR k x acc) 0 = val acc x
  | 0, x, acc, h => by
    have : x = 0 := by simpa using h
    subst this; rfl
  | k + 1, x, acc, h => by
    unfold hexR
    split
    · rename_i h0; subst h0; rfl
    · rw [val_hex k (x / 16) _ (by rw [Nat.pow_succ] at h; omega)]
      show val acc (16 * ((x / 16 : Nat) : Int) + (letter (x % 16)).toNat - 65) = _
      rw [letter_nat _ (by omega)]
      congr 1
      omega
theorem num_loop : ∀ (l : List UInt8) (d o2 : Option V) (n : Int), (n.natAbs + 1000) * 32 ^ l.length < 2 ^ 60 →
    ∃ q, forF (fun x s => (s.putT (forT (stN flawnumberCode 1)) x).bind fun s => exSs noΦ (forB (stN flawnumberCode 1)) s) (l.map fun c => .int c.toNat) ⟨[d, some (.int n), o2], none⟩ = some (.next ⟨[d, some (.int (val l n)), q], none⟩)
  | [], d, o2, n, _ => ⟨o2, rfl⟩
  | c :: l, d, o2, n, h => by
    have hc := c.toNat_lt
    have h32 : 0 < 32 ^ l.length := Nat.pow_pos (by omega)
    rw [List.length_cons, Nat.pow_succ] at h
    have hn : n.natAbs < 2 ^ 60 := by
      have : n.natAbs + 1000 ≤ (n.natAbs + 1000) * (32 ^ l.length * 32) := Nat.le_mul_of_pos_right _ (by omega)
      omega
    have h2 : ((16 * n + c.toNat - 65).natAbs + 1000) * 32 ^ l.length < 2 ^ 60 := by
      have e1 : (16 * n + c.toNat - 65).natAbs + 1000 ≤ (n.natAbs + 1000) * 32 := by omega
      have e2 := Nat.mul_le_mul_right (32 ^ l.length) e1
      have e3 : (n.natAbs + 1000) * 32 * 32 ^ l.length = (n.natAbs + 1000) * (32 ^ l.length * 32) := by rw [Nat.mul_assoc, Nat.mul_comm 32]
      omega
    obtain ⟨q, e⟩ := num_loop l d (some (.int c.toNat)) (16 * n + c.toNat - 65) h2
    refine ⟨q, ?_⟩
    rw [List.map_cons, forF]
    have e1 : (S.putT ⟨[d, some (.int n), o2], none⟩ (forT (stN flawnumberCode 1)) (.int c.toNat)) = some ⟨[d, some (.int n), some (.int c.toNat)], none⟩ := rfl
    rw [e1, Option.bind_some]
    have e2 : exSs noΦ (forB (stN flawnumberCode 1)) ⟨[d, some (.int n), some (.int c.toNat)], none⟩ = some (.next ⟨[d, some (.int (16 * n + c.toNat - 65)), some (.int c.toNat)], none⟩) := by
      refine ex_next (ex_assign (v := .int (16 * n + c.toNat - 65)) ?_ rfl) rfl
      have hm : binV .Mult (.int 16) (.int n) = some (.int (16 * n)) := by
        show (if (16 : Int).natAbs < 2 ^ 60 ∧ n.natAbs < 2 ^ 60 then some (V.int (16 * n)) else none) = _
        rw [if_pos ⟨by decide, hn⟩]
      show (((binV .Mult (.int 16) (.int n)).bind fun a => (some (V.int (c.toNat : Int))).bind fun b => binV .Add a b).bind fun a => (some (V.int 65)).bind fun b => binV .Sub a b) = _
      rw [hm]
      rfl
    rw [e2]
    exact e
theorem number_run (x : Nat) (h : x < 65536) : runF noΦ flawnumber [.byt (hexW x).toArray] = some (.int x) := by
  have hl := hex_len 4 x []
  obtain ⟨q, e⟩ := num_loop (hexW x) (some (.byt (hexW x).toArray)) none 0 (by
    have : 32 ^ (hexW x).length ≤ 32 ^ 4 := Nat.pow_le_pow_right (by omega) (by simpa [hexW] using hl)
    have e1 : ((0 : Int).natAbs + 1000) * 32 ^ (hexW x).length ≤ ((0 : Int).natAbs + 1000) * 32 ^ 4 := Nat.mul_le_mul_left _ this
    have e2 : ((0 : Int).natAbs + 1000) * 32 ^ 4 < 2 ^ 60 := by decide
    omega)
  refine runF_of rfl ?_
  refine ex_next (T' := ⟨[some (.byt (hexW x).toArray), some (.int 0), none], none⟩) rfl ?_
  have hv : val (hexW x) 0 = x := val_hex 4 x [] (by simpa using h)
  rw [hv] at e
  refine ex_next (ex_for (v := .byt (hexW x).toArray) (vs := (hexW x).map fun (c : UInt8) => V.int ((c.toNat : Nat) : Int)) rfl (by simp [itemsV]) (by rw [List.length_map]; simp [hexW] at hl ⊢; omega) e) ?_
  exact ex_ret rfl

/-! the word's highest place -/
noncomputable def hi (d : Nat) : Nat := if d < 2 then 0 else if d < 4 then 1 else if d < 8 then 2 else 3
theorem hi_b (d : Nat) (h : 1 ≤ d ∧ d < 16) : 2 ^ hi d ≤ d ∧ d < 2 ^ (hi d + 1) := by
  have : d = 1 ∨ d = 2 ∨ d = 3 ∨ d = 4 ∨ d = 5 ∨ d = 6 ∨ d = 7 ∨ d = 8 ∨ d = 9 ∨ d = 10 ∨ d = 11 ∨ d = 12 ∨ d = 13 ∨ d = 14 ∨ d = 15 := by omega
  rcases this with rfl | rfl | rfl | rfl | rfl | rfl | rfl | rfl | rfl | rfl | rfl | rfl | rfl | rfl | rfl <;> decide
theorem high1 (d : Nat) (h : 1 ≤ d ∧ d < 16) : runF noΦ flawhighest [.byt #[letter d]] = some (.int (hi d : Nat)) := by
  have : d = 1 ∨ d = 2 ∨ d = 3 ∨ d = 4 ∨ d = 5 ∨ d = 6 ∨ d = 7 ∨ d = 8 ∨ d = 9 ∨ d = 10 ∨ d = 11 ∨ d = 12 ∨ d = 13 ∨ d = 14 ∨ d = 15 := by omega
  rcases this with rfl | rfl | rfl | rfl | rfl | rfl | rfl | rfl | rfl | rfl | rfl | rfl | rfl | rfl | rfl <;> rfl
theorem high2 (d : Nat) (h : 1 ≤ d ∧ d < 16) (a : UInt8) : runF noΦ flawhighest [.byt #[letter d, a]] = some (.int (4 + hi d : Nat)) := by
  have : d = 1 ∨ d = 2 ∨ d = 3 ∨ d = 4 ∨ d = 5 ∨ d = 6 ∨ d = 7 ∨ d = 8 ∨ d = 9 ∨ d = 10 ∨ d = 11 ∨ d = 12 ∨ d = 13 ∨ d = 14 ∨ d = 15 := by omega
  rcases this with rfl | rfl | rfl | rfl | rfl | rfl | rfl | rfl | rfl | rfl | rfl | rfl | rfl | rfl | rfl <;> rfl
theorem high3 (d : Nat) (h : 1 ≤ d ∧ d < 16) (a b : UInt8) : runF noΦ flawhighest [.byt #[letter d, a, b]] = some (.int (8 + hi d : Nat)) := by
  have : d = 1 ∨ d = 2 ∨ d = 3 ∨ d = 4 ∨ d = 5 ∨ d = 6 ∨ d = 7 ∨ d = 8 ∨ d = 9 ∨ d = 10 ∨ d = 11 ∨ d = 12 ∨ d = 13 ∨ d = 14 ∨ d = 15 := by omega
  rcases this with rfl | rfl | rfl | rfl | rfl | rfl | rfl | rfl | rfl | rfl | rfl | rfl | rfl | rfl | rfl <;> rfl
theorem high4 (d : Nat) (h : 1 ≤ d ∧ d < 16) (a b c : UInt8) : runF noΦ flawhighest [.byt #[letter d, a, b, c]] = some (.int (12 + hi d : Nat)) := by
  have : d = 1 ∨ d = 2 ∨ d = 3 ∨ d = 4 ∨ d = 5 ∨ d = 6 ∨ d = 7 ∨ d = 8 ∨ d = 9 ∨ d = 10 ∨ d = 11 ∨ d = 12 ∨ d = 13 ∨ d = 14 ∨ d = 15 := by omega
  rcases this with rfl | rfl | rfl | rfl | rfl | rfl | rfl | rfl | rfl | rfl | rfl | rfl | rfl | rfl | rfl <;> rfl
theorem high_run (x : Nat) (h0 : 0 < x) (h : x < 65536) : ∃ r : Nat, runF noΦ flawhighest [.byt (hexW x).toArray] = some (.int r) ∧ 2 ^ r ≤ x ∧ x < 2 ^ (r + 1) := by
  by_cases h1 : x < 16
  · have e : hexW x = [letter x] := by
      simp [hexW, hexR, show x ≠ 0 by omega, show x / 16 = 0 by omega, Nat.mod_eq_of_lt h1]
    rw [e]
    exact ⟨hi x, high1 x (by omega), hi_b x (by omega)⟩
  · by_cases h2 : x < 256
    · have e : hexW x = [letter (x / 16), letter (x % 16)] := by
        simp [hexW, hexR, show x ≠ 0 by omega, show x / 16 ≠ 0 by omega, show x / 16 / 16 = 0 by omega, show x / 16 % 16 = x / 16 by omega]
      rw [e]
      obtain ⟨b1, b2⟩ := hi_b (x / 16) (by omega)
      refine ⟨4 + hi (x / 16), high2 _ (by omega) _, ?_, ?_⟩
      · rw [Nat.pow_add]; omega
      · rw [Nat.add_assoc, Nat.pow_add]; omega
    · by_cases h3 : x < 4096
      · have e : hexW x = [letter (x / 16 / 16), letter (x / 16 % 16), letter (x % 16)] := by
          simp [hexW, hexR, show x ≠ 0 by omega, show x / 16 ≠ 0 by omega, show x / 16 / 16 ≠ 0 by omega, show x / 16 / 16 / 16 = 0 by omega, show x / 16 / 16 % 16 = x / 16 / 16 by omega]
        rw [e]
        obtain ⟨b1, b2⟩ := hi_b (x / 16 / 16) (by omega)
        refine ⟨8 + hi (x / 16 / 16), high3 _ (by omega) _ _, ?_, ?_⟩
        · rw [Nat.pow_add]; omega
        · rw [Nat.add_assoc, Nat.pow_add]; omega
      · have e : hexW x = [letter (x / 16 / 16 / 16), letter (x / 16 / 16 % 16), letter (x / 16 % 16), letter (x % 16)] := by
          simp [hexW, hexR, show x ≠ 0 by omega, show x / 16 ≠ 0 by omega, show x / 16 / 16 ≠ 0 by omega, show x / 16 / 16 / 16 ≠ 0 by omega, show x / 16 / 16 / 16 % 16 = x / 16 / 16 / 16 by omega]
        rw [e]
        obtain ⟨b1, b2⟩ := hi_b (x / 16 / 16 / 16) (by omega)
        refine ⟨12 + hi (x / 16 / 16 / 16), high4 _ (by omega) _ _ _, ?_, ?_⟩
        · rw [Nat.pow_add]; omega
        · rw [Nat.add_assoc, Nat.pow_add]; omega
end Mine
namespace Mine
open PySem

/-! the line's words -/
noncomputable def flat (ws : List (List UInt8)) : List UInt8 := ws.flatMap fun w => 32 :: w
theorem drop_all {p : UInt8 → Bool} : ∀ (w r : List UInt8), (∀ c ∈ w, p c = true) → (w ++ r).takeWhile p = w ++ r.takeWhile p ∧ (w ++ r).dropWhile p = r.dropWhile p
  | [], r, _ => ⟨rfl, rfl⟩
  | c :: w, r, h => by
    have ih := drop_all w r fun x hx => h x (List.mem_cons_of_mem _ hx)
    have hc := h c List.mem_cons_self
    rw [List.cons_append, List.takeWhile_cons, List.dropWhile_cons, hc, if_pos rfl, if_pos rfl, ih.1, ih.2]
    exact ⟨rfl, rfl⟩
theorem flat_stop (ws : List (List UInt8)) : (flat ws).takeWhile (!Builtin.Bytes.isSpace ·) = [] ∧ (flat ws).dropWhile (!Builtin.Bytes.isSpace ·) = flat ws := by
  cases ws with
  | nil => exact ⟨rfl, rfl⟩
  | cons w ws => exact ⟨rfl, rfl⟩
theorem words_flat : ∀ (ws : List (List UInt8)) (f n : Nat), (∀ w ∈ ws, ∀ c ∈ w, Builtin.Bytes.isSpace c = false) → ws.length < f → ws.length < n →
    Builtin.Bytes.words f n (flat ws) = ws.filter (!·.isEmpty)
  | _, 0, _, _, h, _ => by omega
  | [], f + 1, n, _, _, _ => rfl
  | [] :: ws, f + 1, n, hs, hf, hn => by
    have ih := words_flat ws (f + 1) n (fun w hw => hs w (List.mem_cons_of_mem _ hw)) (by simp at hf; omega) (by simp at hn; omega)
    have e : Builtin.Bytes.words (f + 1) n (flat ([] :: ws)) = Builtin.Bytes.words (f + 1) n (flat ws) := by
      unfold Builtin.Bytes.words
      rfl
    rw [e, ih]
    rfl
  | (c :: w) :: ws, f + 1, n, hs, hf, hn => by
    have hc : ∀ x ∈ c :: w, Builtin.Bytes.isSpace x = false := hs _ List.mem_cons_self
    have ih := words_flat ws f (n - 1) (fun w hw => hs w (List.mem_cons_of_mem _ hw)) (by simp at hf; omega) (by simp at hn; omega)
    have e0 : flat ((c :: w) :: ws) = 32 :: ((c :: w) ++ flat ws) := rfl
    have e1 : (flat ((c :: w) :: ws)).dropWhile Builtin.Bytes.isSpace = (c :: w) ++ flat ws := by
      rw [e0, List.dropWhile_cons, if_pos (by rfl), List.cons_append, List.dropWhile_cons, hc c List.mem_cons_self]
      rfl
    have e2 := drop_all (p := (!Builtin.Bytes.isSpace ·)) (c :: w) (flat ws) fun x hx => by rw [hc x hx]; rfl
    rw [(flat_stop ws).1, (flat_stop ws).2, List.append_nil] at e2
    unfold Builtin.Bytes.words
    rw [e1]
    have e3 : ((c :: w) ++ flat ws) = c :: (w ++ flat ws) := rfl
    rw [e3]
    dsimp only
    rw [if_neg (by simp at hn ⊢; omega), ← e3, e2.1, e2.2, ih]
    rfl

theorem letter_ok (d : Nat) (h : d < 16) : isFlagCh (letter d) = true ∧ Builtin.Bytes.isSpace (letter d) = false := by
  have : d = 0 ∨ d = 1 ∨ d = 2 ∨ d = 3 ∨ d = 4 ∨ d = 5 ∨ d = 6 ∨ d = 7 ∨ d = 8 ∨ d = 9 ∨ d = 10 ∨ d = 11 ∨ d = 12 ∨ d = 13 ∨ d = 14 ∨ d = 15 := by omega
  rcases this with rfl | rfl | rfl | rfl | rfl | rfl | rfl | rfl | rfl | rfl | rfl | rfl | rfl | rfl | rfl | rfl <;> decide
theorem hex_all (P : UInt8 → Prop) (hP : ∀ d, d < 16 → P (letter d)) : ∀ (k x : Nat) (acc : List UInt8), (∀ c ∈ acc, P c) → ∀ c ∈ hexR k x acc, P c
  | 0, _, acc, h => h
  | k + 1, x, acc, h => by
    unfold hexR
    split
    · exact h
    · refine hex_all P hP k _ _ fun c hc => ?_
      rcases List.mem_cons.mp hc with rfl | hc
      · exact hP _ (Nat.mod_lt _ (by omega))
      · exact h c hc
theorem hexW_ok (x : Nat) : ∀ c ∈ hexW x, isFlagCh c = true ∧ Builtin.Bytes.isSpace c = false := hex_all _ letter_ok 4 x [] fun _ h => (nomatch h)
theorem hex_empty : ∀ (k x : Nat) (acc : List UInt8), acc ≠ [] → hexR k x acc ≠ []
  | 0, _, acc, h => h
  | k + 1, x, acc, h => by
    unfold hexR
    split
    · exact h
    · exact hex_empty k _ _ (by simp)
theorem hexW_empty (x : Nat) : (hexW x).isEmpty = (x == 0) := by
  by_cases h : x = 0
  · subst h; rfl
  · have e : hexW x = hexR 3 (x / 16) [letter (x % 16)] := by simp [hexW, hexR, h]
    have h2 := hex_empty 3 (x / 16) [letter (x % 16)] (by simp)
    rw [e, beq_eq_false_iff_ne.mpr h]
    cases q : hexR 3 (x / 16) [letter (x % 16)] with
    | nil => exact absurd q h2
    | cons _ _ => rfl

theorem flat_len : ∀ (ws : List (List UInt8)), (∀ w ∈ ws, w.length ≤ 4) → (flat ws).length ≤ 5 * ws.length
  | [], _ => by simp [flat]
  | w :: ws, h => by
    have ih := flat_len ws fun x hx => h x (List.mem_cons_of_mem _ hx)
    have h1 := h w List.mem_cons_self
    have e : flat (w :: ws) = 32 :: (w ++ flat ws) := rfl
    rw [e]
    simp only [List.length_cons, List.length_append]
    omega
theorem parse_line (MS : List Nat) (h : MS.length ≤ 20) : parseV [.byt (lineStart ++ flat (MS.map hexW) ++ [41, 41]).toArray] = some (.tup ((MS.filter (· != 0)).map fun x => .byt (hexW x).toArray)) := by
  have hl : (flat (MS.map hexW)).length ≤ 100 := by
    have := flat_len (MS.map hexW) fun w hw => by
      obtain ⟨x, _, rfl⟩ := List.mem_map.mp hw
      have := hex_len 4 x []
      exact this
    rw [List.length_map] at this
    omega
  have hgo : ∀ m : List UInt8, m.all isFlagCh = true → m.length ≤ 200 → parseV [.byt (lineStart ++ m ++ [41, 41]).toArray] = some (.tup ((Builtin.Bytes.words (m.length + 1) (m.length + 1) m).map fun x => .byt x.toArray)) := fun m h1 h2 => by
    have e : ((((lineStart ++ m ++ [41, 41]).toArray).toList.drop 18).take (((lineStart ++ m ++ [41, 41]).toArray).toList.length - 20)) = m := by
      rw [List.append_assoc, List.drop_append]
      simp [lineStart]
    unfold parseV
    dsimp only
    rw [e, if_pos ⟨by simp, h1, h2⟩]
  have hfl : ∀ ws : List (List UInt8), (∀ w ∈ ws, ∀ c ∈ w, isFlagCh c = true) → (flat ws).all isFlagCh = true := fun ws hw => by
    rw [List.all_eq_true]
    intro c hc
    obtain ⟨w, hw1, hc⟩ := List.mem_flatMap.mp hc
    rcases List.mem_cons.mp hc with rfl | hc
    · rfl
    · exact hw w hw1 c hc
  rw [hgo _ (hfl _ fun w hw c hc => by obtain ⟨x, _, rfl⟩ := List.mem_map.mp hw; exact (hexW_ok x c hc).1) (by omega)]
  have hlen : (MS.map hexW).length ≤ (flat (MS.map hexW)).length := by
    have : ∀ ws : List (List UInt8), ws.length ≤ (flat ws).length := by
      intro ws
      induction ws with
      | nil => simp
      | cons w ws ih =>
        have e : flat (w :: ws) = 32 :: (w ++ flat ws) := rfl
        rw [e]; simp only [List.length_cons, List.length_append]; omega
    exact this _
  rw [words_flat _ _ _ (fun w hw c hc => by obtain ⟨x, _, rfl⟩ := List.mem_map.mp hw; exact (hexW_ok x c hc).2) (by omega) (by omega)]
  congr 2
  rw [List.filter_map, List.map_map]
  have : ((fun w : List UInt8 => !w.isEmpty) ∘ hexW) = (fun x : Nat => x != 0) := by
    funext x
    show (!(hexW x).isEmpty) = (x != 0)
    rw [hexW_empty]; rfl
  rw [this]
  rfl
end Mine
namespace Mine
open PySem

theorem ev_comp {Φ : Nat → List V → Option V} {elt : Ex} {t : Tg} {it : Ex} {tests : Exs} {rest : Gens} {cn : List Str} {fr : List Nat} {sc : Scope} {p : Pos} {σ : Sg} {v : V} {vs out : List V} (h1 : evE Φ it σ = some v) (h2 : itemsV v = some vs)
    (h3 : flatO (fun x => (bindT (List.replicate (cn.length - fr.length) none ++ fr.map fun j => (σ[j]?).join) t x).bind fun τ => (evTs Φ tests τ).bind fun ok => if ok then evG Φ rest (fun τ => evE Φ elt τ) τ else some []) vs = some out)
    (h4 : out.length ≤ 1000 ∧ vs.length ≤ 1000) : evE Φ (.comp elt t it tests rest cn fr sc p) σ = some (.lst out) := by
  simp only [evE, h1, h2, h3, Option.bind_some, h4, and_self, if_true]
theorem flatO_one {f : V → Option (List V)} {α : Type} {a : α → V} {g : α → V} : ∀ (l : List α), (∀ x ∈ l, f (a x) = some [g x]) → flatO f (l.map a) = some (l.map g)
  | [], _ => rfl
  | x :: l, h => by
    rw [List.map_cons, flatO, h x List.mem_cons_self, Option.bind_some, flatO_one l fun y hy => h y (List.mem_cons_of_mem _ hy)]
    rfl

/-! what is drawn -/
noncomputable def d0 (l : List Int) : List Int := (l.take 7).map fun v => v.fmod 1000000
noncomputable def drawn (l : List Int) : List Int := d0 l ++ ([473, 275, 263, 377, 64] : List Int).drop (d0 l).length
theorem d0_len (l : List Int) : (d0 l).length ≤ 7 := by simp [d0]; omega
theorem drawn_len (l : List Int) : 5 ≤ (drawn l).length ∧ (drawn l).length ≤ 7 := by
  have := d0_len l
  simp only [drawn, List.length_append, List.length_drop, List.length_cons, List.length_nil]
  omega

theorem st0 (l : List Int) (hl : l.length ≤ 63) (s1 s2 s3 s4 s5 s6 s7 s8 s9 s10 s11 s12 s13 s14 s15 s16 s17 s18 s19 s20 s21 s22 s23 s24 s25 : Option V) :
    exS fullΦ (stN flawCode 0) ⟨[some (.lst (l.map .int)), s1, s2, s3, s4, s5, s6, s7, s8, s9, s10, s11, s12, s13, s14, s15, s16, s17, s18, s19, s20, s21, s22, s23, s24, s25], none⟩ =
      some (.next ⟨[some (.lst (l.map .int)), s1, some (.lst ((d0 l).map .int)), s3, s4, s5, s6, s7, s8, s9, s10, s11, s12, s13, s14, s15, s16, s17, s18, s19, s20, s21, s22, s23, s24, s25], none⟩) := by
  refine ex_assignC (v := .lst ((d0 l).map .int)) (ev_comp (v := .lst ((l.take 7).map .int)) (vs := (l.take 7).map .int) ?_ rfl ?_ ?_) rfl
  · show sliceV (.lst (l.map .int)) none (some 7) = _
    show (if (0 : Int) ≤ 7 ∧ (l.map V.int).length ≤ 100000 then some (V.lst ((l.map V.int).take 7)) else none) = _
    rw [if_pos ⟨by decide, by rw [List.length_map]; omega⟩, List.map_take]
  · have := flatO_one (f := (fun x => (bindT (List.replicate (([Str.ofString ".0", Str.ofString "x"] : List Str).length - ([] : List Nat).length) none ++ ([] : List Nat).map fun j => (([] : Sg)[j]?).join) (.name 1 ⟨85, 32, 85, 33⟩) x).bind fun τ => (evTs fullΦ .nil τ).bind fun ok => if ok then evG fullΦ .nil (fun τ => evE fullΦ (match stN flawCode 0 with | .assignC _ (.comp e _ _ _ _ _ _ _ _) _ _ => e | _ => .cint 0 ⟨0, 0, 0, 0⟩) τ) τ else some []))
      (a := V.int) (g := fun v => V.int (v.fmod 1000000)) (l.take 7) (fun x _ => rfl)
    simp only [d0, List.map_map]
    exact this
  · have := d0_len l
    simp only [List.length_map]
    simp [d0] at this ⊢
    omega
theorem st1 (l : List Int) (s0 s1 s3 s4 s5 s6 s7 s8 s9 s10 s11 s12 s13 s14 s15 s16 s17 s18 s19 s20 s21 s22 s23 s24 s25 : Option V) :
    exS fullΦ (stN flawCode 1) ⟨[s0, s1, some (.lst ((d0 l).map .int)), s3, s4, s5, s6, s7, s8, s9, s10, s11, s12, s13, s14, s15, s16, s17, s18, s19, s20, s21, s22, s23, s24, s25], none⟩ =
      some (.next ⟨[s0, s1, some (.lst ((drawn l).map .int)), s3, s4, s5, s6, s7, s8, s9, s10, s11, s12, s13, s14, s15, s16, s17, s18, s19, s20, s21, s22, s23, s24, s25], none⟩) := by
  refine ex_assign (v := .lst ((drawn l).map .int)) ?_ rfl
  have hlen := d0_len l
  have e1 : callB .len [.lst ((d0 l).map .int)] = some (.int (d0 l).length) := by
    show (if ((d0 l).map V.int).length ≤ 100000 then some (V.int ((d0 l).map V.int).length) else none) = _
    rw [List.length_map, if_pos (by omega)]
  have e2 : sliceV (.lst [.int 473, .int 275, .int 263, .int 377, .int 64]) (some (d0 l).length) none = some (.lst ((([473, 275, 263, 377, 64] : List Int).drop (d0 l).length).map .int)) := by
    show (if (0 : Int) ≤ ((d0 l).length : Int) ∧ 5 ≤ 100000 then some (V.lst ([V.int 473, .int 275, .int 263, .int 377, .int 64].drop ((d0 l).length : Int).toNat)) else none) = _
    rw [if_pos ⟨by omega, by decide⟩, List.map_drop]
    rfl
  have e3 : evE fullΦ (.sl2 (.lst (.cons (.cint 473 ⟨86, 21, 86, 24⟩) (.cons (.cint 275 ⟨0, 0, 0, 0⟩) (.cons (.cint 263 ⟨0, 0, 0, 0⟩) (.cons (.cint 377 ⟨0, 0, 0, 0⟩) (.cons (.cint 64 ⟨0, 0, 0, 0⟩) .nil))))) ⟨0, 0, 0, 0⟩) (.bcall .len (.cons (.var 2 ⟨0, 0, 0, 0⟩) .nil) ⟨0, 0, 0, 0⟩ ⟨0, 0, 0, 0⟩) ⟨0, 0, 0, 0⟩ ⟨0, 0, 0, 0⟩)
      [s0, s1, some (.lst ((d0 l).map .int)), s3, s4, s5, s6, s7, s8, s9, s10, s11, s12, s13, s14, s15, s16, s17, s18, s19, s20, s21, s22, s23, s24, s25] = some (.lst ((([473, 275, 263, 377, 64] : List Int).drop (d0 l).length).map .int)) := by
    show ((callB .len [.lst ((d0 l).map .int)]).bind asInt).bind (fun b => sliceV (.lst [.int 473, .int 275, .int 263, .int 377, .int 64]) (some b) none) = _
    rw [e1]
    exact e2
  show (evE fullΦ (.sl2 _ _ _ _) _).bind (fun b => binV .Add (.lst ((d0 l).map .int)) b) = _
  refine (congrArg (fun o => Option.bind o (fun b => binV .Add (.lst ((d0 l).map .int)) b)) e3).trans ?_
  show (if ((d0 l).map V.int).length + ((([473, 275, 263, 377, 64] : List Int).drop (d0 l).length).map V.int).length ≤ 1000 then some (V.lst ((d0 l).map V.int ++ (([473, 275, 263, 377, 64] : List Int).drop (d0 l).length).map V.int)) else none) = _
  rw [if_pos (by simp; omega), ← List.map_append]
  rfl
theorem sum_ev (D : List Int) : callB .sum [.lst (D.map .int)] = some (.int D.sum) := by
  show (ints? (D.map .int)).map (fun x => V.int x.sum) = _
  rw [ints_map]
  rfl
theorem st2 (D : List Int) (s0 s1 s3 s4 s5 s6 s7 s8 s9 s10 s11 s12 s13 s14 s15 s16 s17 s18 s19 s20 s21 s22 s23 s24 s25 : Option V) :
    exS fullΦ (stN flawCode 2) ⟨[s0, s1, some (.lst (D.map .int)), s3, s4, s5, s6, s7, s8, s9, s10, s11, s12, s13, s14, s15, s16, s17, s18, s19, s20, s21, s22, s23, s24, s25], none⟩ =
      some (.next ⟨[s0, s1, some (.lst (D.map .int)), some (.int (D.sum.fmod 3)), s4, s5, s6, s7, s8, s9, s10, s11, s12, s13, s14, s15, s16, s17, s18, s19, s20, s21, s22, s23, s24, s25], none⟩) := by
  refine ex_assign (v := .int (D.sum.fmod 3)) ?_ rfl
  show (callB .sum [.lst (D.map .int)]).bind (fun a => binV .Mod a (.int 3)) = _
  rw [sum_ev]
  rfl
theorem st3 (D : List Int) (s0 s1 s3 s4 s5 s6 s7 s8 s9 s10 s11 s12 s13 s14 s15 s16 s17 s18 s19 s20 s21 s22 s23 s24 s25 : Option V) :
    exS fullΦ (stN flawCode 3) ⟨[s0, s1, some (.lst (D.map .int)), s3, s4, s5, s6, s7, s8, s9, s10, s11, s12, s13, s14, s15, s16, s17, s18, s19, s20, s21, s22, s23, s24, s25], none⟩ =
      some (.next ⟨[s0, s1, some (.lst (D.map .int)), s3, some (.int ((D.sum.fdiv 3).fmod 4)), s5, s6, s7, s8, s9, s10, s11, s12, s13, s14, s15, s16, s17, s18, s19, s20, s21, s22, s23, s24, s25], none⟩) := by
  refine ex_assign (v := .int ((D.sum.fdiv 3).fmod 4)) ?_ rfl
  show ((callB .sum [.lst (D.map .int)]).bind (fun a => binV .FloorDiv a (.int 3))).bind (fun a => binV .Mod a (.int 4)) = _
  rw [sum_ev]
  rfl
end Mine
namespace Mine
open PySem

theorem a00 : allOk 0 0 = true := by decide +kernel
theorem a01 : allOk 0 1 = true := by decide +kernel
theorem a02 : allOk 0 2 = true := by decide +kernel
theorem a03 : allOk 0 3 = true := by decide +kernel
theorem a10 : allOk 1 0 = true := by decide +kernel
theorem a11 : allOk 1 1 = true := by decide +kernel
theorem a12 : allOk 1 2 = true := by decide +kernel
theorem a13 : allOk 1 3 = true := by decide +kernel
theorem a20 : allOk 2 0 = true := by decide +kernel
theorem a21 : allOk 2 1 = true := by decide +kernel
theorem a22 : allOk 2 2 = true := by decide +kernel
theorem a23 : allOk 2 3 = true := by decide +kernel
theorem all_ok : ∀ (k b : Nat), k < 3 → b < 4 → allOk k b = true
  | 0, 0, _, _ => a00
  | 0, 1, _, _ => a01
  | 0, 2, _, _ => a02
  | 0, 3, _, _ => a03
  | 1, 0, _, _ => a10
  | 1, 1, _, _ => a11
  | 1, 2, _, _ => a12
  | 1, 3, _, _ => a13
  | 2, 0, _, _ => a20
  | 2, 1, _, _ => a21
  | 2, 2, _, _ => a22
  | 2, 3, _, _ => a23
  | k + 3, _, h, _ => absurd h (by omega)
  | 0, b + 4, _, h => absurd h (by omega)
  | 1, b + 4, _, h => absurd h (by omega)
  | 2, b + 4, _, h => absurd h (by omega)
end Mine
namespace Mine
open PySem

theorem pts_ok (k : Nat) (hk : k < 3) : ∃ fa fb, PtsOk (ptsOf k) fa fb := by
  have mk : ∀ (pts : List (Int × Int)) (fa fb : Int), (∀ p, p < 16 → 0 ≤ (pts.getD p (0, 0)).1 ∧ (pts.getD p (0, 0)).1 ≤ 3 ∧ 0 ≤ (pts.getD p (0, 0)).2 ∧ (pts.getD p (0, 0)).2 ≤ 3) →
      (∀ x : Nat, x < 4 → ∀ y : Nat, y < 4 → ∃ p, p < 16 ∧ pts.getD p (0, 0) = ((x : Int), (y : Int))) →
      (∀ q, q < 16 → ∀ p, p < q → fa * (pts.getD p (0, 0)).1 + fb * (pts.getD p (0, 0)).2 < fa * (pts.getD q (0, 0)).1 + fb * (pts.getD q (0, 0)).2) → PtsOk pts fa fb := fun pts fa fb h1 h2 h3 =>
    ⟨h1, fun x y g => by
      obtain ⟨p, hp, e⟩ := h2 x.toNat (by unfold Grid at g; omega) y.toNat (by unfold Grid at g; omega)
      refine ⟨p, hp, ?_⟩
      rw [e]
      unfold Grid at g
      congr 1 <;> omega, fun p q hpq hq => h3 q hq p hpq⟩
  have : k = 0 ∨ k = 1 ∨ k = 2 := by omega
  rcases this with rfl | rfl | rfl
  · exact ⟨3000, 5900, mk _ _ _ (by decide) (by decide) (by decide)⟩
  · exact ⟨5990, -2773, mk _ _ _ (by decide) (by decide) (by decide)⟩
  · exact ⟨2130, -5251, mk _ _ _ (by decide) (by decide) (by decide)⟩

noncomputable def rowV (v t0 t1 t2 : UInt64) (p : Int × Int) : V := .tup [.flt v, .tup [.flt t0, .flt t1, .flt t2], .int p.1, .int p.2]
structure RowOk (k b : Nat) (v t0 t1 t2 : UInt64) (p : Int × Int) : Prop where
  tell : ∃ i, callB .int [.flt (Float64.add (Float64.mul v 0x40e3880000000000) 0x412e848100000000)] = some (.int i) ∧ runF noΦ flawtells [.int k, .int p.1, .int p.2, .int b] = some (.int (i - 1000000))
  light : ∃ l0 l1 l2, runF noΦ fyiqtorgb [.flt t0, .flt t1, .flt t2] = some (.tup [.flt l0, .flt l1, .flt l2]) ∧ callB .int [.flt (Float64.add (Float64.mul 0x4010000000000000 l0) 0x3fe0000000000000)] = some (.int p.1) ∧
    callB .int [.flt (Float64.add (Float64.mul 0x4010000000000000 l1) 0x3fe0000000000000)] = some (.int p.2) ∧ callB .int [.flt (Float64.add (Float64.mul 0x4010000000000000 l2) 0x3fe0000000000000)] = some (.int b)
theorem isInt_eq {o : Option V} {j : Int} (h : isInt o j = true) : o = some (.int j) := by
  unfold isInt at h
  split at h
  · rw [eq_of_beq h]
  · cases h
theorem rowOk_is {k b : Nat} {p : Int × Int} {r : V} (h : rowOk k b p r = true) : ∃ v t0 t1 t2, r = rowV v t0 t1 t2 p ∧ RowOk k b v t0 t1 t2 p := by
  unfold rowOk at h
  split at h
  case h_2 => cases h
  rename_i v t0 t1 t2 x y
  simp only [Bool.and_eq_true, beq_iff_eq] at h
  obtain ⟨⟨⟨hx, hy⟩, h1⟩, h2⟩ := h
  subst hx hy
  refine ⟨v, t0, t1, t2, rfl, ?_, ?_⟩
  · split at h1
    case h_2 => cases h1
    rename_i i hi
    exact ⟨i, hi, isInt_eq h1⟩
  · split at h2
    case h_2 => cases h2
    rename_i l0 l1 l2 hl
    simp only [Bool.and_eq_true] at h2
    exact ⟨l0, l1, l2, hl, isInt_eq h2.1.1, isInt_eq h2.1.2, isInt_eq h2.2⟩

structure ColsOk (k b : Nat) : Prop where
  run : runF leafΦ flawcolours [.int k, .int b] = some (.lst (cols k b))
  len : (cols k b).length = 16
  row : ∀ i, i < 16 → ∃ v t0 t1 t2, (cols k b)[i]? = some (rowV v t0 t1 t2 ((ptsOf k).getD i (0, 0))) ∧ RowOk k b v t0 t1 t2 ((ptsOf k).getD i (0, 0))
theorem pts_len (k : Nat) : (ptsOf k).length = 16 := by
  unfold ptsOf
  split <;> rfl
theorem cols_ok (k b : Nat) (hk : k < 3) (hb : b < 4) : ColsOk k b := by
  have h := all_ok k b hk hb
  unfold allOk at h
  rw [Bool.and_eq_true] at h
  have hl : (cols k b).length = 16 := eq_of_beq h.1
  refine ⟨?_, hl, fun i hi => ?_⟩
  · unfold cols at hl ⊢
    split
    · rename_i l hr; rw [hr]
    · rename_i hne
      split at hl
      · rename_i l hr
        exact absurd hr (hne l)
      · cases hl
  · have hm : ((cols k b)[i]'(by omega), (ptsOf k)[i]'(by rw [pts_len]; exact hi)) ∈ (cols k b).zip (ptsOf k) := by
      refine List.mem_iff_getElem.mpr ⟨i, by simp [hl, pts_len]; exact hi, by simp⟩
    have h2 := List.all_eq_true.mp h.2 _ hm
    obtain ⟨v, t0, t1, t2, e, ok⟩ := rowOk_is h2
    have ep : (ptsOf k).getD i (0, 0) = (ptsOf k)[i]'(by rw [pts_len]; exact hi) := by simp [pts_len, hi]
    rw [ep]
    dsimp only at e ok
    refine ⟨v, t0, t1, t2, ?_, ok⟩
    rw [← e]
    simp [hl, hi]
end Mine
namespace Mine
open PySem

theorem ev_bin {Φ : Nat → List V → Option V} {op : Operator} {l r : Ex} {p : Pos} {σ : Sg} {a b c : V} (h1 : evE Φ l σ = some a) (h2 : evE Φ r σ = some b) (h3 : binV op a b = some c) : evE Φ (.bin op l r p) σ = some c := by
  simp only [evE, h1, h2, Option.bind_some, h3]
theorem ev_idx {Φ : Nat → List V → Option V} {l r : Ex} {p : Pos} {σ : Sg} {a b c : V} (h1 : evE Φ l σ = some a) (h2 : evE Φ r σ = some b) (h3 : idxV a b = some c) : evE Φ (.idx l r p) σ = some c := by
  simp only [evE, h1, h2, Option.bind_some, h3]
theorem ev_call {Φ : Nat → List V → Option V} {f : Nat} {x : Str} {a : Exs} {pf p : Pos} {σ : Sg} {vs : List V} {c : V} (h1 : evL Φ a σ = some vs) (h2 : Φ f vs = some c) : evE Φ (.call f x a pf p) σ = some c := by
  simp only [evE, h1, Option.bind_some, h2]
theorem ev_bcall {Φ : Nat → List V → Option V} {f : BF} {a : Exs} {pf p : Pos} {σ : Sg} {vs : List V} {c : V} (h1 : evL Φ a σ = some vs) (h2 : callB f vs = some c) : evE Φ (.bcall f a pf p) σ = some c := by
  simp only [evE, h1, Option.bind_some, h2]
theorem evT_call {Φ : Nat → List V → Option V} {f : Nat} {x : Str} {a : Exs} {pf p : Pos} {σ : Sg} {c : Bool} (h : evE Φ (.call f x a pf p) σ = some (.boo c)) : evT Φ (.call f x a pf p) σ = some c := by
  simp only [evE] at h
  simp only [evT, h, Option.bind_some, truthV]
theorem evT_cmp {Φ : Nat → List V → Option V} {op : CmpOp} {l r : Ex} {p : Pos} {σ : Sg} {a b : V} {c : Bool} (h1 : evE Φ l σ = some a) (h2 : evE Φ r σ = some b) (h3 : cmpV op a b = some c) : evT Φ (.cmp op l r p) σ = some c := by
  simp only [evT, h1, h2, Option.bind_some, h3]
theorem ev_cmp {Φ : Nat → List V → Option V} {op : CmpOp} {l r : Ex} {p : Pos} {σ : Sg} {a b : V} {c : Bool} (h1 : evE Φ l σ = some a) (h2 : evE Φ r σ = some b) (h3 : cmpV op a b = some c) : evE Φ (.cmp op l r p) σ = some (.boo c) := by
  simp only [evE, h1, h2, Option.bind_some, h3, Option.map_some]
theorem evL_cons {Φ : Nat → List V → Option V} {e : Ex} {r : Exs} {σ : Sg} {v : V} {vs : List V} (h1 : evE Φ e σ = some v) (h2 : evL Φ r σ = some vs) : evL Φ (.cons e r) σ = some (v :: vs) := by
  simp only [evL, h1, h2, Option.bind_some, Option.map_some]
theorem ex_aug {Φ : Nat → List V → Option V} {i : Nat} {e : Ex} {pt p : Pos} {T T' : S} {a v : Int} (h1 : (T.vs[i]?).join = some (.int a)) (h : evE Φ e T.vs = some (.int v)) (h2 : T.put i (.int (a + v)) = some T') : exS Φ (.aug i .Add e pt p) T = some (.next T') := by
  simp only [exS, h1, h, Option.bind_some, h2, Option.map_some]

theorem st4 (k b : Nat) (C : ColsOk k b) (s0 s1 s2 s5 s6 s7 s8 s9 s10 s11 s12 s13 s14 s15 s16 s17 s18 s19 s20 s21 s22 s23 s24 s25 : Option V) :
    exS fullΦ (stN flawCode 4) ⟨[s0, s1, s2, some (.int k), some (.int b), s5, s6, s7, s8, s9, s10, s11, s12, s13, s14, s15, s16, s17, s18, s19, s20, s21, s22, s23, s24, s25], none⟩ =
      some (.next ⟨[s0, s1, s2, some (.int k), some (.int b), some (.lst (cols k b)), s6, s7, s8, s9, s10, s11, s12, s13, s14, s15, s16, s17, s18, s19, s20, s21, s22, s23, s24, s25], none⟩) :=
  ex_assign (v := .lst (cols k b)) C.run rfl

theorem st5_loop (k b : Nat) (s0 s2 s5 s9 s10 s11 s12 s13 s14 s15 s16 s17 s18 s19 s20 s21 s22 s23 s24 s25 : Option V) : ∀ (rows : List V) (s1 s6 s7 s8 : Option V), (∀ r ∈ rows, ∃ v t0 t1 t2 p, r = rowV v t0 t1 t2 p ∧ RowOk k b v t0 t1 t2 p) →
    ∃ q1 q6 q7 q8, forF (fun x s => (s.putT (forT (stN flawCode 5)) x).bind fun s => exSs fullΦ (forB (stN flawCode 5)) s) rows ⟨[s0, s1, s2, some (.int k), some (.int b), s5, s6, s7, s8, s9, s10, s11, s12, s13, s14, s15, s16, s17, s18, s19, s20, s21, s22, s23, s24, s25], none⟩ =
      some (.next ⟨[s0, q1, s2, some (.int k), some (.int b), s5, q6, q7, q8, s9, s10, s11, s12, s13, s14, s15, s16, s17, s18, s19, s20, s21, s22, s23, s24, s25], none⟩)
  | [], s1, s6, s7, s8, _ => ⟨s1, s6, s7, s8, rfl⟩
  | r :: rows, s1, s6, s7, s8, h => by
    obtain ⟨v, t0, t1, t2, p, rfl, ok⟩ := h r List.mem_cons_self
    obtain ⟨i, h1, h2⟩ := ok.tell
    obtain ⟨q1, q6, q7, q8, e⟩ := st5_loop k b s0 s2 s5 s9 s10 s11 s12 s13 s14 s15 s16 s17 s18 s19 s20 s21 s22 s23 s24 s25 rows (some (.int p.1)) (some (.flt v)) (some (.tup [.flt t0, .flt t1, .flt t2])) (some (.int p.2)) fun r hr => h r (List.mem_cons_of_mem _ hr)
    refine ⟨q1, q6, q7, q8, ?_⟩
    rw [forF]
    have e1 : (S.putT ⟨[s0, s1, s2, some (.int k), some (.int b), s5, s6, s7, s8, s9, s10, s11, s12, s13, s14, s15, s16, s17, s18, s19, s20, s21, s22, s23, s24, s25], none⟩ (forT (stN flawCode 5)) (rowV v t0 t1 t2 p)) =
      some ⟨[s0, some (.int p.1), s2, some (.int k), some (.int b), s5, some (.flt v), some (.tup [.flt t0, .flt t1, .flt t2]), some (.int p.2), s9, s10, s11, s12, s13, s14, s15, s16, s17, s18, s19, s20, s21, s22, s23, s24, s25], none⟩ := rfl
    rw [e1, Option.bind_some]
    have e2 : exSs fullΦ (forB (stN flawCode 5)) ⟨[s0, some (.int p.1), s2, some (.int k), some (.int b), s5, some (.flt v), some (.tup [.flt t0, .flt t1, .flt t2]), some (.int p.2), s9, s10, s11, s12, s13, s14, s15, s16, s17, s18, s19, s20, s21, s22, s23, s24, s25], none⟩ =
        some (.next ⟨[s0, some (.int p.1), s2, some (.int k), some (.int b), s5, some (.flt v), some (.tup [.flt t0, .flt t1, .flt t2]), some (.int p.2), s9, s10, s11, s12, s13, s14, s15, s16, s17, s18, s19, s20, s21, s22, s23, s24, s25], none⟩) := by
      refine ex_next (ex_ite (c := false) ?_ rfl) rfl
      show (((callB .int [.flt (Float64.add (Float64.mul v 0x40e3880000000000) 0x412e848100000000)]).bind fun a => binV .Sub a (.int 1000000)).bind fun a => (fullΦ 5 [.int k, .int p.1, .int p.2, .int b]).bind fun c => cmpV .NotEq a c) = _
      have e5 : fullΦ 5 [.int k, .int p.1, .int p.2, .int b] = some (.int (i - 1000000)) := h2
      rw [h1, e5]
      show cmpV .NotEq (.int (i - 1000000)) (.int (i - 1000000)) = some false
      simp [cmpV]
    rw [e2]
    exact e
theorem cols_rows {k b : Nat} (C : ColsOk k b) : ∀ r ∈ cols k b, ∃ v t0 t1 t2 p, r = rowV v t0 t1 t2 p ∧ RowOk k b v t0 t1 t2 p := fun r hr => by
  obtain ⟨i, hi, e⟩ := List.mem_iff_getElem.mp hr
  obtain ⟨v, t0, t1, t2, e2, ok⟩ := C.row i (by rw [← C.len]; exact hi)
  refine ⟨v, t0, t1, t2, _, ?_, ok⟩
  have : (cols k b)[i]? = some r := by rw [List.getElem?_eq_getElem hi, e]
  rw [this] at e2
  cases e2; rfl
theorem st5 (k b : Nat) (C : ColsOk k b) (s0 s1 s2 s6 s7 s8 s9 s10 s11 s12 s13 s14 s15 s16 s17 s18 s19 s20 s21 s22 s23 s24 s25 : Option V) :
    ∃ q1 q6 q7 q8, exS fullΦ (stN flawCode 5) ⟨[s0, s1, s2, some (.int k), some (.int b), some (.lst (cols k b)), s6, s7, s8, s9, s10, s11, s12, s13, s14, s15, s16, s17, s18, s19, s20, s21, s22, s23, s24, s25], none⟩ =
      some (.next ⟨[s0, q1, s2, some (.int k), some (.int b), some (.lst (cols k b)), q6, q7, q8, s9, s10, s11, s12, s13, s14, s15, s16, s17, s18, s19, s20, s21, s22, s23, s24, s25], none⟩) := by
  obtain ⟨q1, q6, q7, q8, e⟩ := st5_loop k b s0 s2 (some (.lst (cols k b))) s9 s10 s11 s12 s13 s14 s15 s16 s17 s18 s19 s20 s21 s22 s23 s24 s25 (cols k b) s1 s6 s7 s8 (cols_rows C)
  exact ⟨q1, q6, q7, q8, ex_for (v := .lst (cols k b)) rfl rfl (by rw [C.len]; omega) e⟩

theorem st6 (D : List Int) (hD : D.length ≤ 1000) (s0 s1 s3 s4 s5 s6 s7 s8 s9 s10 s11 s12 s13 s14 s15 s16 s17 s18 s19 s20 s21 s22 s23 s24 s25 : Option V) :
    exS fullΦ (stN flawCode 6) ⟨[s0, s1, some (.lst (D.map .int)), s3, s4, s5, s6, s7, s8, s9, s10, s11, s12, s13, s14, s15, s16, s17, s18, s19, s20, s21, s22, s23, s24, s25], none⟩ =
      some (.next ⟨[s0, s1, some (.lst (D.map .int)), s3, s4, s5, s6, s7, s8, some (.lst (D.map limV)), s10, s11, s12, s13, s14, s15, s16, s17, s18, s19, s20, s21, s22, s23, s24, s25], none⟩) :=
  ex_assign (v := .lst (D.map limV)) (limits_run D hD) rfl
theorem st7 (D : List Int) (hD : D.length ≤ 1000) (s0 s1 s2 s3 s4 s5 s6 s7 s8 s10 s11 s12 s13 s14 s15 s16 s17 s18 s19 s20 s21 s22 s23 s24 s25 : Option V) :
    exS fullΦ (stN flawCode 7) ⟨[s0, s1, s2, s3, s4, s5, s6, s7, s8, some (.lst (D.map limV)), s10, s11, s12, s13, s14, s15, s16, s17, s18, s19, s20, s21, s22, s23, s24, s25], none⟩ =
      some (.next ⟨[s0, s1, s2, s3, s4, s5, s6, s7, s8, some (.lst (D.map limV)), some (.int D.length), s11, s12, s13, s14, s15, s16, s17, s18, s19, s20, s21, s22, s23, s24, s25], none⟩) := by
  refine ex_assign (v := .int D.length) ?_ rfl
  show (if (D.map limV).length ≤ 100000 then some (V.int (D.map limV).length) else none) = _
  rw [List.length_map, if_pos (by omega)]

/-! the masks and the line -/
section
variable (k b : Nat) (C : ColsOk k b) (v : Int) (ln : Array UInt8) (acc : List V) (s0 s1 s2 s3 s4 s6 s7 s8 s9 s10 s18 s19 s20 s21 s22 s23 s24 s25 : Option V)
noncomputable def midS (m : Nat) (s17 : Option V) : S :=
  ⟨[s0, s1, s2, s3, s4, some (.lst (cols k b)), s6, s7, s8, s9, s10, none, some (.byt ln), some (.int (hpA v)), some (.int (hpB v)), some (.int (hpC v)), some (.int m), s17, s18, s19, s20, s21, s22, s23, s24, s25], some (11, acc)⟩
noncomputable def inFor : St := stN (forB (stN flawCode 10)) 1
include C
theorem place_step (hk : k < 3) (p : Nat) (hp : p < 16) (m : Nat) (s17 : Option V) :
    ((S.putT (midS k b v ln acc s0 s1 s2 s3 s4 s6 s7 s8 s9 s10 s18 s19 s20 s21 s22 s23 s24 s25 m s17) (forT inFor) (.int (0 + (p : Int)))).bind fun s => exSs fullΦ (forB inFor) s) =
      some (.next (midS k b v ln acc s0 s1 s2 s3 s4 s6 s7 s8 s9 s10 s18 s19 s20 s21 s22 s23 s24 s25 (if okAt (ptsOf k) (hpOf v) p then m + 2 ^ p else m) (some (.int (0 + (p : Int)))))) := by
  obtain ⟨fv, t0, t1, t2, e, _⟩ := C.row p hp
  obtain ⟨fa, fb, P⟩ := pts_ok k hk
  obtain ⟨g1, g2, g3, g4⟩ := P.grid p hp
  generalize hpt : (ptsOf k).getD p (0, 0) = pt at *
  have e1 : S.putT (midS k b v ln acc s0 s1 s2 s3 s4 s6 s7 s8 s9 s10 s18 s19 s20 s21 s22 s23 s24 s25 m s17) (forT inFor) (.int (0 + (p : Int))) =
      some (midS k b v ln acc s0 s1 s2 s3 s4 s6 s7 s8 s9 s10 s18 s19 s20 s21 s22 s23 s24 s25 m (some (.int (0 + (p : Int))))) := rfl
  rw [e1, Option.bind_some]
  have hi : idxV (.lst (cols k b)) (.int (0 + (p : Int))) = some (rowV fv t0 t1 t2 pt) := by
    simp only [idxV]
    rw [if_pos (by omega), show (0 + (p : Int)).toNat = p by omega, e]
  have h1 : (hpA v).natAbs < 2 ^ 60 := by have := hpA_b v; omega
  have h2 : (hpB v).natAbs < 2 ^ 60 := by have := hpB_b v; omega
  have m1 : binV .Mult (.int (hpA v)) (.int pt.1) = some (.int (hpA v * pt.1)) := by
    show (if (hpA v).natAbs < 2 ^ 60 ∧ pt.1.natAbs < 2 ^ 60 then some (V.int (hpA v * pt.1)) else none) = _
    rw [if_pos ⟨h1, by omega⟩]
  have m2 : binV .Mult (.int (hpB v)) (.int pt.2) = some (.int (hpB v * pt.2)) := by
    show (if (hpB v).natAbs < 2 ^ 60 ∧ pt.2.natAbs < 2 ^ 60 then some (V.int (hpB v * pt.2)) else none) = _
    rw [if_pos ⟨h2, by omega⟩]
  have hz : ∀ z : Int, fullΦ 4 [.int z] = some (.boo (decide (256 ≤ z))) := fun z => rfl
  have hok : decide (256 ≤ 256 + hpC v - hpA v * pt.1 - hpB v * pt.2) = okAt (ptsOf k) (hpOf v) p := by
    unfold okAt hpOf
    rw [hpt]
    exact decide_eq_decide.mpr ⟨fun h => by show hpA v * pt.1 + hpB v * pt.2 ≤ hpC v; omega, fun h => by have h' : hpA v * pt.1 + hpB v * pt.2 ≤ hpC v := h; omega⟩
  refine ex_next (o := some (.next (midS k b v ln acc s0 s1 s2 s3 s4 s6 s7 s8 s9 s10 s18 s19 s20 s21 s22 s23 s24 s25 (if okAt (ptsOf k) (hpOf v) p then m + 2 ^ p else m) (some (.int (0 + (p : Int))))))) (ex_ite (c := okAt (ptsOf k) (hpOf v) p) (evT_call (ev_call (evL_cons (ev_bin (ev_bin (ev_bin rfl rfl rfl) (ev_bin rfl (ev_idx (ev_idx rfl rfl hi) rfl rfl) m1) rfl) (ev_bin rfl (ev_idx (ev_idx rfl rfl hi) rfl rfl) m2) rfl) rfl) ((hz _).trans (by rw [hok])))) ?_) rfl
  cases okAt (ptsOf k) (hpOf v) p with
  | false => rfl
  | true =>
    refine ex_next (ex_aug rfl (v := (2 : Int) ^ p) ?_ rfl) ?_
    · refine ev_bin rfl rfl (a := .int 2) (b := .int (0 + (p : Int))) ?_
      simp only [binV]
      rw [if_pos (by refine ⟨by omega, by omega, by decide⟩), show (0 + (p : Int)).toNat = p by omega]
    · show some (Out.next _) = some (Out.next _)
      have : (m : Int) + 2 ^ p = ((m + 2 ^ p : Nat) : Int) := by rw [Int.natCast_add, Int.natCast_pow]; rfl
      rw [this]
      rfl
end
end Mine
namespace Mine
open PySem

section
variable (k b : Nat) (C : ColsOk k b) (hk : k < 3) (v : Int) (ln : Array UInt8) (acc : List V) (s0 s1 s2 s3 s4 s6 s7 s8 s9 s10 s18 s19 s20 s21 s22 s23 s24 s25 : Option V)
include C hk
theorem place_loop : ∀ (n p : Nat) (s17 : Option V), p + n = 16 → ∃ q, forF (fun x s => (s.putT (forT inFor) x).bind fun s => exSs fullΦ (forB inFor) s) ((List.range' p n).map fun (i : Nat) => V.int (0 + (i : Int)))
      (midS k b v ln acc s0 s1 s2 s3 s4 s6 s7 s8 s9 s10 s18 s19 s20 s21 s22 s23 s24 s25 (maskUpto (ptsOf k) (hpOf v) p) s17) =
    some (.next (midS k b v ln acc s0 s1 s2 s3 s4 s6 s7 s8 s9 s10 s18 s19 s20 s21 s22 s23 s24 s25 (maskP (ptsOf k) (hpOf v)) q))
  | 0, p, s17, h => by
    have : p = 16 := by omega
    subst this
    exact ⟨s17, rfl⟩
  | n + 1, p, s17, h => by
    obtain ⟨q, e⟩ := place_loop n (p + 1) (some (.int (0 + (p : Int)))) (by omega)
    refine ⟨q, ?_⟩
    rw [List.range'_succ, List.map_cons, forF, place_step k b C v ln acc s0 s1 s2 s3 s4 s6 s7 s8 s9 s10 s18 s19 s20 s21 s22 s23 s24 s25 hk p (by omega)]
    exact e

noncomputable def outS (ws : List (List UInt8)) (acc : List V) (s13 s14 s15 s16 s17 : Option V) : S :=
  ⟨[s0, s1, s2, s3, s4, some (.lst (cols k b)), s6, s7, s8, s9, s10, none, some (.byt (lineStart ++ flat ws).toArray), s13, s14, s15, s16, s17, s18, s19, s20, s21, s22, s23, s24, s25], some (11, acc)⟩

theorem mask_small (v : Int) : maskP (ptsOf k) (hpOf v) < 65536 := by
  have := mask_lt (ptsOf k) (hpOf v) 16
  simpa [maskP] using this

theorem limit_step (ws : List (List UInt8)) (hws : (flat ws).length ≤ 100) (hacc : acc.length ≤ 1000) (s13 s14 s15 s16 s17 : Option V) :
    ∃ q13 q14 q15 q16 q17, ((S.putT (outS k b s0 s1 s2 s3 s4 s6 s7 s8 s9 s10 s18 s19 s20 s21 s22 s23 s24 s25 ws acc s13 s14 s15 s16 s17) (forT (stN flawCode 10)) (limV v)).bind fun s => exSs fullΦ (forB (stN flawCode 10)) s) =
      some (.next (outS k b s0 s1 s2 s3 s4 s6 s7 s8 s9 s10 s18 s19 s20 s21 s22 s23 s24 s25 (ws ++ [hexW (maskP (ptsOf k) (hpOf v))]) (acc ++ [.int (maskP (ptsOf k) (hpOf v) : Nat)]) q13 q14 q15 q16 q17)) := by
  obtain ⟨q, e⟩ := place_loop k b C hk v (lineStart ++ flat ws).toArray acc s0 s1 s2 s3 s4 s6 s7 s8 s9 s10 s18 s19 s20 s21 s22 s23 s24 s25 16 0 s17 (by omega)
  have hm := mask_small k b C hk v
  have hx := i2a_run (maskP (ptsOf k) (hpOf v)) hm
  generalize maskP (ptsOf k) (hpOf v) = m at *
  have hh : (hexW m).length ≤ 4 := hex_len 4 m []
  refine ⟨some (.int (hpA v)), some (.int (hpB v)), some (.int (hpC v)), some (.int m), q, ?_⟩
  have e1 : S.putT (outS k b s0 s1 s2 s3 s4 s6 s7 s8 s9 s10 s18 s19 s20 s21 s22 s23 s24 s25 ws acc s13 s14 s15 s16 s17) (forT (stN flawCode 10)) (limV v) =
      some (outS k b s0 s1 s2 s3 s4 s6 s7 s8 s9 s10 s18 s19 s20 s21 s22 s23 s24 s25 ws acc (some (.int (hpA v))) (some (.int (hpB v))) (some (.int (hpC v))) s16 s17) := rfl
  rw [e1, Option.bind_some]
  refine ex_next (T' := outS k b s0 s1 s2 s3 s4 s6 s7 s8 s9 s10 s18 s19 s20 s21 s22 s23 s24 s25 ws acc (some (.int (hpA v))) (some (.int (hpB v))) (some (.int (hpC v))) (some (.int 0)) s17) rfl ?_
  refine ex_next (ex_for (v := .rng 0 16) (vs := (List.range' 0 16).map fun (i : Nat) => V.int (0 + (i : Int))) rfl (by rfl) (by simp) e) ?_
  refine ex_next (T' := outS k b s0 s1 s2 s3 s4 s6 s7 s8 s9 s10 s18 s19 s20 s21 s22 s23 s24 s25 ws (acc ++ [.int (m : Nat)]) (some (.int (hpA v))) (some (.int (hpB v))) (some (.int (hpC v))) (some (.int m)) q) ?_ ?_
  · have hc : (11 == 11 && decide (acc.length ≤ 1000)) = true := by simp [hacc]
    show (if (11 == 11 && decide (acc.length ≤ 1000)) = true then some (Out.next _) else none) = _
    rw [if_pos hc]
    rfl
  · refine ex_next (ex_assign (v := .byt (lineStart ++ flat (ws ++ [hexW m])).toArray) (ev_bin (a := .byt ((lineStart ++ flat ws).toArray ++ #[32])) (ev_bin rfl rfl ?_) (ev_call (evL_cons rfl rfl) hx) ?_) rfl) rfl
    · simp only [binV]
      rw [if_pos (by simp [lineStart]; omega)]
    · simp only [binV]
      rw [if_pos (by simp [lineStart]; omega)]
      congr 2
      apply Array.toList_inj.mp
      simp [flat]
end
theorem flat_app (ws : List (List UInt8)) (w : List UInt8) : (flat (ws ++ [w])).length = (flat ws).length + (w.length + 1) := by simp [flat]

section
variable (k b : Nat) (C : ColsOk k b) (hk : k < 3) (s0 s1 s2 s3 s4 s6 s7 s8 s9 s10 s18 s19 s20 s21 s22 s23 s24 s25 : Option V)
include C hk
theorem limit_loop : ∀ (D : List Int) (ws : List (List UInt8)) (acc : List V) (s13 s14 s15 s16 s17 : Option V), (flat ws).length + 5 * D.length ≤ 100 → acc.length + D.length ≤ 1000 →
    ∃ q13 q14 q15 q16 q17, forF (fun x s => (s.putT (forT (stN flawCode 10)) x).bind fun s => exSs fullΦ (forB (stN flawCode 10)) s) (D.map limV) (outS k b s0 s1 s2 s3 s4 s6 s7 s8 s9 s10 s18 s19 s20 s21 s22 s23 s24 s25 ws acc s13 s14 s15 s16 s17) =
      some (.next (outS k b s0 s1 s2 s3 s4 s6 s7 s8 s9 s10 s18 s19 s20 s21 s22 s23 s24 s25 (ws ++ (D.map fun v => hexW (maskP (ptsOf k) (hpOf v)))) (acc ++ D.map fun v => .int (maskP (ptsOf k) (hpOf v) : Nat)) q13 q14 q15 q16 q17))
  | [], ws, acc, s13, s14, s15, s16, s17, _, _ => ⟨s13, s14, s15, s16, s17, by simp [forF]⟩
  | v :: D, ws, acc, s13, s14, s15, s16, s17, h1, h2 => by
    rw [List.length_cons] at h1 h2
    obtain ⟨p13, p14, p15, p16, p17, e1⟩ := limit_step k b C hk v acc s0 s1 s2 s3 s4 s6 s7 s8 s9 s10 s18 s19 s20 s21 s22 s23 s24 s25 ws (by omega) (by omega) s13 s14 s15 s16 s17
    have hh : (hexW (maskP (ptsOf k) (hpOf v))).length ≤ 4 := hex_len 4 _ []
    obtain ⟨q13, q14, q15, q16, q17, e2⟩ := limit_loop D (ws ++ [hexW (maskP (ptsOf k) (hpOf v))]) (acc ++ [.int (maskP (ptsOf k) (hpOf v) : Nat)]) p13 p14 p15 p16 p17 (by rw [flat_app]; omega) (by simp; omega)
    refine ⟨q13, q14, q15, q16, q17, ?_⟩
    rw [List.map_cons, forF, e1]
    show forF _ (D.map limV) _ = _
    rw [e2]
    simp
end
end Mine
namespace Mine
open PySem

noncomputable def masksOf (k : Nat) (D : List Int) : List Nat := D.map fun v => maskP (ptsOf k) (hpOf v)
noncomputable def linePre (k : Nat) (D : List Int) : List UInt8 := lineStart ++ flat ((masksOf k D).map hexW)
section
variable (k b : Nat) (C : ColsOk k b) (hk : k < 3) (D : List Int) (hD : D.length ≤ 7)
variable (s0 s1 s2 s3 s4 s6 s7 s8 s10 s11 s12 s13 s14 s15 s16 s17 s18 s19 s20 s21 s22 s23 s24 s25 : Option V)
include C hk hD
/-- statements 8 to 11: the masks and the line -/
theorem st8 (r : Sts) (o : Option Out)
    (h : ∀ q13 q14 q15 q16 q17, exSs fullΦ r ⟨[s0, s1, s2, s3, s4, some (.lst (cols k b)), s6, s7, s8, some (.lst (D.map limV)), s10, some (.lst ((masksOf k D).map fun m => .int (m : Nat))), some (.byt (linePre k D).toArray), q13, q14, q15, q16, q17, s18, s19, s20, s21, s22, s23, s24, s25], none⟩ = o) :
    exSs fullΦ (.cons (stN flawCode 8) (.cons (stN flawCode 9) (.cons (stN flawCode 10) (.cons (stN flawCode 11) r)))) ⟨[s0, s1, s2, s3, s4, some (.lst (cols k b)), s6, s7, s8, some (.lst (D.map limV)), s10, s11, s12, s13, s14, s15, s16, s17, s18, s19, s20, s21, s22, s23, s24, s25], none⟩ = o := by
  obtain ⟨q13, q14, q15, q16, q17, e⟩ := limit_loop k b C hk s0 s1 s2 s3 s4 s6 s7 s8 (some (.lst (D.map limV))) s10 s18 s19 s20 s21 s22 s23 s24 s25 D [] [] s13 s14 s15 s16 s17 (by simp [flat]; omega) (by simp; omega)
  refine ex_next (T' := ⟨[s0, s1, s2, s3, s4, some (.lst (cols k b)), s6, s7, s8, some (.lst (D.map limV)), s10, none, s12, s13, s14, s15, s16, s17, s18, s19, s20, s21, s22, s23, s24, s25], some (11, [])⟩) rfl ?_
  refine ex_next (T' := outS k b s0 s1 s2 s3 s4 s6 s7 s8 (some (.lst (D.map limV))) s10 s18 s19 s20 s21 s22 s23 s24 s25 [] [] s13 s14 s15 s16 s17) rfl ?_
  refine ex_next (ex_for (v := .lst (D.map limV)) rfl rfl (by rw [List.length_map]; omega) e) ?_
  refine ex_next (T' := ⟨[s0, s1, s2, s3, s4, some (.lst (cols k b)), s6, s7, s8, some (.lst (D.map limV)), s10, some (.lst ((masksOf k D).map fun m => .int (m : Nat))), some (.byt (linePre k D).toArray), q13, q14, q15, q16, q17, s18, s19, s20, s21, s22, s23, s24, s25], none⟩) ?_ (h q13 q14 q15 q16 q17)
  have e1 : ([] : List V) ++ (D.map fun v => V.int (maskP (ptsOf k) (hpOf v) : Nat)) = (masksOf k D).map fun m => .int (m : Nat) := by simp [masksOf, Function.comp]
  have e2 : (lineStart ++ flat ([] ++ D.map fun v => hexW (maskP (ptsOf k) (hpOf v)))) = linePre k D := by
    simp [linePre, masksOf]
    rfl
  rw [← e1, ← e2]
  rfl
end

noncomputable def heard0 (k : Nat) (D : List Int) : List Nat := (masksOf k D).filter (· != 0)
noncomputable def heardN (k : Nat) (D : List Int) : List Nat := heard0 k D ++ List.replicate (D.length - (heard0 k D).length) 0
noncomputable def natsV (l : List Nat) : List V := l.map fun m => .int (m : Nat)
theorem natsV_q (l : List Nat) : ints? (natsV l) = some (l.map fun (m : Nat) => (m : Int)) := by
  have : natsV l = (l.map fun (m : Nat) => (m : Int)).map .int := by
    simp only [natsV, List.map_map]
    rfl
  rw [this, ints_map]
theorem heard0_len (k : Nat) (D : List Int) : (heard0 k D).length ≤ D.length := by
  have := List.length_filter_le (· != 0) (masksOf k D)
  simpa [heard0, masksOf] using this
theorem masks_small (k b : Nat) (C : ColsOk k b) (hk : k < 3) (D : List Int) : ∀ m ∈ masksOf k D, m < 65536 := fun m hm => by
  obtain ⟨v, _, rfl⟩ := List.mem_map.mp hm
  exact mask_small k b C hk v

section
variable (k b : Nat) (C : ColsOk k b) (hk : k < 3) (D : List Int) (hD : D.length ≤ 7)
variable (s0 s1 s2 s3 s4 s5 s6 s7 s8 s9 s10 s11 s12 s13 s14 s15 s16 s17 s18 s19 s20 s21 s22 s23 s24 s25 : Option V)
include C hk hD
theorem st12 : exS fullΦ (stN flawCode 12) ⟨[s0, s1, s2, s3, s4, s5, s6, s7, s8, s9, s10, s11, some (.byt (linePre k D).toArray), s13, s14, s15, s16, s17, s18, s19, s20, s21, s22, s23, s24, s25], none⟩ =
    some (.next ⟨[s0, s1, s2, s3, s4, s5, s6, s7, s8, s9, s10, s11, some (.byt (linePre k D).toArray), s13, s14, s15, s16, s17, some (.lst (natsV (heard0 k D))), s19, s20, s21, s22, s23, s24, s25], none⟩) := by
  have hp : fullΦ 3 [.byt (linePre k D ++ [41, 41]).toArray] = some (.tup ((heard0 k D).map fun x => .byt (hexW x).toArray)) := parse_line (masksOf k D) (by simp [masksOf]; omega)
  have hl : (linePre k D).length ≤ 200 := by
    have := flat_len ((masksOf k D).map hexW) fun w hw => by
      obtain ⟨x, _, rfl⟩ := List.mem_map.mp hw
      have := hex_len 4 x []
      exact this
    simp [masksOf] at this
    simp [linePre, lineStart, masksOf]
    omega
  refine ex_assign (ev_comp (v := .tup ((heard0 k D).map fun x => .byt (hexW x).toArray)) (vs := (heard0 k D).map fun x => .byt (hexW x).toArray) (out := natsV (heard0 k D)) (ev_call (evL_cons (ev_bin (c := .byt (linePre k D ++ [41, 41]).toArray) rfl rfl ?_) rfl) hp) rfl ?_ ?_) rfl
  · simp only [binV]
    rw [if_pos (by simp; omega)]
    simp
  · refine flatO_one (a := fun x => V.byt (hexW x).toArray) (g := fun m => V.int (m : Nat)) (heard0 k D) fun x hx => ?_
    have hx2 : x < 65536 := masks_small k b C hk D x (List.mem_filter.mp hx).1
    have hn := number_run x hx2
    show ((some [V.byt (hexW x).toArray]).bind fun vs => fullΦ 9 vs).map ([·]) = _
    have : fullΦ 9 [V.byt (hexW x).toArray] = some (.int x) := hn
    rw [Option.bind_some, this]
    rfl
  · have := heard0_len k D
    simp only [natsV, List.length_map]
    omega
end
end Mine
namespace Mine
open PySem

theorem flatO_bind {f : V → Option (List V)} {α : Type} {a : α → V} {g : α → List V} : ∀ (l : List α), (∀ x ∈ l, f (a x) = some (g x)) → flatO f (l.map a) = some (l.flatMap g)
  | [], _ => rfl
  | x :: l, h => by
    rw [List.map_cons, flatO, h x List.mem_cons_self, Option.bind_some, flatO_bind l fun y hy => h y (List.mem_cons_of_mem _ hy)]
    rfl
theorem evG_cons {Φ : Nat → List V → Option V} {t : Tg} {it : Ex} {tests : Exs} {rest : Gens} {f : Sg → Option V} {τ : Sg} {v : V} {vs out : List V} (h1 : evE Φ it τ = some v) (h2 : itemsV v = some vs) (h3 : vs.length ≤ 1000)
    (h4 : flatO (fun x => (bindT τ t x).bind fun τ => (evTs Φ tests τ).bind fun ok => if ok then evG Φ rest f τ else some []) vs = some out) : evG Φ (.cons t it tests rest) f τ = some out := by
  simp only [evG, h1, h2, Option.bind_some, h3, if_true, h4]
theorem items_rng (a b : Nat) (ha : a ≤ 1000) (hb : b ≤ 1000) : itemsV (.rng (a : Int) (b : Int)) = some ((List.range (b - a)).map fun (i : Nat) => .int ((a + i : Nat) : Int)) := by
  simp only [itemsV]
  rw [if_pos (by omega), show ((b : Int) - (a : Int)).toNat = b - a by omega]
  congr 1
theorem range1 (n : Nat) (h : n ≤ 1000) : callB .range [.int (n : Int)] = some (.rng ((0 : Nat) : Int) (n : Int)) := by
  show (if ((n : Int)).natAbs ≤ 1000 then some (V.rng 0 n) else none) = _
  rw [if_pos (by omega)]; rfl
theorem range2 (a b : Nat) (ha : a ≤ 1000) (hb : b ≤ 1000) : callB .range [.int (a : Int), .int (b : Int)] = some (.rng (a : Int) (b : Int)) := by
  show (if ((a : Int)).natAbs ≤ 1000 ∧ ((b : Int)).natAbs ≤ 1000 then some (V.rng a b) else none) = _
  rw [if_pos (by omega)]
theorem and_nat (a b : Nat) : Builtin.bitAnd (a : Int) (b : Int) = ((a &&& b : Nat) : Int) := rfl
theorem nat_at (H : List Nat) (i : Nat) (hi : i < H.length) (h2 : H.length ≤ 1000) : idxV (.lst (natsV H)) (.int (i : Int)) = some (.int (H.getD i 0 : Nat)) := by
  simp only [idxV]
  rw [if_pos (by omega)]
  show (natsV H)[i]? = _
  simp [natsV, hi]

section
variable (s0 s1 s2 s3 s4 s5 s6 s7 s8 s9 s10 s11 s12 s13 s14 s15 s16 s17 s18 s19 s20 s21 s22 s23 s24 s25 : Option V)
theorem st13 (H : List Nat) (hl : H.length ≤ 1000) : exS fullΦ (stN flawCode 13) ⟨[s0, s1, s2, s3, s4, s5, s6, s7, s8, s9, s10, some (.lst (natsV H)), s12, s13, s14, s15, s16, s17, some (.lst (natsV (H.filter (· != 0)))), s19, s20, s21, s22, s23, s24, s25], none⟩ =
    some (.next ⟨[s0, s1, s2, s3, s4, s5, s6, s7, s8, s9, s10, some (.lst (natsV H)), s12, s13, s14, s15, s16, s17, some (.lst (natsV (H.filter (· != 0)))), s19, s20, s21, s22, s23, s24, s25], none⟩) := by
  have hf : ∀ l : List Nat, l.filter (· != 0) = l.flatMap fun m => if m != 0 then [m] else [] := by
    intro l
    induction l with
    | nil => rfl
    | cons m l ih => rw [List.filter_cons, List.flatMap_cons, ih]; split <;> rfl
  have hfl := List.length_filter_le (· != 0) H
  refine ex_ite (c := false) (evT_cmp rfl (ev_comp (v := .lst (natsV H)) (vs := natsV H) (out := natsV (H.filter (· != 0))) rfl rfl ?_ ?_) ?_) rfl
  · have hm : ∀ l : List Nat, natsV (l.flatMap fun m => if m != 0 then [m] else []) = l.flatMap fun m => if m != 0 then [V.int (m : Nat)] else [] := by
      intro l
      induction l with
      | nil => rfl
      | cons m l ih =>
        simp only [List.flatMap_cons, natsV, List.map_append] at ih ⊢
        rw [ih]
        congr 1
        split <;> rfl
    rw [hf, hm]
    refine flatO_bind (a := fun m => V.int (m : Nat)) H fun m _ => ?_
    show ((some (decide ((0 : Int) < (m : Int)))).bind fun c => if c then some true else some false).bind (fun ok => if ok then (some (V.int (m : Nat))).map ([·]) else some []) = _
    by_cases h0 : m = 0
    · subst h0; rfl
    · have h1 : (0 : Int) < (m : Int) := by omega
      have h2 : (m != 0) = true := bne_iff_ne.mpr h0
      simp only [h1, decide_true, Option.bind_some, if_true, h2]
      rfl
  · simp only [natsV, List.length_map]; omega
  · show (match ints? (natsV (H.filter (· != 0))), ints? (natsV (H.filter (· != 0))) with | some x, some y => some (!(x == y)) | _, _ => none) = _
    rw [natsV_q]
    simp
theorem st14 (H : List Nat) (n : Nat) (hn : H.length ≤ n) (h7 : n ≤ 7) : exS fullΦ (stN flawCode 14) ⟨[s0, s1, s2, s3, s4, s5, s6, s7, s8, s9, some (.int (n : Nat)), s11, s12, s13, s14, s15, s16, s17, some (.lst (natsV H)), s19, s20, s21, s22, s23, s24, s25], none⟩ =
    some (.next ⟨[s0, s1, s2, s3, s4, s5, s6, s7, s8, s9, some (.int (n : Nat)), s11, s12, s13, s14, s15, s16, s17, some (.lst (natsV (H ++ List.replicate (n - H.length) 0))), s19, s20, s21, s22, s23, s24, s25], none⟩) := by
  refine ex_assign (v := .lst (natsV (H ++ List.replicate (n - H.length) 0))) (ev_bin (b := .lst (natsV (List.replicate (n - H.length) 0))) rfl (ev_bin (a := .lst [.int 0]) (b := .int ((n : Int) - (H.length : Int))) rfl (ev_bin (b := .int (H.length : Nat)) rfl (ev_bcall (vs := [.lst (natsV H)]) rfl ?_) rfl) ?_) ?_) rfl
  · show (if (natsV H).length ≤ 100000 then some (V.int (natsV H).length) else none) = _
    rw [show (natsV H).length = H.length by simp [natsV], if_pos (by omega)]
  · simp only [binV]
    rw [if_pos (by simp; omega), show ((n : Int) - (H.length : Int)).toNat = n - H.length by omega]
    congr 2
    generalize n - H.length = j
    induction j with
    | zero => rfl
    | succ j ih => rw [List.replicate_succ, List.flatten_cons, ih]; rfl
  · simp only [binV]
    rw [if_pos (by simp [natsV]; omega)]
    simp [natsV]
end
end Mine
namespace Mine
open PySem

noncomputable def pairV (p : Nat × Nat) : V := .tup [.int (p.1 : Nat), .int (p.2 : Nat)]
theorem ev_tup {Φ : Nat → List V → Option V} {l : Exs} {k : Nat} {p : Pos} {σ : Sg} {vs : List V} (h : evL Φ l σ = some vs) (h2 : vs.length ≤ 1000) : evE Φ (.tup l k p) σ = some (.tup vs) := by
  simp only [evE, h, Option.bind_some, h2, if_true]
theorem evG_nil {Φ : Nat → List V → Option V} {f : Sg → Option V} {τ : Sg} {v : V} (h : f τ = some v) : evG Φ .nil f τ = some [v] := by
  simp only [evG, h, Option.map_some]
theorem turn {Φ : Nat → List V → Option V} {σ τ : Sg} {t : Tg} {x : V} {tests : Exs} {rest : Gens} {f : Sg → Option V} {out : List V} (h1 : bindT σ t x = some τ) (h2 : evTs Φ tests τ = some true) (h3 : evG Φ rest f τ = some out) :
    ((bindT σ t x).bind fun τ => (evTs Φ tests τ).bind fun ok => if ok then evG Φ rest f τ else some []) = some out := by
  simp only [h1, h2, Option.bind_some, if_true, h3]
noncomputable def cElt : St → Ex
  | .assignC _ (.comp e _ _ _ _ _ _ _ _) _ _ => e
  | _ => .cint 0 ⟨0, 0, 0, 0⟩
section
variable (s0 s1 s2 s3 s4 s5 s6 s7 s8 s9 s10 s11 s12 s13 s14 s15 s16 s17 s18 s19 s20 s21 s22 s23 s24 s25 : Option V)
theorem st15 (H : List Nat) (h7 : H.length ≤ 7) : exS fullΦ (stN flawCode 15) ⟨[s0, s1, s2, s3, s4, s5, s6, s7, s8, s9, some (.int (H.length : Nat)), s11, s12, s13, s14, s15, s16, s17, some (.lst (natsV H)), s19, s20, s21, s22, s23, s24, s25], none⟩ =
    some (.next ⟨[s0, s1, s2, s3, s4, s5, s6, s7, s8, s9, some (.int (H.length : Nat)), s11, s12, s13, s14, s15, s16, s17, some (.lst (natsV H)), some (.lst ((pairsN H).map pairV)), s20, s21, s22, s23, s24, s25], none⟩) := by
  refine ex_assignC (v := .lst ((pairsN H).map pairV)) (ev_comp (v := .rng ((0 : Nat) : Int) (H.length : Nat)) (vs := (List.range (H.length - 0)).map fun (i : Nat) => .int ((0 + i : Nat) : Int)) (ev_bcall (evL_cons rfl rfl) (range1 _ (by omega))) (items_rng _ _ (by omega) (by omega)) ?_ ?_) rfl
  · unfold pairsN
    rw [List.map_flatMap]
    refine flatO_bind (a := fun (i : Nat) => V.int ((0 + i : Nat) : Int)) (g := fun k => ((List.range k).map fun j => (k, H.getD j 0 &&& H.getD k 0)).map pairV) (List.range H.length) fun k hk => ?_
    have hk' := List.mem_range.mp hk
    rw [Nat.zero_add]
    refine evG_cons (Φ := fullΦ) (v := .rng ((0 : Nat) : Int) (k : Nat)) (vs := (List.range (k - 0)).map fun (i : Nat) => .int ((0 + i : Nat) : Int)) (ev_bcall (evL_cons rfl rfl) (range1 _ (by omega))) (items_rng _ _ (by omega) (by omega)) (by simp; omega) ?_
    rw [List.map_map]
    refine flatO_one (a := fun (i : Nat) => V.int ((0 + i : Nat) : Int)) (g := fun j => pairV (k, H.getD j 0 &&& H.getD k 0)) (List.range k) fun j hj => ?_
    have hj' := List.mem_range.mp hj
    rw [Nat.zero_add]
    have i1 := nat_at H j (by omega) (by omega)
    have i2 := nat_at H k hk' (by omega)
    generalize natsV H = L at *
    refine turn (τ := [none, some (.int (k : Nat)), some (.int (j : Nat)), some (.lst L)]) rfl rfl (evG_nil ?_)
    refine ev_tup (vs := [.int (k : Nat), .int ((H.getD j 0 &&& H.getD k 0 : Nat) : Int)]) ?_ (by simp)
    refine evL_cons rfl (evL_cons ?_ rfl)
    refine ev_bin (a := .int (H.getD j 0 : Nat)) (b := .int (H.getD k 0 : Nat)) ?_ ?_ rfl
    · exact ev_idx rfl rfl i1
    · exact ev_idx rfl rfl i2
  · refine ⟨?_, by simp; omega⟩
    have : ∀ n, n ≤ 7 → ((List.range n).flatMap fun k => (List.range k).map fun j => (k, H.getD j 0 &&& H.getD k 0)).length ≤ 1000 := fun n hn => by
      rw [List.length_flatMap]
      simp only [List.length_map, List.length_range]
      have : n = 0 ∨ n = 1 ∨ n = 2 ∨ n = 3 ∨ n = 4 ∨ n = 5 ∨ n = 6 ∨ n = 7 := by omega
      rcases this with rfl | rfl | rfl | rfl | rfl | rfl | rfl | rfl <;> decide
    rw [List.length_map]
    exact this _ h7
end
end Mine
namespace Mine
open PySem

theorem pairs_lt {H : List Nat} {p : Nat × Nat} (h : p ∈ pairsN H) : p.1 < H.length := by
  obtain ⟨k, v⟩ := p
  obtain ⟨j, _, hk, _⟩ := pairs_mem.mp h
  exact hk
theorem threes_lt {H : List Nat} {p : Nat × Nat} (h : p ∈ threesN H) : p.1 < H.length := by
  obtain ⟨m, v⟩ := p
  obtain ⟨j, k, _, _, hm, _⟩ := threes_mem.mp h
  exact hm
theorem flat_bound {α β : Type} (n : Nat) (f : α → List β) : ∀ (l : List α), (∀ x ∈ l, (f x).length ≤ n) → (l.flatMap f).length ≤ l.length * n
  | [], _ => by simp
  | x :: l, h => by
    have ih := flat_bound n f l fun y hy => h y (List.mem_cons_of_mem _ hy)
    have h1 := h x List.mem_cons_self
    rw [List.flatMap_cons, List.length_append, List.length_cons, Nat.add_mul]
    omega
theorem nexts_len (n k : Nat) : (nexts n k).length = n - (k + 1) := by simp [nexts]
theorem pairs_len {H : List Nat} (h7 : H.length ≤ 7) : (pairsN H).length ≤ 21 := by
  have : ∀ n, n ≤ 7 → ((List.range n).flatMap fun k => (List.range k).map fun j => (k, H.getD j 0 &&& H.getD k 0)).length ≤ 21 := fun n hn => by
    rw [List.length_flatMap]
    simp only [List.length_map, List.length_range]
    have : n = 0 ∨ n = 1 ∨ n = 2 ∨ n = 3 ∨ n = 4 ∨ n = 5 ∨ n = 6 ∨ n = 7 := by omega
    rcases this with rfl | rfl | rfl | rfl | rfl | rfl | rfl | rfl <;> decide
  exact this _ h7
theorem threes_len {H : List Nat} (h7 : H.length ≤ 7) : (threesN H).length ≤ 105 := by
  have := flat_bound 5 (fun p : Nat × Nat => (nexts H.length p.1).map fun m => (m, p.2 &&& H.getD m 0)) (pairsN H) fun p hp => by
    obtain ⟨k, v⟩ := p
    obtain ⟨j, hj, _, _⟩ := pairs_mem.mp hp
    rw [List.length_map, nexts_len]
    dsimp only
    omega
  have h2 := pairs_len h7
  unfold threesN
  omega
theorem fours_len {H : List Nat} (h7 : H.length ≤ 7) : (foursN H).length ≤ 420 := by
  have := flat_bound 4 (fun t : Nat × Nat => (nexts H.length t.1).map fun q => t.2 &&& H.getD q 0) (threesN H) fun p hp => by
    obtain ⟨m, v⟩ := p
    obtain ⟨j, k, hj, hk, _, _⟩ := threes_mem.mp hp
    rw [List.length_map, nexts_len]
    dsimp only
    omega
  have h2 := threes_len h7
  unfold foursN
  omega

section
variable (s0 s1 s2 s3 s4 s5 s6 s7 s8 s9 s10 s11 s12 s13 s14 s15 s16 s17 s18 s19 s20 s21 s22 s23 s24 s25 : Option V)
theorem st16 (H : List Nat) (h7 : H.length ≤ 7) : exS fullΦ (stN flawCode 16) ⟨[s0, s1, s2, s3, s4, s5, s6, s7, s8, s9, some (.int (H.length : Nat)), s11, s12, s13, s14, s15, s16, s17, some (.lst (natsV H)), some (.lst ((pairsN H).map pairV)), s20, s21, s22, s23, s24, s25], none⟩ =
    some (.next ⟨[s0, s1, s2, s3, s4, s5, s6, s7, s8, s9, some (.int (H.length : Nat)), s11, s12, s13, s14, s15, s16, s17, some (.lst (natsV H)), some (.lst ((pairsN H).map pairV)), some (.lst ((threesN H).map pairV)), s21, s22, s23, s24, s25], none⟩) := by
  refine ex_assignC (v := .lst ((threesN H).map pairV)) (ev_comp (v := .lst ((pairsN H).map pairV)) (vs := (pairsN H).map pairV) rfl rfl ?_ ?_) rfl
  · unfold threesN
    rw [List.map_flatMap]
    refine flatO_bind (a := pairV) (g := fun p => ((nexts H.length p.1).map fun m => (m, p.2 &&& H.getD m 0)).map pairV) (pairsN H) fun p hp => ?_
    have hk := pairs_lt hp
    obtain ⟨k, bth⟩ := p
    dsimp only at hk ⊢
    refine turn (τ := [none, some (.int (k : Nat)), some (.int (bth : Nat)), none, some (.int (H.length : Nat)), some (.lst (natsV H))]) rfl rfl ?_
    refine evG_cons (v := .rng ((k + 1 : Nat) : Int) (H.length : Nat)) (vs := (List.range (H.length - (k + 1))).map fun (i : Nat) => .int ((k + 1 + i : Nat) : Int)) (ev_bcall (evL_cons (v := .int ((k + 1 : Nat) : Int)) (ev_bin rfl rfl rfl) (evL_cons rfl rfl)) (range2 _ _ (by omega) (by omega))) (items_rng _ _ (by omega) (by omega)) (by simp; omega) ?_
    unfold nexts
    rw [List.map_map, List.map_map]
    refine flatO_one (a := fun (i : Nat) => V.int ((k + 1 + i : Nat) : Int)) (g := fun i => pairV (k + 1 + i, bth &&& H.getD (k + 1 + i) 0)) (List.range (H.length - (k + 1))) fun i hi => ?_
    have hi' := List.mem_range.mp hi
    have i1 := nat_at H (k + 1 + i) (by omega) (by omega)
    generalize k + 1 + i = m at *
    generalize natsV H = L at *
    refine turn (τ := [none, some (.int (k : Nat)), some (.int (bth : Nat)), some (.int (m : Nat)), some (.int (H.length : Nat)), some (.lst L)]) rfl rfl (evG_nil ?_)
    refine ev_tup (vs := [.int (m : Nat), .int ((bth &&& H.getD m 0 : Nat) : Int)]) ?_ (by simp)
    refine evL_cons rfl (evL_cons ?_ rfl)
    refine ev_bin (a := .int (bth : Nat)) (b := .int (H.getD m 0 : Nat)) rfl ?_ rfl
    exact ev_idx rfl rfl i1
  · have h1 := pairs_len h7
    have h2 := threes_len h7
    rw [List.length_map, List.length_map]; omega
theorem st17 (H : List Nat) (h7 : H.length ≤ 7) : exS fullΦ (stN flawCode 17) ⟨[s0, s1, s2, s3, s4, s5, s6, s7, s8, s9, some (.int (H.length : Nat)), s11, s12, s13, s14, s15, s16, s17, some (.lst (natsV H)), s19, some (.lst ((threesN H).map pairV)), s21, s22, s23, s24, s25], none⟩ =
    some (.next ⟨[s0, s1, s2, s3, s4, s5, s6, s7, s8, s9, some (.int (H.length : Nat)), s11, s12, s13, s14, s15, s16, s17, some (.lst (natsV H)), s19, some (.lst ((threesN H).map pairV)), some (.lst (natsV (foursN H))), s22, s23, s24, s25], none⟩) := by
  refine ex_assignC (v := .lst (natsV (foursN H))) (ev_comp (v := .lst ((threesN H).map pairV)) (vs := (threesN H).map pairV) rfl rfl ?_ ?_) rfl
  · unfold foursN natsV
    rw [List.map_flatMap]
    refine flatO_bind (a := pairV) (g := fun t => ((nexts H.length t.1).map fun q => t.2 &&& H.getD q 0).map fun m => V.int (m : Nat)) (threesN H) fun p hp => ?_
    have hk := threes_lt hp
    obtain ⟨k, bth⟩ := p
    dsimp only at hk ⊢
    refine turn (τ := [none, some (.int (k : Nat)), some (.int (bth : Nat)), none, some (.int (H.length : Nat)), some (.lst (natsV H))]) rfl rfl ?_
    refine evG_cons (v := .rng ((k + 1 : Nat) : Int) (H.length : Nat)) (vs := (List.range (H.length - (k + 1))).map fun (i : Nat) => .int ((k + 1 + i : Nat) : Int)) (ev_bcall (evL_cons (v := .int ((k + 1 : Nat) : Int)) (ev_bin rfl rfl rfl) (evL_cons rfl rfl)) (range2 _ _ (by omega) (by omega))) (items_rng _ _ (by omega) (by omega)) (by simp; omega) ?_
    unfold nexts
    rw [List.map_map, List.map_map]
    refine flatO_one (a := fun (i : Nat) => V.int ((k + 1 + i : Nat) : Int)) (g := fun i => V.int ((bth &&& H.getD (k + 1 + i) 0 : Nat) : Int)) (List.range (H.length - (k + 1))) fun i hi => ?_
    have hi' := List.mem_range.mp hi
    have i1 := nat_at H (k + 1 + i) (by omega) (by omega)
    generalize k + 1 + i = m at *
    generalize natsV H = L at *
    refine turn (τ := [none, some (.int (k : Nat)), some (.int (bth : Nat)), some (.int (m : Nat)), some (.int (H.length : Nat)), some (.lst L)]) rfl rfl (evG_nil ?_)
    refine ev_bin (a := .int (bth : Nat)) (b := .int (H.getD m 0 : Nat)) rfl ?_ rfl
    exact ev_idx rfl rfl i1
  · have h2 := threes_len h7
    have hf := fours_len h7
    simp only [natsV, List.length_map]; omega
end
end Mine
namespace Mine
open PySem

section
variable (s0 s1 s2 s3 s4 s5 s6 s7 s8 s9 s10 s11 s12 s13 s14 s15 s16 s17 s18 s19 s20 s21 s22 s23 s24 s25 : Option V)
theorem st18 (H : List Nat) (h0 : 0 < H.length) (h7 : H.length ≤ 1000) : exS fullΦ (stN flawCode 18) ⟨[s0, s1, s2, s3, s4, s5, s6, s7, s8, s9, s10, s11, s12, s13, s14, s15, s16, s17, some (.lst (natsV H)), s19, s20, s21, s22, s23, s24, s25], none⟩ =
    some (.next ⟨[s0, s1, s2, s3, s4, s5, s6, s7, s8, s9, s10, s11, s12, s13, s14, s15, s16, s17, some (.lst (natsV H)), s19, s20, s21, some (.int (H.getD 0 0 : Nat)), s23, s24, s25], none⟩) := by
  have i1 := nat_at H 0 h0 h7
  generalize natsV H = L at *
  exact ex_assign (ev_idx rfl rfl i1) rfl
theorem whole_loop : ∀ (H : List Nat) (x : Nat) (s16 : Option V), ∃ q16, forF (fun x s => (s.putT (forT (stN flawCode 19)) x).bind fun s => exSs fullΦ (forB (stN flawCode 19)) s) (natsV H) ⟨[s0, s1, s2, s3, s4, s5, s6, s7, s8, s9, s10, s11, s12, s13, s14, s15, s16, s17, s18, s19, s20, s21, some (.int (x : Nat)), s23, s24, s25], none⟩ =
    some (.next ⟨[s0, s1, s2, s3, s4, s5, s6, s7, s8, s9, s10, s11, s12, s13, s14, s15, q16, s17, s18, s19, s20, s21, some (.int (H.foldl (· &&& ·) x : Nat)), s23, s24, s25], none⟩)
  | [], x, s16 => ⟨s16, rfl⟩
  | m :: H, x, s16 => by
    obtain ⟨q, e⟩ := whole_loop H (x &&& m) (some (.int (m : Nat)))
    refine ⟨q, ?_⟩
    show forF _ (.int (m : Nat) :: natsV H) _ = _
    rw [forF]
    have e1 : (S.putT ⟨[s0, s1, s2, s3, s4, s5, s6, s7, s8, s9, s10, s11, s12, s13, s14, s15, s16, s17, s18, s19, s20, s21, some (.int (x : Nat)), s23, s24, s25], none⟩ (forT (stN flawCode 19)) (.int (m : Nat))) =
      some ⟨[s0, s1, s2, s3, s4, s5, s6, s7, s8, s9, s10, s11, s12, s13, s14, s15, some (.int (m : Nat)), s17, s18, s19, s20, s21, some (.int (x : Nat)), s23, s24, s25], none⟩ := rfl
    rw [e1, Option.bind_some]
    have e2 : exSs fullΦ (forB (stN flawCode 19)) ⟨[s0, s1, s2, s3, s4, s5, s6, s7, s8, s9, s10, s11, s12, s13, s14, s15, some (.int (m : Nat)), s17, s18, s19, s20, s21, some (.int (x : Nat)), s23, s24, s25], none⟩ =
        some (.next ⟨[s0, s1, s2, s3, s4, s5, s6, s7, s8, s9, s10, s11, s12, s13, s14, s15, some (.int (m : Nat)), s17, s18, s19, s20, s21, some (.int ((x &&& m : Nat) : Int)), s23, s24, s25], none⟩) :=
      ex_next (ex_assign (v := .int ((x &&& m : Nat) : Int)) (ev_bin rfl rfl rfl) rfl) rfl
    rw [e2]
    exact e
theorem st19 (H : List Nat) (h7 : H.length ≤ 1000) : ∃ q16, exS fullΦ (stN flawCode 19) ⟨[s0, s1, s2, s3, s4, s5, s6, s7, s8, s9, s10, s11, s12, s13, s14, s15, s16, s17, some (.lst (natsV H)), s19, s20, s21, some (.int (H.getD 0 0 : Nat)), s23, s24, s25], none⟩ =
    some (.next ⟨[s0, s1, s2, s3, s4, s5, s6, s7, s8, s9, s10, s11, s12, s13, s14, s15, q16, s17, some (.lst (natsV H)), s19, s20, s21, some (.int (wholeN H : Nat)), s23, s24, s25], none⟩) := by
  obtain ⟨q, e⟩ := whole_loop s0 s1 s2 s3 s4 s5 s6 s7 s8 s9 s10 s11 s12 s13 s14 s15 s17 (some (.lst (natsV H))) s19 s20 s21 s23 s24 s25 H (H.getD 0 0) s16
  exact ⟨q, ex_for (v := .lst (natsV H)) rfl rfl (by simp [natsV]; omega) e⟩
end
end Mine
namespace Mine
open PySem

noncomputable def allAt (k : Nat) (D : List Int) (p : Nat) : Bool := D.all fun v => okAt (ptsOf k) (hpOf v) p
noncomputable def dueF (k : Nat) (D : List Int) : Nat → Int
  | 0 => -1
  | n + 1 => if allAt k D n then (n : Int) else dueF k D n
theorem evT_and {Φ : Nat → List V → Option V} {a b : Ex} {p : Pos} {σ : Sg} {c d : Bool} (h1 : evT Φ a σ = some c) (h2 : c = true → evT Φ b σ = some d) (h3 : c = false → d = false) : evT Φ (.and a b p) σ = some d := by
  simp only [evT, h1, Option.bind_some]
  cases c with
  | true => simpa using h2 rfl
  | false => rw [h3 rfl]; rfl
theorem evT_not {Φ : Nat → List V → Option V} {a : Ex} {p : Pos} {σ : Sg} {c : Bool} (h1 : evT Φ a σ = some c) : evT Φ (.not a p) σ = some (!c) := by
  simp only [evT, h1, Option.map_some]
theorem whil_step {t : S → Option Bool} {b : S → Option Out} {n : Nat} {T T' : S} {o : Option Out} (h1 : t T = some true) (h2 : b T = some (.next T')) (h3 : whileF t b n T' = o) : whileF t b (n + 1) T = o := by
  simp only [whileF, h1, Option.bind_some, if_true, h2, h3]
theorem whil_stop {t : S → Option Bool} {b : S → Option Out} {n : Nat} {T : S} (h1 : t T = some false) : whileF t b (n + 1) T = some (.next T) := by
  simp only [whileF, h1, Option.bind_some]
  rfl

noncomputable def whT : St → Ex
  | .whil t _ _ => t
  | _ => .cint 0 ⟨0, 0, 0, 0⟩
noncomputable def whB : St → Sts
  | .whil _ a _ => a
  | _ => .nil
section
variable (k b : Nat) (C : ColsOk k b) (hk : k < 3) (D : List Int) (hD : D.length ≤ 1000)
variable (s0 s1 s2 s3 s4 s6 s7 s8 s10 s11 s12 s13 s14 s15 s16 s17 s18 s19 s20 s21 s22 s24 s25 : Option V)
noncomputable def dueS (d : Int) : S := ⟨[s0, s1, s2, s3, s4, some (.lst (cols k b)), s6, s7, s8, some (.lst (D.map limV)), s10, s11, s12, s13, s14, s15, s16, s17, s18, s19, s20, s21, s22, some (.int d), s24, s25], none⟩
include C hk hD
theorem col_at (p : Nat) (hp : p < 16) : ∃ fv t0 t1 t2, idxV (.lst (cols k b)) (.int (p : Int)) = some (rowV fv t0 t1 t2 ((ptsOf k).getD p (0, 0))) ∧ RowOk k b fv t0 t1 t2 ((ptsOf k).getD p (0, 0)) := by
  obtain ⟨fv, t0, t1, t2, e, ok⟩ := C.row p hp
  refine ⟨fv, t0, t1, t2, ?_, ok⟩
  simp only [idxV]
  rw [if_pos (by omega)]
  exact e
theorem due_loop : ∀ (n fuel : Nat), n < fuel → n ≤ 16 → whileF (fun s => evT fullΦ (whT (stN flawCode 21)) s.vs) (fun s => exSs fullΦ (whB (stN flawCode 21)) s) fuel (dueS k b D s0 s1 s2 s3 s4 s6 s7 s8 s10 s11 s12 s13 s14 s15 s16 s17 s18 s19 s20 s21 s22 s24 s25 ((n : Int) - 1)) =
    some (.next (dueS k b D s0 s1 s2 s3 s4 s6 s7 s8 s10 s11 s12 s13 s14 s15 s16 s17 s18 s19 s20 s21 s22 s24 s25 (dueF k D n)))
  | 0, fuel + 1, _, _ => by
    refine whil_stop ?_
    exact evT_and (c := false) (evT_cmp rfl rfl (by rfl)) (fun h => by cases h) (fun _ => rfl)
  | n + 1, fuel + 1, hf, hn => by
    obtain ⟨fv, t0, t1, t2, e, _⟩ := col_at k b C hk D hD n (by omega)
    obtain ⟨fa, fb, P⟩ := pts_ok k hk
    obtain ⟨g1, g2, g3, g4⟩ := P.grid n (by omega)
    have hall : (D.all fun v => decide (hpA v * ((ptsOf k).getD n (0, 0)).1 + hpB v * ((ptsOf k).getD n (0, 0)).2 ≤ hpC v)) = allAt k D n := rfl
    have ha := allowed_run ((ptsOf k).getD n (0, 0)).1 ((ptsOf k).getD n (0, 0)).2 ⟨g1, g2⟩ ⟨g3, g4⟩ D hD
    rw [hall] at ha
    generalize (ptsOf k).getD n (0, 0) = pt at *
    have hn1 : (((n + 1 : Nat) : Int) - 1) = (n : Int) := by omega
    rw [hn1]
    have ht : evT fullΦ (whT (stN flawCode 21)) (dueS k b D s0 s1 s2 s3 s4 s6 s7 s8 s10 s11 s12 s13 s14 s15 s16 s17 s18 s19 s20 s21 s22 s24 s25 (n : Int)).vs = some (!allAt k D n) := by
      refine evT_and (c := true) (evT_cmp (a := .int (n : Int)) (b := .int 0) rfl rfl ?_) (fun _ => ?_) (fun h => by cases h)
      · have : decide ((0 : Int) ≤ (n : Int)) = true := decide_eq_true (by omega)
        show some (decide ((0 : Int) ≤ (n : Int))) = some true
        rw [this]
      · refine evT_not (evT_call (ev_call (vs := [.lst (D.map limV), .int pt.1, .int pt.2]) ?_ ha))
        exact evL_cons rfl (evL_cons (ev_idx (ev_idx rfl rfl e) rfl rfl) (evL_cons (ev_idx (ev_idx rfl rfl e) rfl rfl) rfl))
    cases hc : allAt k D n with
    | true =>
      rw [hc] at ht
      have : dueF k D (n + 1) = (n : Int) := by simp [dueF, hc]
      rw [this]
      exact whil_stop ht
    | false =>
      rw [hc] at ht
      have : dueF k D (n + 1) = dueF k D n := by simp [dueF, hc]
      rw [this]
      exact whil_step ht (T' := dueS k b D s0 s1 s2 s3 s4 s6 s7 s8 s10 s11 s12 s13 s14 s15 s16 s17 s18 s19 s20 s21 s22 s24 s25 ((n : Int) - 1)) (ex_next (ex_assign (v := .int ((n : Int) - 1)) (ev_bin rfl rfl rfl) rfl) rfl) (due_loop n fuel (by omega) (by omega))
theorem st20 (s23 : Option V) (r : Sts) (o : Option Out) (h : exSs fullΦ r (dueS k b D s0 s1 s2 s3 s4 s6 s7 s8 s10 s11 s12 s13 s14 s15 s16 s17 s18 s19 s20 s21 s22 s24 s25 (dueF k D 16)) = o) :
    exSs fullΦ (.cons (stN flawCode 20) (.cons (stN flawCode 21) r)) ⟨[s0, s1, s2, s3, s4, some (.lst (cols k b)), s6, s7, s8, some (.lst (D.map limV)), s10, s11, s12, s13, s14, s15, s16, s17, s18, s19, s20, s21, s22, s23, s24, s25], none⟩ = o := by
  refine ex_next (T' := dueS k b D s0 s1 s2 s3 s4 s6 s7 s8 s10 s11 s12 s13 s14 s15 s16 s17 s18 s19 s20 s21 s22 s24 s25 15) rfl ?_
  refine ex_next ?_ h
  have := due_loop k b C hk D hD s0 s1 s2 s3 s4 s6 s7 s8 s10 s11 s12 s13 s14 s15 s16 s17 s18 s19 s20 s21 s22 s24 s25 16 100 (by omega) (by omega)
  exact this
end
end Mine
namespace Mine
open PySem

/-! what was heard, as half planes -/
noncomputable def mk (k : Nat) (v : Int) : Nat := maskP (ptsOf k) (hpOf v)
noncomputable def ordD (k : Nat) (D : List Int) : List Int := D.filter (fun v => mk k v != 0) ++ D.filter (fun v => !(mk k v != 0))
theorem filter_two {α : Type} (p : α → Bool) : ∀ l : List α, (l.filter p).length + (l.filter fun x => !p x).length = l.length
  | [] => rfl
  | x :: l => by
    have ih := filter_two p l
    rw [List.filter_cons, List.filter_cons]
    cases p x <;> simp <;> omega
theorem heard_is (k : Nat) (D : List Int) : heardN k D = ((ordD k D).map hpOf).map (maskP (ptsOf k)) := by
  have e1 : heard0 k D = (D.filter fun v => mk k v != 0).map (mk k) := by
    unfold heard0 masksOf
    rw [List.filter_map]
    rfl
  have e2 : List.replicate (D.length - (heard0 k D).length) 0 = (D.filter fun v => !(mk k v != 0)).map (mk k) := by
    have hl := filter_two (fun v => mk k v != 0) D
    rw [e1, List.length_map, show D.length - (D.filter fun v => mk k v != 0).length = (D.filter fun v => !(mk k v != 0)).length by omega]
    apply Eq.symm
    rw [List.eq_replicate_iff]
    refine ⟨by simp, fun m hm => ?_⟩
    obtain ⟨v, hv, rfl⟩ := List.mem_map.mp hm
    have := (List.mem_filter.mp hv).2
    simpa using this
  unfold heardN ordD
  rw [e2, e1, List.map_append, List.map_append, List.map_map, List.map_map]
  rfl
theorem ord_len (k : Nat) (D : List Int) : (ordD k D).length = D.length := by
  have := filter_two (fun v => mk k v != 0) D
  unfold ordD
  rw [List.length_append]; exact this
theorem ord_all (k : Nat) (D : List Int) (q : Int → Bool) : (ordD k D).all q = D.all q := by
  have h : ∀ a b : Bool, (a = true ↔ b = true) → a = b := by decide
  refine h _ _ ?_
  unfold ordD
  simp only [List.all_eq_true, List.mem_append, List.mem_filter]
  constructor
  · intro h v hv
    cases hm : mk k v != 0 with
    | true => exact h v (.inl ⟨hv, hm⟩)
    | false => exact h v (.inr ⟨hv, by rw [hm]; rfl⟩)
  · intro h v hv
    rcases hv with hv | hv <;> exact h v hv.1
theorem whole_at (k : Nat) (D : List Int) (hD : 0 < D.length) (p : Nat) : (wholeN (heardN k D)).testBit p = (decide (p < 16) && allAt k D p) := by
  have hne : heardN k D ≠ [] := fun q => by
    have := congrArg List.length q
    rw [heard_is] at this
    simp [ord_len] at this
    rw [this] at hD
    simp at hD
  rw [whole_bit hne, heard_is, List.all_map, List.all_map]
  have e : ((fun m : Nat => m.testBit p) ∘ maskP (ptsOf k)) ∘ hpOf = fun v => (decide (p < 16) && okAt (ptsOf k) (hpOf v) p) := by
    funext v
    exact mask_bit (ptsOf k) (hpOf v) p 16
  rw [e, ord_all]
  unfold allAt
  by_cases hp : p < 16
  · simp [hp]
  · simp only [hp, decide_false, Bool.false_and]
    cases D with
    | nil => simp at hD
    | cons v D => simp
/-- the highest place -/
theorem due_spec (k : Nat) (D : List Int) : ∀ n, (dueF k D n = -1 ∧ ∀ p, p < n → allAt k D p = false) ∨ (∃ d : Nat, dueF k D n = d ∧ d < n ∧ allAt k D d = true ∧ ∀ p, d < p → p < n → allAt k D p = false)
  | 0 => .inl ⟨rfl, fun p h => absurd h (Nat.not_lt_zero _)⟩
  | n + 1 => by
    unfold dueF
    cases hc : allAt k D n with
    | true => exact .inr ⟨n, by simp, by omega, hc, fun p h1 h2 => by omega⟩
    | false =>
      rw [if_neg (by simp)]
      rcases due_spec k D n with ⟨h1, h2⟩ | ⟨d, h1, h2, h3, h4⟩
      · refine .inl ⟨h1, fun p hp => ?_⟩
        by_cases e : p = n
        · subst e; exact hc
        · exact h2 p (by omega)
      · refine .inr ⟨d, h1, by omega, h3, fun p hp1 hp2 => ?_⟩
        by_cases e : p = n
        · subst e; exact hc
        · exact h4 p hp1 (by omega)
end Mine
namespace Mine
open PySem

/-! the end -/
theorem hi_uniq {x r d : Nat} (h1 : 2 ^ r ≤ x) (h2 : x < 2 ^ (r + 1)) (h3 : 2 ^ d ≤ x) (h4 : x < 2 ^ (d + 1)) : r = d := by
  have a : r < d + 1 := (Nat.pow_lt_pow_iff_right (a := 2) (by omega)).mp (by omega)
  have b : d < r + 1 := (Nat.pow_lt_pow_iff_right (a := 2) (by omega)).mp (by omega)
  omega
theorem zero_in (l : List Nat) : cmpV .In (.int 0) (.lst (natsV l)) = some (decide (0 ∈ l)) := by
  show (match ints? (natsV l) with | some x => some (x.contains 0) | _ => none) = _
  rw [natsV_q]
  show some ((l.map fun (m : Nat) => (m : Int)).contains 0) = _
  congr 1
  induction l with
  | nil => rfl
  | cons m l ih =>
    rw [List.map_cons, List.contains_cons, ih]
    by_cases h : m = 0
    · subst h; simp
    · have h1 : ((0 : Int) == (m : Int)) = false := beq_eq_false_iff_ne.mpr (by omega)
      have h2 : ¬ (0 = m) := by omega
      rw [h1, Bool.false_or]
      simp [h2]
theorem least_spec (T : List (Nat × Nat)) (d : Nat) (h1 : ∀ t ∈ T, t.2.testBit d = true) (h2 : ∃ t ∈ T, t.2 < 2 ^ (d + 1)) :
    ∃ m : Nat, callB .min [.lst (natsV (T.map (·.2)))] = some (.int m) ∧ 2 ^ d ≤ m ∧ m < 2 ^ (d + 1) := by
  obtain ⟨t, ht, hlt⟩ := h2
  have ge : ∀ t ∈ T, 2 ^ d ≤ t.2 := fun t ht => Nat.ge_two_pow_of_testBit (h1 t ht)
  have e : callB .min [.lst (natsV (T.map (·.2)))] = ((some ((T.map (·.2)).map fun (m : Nat) => (m : Int))).bind fun x => if x.isEmpty then none else some (.int (minL x))) := by
    rw [← natsV_q]
    rfl
  have mem : ∀ a, a ∈ ((T.map (·.2)).map fun (m : Nat) => (m : Int)) ↔ ∃ t ∈ T, a = ((t.2 : Nat) : Int) := by
    intro a
    rw [List.map_map, List.mem_map]
    constructor
    · rintro ⟨t, ht, rfl⟩; exact ⟨t, ht, rfl⟩
    · rintro ⟨t, ht, rfl⟩; exact ⟨t, ht, rfl⟩
  generalize hL : ((T.map (·.2)).map fun (m : Nat) => (m : Int)) = L at *
  have hm : minL L ∈ L := by
    cases L with
    | nil => exact absurd ((mem _).mpr ⟨t, ht, rfl⟩) (by simp)
    | cons n L =>
      have e1 : minL (n :: L) = (n :: L).foldl min n := rfl
      rw [e1]
      rcases foldl_min_mem (n :: L) n with h | h
      · rw [h]; exact .head _
      · exact h
  have hle := (foldl_min_le L (L.headD 0)).2 _ ((mem _).mpr ⟨t, ht, rfl⟩)
  have hle' : minL L ≤ ((t.2 : Nat) : Int) := hle
  obtain ⟨u, hu, eu⟩ := (mem _).mp hm
  refine ⟨u.2, ?_, ge u hu, ?_⟩
  · rw [e, Option.bind_some, if_neg ?_, eu]
    intro hc
    cases L with
    | nil => exact absurd hm (by simp)
    | cons _ _ => cases hc
  · rw [eu] at hle'
    omega
theorem flatO_3 {f : V → Option (List V)} {a b c a' b' c' : V} (h1 : f a = some [a']) (h2 : f b = some [b']) (h3 : f c = some [c']) : flatO f [a, b, c] = some [a', b', c'] := by
  simp only [flatO, h1, h2, h3, Option.bind_some, Option.map_some, List.cons_append, List.nil_append]
theorem whole_lt {H : List Nat} (h : ∀ p, 16 ≤ p → (wholeN H).testBit p = false) : wholeN H < 65536 :=
  Nat.lt_pow_two_of_testBit (n := 16) _ fun p hp => h p hp

section
variable (s0 s1 s2 s3 s4 s5 s6 s7 s8 s9 s10 s11 s12 s13 s14 s15 s16 s17 s18 s19 s20 s21 s22 s23 s24 s25 : Option V)
theorem st22 (F : List Nat) (d : Int) (h : decide (0 ∈ F) = decide (d < 0)) : exS fullΦ (stN flawCode 22) ⟨[s0, s1, s2, s3, s4, s5, s6, s7, s8, s9, s10, s11, s12, s13, s14, s15, s16, s17, s18, s19, s20, some (.lst (natsV F)), s22, some (.int d), s24, s25], none⟩ =
    some (.next ⟨[s0, s1, s2, s3, s4, s5, s6, s7, s8, s9, s10, s11, s12, s13, s14, s15, s16, s17, s18, s19, s20, some (.lst (natsV F)), s22, some (.int d), s24, s25], none⟩) := by
  have hz := zero_in F
  generalize natsV F = L at *
  refine ex_ite (c := false) (evT_cmp (a := .boo (decide (0 ∈ F))) (b := .boo (decide (d < 0))) (ev_cmp (a := .int 0) (b := .lst L) rfl rfl hz) (ev_cmp (a := .int d) (b := .int 0) rfl rfl rfl) ?_) rfl
  rw [h]
  simp [cmpV]
theorem st23a (d : Int) (h : d < 0) (r : Sts) : exSs fullΦ (.cons (stN flawCode 23) r) ⟨[s0, s1, s2, s3, s4, s5, s6, s7, s8, s9, s10, s11, s12, s13, s14, s15, s16, s17, s18, s19, s20, s21, some (.int 0), some (.int d), s24, s25], none⟩ = some (.ret (.boo true)) := by
  refine ex_ret (ex_ite (c := true) (evT_cmp (a := .int d) (b := .int 0) rfl rfl ?_) rfl)
  show some (decide (d < 0)) = some true
  rw [decide_eq_true h]
theorem st23b (d : Int) (h : ¬ d < 0) : exS fullΦ (stN flawCode 23) ⟨[s0, s1, s2, s3, s4, s5, s6, s7, s8, s9, s10, s11, s12, s13, s14, s15, s16, s17, s18, s19, s20, s21, s22, some (.int d), s24, s25], none⟩ =
    some (.next ⟨[s0, s1, s2, s3, s4, s5, s6, s7, s8, s9, s10, s11, s12, s13, s14, s15, s16, s17, s18, s19, s20, s21, s22, some (.int d), s24, s25], none⟩) := by
  refine ex_ite (c := false) (evT_cmp (a := .int d) (b := .int 0) rfl rfl ?_) rfl
  show some (decide (d < 0)) = some false
  rw [decide_eq_false h]
theorem st24 (L : List V) (d : Nat) (v t0 t1 t2 : UInt64) (p : Int × Int) (h : idxV (.lst L) (.int (d : Int)) = some (rowV v t0 t1 t2 p)) :
    exS fullΦ (stN flawCode 24) ⟨[s0, s1, s2, s3, s4, some (.lst L), s6, s7, s8, s9, s10, s11, s12, s13, s14, s15, s16, s17, s18, s19, s20, s21, s22, some (.int (d : Int)), s24, s25], none⟩ =
    some (.next ⟨[s0, some (.int p.1), s2, s3, s4, some (.lst L), some (.flt v), some (.tup [.flt t0, .flt t1, .flt t2]), some (.int p.2), s9, s10, s11, s12, s13, s14, s15, s16, s17, s18, s19, s20, s21, s22, some (.int (d : Int)), s24, s25], none⟩) :=
  ex_assignT (v := rowV v t0 t1 t2 p) (ev_idx rfl rfl h) rfl
theorem st25 (k b : Nat) (v t0 t1 t2 : UInt64) (p : Int × Int) (ok : RowOk k b v t0 t1 t2 p) :
    exS fullΦ (stN flawCode 25) ⟨[s0, s1, s2, s3, s4, s5, s6, some (.tup [.flt t0, .flt t1, .flt t2]), s8, s9, s10, s11, s12, s13, s14, s15, s16, s17, s18, s19, s20, s21, s22, s23, s24, s25], none⟩ =
    some (.next ⟨[s0, s1, s2, s3, s4, s5, s6, some (.tup [.flt t0, .flt t1, .flt t2]), s8, s9, s10, s11, s12, s13, s14, s15, s16, s17, s18, s19, s20, s21, s22, s23, some (.lst [.int p.1, .int p.2, .int b]), s25], none⟩) := by
  obtain ⟨l0, l1, l2, h, h0, h1, h2⟩ := ok.light
  have hy : fullΦ 1 [.flt t0, .flt t1, .flt t2] = some (.tup [.flt l0, .flt l1, .flt l2]) := h
  have hx : ∀ i x, i < 3 → idxV (.tup [.flt t0, .flt t1, .flt t2]) (.int (i : Nat)) = ([V.flt t0, .flt t1, .flt t2])[i]? := fun i x hi => by
    simp only [idxV]
    rw [if_pos (by omega)]
    rfl
  have e1 : ∀ l n, callB .int [.flt (Float64.add (Float64.mul 0x4010000000000000 l) 0x3fe0000000000000)] = some (.int n) →
      ((bindT [none, none] (.name 1 ⟨122, 41, 122, 46⟩) (.flt l)).bind fun τ => (evTs fullΦ .nil τ).bind fun ok => if ok then evG fullΦ .nil (fun τ => evE fullΦ (cElt (stN flawCode 25)) τ) τ else some []) = some [.int n] := fun l n hn =>
    turn (τ := [none, some (.flt l)]) rfl rfl (evG_nil (ev_bcall (vs := [.flt (Float64.add (Float64.mul 0x4010000000000000 l) 0x3fe0000000000000)]) (evL_cons (ev_bin (ev_bin rfl rfl rfl) rfl rfl) rfl) hn))
  refine ex_assignC (v := .lst [.int p.1, .int p.2, .int b]) (ev_comp (v := .tup [.flt l0, .flt l1, .flt l2]) (vs := [.flt l0, .flt l1, .flt l2]) (ev_call (vs := [.flt t0, .flt t1, .flt t2]) ?_ hy) rfl (flatO_3 (e1 l0 _ h0) (e1 l1 _ h1) (e1 l2 _ h2)) (by simp)) rfl
  exact evL_cons (ev_idx rfl rfl rfl) (evL_cons (ev_idx rfl rfl rfl) (evL_cons (ev_idx rfl rfl rfl) rfl))
theorem st26 (x y b : Int) : exS fullΦ (stN flawCode 26) ⟨[s0, some (.int x), s2, s3, some (.int b), s5, s6, s7, some (.int y), s9, s10, s11, s12, s13, s14, s15, s16, s17, s18, s19, s20, s21, s22, s23, some (.lst [.int x, .int y, .int b]), s25], none⟩ =
    some (.next ⟨[s0, some (.int x), s2, s3, some (.int b), s5, s6, s7, some (.int y), s9, s10, s11, s12, s13, s14, s15, s16, s17, s18, s19, s20, s21, s22, s23, some (.lst [.int x, .int y, .int b]), s25], none⟩) := by
  refine ex_ite (c := false) (evT_cmp (a := .lst [.int x, .int y, .int b]) (b := .lst [.int x, .int y, .int b]) rfl rfl ?_) rfl
  have e : ints? [.int x, .int y, .int b] = some [x, y, b] := ints_map [x, y, b]
  show (match ints? [.int x, .int y, .int b], ints? [.int x, .int y, .int b] with | some x, some y => some (!(x == y)) | _, _ => none) = _
  rw [e]
  simp
theorem st27 (T : List (Nat × Nat)) (hT : T.length ≤ 1000) (m : Nat) (h : callB .min [.lst (natsV (T.map (·.2)))] = some (.int m)) :
    exS fullΦ (stN flawCode 27) ⟨[s0, s1, s2, s3, s4, s5, s6, s7, s8, s9, s10, s11, s12, s13, s14, s15, s16, s17, s18, s19, some (.lst (T.map pairV)), s21, s22, s23, s24, s25], none⟩ =
    some (.next ⟨[s0, s1, s2, s3, s4, s5, s6, s7, s8, s9, s10, s11, s12, s13, s14, s15, s16, s17, s18, s19, some (.lst (T.map pairV)), s21, s22, s23, s24, some (.int (m : Nat))], none⟩) := by
  refine ex_assign (ev_bcall (vs := [.lst (natsV (T.map (·.2)))]) (evL_cons (ev_comp (v := .lst (T.map pairV)) (vs := T.map pairV) rfl rfl ?_ ?_) rfl) h) rfl
  · unfold natsV
    rw [List.map_map]
    exact flatO_one (a := pairV) (g := fun t => V.int ((t.2 : Nat) : Int)) T fun t _ => rfl
  · simp only [natsV, List.length_map]; omega
theorem st28 (x m d : Nat) (h1 : 2 ^ d ≤ x) (h2 : x < 2 ^ (d + 1)) (h3 : x < 65536) (g1 : 2 ^ d ≤ m) (g2 : m < 2 ^ (d + 1)) (g3 : m < 65536) :
    exS fullΦ (stN flawCode 28) ⟨[s0, s1, s2, s3, s4, s5, s6, s7, s8, s9, s10, s11, s12, s13, s14, s15, s16, s17, s18, s19, s20, s21, some (.int (x : Nat)), some (.int (d : Nat)), s24, some (.int (m : Nat))], none⟩ = some (.ret (.boo true)) := by
  have pd : 0 < 2 ^ d := Nat.pow_pos (by omega)
  obtain ⟨r, er, r1, r2⟩ := high_run x (by omega) h3
  obtain ⟨q, eq, q1, q2⟩ := high_run m (by omega) g3
  have hr := hi_uniq r1 r2 h1 h2
  have hq := hi_uniq q1 q2 g1 g2
  rw [hr] at er
  rw [hq] at eq
  have i1 : fullΦ 2 [.int (x : Nat)] = some (.byt (hexW x).toArray) := i2a_run x h3
  have i2 : fullΦ 2 [.int (m : Nat)] = some (.byt (hexW m).toArray) := i2a_run m g3
  have j1 : fullΦ 10 [.byt (hexW x).toArray] = some (.int (d : Nat)) := er
  have j2 : fullΦ 10 [.byt (hexW m).toArray] = some (.int (d : Nat)) := eq
  have hc : cmpV .Eq (.int (d : Nat)) (.int (d : Nat)) = some true := by simp [cmpV]
  have a1 : ∀ {a b : Ex} {p : Pos} {σ : Sg}, evE fullΦ a σ = some (.boo true) → evE fullΦ b σ = some (.boo true) → evE fullΦ (.and a b p) σ = some (.boo true) := fun h1 h2 => by
    simp only [evE, h1, h2, Option.bind_some, truthV, if_true]
  have rt : ∀ {e : Ex} {p : Pos} {T : S}, evE fullΦ e T.vs = some (.boo true) → exS fullΦ (.ret e p) T = some (.ret (.boo true)) := fun h => by
    simp only [exS, h, Option.map_some]
  exact rt (a1 (ev_cmp (ev_call (evL_cons (ev_call (evL_cons rfl rfl) i1) rfl) j1) rfl hc) (ev_cmp (ev_call (evL_cons (ev_call (evL_cons rfl rfl) i2) rfl) j2) rfl hc))
end
end Mine
namespace Mine
open PySem

/-! the whole law -/
theorem heardN_len (k : Nat) (D : List Int) : (heardN k D).length = D.length := by
  rw [heard_is, List.length_map, List.length_map, ord_len]
theorem end_facts (k : Nat) (hk : k < 3) (D : List Int) (h5 : 5 ≤ D.length) :
    (dueF k D 16 = -1 ∧ wholeN (heardN k D) = 0 ∧ decide (0 ∈ foursN (heardN k D)) = true) ∨
    ∃ d : Nat, d < 16 ∧ dueF k D 16 = d ∧ decide (0 ∈ foursN (heardN k D)) = false ∧ 2 ^ d ≤ wholeN (heardN k D) ∧ wholeN (heardN k D) < 2 ^ (d + 1) ∧ wholeN (heardN k D) < 65536 ∧
      ∃ m : Nat, callB .min [.lst (natsV ((threesN (heardN k D)).map (·.2)))] = some (.int m) ∧ 2 ^ d ≤ m ∧ m < 2 ^ (d + 1) ∧ m < 65536 := by
  have hW := whole_at k D (by omega)
  have hl : ((ordD k D).map hpOf).length = D.length := by rw [List.length_map, ord_len]
  obtain ⟨fa, fb, P⟩ := pts_ok k hk
  have F := four_law P ((ordD k D).map hpOf) (by omega)
  rw [← heard_is] at F
  have hlt : ∀ p, 16 ≤ p → (wholeN (heardN k D)).testBit p = false := fun p hp => by
    rw [hW, decide_eq_false (by omega)]; rfl
  rcases due_spec k D 16 with ⟨h1, h2⟩ | ⟨d, h1, h2, h3, h4⟩
  · left
    have h0 : wholeN (heardN k D) = 0 := by
      apply Nat.eq_of_testBit_eq
      intro p
      rw [Nat.zero_testBit, hW]
      by_cases hp : p < 16
      · rw [h2 p hp, Bool.and_false]
      · rw [decide_eq_false hp]; rfl
    exact ⟨h1, h0, decide_eq_true (F.mpr h0)⟩
  · right
    have hd : (wholeN (heardN k D)).testBit d = true := by
      rw [hW, h3, decide_eq_true h2]; rfl
    have hup : ∀ p, d < p → (wholeN (heardN k D)).testBit p = false := fun p hp => by
      rw [hW]
      by_cases hq : p < 16
      · rw [h4 p hp hq, Bool.and_false]
      · rw [decide_eq_false hq]; rfl
    have hne : wholeN (heardN k D) ≠ 0 := fun q => by rw [q, Nat.zero_testBit] at hd; cases hd
    have T := three_law P ((ordD k D).map hpOf) (d := d) (by omega) (by rw [← heard_is]; exact hd) (by rw [← heard_is]; exact hup)
    rw [← heard_is] at T
    obtain ⟨m, hm, m1, m2⟩ := least_spec _ d T.1 T.2
    have hp : 2 ^ (d + 1) ≤ 65536 := Nat.pow_le_pow_right (n := 2) (by omega) (show d + 1 ≤ 16 by omega)
    exact ⟨d, h2, h1, decide_eq_false (fun q => hne (F.mp q)), Nat.ge_two_pow_of_testBit hd, Nat.lt_pow_two_of_testBit _ fun p hp => hup p (by omega), whole_lt hlt, m, hm, m1, m2, by omega⟩

section
variable (k b : Nat) (C : ColsOk k b) (hk : k < 3) (D : List Int) (hD5 : 5 ≤ D.length) (hD : D.length ≤ 7)
include C hk hD5 hD
/-- statements 20 to 28 -/
theorem tail20 (s0 s1 s2 s3 s6 s7 s8 s10 s11 s12 s13 s14 s15 s16 s17 s18 s19 s23 s24 s25 : Option V) :
    exSs fullΦ (.cons (stN flawCode 20) (.cons (stN flawCode 21) (.cons (stN flawCode 22) (.cons (stN flawCode 23) (.cons (stN flawCode 24) (.cons (stN flawCode 25) (.cons (stN flawCode 26) (.cons (stN flawCode 27) (.cons (stN flawCode 28) .nil)))))))))
      ⟨[s0, s1, s2, s3, some (.int b), some (.lst (cols k b)), s6, s7, s8, some (.lst (D.map limV)), s10, s11, s12, s13, s14, s15, s16, s17, s18, s19, some (.lst ((threesN (heardN k D)).map pairV)), some (.lst (natsV (foursN (heardN k D)))), some (.int (wholeN (heardN k D) : Nat)), s23, s24, s25], none⟩ = some (.ret (.boo true)) := by
  refine st20 k b C hk D (by omega) (h := ?_) ..
  unfold dueS
  have hT : (threesN (heardN k D)).length ≤ 1000 := by
    have := threes_len (H := heardN k D) (by rw [heardN_len]; omega)
    omega
  rcases end_facts k hk D hD5 with ⟨e1, e2, e3⟩ | ⟨d, hd, e1, e3, w1, w2, w3, m, em, m1, m2, m3⟩
  · rw [e1, e2]
    refine ex_next (st22 (h := by rw [e3]; rfl) ..) ?_
    exact st23a (h := by decide) ..
  · rw [e1]
    have hnd : ¬ ((d : Nat) : Int) < 0 := by omega
    refine ex_next (st22 (h := by rw [e3, decide_eq_false hnd]) ..) ?_
    refine ex_next (st23b (h := hnd) ..) ?_
    obtain ⟨v, t0, t1, t2, hv, ok⟩ := col_at k b C hk D (by omega) d hd
    refine ex_next (st24 (h := hv) ..) ?_
    refine ex_next (st25 (ok := ok) ..) ?_
    refine ex_next (st26 ..) ?_
    refine ex_next (st27 (hT := hT) (h := em) ..) ?_
    exact ex_ret (st28 (h1 := w1) (h2 := w2) (h3 := w3) (g1 := m1) (g2 := m2) (g3 := m3) ..)
/-- statements 12 to 28 -/
theorem tail12 (s0 s1 s2 s3 s6 s7 s8 s13 s14 s15 s16 s17 s18 s19 s20 s21 s22 s23 s24 s25 : Option V) :
    exSs fullΦ (.cons (stN flawCode 12) (.cons (stN flawCode 13) (.cons (stN flawCode 14) (.cons (stN flawCode 15) (.cons (stN flawCode 16) (.cons (stN flawCode 17) (.cons (stN flawCode 18) (.cons (stN flawCode 19) (.cons (stN flawCode 20) (.cons (stN flawCode 21) (.cons (stN flawCode 22) (.cons (stN flawCode 23) (.cons (stN flawCode 24) (.cons (stN flawCode 25) (.cons (stN flawCode 26) (.cons (stN flawCode 27) (.cons (stN flawCode 28) .nil)))))))))))))))))
      ⟨[s0, s1, s2, s3, some (.int b), some (.lst (cols k b)), s6, s7, s8, some (.lst (D.map limV)), some (.int (D.length : Nat)), some (.lst (natsV (masksOf k D))), some (.byt (linePre k D).toArray), s13, s14, s15, s16, s17, s18, s19, s20, s21, s22, s23, s24, s25], none⟩ = some (.ret (.boo true)) := by
  have hm : (masksOf k D).length ≤ 1000 := by simp only [masksOf, List.length_map]; omega
  have hh := heard0_len k D
  have hH := heardN_len k D
  have hH7 : (heardN k D).length ≤ 7 := by omega
  refine ex_next (st12 k b C hk D hD ..) ?_
  refine ex_next (st13 (H := masksOf k D) (hl := hm) ..) ?_
  refine ex_next (st14 (H := heard0 k D) (n := D.length) (hn := hh) (h7 := hD) ..) ?_
  show exSs fullΦ (.cons (stN flawCode 15) (.cons (stN flawCode 16) (.cons (stN flawCode 17) (.cons (stN flawCode 18) (.cons (stN flawCode 19) (.cons (stN flawCode 20) (.cons (stN flawCode 21) (.cons (stN flawCode 22) (.cons (stN flawCode 23) (.cons (stN flawCode 24) (.cons (stN flawCode 25) (.cons (stN flawCode 26) (.cons (stN flawCode 27) (.cons (stN flawCode 28) .nil)))))))))))))) ⟨[s0, s1, s2, s3, some (.int b), some (.lst (cols k b)), s6, s7, s8, some (.lst (D.map limV)), some (.int (D.length : Nat)), some (.lst (natsV (masksOf k D))), some (.byt (linePre k D).toArray), s13, s14, s15, s16, s17, some (.lst (natsV (heardN k D))), s19, s20, s21, s22, s23, s24, s25], none⟩ = some (.ret (.boo true))
  rw [← hH]
  refine ex_next (st15 (H := heardN k D) (h7 := hH7) ..) ?_
  refine ex_next (st16 (H := heardN k D) (h7 := hH7) ..) ?_
  refine ex_next (st17 (H := heardN k D) (h7 := hH7) ..) ?_
  refine ex_next (st18 (H := heardN k D) (h0 := by omega) (h7 := by omega) ..) ?_
  obtain ⟨q16, e⟩ := st19 s0 s1 s2 s3 (some (.int b)) (some (.lst (cols k b))) s6 s7 s8 (some (.lst (D.map limV))) (some (.int ((heardN k D).length : Nat))) (some (.lst (natsV (masksOf k D)))) (some (.byt (linePre k D).toArray)) s13 s14 s15 s16 s17 (some (.lst ((pairsN (heardN k D)).map pairV))) (some (.lst ((threesN (heardN k D)).map pairV))) (some (.lst (natsV (foursN (heardN k D))))) s23 s24 s25 (heardN k D) (by omega)
  refine ex_next e ?_
  exact tail20 k b C hk D hD5 hD ..
end
theorem lawTrue : ∀ l : List Int, l.length ≤ 63 → runLaw l = some (.boo true) := by
  intro l hl
  refine runF_of rfl ?_
  show exSs fullΦ (.cons (stN flawCode 0) (.cons (stN flawCode 1) (.cons (stN flawCode 2) (.cons (stN flawCode 3) (.cons (stN flawCode 4) (.cons (stN flawCode 5) (.cons (stN flawCode 6) (.cons (stN flawCode 7) (.cons (stN flawCode 8) (.cons (stN flawCode 9) (.cons (stN flawCode 10) (.cons (stN flawCode 11) (.cons (stN flawCode 12) (.cons (stN flawCode 13) (.cons (stN flawCode 14) (.cons (stN flawCode 15) (.cons (stN flawCode 16) (.cons (stN flawCode 17) (.cons (stN flawCode 18) (.cons (stN flawCode 19) (.cons (stN flawCode 20) (.cons (stN flawCode 21) (.cons (stN flawCode 22) (.cons (stN flawCode 23) (.cons (stN flawCode 24) (.cons (stN flawCode 25) (.cons (stN flawCode 26) (.cons (stN flawCode 27) (.cons (stN flawCode 28) .nil))))))))))))))))))))))))))))) ⟨[some (.lst (l.map .int)), none, none, none, none, none, none, none, none, none, none, none, none, none, none, none, none, none, none, none, none, none, none, none, none, none], none⟩ = _
  obtain ⟨n5, n7⟩ := drawn_len l
  refine ex_next (st0 l hl ..) ?_
  refine ex_next (st1 l ..) ?_
  refine ex_next (st2 (drawn l) ..) ?_
  refine ex_next (st3 (drawn l) ..) ?_
  generalize drawn l = D at *
  have b1 := fmod_b D.sum 3 (by decide)
  have b2 := fmod_b (D.sum.fdiv 3) 4 (by decide)
  obtain ⟨k, ek⟩ : ∃ k : Nat, D.sum.fmod 3 = (k : Int) := ⟨(D.sum.fmod 3).toNat, by omega⟩
  obtain ⟨b, eb⟩ : ∃ b : Nat, (D.sum.fdiv 3).fmod 4 = (b : Int) := ⟨((D.sum.fdiv 3).fmod 4).toNat, by omega⟩
  rw [ek] at b1
  rw [eb] at b2
  have hk : k < 3 := by omega
  have hb : b < 4 := by omega
  rw [ek, eb]
  have C := cols_ok k b hk hb
  refine ex_next (st4 k b C ..) ?_
  obtain ⟨q1, q6, q7, q8, e⟩ := st5 k b C (some (.lst (l.map .int))) none (some (.lst (D.map .int))) none none none none none none none none none none none none none none none none none none none none
  refine ex_next e ?_
  refine ex_next (st6 D (by omega) ..) ?_
  refine ex_next (st7 D (by omega) ..) ?_
  refine st8 k b C hk D n7 (h := fun q13 q14 q15 q16 q17 => ?_) ..
  exact tail12 k b C hk D n5 n7 ..
end Mine
namespace Mine
open PySem.Sre

/-! the regular expression's machine -/
noncomputable def pcode : Array Nat := #[14, 4, 0, 8, 4294967295, 24, 5, 0, 4294967295, 2, 1, 16, 70, 16, 76, 16, 65, 16, 71, 16, 83, 16, 32, 16, 40, 17, 0, 24, 6, 0, 4294967295, 20, 41, 1, 17, 1, 16, 41, 1]

theorem runFor_succ (n : Nat) (m : M) (h : m.outcome.isSome = false) : M.runFor (n + 1) m = M.runFor n m.step := by
  show (if m.outcome.isSome then m else M.runFor n m.step) = _
  rw [h]; rfl
theorem runFor_done (n : Nat) (m : M) (h : m.outcome.isSome = true) : M.runFor n m = m := by
  cases n with
  | zero => rfl
  | succ n => show (if m.outcome.isSome then m else M.runFor n m.step) = _; rw [h]; rfl
theorem runFor_add : ∀ (a b : Nat) (m : M), M.runFor (a + b) m = M.runFor b (M.runFor a m)
  | 0, b, m => by rw [Nat.zero_add]; rfl
  | a + 1, b, m => by
    cases h : m.outcome.isSome with
    | true => rw [runFor_done _ m h, runFor_done _ m h, runFor_done _ m h]
    | false => rw [Nat.add_right_comm, runFor_succ _ m h, runFor_succ _ m h, runFor_add a b]

/-- m comes to a state of P within k steps -/
noncomputable def Goes (k : Nat) (m : M) (P : M → Prop) : Prop := ∃ j, j ≤ k ∧ P (M.runFor j m)
theorem Goes.here {k : Nat} {m : M} {P : M → Prop} (h : P m) : Goes k m P := ⟨0, Nat.zero_le _, h⟩
theorem Goes.step {k : Nat} {m : M} {P : M → Prop} (h : m.outcome.isSome = false) (g : Goes k m.step P) : Goes (k + 1) m P := by
  obtain ⟨j, hj, hp⟩ := g
  exact ⟨j + 1, by omega, by rw [runFor_succ _ m h]; exact hp⟩
theorem Goes.bind {k l : Nat} {m : M} {P Q : M → Prop} (h : Goes k m P) (g : ∀ m', P m' → Goes l m' Q) : Goes (k + l) m Q := by
  obtain ⟨j, hj, hp⟩ := h
  obtain ⟨i, hi, hq⟩ := g _ hp
  exact ⟨j + i, by omega, by rw [runFor_add]; exact hq⟩
theorem Goes.le {k l : Nat} {m : M} {P : M → Prop} (h : Goes k m P) (hl : k ≤ l) : Goes l m P := let ⟨j, hj, hp⟩ := h; ⟨j, Nat.le_trans hj hl, hp⟩

noncomputable def kept0 : Kept := {}
/-- the frame that gives back, with p characters taken -/
noncomputable def fr0 (p : Nat) : Frame := { wait := .giveBack, pc := 5, pos := p, outermost := true, count := (p : Int), kept := kept0 }
/-- while the first run gives back -/
noncomputable def stA (text : Array Nat) (p pc pos handed : Nat) (answer : Option Bool) (seen : Seen) : M :=
  { code := pcode, text, lim := text.size, start := 0, pc, pos, handed, marks := #[none, none], frames := [fr0 p], weight := 1, answer, seen }

theorem stA_step_back {text : Array Nat} {p pc pos handed : Nat} {seen : Seen} : (stA text (p + 1) pc pos handed (some false) seen).step = stA text p 11 p p none seen := by
  have e : ((p + 1 : Nat) : Int) - 1 = (p : Int) := by omega
  have h1 : ¬ (((p + 1 : Nat) : Int) - 1 < ((0 : Nat) : Int)) := by omega
  have e0 : (stA text (p + 1) pc pos handed (some false) seen).step =
      M.resume { stA text (p + 1) 5 (p + 1) handed none seen with frames := [], weight := 0 } (fr0 (p + 1)) false := rfl
  rw [e0]
  have e1 : M.resume { stA text (p + 1) 5 (p + 1) handed none seen with frames := [], weight := 0 } (fr0 (p + 1)) false =
      if ((p + 1 : Nat) : Int) - 1 < ((0 : Nat) : Int) then M.say { stA text (p + 1) 5 (p + 1) handed none seen with frames := [], weight := 0 } false
      else M.afterRun { stA text (p + 1) 5 (p + 1 - 1) handed none seen with frames := [], weight := 0 } .giveBack (((p + 1 : Nat) : Int) - 1) kept0 := rfl
  rw [e1, if_neg h1, e]
  rfl

theorem lit_exec {text : Array Nat} {p pc pos handed c : Nat} {seen : Seen} (hp : pc < 39) (hw : pcode.getD pc 0 = 16) (hc : pcode.getD (pc + 1) 0 = c) :
    (stA text p pc pos handed none seen).step = if pos ≥ text.size then stA text p pc pos handed (some false) (seen.add 16) else
      if (text.getD pos 0 == c) = true then stA text p (pc + 2) (pos + 1) handed none (seen.add 16) else stA text p pc pos handed (some false) (seen.add 16) := by
  show (if pc < pcode.size then M.exec _ else _) = _
  rw [if_pos (show pc < pcode.size from hp)]
  unfold M.exec
  have hw0 : M.word (stA text p pc pos handed none seen) 0 = 16 := hw
  rw [hw0]
  have ho : ops[16]? = some Op.LITERAL := rfl
  rw [ho]
  dsimp only
  show (if pos ≥ text.size then _ else _) = _
  by_cases hpos : pos ≥ text.size
  · rw [if_pos hpos, if_pos hpos]; rfl
  · rw [if_neg hpos, if_neg hpos]
    have ha : accepts pcode pc (text.getD pos 0) (seen.add 16) = .ok (text.getD pos 0 == c, seen.add 16) := by
      unfold accepts
      rw [hw]
      show Except.ok (text.getD pos 0 == pcode.getD (pc + 1) 0, _) = _
      rw [hc]
    show (match accepts pcode pc (text.getD pos 0) (seen.add 16) with | .error why => _ | .ok (false, seen) => _ | .ok (true, seen) => _) = _
    rw [ha]
    have hi : itemWidth pcode pc = 2 := by unfold itemWidth; rw [hw]; rfl
    cases hq : (text.getD pos 0 == c) with
    | false => rfl
    | true =>
      show ({ stA text p pc pos handed none (seen.add 16) with seen := seen.add 16, pc := pc + itemWidth pcode pc, pos := pos + 1 } : M) = _
      rw [hi]; rfl

theorem fail_at {text : Array Nat} {q : Nat} {seen : Seen} (hS : text.getD (q + 4) 0 ≠ 83) : Goes 5 (stA text q 11 q q none seen) fun m => ∃ pc pos handed seen', m = stA text q pc pos handed (some false) seen' := by
  have lit : ∀ (pc pos c : Nat) (sn : Seen) (k : Nat), pc < 39 → pcode.getD pc 0 = 16 → pcode.getD (pc + 1) 0 = c →
      ((text.getD pos 0 == c) = true → Goes k (stA text q (pc + 2) (pos + 1) q none (sn.add 16)) fun m => ∃ pc pos handed seen', m = stA text q pc pos handed (some false) seen') →
      Goes (k + 1) (stA text q pc pos q none sn) fun m => ∃ pc pos handed seen', m = stA text q pc pos handed (some false) seen' := by
    intro pc pos c sn k h1 h2 h3 h4
    refine Goes.step rfl ?_
    rw [lit_exec h1 h2 h3]
    split
    · exact .here ⟨_, _, _, _, rfl⟩
    · split
      · rename_i hq; exact h4 hq
      · exact .here ⟨_, _, _, _, rfl⟩
  refine lit 11 q 70 seen 4 (by omega) rfl rfl fun _ => ?_
  refine lit 13 (q + 1) 76 _ 3 (by omega) rfl rfl fun _ => ?_
  refine lit 15 (q + 1 + 1) 65 _ 2 (by omega) rfl rfl fun _ => ?_
  refine lit 17 (q + 1 + 1 + 1) 71 _ 1 (by omega) rfl rfl fun _ => ?_
  refine lit 19 (q + 1 + 1 + 1 + 1) 83 _ 0 (by omega) rfl rfl fun h => ?_
  exact absurd (eq_of_beq h) hS

theorem back_to {text : Array Nat} {q0 : Nat} (hS : ∀ i, q0 < i → text.getD (i + 4) 0 ≠ 83) : ∀ (k : Nat) (seen : Seen), Goes (6 * k) (stA text (q0 + k) 11 (q0 + k) (q0 + k) none seen) fun m => ∃ seen', m = stA text q0 11 q0 q0 none seen'
  | 0, seen => .here ⟨seen, rfl⟩
  | k + 1, seen => by
    refine Goes.le (Goes.bind (fail_at (hS (q0 + (k + 1)) (by omega))) fun m' hm => ?_) (show 5 + (6 * k + 1) ≤ 6 * (k + 1) by omega)
    obtain ⟨pc, pos, handed, seen', rfl⟩ := hm
    refine Goes.step rfl ?_
    rw [show q0 + (k + 1) = (q0 + k) + 1 from rfl, stA_step_back]
    exact back_to hS k seen'

theorem run_all {code text : Array Nat} {i : Nat} {seen : Seen} : ∀ (n k p found : Nat), k ≤ n → (∀ j, j < k → accepts code i (text.getD (p + j) 0) seen = .ok (true, seen)) →
    (k < n → accepts code i (text.getD (p + k) 0) seen = .ok (false, seen)) → PySem.Sre.run code text i n p found seen = .ok (found + k, seen)
  | 0, k, p, found, hk, _, _ => by
    have : k = 0 := by omega
    subst this; rfl
  | n + 1, k, p, found, hk, ha, hb => by
    unfold PySem.Sre.run
    cases k with
    | zero =>
      have := hb (by omega)
      rw [Nat.add_zero] at this
      rw [this]; rfl
    | succ k =>
      have h0 := ha 0 (by omega)
      rw [Nat.add_zero] at h0
      rw [h0]
      show (if true = true then PySem.Sre.run code text i n (p + 1) (found + 1) seen else pure (found, seen)) = _
      rw [if_pos rfl, run_all n k (p + 1) (found + 1) (by omega) (fun j hj => by have := ha (j + 1) (by omega); rwa [show p + (j + 1) = p + 1 + j by omega] at this) (fun h => by have := hb (by omega); rwa [show p + (k + 1) = p + 1 + k by omega] at this)]
      rw [show found + 1 + k = found + (k + 1) by omega]

/-- what is told of the end -/
structure Matched (m : M) (a b : Nat) : Prop where
  out : ∃ o, m.outcome = some .matched ∧ o = ()
  marks : m.marks = #[some a, some b]
  lm : m.lastmark = 1
  li : m.lastindex = 1
  start : m.start = 0
  handed : m.handed = b + 1

structure TextOk (text : Array Nat) (k : Nat) : Prop where
  small : k ≤ 1000
  size : text.size = 20 + k
  pre : ∀ i, i < 7 → text.getD (11 + i) 0 = (#[70, 76, 65, 71, 83, 32, 40] : Array Nat).getD i 0
  noS : ∀ i, 11 < i → text.getD (i + 4) 0 ≠ 83
  noN : ∀ i, i < text.size → text.getD i 0 ≠ 10
  mid : ∀ j, j < k → text.getD (18 + j) 0 ≠ 41
  e1 : text.getD (18 + k) 0 = 41

theorem start_to {text : Array Nat} {k : Nat} (T : TextOk text k) : ∃ seen, (PySem.Sre.forMatch pcode text 1 0 text.size false false).step = stA text text.size 11 text.size text.size none seen := by
  have e0 : PySem.Sre.forMatch pcode text 1 0 text.size false false =
      { code := pcode, text, lim := text.size, start := 0, pc := 5, pos := 0, handed := 0, marks := Array.replicate 2 none, mustAdvance := false, wholeText := false, seen := ({} : Seen).add 14 } := by
    unfold PySem.Sre.forMatch
    have hh : PySem.Sre.header pcode = (8, 5) := rfl
    rw [hh]
    dsimp only
    rw [if_neg]
    · rfl
    · simp only [Bool.and_eq_true, decide_eq_true_eq, bne_iff_ne, ne_eq, not_and]
      intro _
      have := T.size
      omega
  rw [e0]
  have hr : PySem.Sre.run pcode text 9 text.size 0 0 ((({} : Seen).add 14).add 24 |>.add 2) = .ok (0 + text.size, ((({} : Seen).add 14).add 24).add 2) := by
    refine run_all _ _ _ _ (Nat.le_refl _) (fun j hj => ?_) (fun h => absurd h (Nat.lt_irrefl _))
    have ha : accepts pcode 9 (text.getD (0 + j) 0) ((({} : Seen).add 14).add 24 |>.add 2) = .ok (text.getD (0 + j) 0 != 10, ((({} : Seen).add 14).add 24).add 2) := rfl
    rw [ha, Nat.zero_add]
    have : (text.getD j 0 != 10) = true := bne_iff_ne.mpr (T.noN j hj)
    rw [this]
  refine ⟨((({} : Seen).add 14).add 24).add 2, ?_⟩
  have e1 : ({ code := pcode, text, lim := text.size, start := 0, pc := 5, pos := 0, handed := 0, marks := Array.replicate 2 none, mustAdvance := false, wholeText := false, seen := ({} : Seen).add 14 } : M).step =
      if ((0 : Nat) : Int) > (text.size : Int) - ((0 : Nat) : Int) then M.say { code := pcode, text, lim := text.size, start := 0, pc := 5, pos := 0, handed := 0, marks := Array.replicate 2 none, mustAdvance := false, wholeText := false, seen := (({} : Seen).add 14).add 24 } false else
      match PySem.Sre.run pcode text 9 (min 4294967295 ((text.size : Int) - ((0 : Nat) : Int)).toNat) 0 0 (((({} : Seen).add 14).add 24).add 2) with
      | .error why => M.stick { code := pcode, text, lim := text.size, start := 0, pc := 5, pos := 0, handed := 0, marks := Array.replicate 2 none, mustAdvance := false, wholeText := false, seen := (({} : Seen).add 14).add 24 } why
      | .ok (n, seen) => if n < 0 then M.say { code := pcode, text, lim := text.size, start := 0, pc := 5, pos := 0, handed := 0, marks := Array.replicate 2 none, mustAdvance := false, wholeText := false, seen } false else
        M.afterRun { code := pcode, text, lim := text.size, start := 0, pc := 5, pos := 0 + n, handed := 0, marks := Array.replicate 2 none, mustAdvance := false, wholeText := false, seen } .giveBack n kept0 := rfl
  rw [e1, if_neg (by omega), show min 4294967295 ((text.size : Int) - ((0 : Nat) : Int)).toNat = text.size by have := T.size; have := T.small; omega, hr]
  dsimp only
  rw [if_neg (by omega)]
  simp only [Nat.zero_add]
  rfl

/-- behind the place -/
noncomputable def stM (text : Array Nat) (pc pos handed : Nat) (answer : Option Bool) (seen : Seen) (marks : Array (Option Nat)) (lm li : Int) (frames : List Frame) (weight : Nat) : M :=
  { code := pcode, text, lim := text.size, start := 0, pc, pos, handed, marks, lastmark := lm, lastindex := li, frames, weight, answer, seen }
noncomputable def frB (k : Nat) : Frame := { wait := .giveBack, pc := 27, pos := 18 + k, outermost := true, count := (k : Int), kept := { lastmark := 0, lastindex := -1, whole := false, marks := #[] } }
theorem b1 {text : Array Nat} {s1 : Seen} : (stA text 11 25 18 11 none s1).step = stM text 27 18 11 none (s1.add 17) #[some 18, none] 0 (-1) [fr0 11] 1 := rfl
theorem b2 {text : Array Nat} {s1 : Seen} {n : Nat} {s2 : Seen} (h : ¬ ((0 : Nat) : Int) > (text.size : Int) - ((18 : Nat) : Int))
    (hr : PySem.Sre.run pcode text 31 (min 4294967295 ((text.size : Int) - ((18 : Nat) : Int)).toNat) 18 0 ((s1.add 24).add 20) = .ok (n, s2)) :
    (stM text 27 18 11 none s1 #[some 18, none] 0 (-1) [fr0 11] 1).step = stM text 34 (18 + n) (18 + n) none s2 #[some 18, none] 0 (-1) [frB n, fr0 11] 2 := by
  have e1 : (stM text 27 18 11 none s1 #[some 18, none] 0 (-1) [fr0 11] 1).step =
      if ((0 : Nat) : Int) > (text.size : Int) - ((18 : Nat) : Int) then M.say (stM text 27 18 11 none (s1.add 24) #[some 18, none] 0 (-1) [fr0 11] 1) false else
      match PySem.Sre.run pcode text 31 (min 4294967295 ((text.size : Int) - ((18 : Nat) : Int)).toNat) 18 0 ((s1.add 24).add 20) with
      | .error why => M.stick (stM text 27 18 11 none (s1.add 24) #[some 18, none] 0 (-1) [fr0 11] 1) why
      | .ok (n, seen) => if n < 0 then M.say (stM text 27 18 11 none seen #[some 18, none] 0 (-1) [fr0 11] 1) false else
        M.afterRun (stM text 27 (18 + n) 11 none seen #[some 18, none] 0 (-1) [fr0 11] 1) .giveBack n { lastmark := 0, lastindex := -1, whole := false, marks := #[] } := rfl
  rw [e1, if_neg h, hr]
  dsimp only
  rw [if_neg (Nat.not_lt_zero _)]
  rfl
theorem b3 {text : Array Nat} {s1 : Seen} {k : Nat} : (stM text 34 (18 + k) (18 + k) none s1 #[some 18, none] 0 (-1) [frB k, fr0 11] 2).step = stM text 36 (18 + k) (18 + k) none (s1.add 17) #[some 18, some (18 + k)] 1 1 [frB k, fr0 11] 2 := by
  have e : (stM text 34 (18 + k) (18 + k) none s1 #[some 18, none] 0 (-1) [frB k, fr0 11] 2).step = M.mark (stM text 34 (18 + k) (18 + k) none (s1.add 17) #[some 18, none] 0 (-1) [frB k, fr0 11] 2) 1 := rfl
  rw [e]
  rfl
theorem b4 {text : Array Nat} {s1 : Seen} {k : Nat} (h : ¬ 18 + k ≥ text.size) (h1 : text.getD (18 + k) 0 = 41) : (stM text 36 (18 + k) (18 + k) none s1 #[some 18, some (18 + k)] 1 1 [frB k, fr0 11] 2).step =
    stM text 38 (18 + k + 1) (18 + k) none (s1.add 16) #[some 18, some (18 + k)] 1 1 [frB k, fr0 11] 2 := by
  have e4 : (stM text 36 (18 + k) (18 + k) none s1 #[some 18, some (18 + k)] 1 1 [frB k, fr0 11] 2).step =
      if 18 + k ≥ text.size then M.say (stM text 36 (18 + k) (18 + k) none (s1.add 16) #[some 18, some (18 + k)] 1 1 [frB k, fr0 11] 2) false else
      match (Except.ok (text.getD (18 + k) 0 == 41, s1.add 16) : Except String (Bool × Seen)) with
      | .error why => M.stick (stM text 36 (18 + k) (18 + k) none (s1.add 16) #[some 18, some (18 + k)] 1 1 [frB k, fr0 11] 2) why
      | .ok (false, seen) => M.say (stM text 36 (18 + k) (18 + k) none seen #[some 18, some (18 + k)] 1 1 [frB k, fr0 11] 2) false
      | .ok (true, seen) => stM text 38 (18 + k + 1) (18 + k) none seen #[some 18, some (18 + k)] 1 1 [frB k, fr0 11] 2 := rfl
  rw [e4, if_neg h, h1]
  rfl
theorem b5 {text : Array Nat} {s1 : Seen} {p h : Nat} {mk : Array (Option Nat)} {fs : List Frame} : (stM text 38 p h none s1 mk 1 1 fs 2).step = stM text 38 p p (some true) (s1.add 1) mk 1 1 fs 2 := rfl
theorem b6 {text : Array Nat} {s1 : Seen} {p h k : Nat} {mk : Array (Option Nat)} : (stM text 38 p h (some true) s1 mk 1 1 [frB k, fr0 11] 2).step = stM text 27 (18 + k) h (some true) s1 mk 1 1 [fr0 11] 1 := rfl
theorem b7 {text : Array Nat} {s1 : Seen} {p h : Nat} {mk : Array (Option Nat)} : (stM text 27 p h (some true) s1 mk 1 1 [fr0 11] 1).step = stM text 5 11 h (some true) s1 mk 1 1 [] 0 := rfl

/-- at the place: the word, the group, the end -/
theorem there {text : Array Nat} {k : Nat} (T : TextOk text k) (seen : Seen) : Goes 20 (stA text 11 11 11 11 none seen) fun m => Matched m 18 (18 + k) := by
  have hsz := T.size
  have lit : ∀ (i pc : Nat) (sn : Seen) (l : Nat) (P : M → Prop), i < 7 → pc = 11 + 2 * i → pcode.getD pc 0 = 16 → pcode.getD (pc + 1) 0 = (#[70, 76, 65, 71, 83, 32, 40] : Array Nat).getD i 0 →
      (Goes l (stA text 11 (pc + 2) (11 + i + 1) 11 none (sn.add 16)) P) → Goes (l + 1) (stA text 11 pc (11 + i) 11 none sn) P := by
    intro i pc sn l P h0 hpc h2 h3 h4
    refine Goes.step rfl ?_
    rw [lit_exec (by omega) h2 h3, if_neg (by omega), T.pre i h0, if_pos (beq_self_eq_true _)]
    exact h4
  refine lit 0 11 seen 19 _ (by omega) rfl rfl rfl ?_
  refine lit 1 13 _ 18 _ (by omega) rfl rfl rfl ?_
  refine lit 2 15 _ 17 _ (by omega) rfl rfl rfl ?_
  refine lit 3 17 _ 16 _ (by omega) rfl rfl rfl ?_
  refine lit 4 19 _ 15 _ (by omega) rfl rfl rfl ?_
  refine lit 5 21 _ 14 _ (by omega) rfl rfl rfl ?_
  refine lit 6 23 _ 13 _ (by omega) rfl rfl rfl ?_
  generalize ((((((seen.add 16).add 16).add 16).add 16).add 16).add 16).add 16 = s1
  refine Goes.step rfl ?_
  rw [b1]
  generalize s1.add 17 = s2
  refine Goes.step rfl ?_
  have hr : PySem.Sre.run pcode text 31 (2 + k) 18 0 ((s2.add 24).add 20) = .ok (0 + k, (s2.add 24).add 20) := by
    have ha : ∀ c, accepts pcode 31 c ((s2.add 24).add 20) = .ok (c != 41, (s2.add 24).add 20) := fun _ => rfl
    refine run_all _ _ _ _ (by omega) (fun j hj => ?_) (fun h => ?_)
    · rw [ha, bne_iff_ne.mpr (T.mid j hj)]
    · rw [ha, T.e1]; rfl
  rw [b2 (n := k) (s2 := (s2.add 24).add 20) (by omega) (by rw [show min 4294967295 ((text.size : Int) - ((18 : Nat) : Int)).toNat = 2 + k by have := T.small; omega, hr, Nat.zero_add])]
  generalize (s2.add 24).add 20 = s3
  refine Goes.step rfl ?_
  rw [b3]
  refine Goes.step rfl ?_
  rw [b4 (by omega) T.e1]
  refine Goes.step rfl ?_
  rw [b5]
  refine Goes.step rfl ?_
  rw [b6]
  refine Goes.step rfl ?_
  rw [b7]
  refine Goes.step rfl ?_
  exact .here ⟨⟨(), rfl, rfl⟩, rfl, rfl, rfl, rfl, rfl⟩

theorem matches_ {text : Array Nat} {k : Nat} (T : TextOk text k) : Goes 8000 (PySem.Sre.forMatch pcode text 1 0 text.size false false) fun m => Matched m 18 (18 + k) := by
  obtain ⟨seen, h⟩ := start_to T
  have ho : (PySem.Sre.forMatch pcode text 1 0 text.size false false).outcome.isSome = false := by
    unfold PySem.Sre.forMatch
    dsimp only
    split <;> rfl
  have hs := T.size
  have hk := T.small
  refine Goes.le (Goes.step ho (k := 6 * (9 + k) + 20) ?_) (by omega)
  rw [h]
  refine Goes.bind (k := 6 * (9 + k)) (P := fun m => ∃ seen', m = stA text 11 11 11 11 none seen') ?_ fun m' hm => ?_
  · have := back_to (text := text) (q0 := 11) T.noS (9 + k) seen
    rwa [show 11 + (9 + k) = text.size by omega] at this
  · obtain ⟨seen', rfl⟩ := hm
    exact there T seen'
end Mine
namespace Mine
open PySem PySem.Calls PyProof.Rows

/-! three types' methods -/
theorem pa_pat : PlainAttrs "re.Pattern" :=
  ⟨⟨"object.__getattribute__", by rw [typeLookup_type, builtinLookup_eq_fast]; kernel_rfl, by decide +kernel⟩, by rw [typeLookup_type, builtinLookup_eq_fast]; kernel_rfl⟩
theorem pa_mat : PlainAttrs "re.Match" :=
  ⟨⟨"object.__getattribute__", by rw [typeLookup_type, builtinLookup_eq_fast]; kernel_rfl, by decide +kernel⟩, by rw [typeLookup_type, builtinLookup_eq_fast]; kernel_rfl⟩
theorem slot_pat_match : Slot "re.Pattern" "match" "re.Pattern.match" :=
  .of (owner := "re.Pattern") (n := "match") (by rw [typeLookup_type, builtinLookup_eq_fast]; kernel_rfl) (by decide +kernel) (by decide +kernel) (by decide +kernel)
    (by first | exact .inl (by decide +kernel) | exact .inr (by decide +kernel)) (by rw [isSubtype_type]; kernel_rfl)
theorem slot_mat_group : Slot "re.Match" "group" "re.Match.group" :=
  .of (owner := "re.Match") (n := "group") (by rw [typeLookup_type, builtinLookup_eq_fast]; kernel_rfl) (by decide +kernel) (by decide +kernel) (by decide +kernel)
    (by first | exact .inl (by decide +kernel) | exact .inr (by decide +kernel)) (by rw [isSubtype_type]; kernel_rfl)
theorem slot_bytes_split : Slot "bytes" "split" "bytes.split" :=
  .of (owner := "bytes") (n := "split") (by rw [typeLookup_type, builtinLookup_eq_fast]; kernel_rfl) (by decide +kernel) (by decide +kernel) (by decide +kernel)
    (by first | exact .inl (by decide +kernel) | exact .inr (by decide +kernel)) (by rw [isSubtype_type]; kernel_rfl)
theorem entry_pat_match : entryFor table "re.Pattern.match" = some Builtin.«re.Pattern.match» := entryFor_of_tree (by kernel_rfl)
theorem entry_mat_group : entryFor table "re.Match.group" = some Builtin.«re.Match.group» := entryFor_of_tree (by kernel_rfl)
theorem entry_bytes_split : entryFor table "bytes.split" = some Builtin.«bytes.split» := entryFor_of_tree (by kernel_rfl)
theorem ty_pat_match : typeOf (.builtin "re.Pattern.match") = pure (.type "method_descriptor") := by show builtinType _ = _; rw [builtinType_eq_fast]; kernel_rfl
theorem ty_mat_group : typeOf (.builtin "re.Match.group") = pure (.type "method_descriptor") := by show builtinType _ = _; rw [builtinType_eq_fast]; kernel_rfl
theorem ty_bytes_split : typeOf (.builtin "bytes.split") = pure (.type "method_descriptor") := by show builtinType _ = _; rw [builtinType_eq_fast]; kernel_rfl
theorem args_bytes_split (a : Value) : argsOk "bytes.split" ⟨[a], []⟩ := by
  unfold argsOk; rw [signature?_of (id := "bytes.split") (n := ['t', 'i', 'l', 'p', 's']) (o := ['s', 'e', 't', 'y', 'b']) (by kernel_rfl) PySem.W.FB.owner_bytes]; kernel_rfl
theorem args_pat_match (a b : Value) : argsOk "re.Pattern.match" ⟨[a, b], []⟩ := by
  unfold argsOk; kernel_rfl
theorem args_mat_group (a b : Value) : argsOk "re.Match.group" ⟨[a, b], []⟩ := by
  unfold argsOk; kernel_rfl
theorem noBool_mat : typeLookup (.type "re.Match") "__bool__" = pure none := by rw [typeLookup_type, builtinLookup_eq_fast]; kernel_rfl
theorem noLen_mat : typeLookup (.type "re.Match") "__len__" = pure none := by rw [typeLookup_type, builtinLookup_eq_fast]; kernel_rfl
end Mine
namespace Mine
open PySem PySem.Calls
open PySem.Builtin.Re

structure PatOk (prog : Program) (w : World) (h : Heap) (a : Addr) : Prop where
  obj : ∃ o fs, h.get? a = some o ∧ o.cls = .type "re.Pattern" ∧ o.dict = none ∧ o.data = .fields fs ∧ reRawNat (fs.getD 6 .none) = 1 ∧ reRawNat (fs.getD 2 .none) = 1 ∧
    (∃ cd oc its n, fs.getD 5 .none = .ref cd ∧ h.get? cd = some oc ∧ oc.data = .seq its n ∧ (its.map reRawOf).map (·.toNat) = pcode) ∧
    (∃ d f t, fs.getD 3 .none = .ref d ∧ h.MapOf (strKind prog w) d f ∧ f (Str.ofString "flags") = some (.int 1 t))
theorem PatOk.keeps {prog : Program} {w : World} {h h' : Heap} {a : Addr} (P : PatOk prog w h a) (k : KeepsH h h') : PatOk prog w h' a :=
  ⟨let ⟨o, fs, e, c, d, dt, r6, r2, ⟨cd, oc, its, n, f5, ec, dc, hp⟩, dd, f, t, f3, ⟨od, es, ep, ed, rd⟩, hf⟩ := P.obj; ⟨o, fs, k _ _ e, c, d, dt, r6, r2, ⟨cd, oc, its, n, f5, k _ _ ec, dc, hp⟩, dd, f, t, f3, ⟨od, es, ep, k _ _ ed, rd⟩, hf⟩⟩

section
variable {prog : Program} {w : World} {A : Around} {E : Value → Shared → Prop} {s : Shared}

theorem fieldsOf_wp {a : Addr} {o : Obj} {fs : Array Value} {Q : Array Value → Shared → Prop} (ho : s.heap.get? a = some o) (hd : o.data = .fields fs) (h : Q fs s) : wpAny (model prog w) A (fieldsOf (.ref a)) Q E s := by
  unfold fieldsOf
  refine wpAny_bind (wpAny_load ho ?_)
  rw [hd]
  exact wpAny_pure h
theorem seqItems?_wp {a : Addr} {o : Obj} {its : Array Value} {n : Nat} {Q : Option (Array Value) → Shared → Prop} (ho : s.heap.get? a = some o) (hd : o.data = .seq its n) (h : Q (some its) s) : wpAny (model prog w) A (seqItems? (.ref a)) Q E s := by
  unfold seqItems?
  refine wpAny_bind (wpAny_load ho ?_)
  rw [hd]
  exact wpAny_pure h
theorem reTextOf_wp {b : Array UInt8} {t : Tok} {Q : Array Nat × Nat → Shared → Prop} (h : Q (b.map (·.toNat), 1) s) : wpAny (model prog w) A (reTextOf (.bytes b t)) Q E s := by
  unfold reTextOf
  refine wpAny_bind (wpAny_of_eq (a := none) rfl ?_)
  dsimp only
  refine wpAny_bind ?_
  unfold Builtin.Bytes.bufferQuiet?
  refine wpAny_bind (wpAny_attempt ?_)
  rw [PySem.W.KBy.buffer_eq]
  exact wpAny_pure (wpAny_pure (wpAny_pure h))

theorem reTarget_wp {a : Addr} {b : Array UInt8} {t : Tok} {Q : ReTarget → Shared → Prop} (P : PatOk prog w s.heap a) (hb : b.size ≤ 100000)
    (h : Q { pattern := .ref a, string := .bytes b t, code := pcode, text := b.map (·.toNat), kind := 1, groups := 1, pos := 0, lim := (b.map (·.toNat)).size } s) :
    wpAny (model prog w) A (reTarget "re.Pattern.match" "match" ⟨[.ref a, .bytes b t], []⟩) Q E s := by
  obtain ⟨o, fs, e, c, d, dt, r6, r2, ⟨cd, oc, its, n, f5, ec, dc, hp⟩, _⟩ := P.obj
  unfold reTarget
  dsimp only
  have hn : reNamed "re.Pattern.match" "match" ["string", "pos", "endpos"] 1 [Value.bytes b t] [] = pure [some (.bytes b t), none, none] := rfl
  refine wpAny_bind (wpAny_of_eq hn ?_)
  dsimp only
  refine wpAny_bind (wpAny_pure ?_)
  refine wpAny_bind (wpAny_pure ?_)
  refine wpAny_bind (fieldsOf_wp e dt ?_)
  refine wpAny_bind (reTextOf_wp ?_)
  dsimp only
  rw [r6, r2, f5]
  refine wpAny_ite ?_
  rw [if_neg (by simp)]
  refine wpAny_ite ?_
  rw [if_neg (by simp)]
  refine wpAny_bind ?_
  unfold reNoCollectionInside
  refine wpAny_ite ?_
  rw [if_pos (by simp)]
  rw [PySem.W.KBy.isInstance_eq]
  refine wpAny_bind (wpAny_pure ?_)
  refine wpAny_ite ?_
  rw [if_neg (by simp)]
  refine wpAny_pure ?_
  refine wpAny_bind ?_
  unfold reRawItems
  refine wpAny_bind (seqItems?_wp ec dc (wpAny_pure (wpAny_pure ?_)))
  have e1 : min (0 : Int).toNat (b.map (·.toNat)).size = 0 := by simp
  have e2 : min ((2 : Int) ^ 63 - 1).toNat (b.map (·.toNat)).size = (b.map (·.toNat)).size := by
    have : (b.map (·.toNat)).size = b.size := by simp
    omega
  simp only [Option.getD_some, hp, e1, e2]
  exact h
end
end Mine
namespace Mine
open PySem PySem.Calls
open PySem.Builtin.Re
section
variable {prog : Program} {w : World} {A : Around} {E : Value → Shared → Prop} {s : Shared}

theorem reDrive_wp : ∀ (turns : Nat) (m : PySem.Sre.M) (N : Nat) (Q : PySem.Sre.M → Shared → Prop), N < 4 * turns → (PySem.Sre.M.runFor N m).outcome.isSome = true → Q (PySem.Sre.M.runFor N m) s → wpAny (model prog w) A (reDrive turns m) Q E s
  | 0, m, N, Q, h, _, _ => by omega
  | turns + 1, m, N, Q, h, ho, hq => by
    show wpAny _ _ (if (m.runFor 4).outcome.isSome then pure (m.runFor 4) else do rule "sre.turn"; reDrive turns (m.runFor 4)) Q E s
    by_cases h4 : (m.runFor 4).outcome.isSome = true
    · have e : m.runFor N = m.runFor 4 := by
        by_cases hN : N ≤ 4
        · have := runFor_add N (4 - N) m
          rw [show N + (4 - N) = 4 by omega, runFor_done _ _ ho] at this
          exact this.symm
        · have := runFor_add 4 (N - 4) m
          rw [show 4 + (N - 4) = N by omega, runFor_done _ _ h4] at this
          exact this
      rw [e] at hq
      refine wpAny_ite ?_
      rw [if_pos h4]
      exact wpAny_pure hq
    · have hN : 4 < N := by
        by_cases hN : N ≤ 4
        · have := runFor_add N (4 - N) m
          rw [show N + (4 - N) = 4 by omega, runFor_done _ _ ho] at this
          rw [this] at h4
          exact absurd ho h4
        · omega
      have e := runFor_add 4 (N - 4) m
      rw [show 4 + (N - 4) = N by omega] at e
      refine wpAny_ite ?_
      rw [if_neg h4]
      refine wpAny_bind (wpAny_rule ?_)
      exact reDrive_wp turns _ (N - 4) Q (by omega) (by rw [← e]; exact ho) (by rw [← e]; exact hq)

theorem forIn_quiet {α : Type} {f : α → PUnit → Sem (ForInStep PUnit)} (hf : ∀ i (Q' : ForInStep PUnit → Shared → Prop), Q' (.yield ⟨⟩) s → wpAny (model prog w) A (f i ⟨⟩) Q' E s) {Q : PUnit → Shared → Prop} (h : Q ⟨⟩ s) : ∀ l : List α, wpAny (model prog w) A (forIn l PUnit.unit f) Q E s
  | [] => wpAny_pure h
  | i :: l => by
    rw [List.forIn_cons]
    exact wpAny_bind (hf i _ (forIn_quiet hf h l))

theorem reRunToEnd_wp {m : PySem.Sre.M} {P : PySem.Sre.M → Prop} {Q : Option PySem.Sre.M → Shared → Prop} (g : Goes 8000 m P) (hP : ∀ m', P m' → m'.outcome = some .matched) (h : ∀ m', P m' → Q (some m') s) :
    wpAny (model prog w) A (reRunToEnd m) Q E s := by
  obtain ⟨N, hN, hp⟩ := g
  have ho := hP _ hp
  unfold reRunToEnd
  refine wpAny_bind (reDrive_wp (2 ^ 64) m N _ (by omega) (by rw [ho]; rfl) ?_)
  refine wpAny_bind (forIn_quiet (fun i Q' hq => ?_) ?_ _)
  · split
    · exact wpAny_bind (wpAny_rule (wpAny_pure hq))
    · exact wpAny_pure hq
  · rw [ho]
    exact wpAny_pure (h _ hp)

noncomputable def spanTup (k : Nat) : Obj := { cls := .type "tuple", data := .seq #[rawInt (0 : Nat), rawInt (19 + k : Nat), rawInt (18 : Nat), rawInt (18 + k : Nat)] }
noncomputable def matObj (a T : Addr) (b : Array UInt8) (t : Tok) (lim : Nat) : Obj := { cls := .type "re.Match", data := .fields #[.bytes b t, .ref a, rawInt (0 : Nat), rawInt (lim : Nat), rawInt 1, .ref T] }

theorem reNewMatch_wp {a : Addr} {b : Array UInt8} {t : Tok} {lim k : Nat} {m : PySem.Sre.M} {Q : Value → Shared → Prop} (hm : Matched m 18 (18 + k))
    (h : Q (.ref (s.heap.objs.size + 1)) { s with heap := (s.heap.push (spanTup k)).push (matObj a s.heap.objs.size b t lim) }) : wpAny (model prog w) A (reNewMatch (.ref a) (.bytes b t) 1 0 lim m) Q E s := by
  unfold reNewMatch
  rw [hm.marks, hm.lm, hm.li, hm.start, hm.handed]
  dsimp only
  refine wpAny_ite ?_
  rw [if_neg]
  · refine wpAny_bind (wpAny_newTuple ?_ (by show (4 : Nat) ≤ sizeLine; rw [sizeLine_eq]; omega))
    unfold newFields
    refine wpAny_newObj_type ?_
    have e : (s.heap.push (spanTup k)).objs.size = s.heap.objs.size + 1 := Heap.size_push _ _
    have := h
    rw [← e] at this
    have e2 : 18 + k + 1 = 19 + k := by omega
    rw [e2]
    exact this
  · have hlt : ¬ (18 + k < 18) := by omega
    show ¬ ((decide (((2 * 0 + 1 : Nat) : Int) ≤ 1) && decide (18 + k < 18) || false) = true)
    simp [hlt]

theorem match_wp {a : Addr} {b : Array UInt8} {t : Tok} {k : Nat} {Q : Value → Shared → Prop} (P : PatOk prog w s.heap a) (T : TextOk (b.map (·.toNat)) k) (hb : b.size ≤ 100000)
    (h : Q (.ref (s.heap.objs.size + 1)) { s with heap := (s.heap.push (spanTup k)).push (matObj a s.heap.objs.size b t (20 + k)) }) :
    wpAny (model prog w) A (call (.builtin "re.Pattern.match") [.ref a, .bytes b t]) Q E s := by
  obtain ⟨o, fs, e, c, d, _⟩ := id P.obj
  have hT : s.TypeIs (.ref a) "re.Pattern" := ⟨o, e, c⟩
  refine wpAny_call_entry slot_pat_match hT entry_pat_match ?_ (args_pat_match _ _)
  unfold Builtin.«re.Pattern.match»
  refine wpAny_bind (reTarget_wp P hb ?_)
  unfold reAnswer
  refine wpAny_bind (reRunToEnd_wp (matches_ T) (fun m' hm => by obtain ⟨_, h1, _⟩ := hm.out; exact h1) fun m' hm => ?_)
  dsimp only
  rw [T.size]
  exact wpAny_bind (reNewMatch_wp hm (wpAny_pure ⟨_, rfl, h⟩))
end
end Mine
namespace Mine
open PySem PySem.Calls
open PySem.Builtin.Re
section
variable {prog : Program} {w : World} {A : Around} {E : Value → Shared → Prop} {s : Shared}

theorem str_noIdx : typeLookup (.type "str") "__index__" = pure none := by rw [typeLookup_type, builtinLookup_eq_fast]; kernel_rfl

theorem group_wp {a M T : Addr} {b : Array UInt8} {t u : Tok} {lim k : Nat} {Q : Value → Shared → Prop} (P : PatOk prog w s.heap a) (hM : s.heap.get? M = some (matObj a T b t lim)) (hT : s.heap.get? T = some (spanTup k)) (hb : b.size ≤ 100000)
    (h : ∀ t' tk, Q (.bytes ((((b.map (·.toNat)).extract 18 (18 + k))).map (·.toUInt8)) t') { s with toks := tk }) :
    wpAny (model prog w) A (call (.builtin "re.Match.group") [.ref M, .str (Str.ofString "flags") u]) Q E s := by
  obtain ⟨o, fs, e, c, d, dt, r6, r2, _, dd, f, t1, f3, hmap, hf⟩ := id P.obj
  have hTy : s.TypeIs (.ref M) "re.Match" := ⟨_, hM, rfl⟩
  refine wpAny_call_entry slot_mat_group hTy entry_mat_group ?_ (args_mat_group _ _)
  unfold Builtin.«re.Match.group»
  refine wpAny_bind (m := noKeywords "Match.group" _) (wpAny_pure ?_)
  dsimp only
  refine wpAny_bind ?_
  unfold reFound
  refine wpAny_bind (fieldsOf_wp hM rfl ?_)
  refine wpAny_bind ?_
  unfold reRawItems
  have e0 : ((Option.getD (some #[rawInt (0 : Nat), rawInt (19 + k : Nat), rawInt (18 : Nat), rawInt (18 + k : Nat)]) #[]).map reRawOf) = #[((0 : Nat) : Int), ((19 + k : Nat) : Int), ((18 : Nat) : Int), ((18 + k : Nat) : Int)] := by simp [reRawOf, rawInt]
  refine wpAny_bind (seqItems?_wp (a := T) hT rfl (wpAny_pure (wpAny_pure ?_)))
  rw [e0]
  refine wpAny_bind ?_
  unfold reGroupNumber
  dsimp only
  refine wpAny_bind (wpAny_of_eq (a := none) rfl ?_)
  refine wpAny_ite ?_
  rw [if_neg (by simp)]
  refine wpAny_bind (wpAny_specialOf (T := "str") (name := Str.ofString "__index__") rfl str_noIdx ?_)
  refine wpAny_ite ?_
  rw [if_neg (by simp)]
  refine wpAny_bind (fieldsOf_wp (a := a) e dt ?_)
  rw [f3]
  dsimp only
  refine wpAny_bind (wpAny_dictGet_of (knd := strKind prog w) (k := Str.ofString "flags") (by rfl) hmap ?_)
  rw [hf]
  dsimp only
  refine wpAny_bind (wpAny_of_eq (a := some 1) rfl (wpAny_bind (wpAny_pure ?_)))
  refine wpAny_ite ?_
  have hsz : ¬ ((decide (((some (1 : Int)).getD (-1)) < 0) || decide (2 * ((some (1 : Int)).getD (-1)) ≥ ((#[((0 : Nat) : Int), ((19 + k : Nat) : Int), ((18 : Nat) : Int), ((18 + k : Nat) : Int)] : Array Int).size : Nat))) = true) := by
    have e1 : (#[((0 : Nat) : Int), ((19 + k : Nat) : Int), ((18 : Nat) : Int), ((18 + k : Nat) : Int)] : Array Int).size = 4 := rfl
    rw [e1]
    decide
  rw [if_neg hsz]
  refine wpAny_pure ?_
  refine wpAny_bind ?_
  unfold reGroupText
  have e2 : ((#[((0 : Nat) : Int), ((19 + k : Nat) : Int), ((18 : Nat) : Int), ((18 + k : Nat) : Int)] : Array Int).getD (2 * (1 : Int).toNat) (-1), (#[((0 : Nat) : Int), ((19 + k : Nat) : Int), ((18 : Nat) : Int), ((18 + k : Nat) : Int)] : Array Int).getD (2 * (1 : Int).toNat + 1) (-1)) = (((18 : Nat) : Int), ((18 + k : Nat) : Int)) := rfl
  show wpAny _ _ (match ((#[((0 : Nat) : Int), ((19 + k : Nat) : Int), ((18 : Nat) : Int), ((18 + k : Nat) : Int)] : Array Int).getD (2 * (1 : Int).toNat) (-1), (#[((0 : Nat) : Int), ((19 + k : Nat) : Int), ((18 : Nat) : Int), ((18 + k : Nat) : Int)] : Array Int).getD (2 * (1 : Int).toNat + 1) (-1)) with | (b', e') => _) _ _ _
  rw [e2]
  dsimp only
  refine wpAny_ite ?_
  rw [if_neg (by have h1 : ¬ (((18 : Nat) : Int) < 0) := by omega
                 have h2 : ¬ (((18 + k : Nat) : Int) < 0) := by omega
                 simp; omega)]
  refine wpAny_bind (reTextOf_wp ?_)
  dsimp only
  unfold reSlice
  refine wpAny_ite ?_
  rw [if_neg (by simp)]
  refine wpAny_mkBytes (wpAny_pure ⟨_, rfl, ?_⟩) ?_
  · exact h _ _
  · have : (((b.map (·.toNat)).extract (((18 : Nat) : Int)).toNat (((18 + k : Nat) : Int)).toNat).map (·.toUInt8)).size ≤ b.size := by simp; omega
    rw [sizeLine_eq]
    exact Nat.le_trans this (by omega)
end
end Mine
namespace Mine
open PySem PySem.Calls PyProof.Rows
section
variable {prog : Program} {w : World} {A : Around} {E : Value → Shared → Prop} {s : Shared} {O : Gh}

theorem dropWhile_len (p : UInt8 → Bool) : ∀ l : List UInt8, (l.dropWhile p).length ≤ l.length
  | [] => Nat.le_refl _
  | a :: l => by
    rw [List.dropWhile_cons]
    split
    · exact Nat.le_succ_of_le (dropWhile_len p l)
    · exact Nat.le_refl _
theorem takeWhile_len (p : UInt8 → Bool) : ∀ l : List UInt8, (l.takeWhile p).length ≤ l.length
  | [] => Nat.le_refl _
  | a :: l => by
    rw [List.takeWhile_cons]
    split
    · simpa using takeWhile_len p l
    · simp
theorem words_len : ∀ (f n : Nat) (l : List UInt8), (∀ x ∈ Builtin.Bytes.words f n l, x.length ≤ l.length) ∧ (Builtin.Bytes.words f n l).length ≤ f
  | 0, _, _ => ⟨fun _ h => (nomatch h), Nat.le_refl _⟩
  | f + 1, n, l => by
    unfold Builtin.Bytes.words
    have h0 := dropWhile_len Builtin.Bytes.isSpace l
    split
    · exact ⟨fun _ h => (nomatch h), Nat.zero_le _⟩
    · rename_i r hne
      split
      · exact ⟨fun x h => by rw [List.mem_singleton.mp h]; exact h0, by simp⟩
      · obtain ⟨h1, h2⟩ := words_len f (n - 1) ((l.dropWhile Builtin.Bytes.isSpace).dropWhile (!Builtin.Bytes.isSpace ·))
        have h3 := dropWhile_len (!Builtin.Bytes.isSpace ·) (l.dropWhile Builtin.Bytes.isSpace)
        refine ⟨fun x h => ?_, by simpa using h2⟩
        rcases List.mem_cons.mp h with rfl | h
        · exact Nat.le_trans (takeWhile_len _ _) h0
        · exact Nat.le_trans (h1 x h) (Nat.le_trans h3 h0)
theorem takeWhile_all {p : UInt8 → Bool} : ∀ {l : List UInt8}, (∀ x ∈ l, p x = true) → l.takeWhile p = l ∧ l.dropWhile p = []
  | [], _ => ⟨rfl, rfl⟩
  | a :: l, h => by
    have ih := takeWhile_all (l := l) fun x hx => h x (List.mem_cons_of_mem _ hx)
    rw [List.takeWhile_cons, List.dropWhile_cons, h a List.mem_cons_self, if_pos rfl, if_pos rfl, ih.1]
    exact ⟨rfl, ih.2⟩
theorem words_plain {l : List UInt8} (h1 : l ≠ []) (h2 : l.any Builtin.Bytes.isSpace = false) (f n : Nat) (hn : n ≠ 0) : Builtin.Bytes.words (f + 1) n l = [l] := by
  have ha : ∀ x ∈ l, Builtin.Bytes.isSpace x = false := fun x hx => by
    have := List.any_eq_false.mp h2 x hx
    simpa using this
  have e1 : l.dropWhile Builtin.Bytes.isSpace = l := by
    cases l with
    | nil => rfl
    | cons a r => rw [List.dropWhile_cons, ha a List.mem_cons_self]; rfl
  have e2 : l.takeWhile (!Builtin.Bytes.isSpace ·) = l := (takeWhile_all fun x hx => by rw [ha x hx]; rfl).1
  have e3 : l.dropWhile (!Builtin.Bytes.isSpace ·) = [] := (takeWhile_all fun x hx => by rw [ha x hx]; rfl).2
  unfold Builtin.Bytes.words
  rw [e1]
  split
  · contradiction
  · rw [if_neg (by simpa using hn), e2, e3]
    cases f with
    | zero => rfl
    | succ f => unfold Builtin.Bytes.words; rfl

theorem mkBytes_all : ∀ (ws : List (List UInt8)) (s : Shared) (Q : List Value → Shared → Prop), (∀ x ∈ ws, x.length ≤ 100000) → Ok O s.heap s.toks → DoneL O s (ws.map fun x => .byt x.toArray) Q →
    wpAny (model prog w) A (ws.mapM fun x => Builtin.Bytes.Kind.new .bytes x.toArray) Q E s
  | [], s, Q, _, L, D => by
    rw [List.mapM_nil]
    exact wpAny_pure (D [] s.heap s.toks O (.rfl L) rfl)
  | x :: ws, s, Q, h, L, D => by
    rw [List.mapM_cons]
    have A1 : Adv O s.heap O s.heap (s.toks + 1) := .le L (.refl _) (Nat.le_succ _)
    refine wpAny_bind (wpAny_mkBytes ?_ (by rw [List.size_toArray, sizeLine_eq]; exact Nat.le_trans (h x List.mem_cons_self) (by omega)))
    refine wpAny_bind (mkBytes_all ws { s with toks := s.toks + 1 } _ (fun y hy => h y (List.mem_cons_of_mem _ hy)) (A1.ok L) ?_)
    intro vals h' tk' G' a r
    exact wpAny_pure (D _ h' tk' G' (A1.trans a) ⟨_, _, rfl, ⟨_, rfl⟩, r⟩)

theorem split_wp {b : Array UInt8} {t : Tok} {Q : Value → Shared → Prop} (hb : b.size ≤ 900) (L : Ok O s.heap s.toks) (D : Done O s (.lst ((Builtin.Bytes.words (b.size + 1) (b.size + 1) b.toList).map fun x => .byt x.toArray)) Q) :
    wpAny (model prog w) A (call (.builtin "bytes.split") [.bytes b t]) Q E s := by
  refine wpAny_call_entry slot_bytes_split (PySem.W.typeIs_bytes _ _ _) entry_bytes_split ?_ (args_bytes_split _)
  unfold Builtin.«bytes.split» Builtin.Bytes.splitM
  dsimp only
  refine wpAny_bind (wpAny_of_eq (a := [none, none]) rfl ?_)
  dsimp only
  refine wpAny_bind (wpAny_pure ?_)
  refine wpAny_bind (wpAny_of_eq (a := b) rfl ?_)
  refine wpAny_bind (wpAny_rule ?_)
  have hw := words_len (b.size + 1) (b.size + 1) b.toList
  have hlen : b.toList.length = b.size := by simp
  have lst : ∀ vals h' tk' G', Adv O s.heap G' h' tk' → RepL G' h' ((Builtin.Bytes.words (b.size + 1) (b.size + 1) b.toList).map fun x => .byt x.toArray) vals →
      wpAny (model prog w) A.in1 (do let l ← newList vals; ret l) (fun fin s' => ∃ v, fin = PySem.Fin.done (.ret v) ∧ Q v s') E { s with heap := h', toks := tk' } := fun vals h' tk' G' a r =>
    wpAny_bind (newList_done (O := G') (s := { s with heap := h', toks := tk' }) (a.ok L) r (by rw [List.length_map]; omega) (fun val h2 tk2 G2 a2 r2 => wpAny_pure ⟨val, rfl, D val h2 tk2 G2 (a.trans a2) r2⟩))
  have el : (if (-1 : Int) < 0 then b.size + 1 else (-1 : Int).toNat) = b.size + 1 := if_pos (by decide)
  rw [el, if_neg (by simp : ¬ (false = true))]
  refine wpAny_ite ?_
  split
  · rename_i hc
    simp only [Bool.and_eq_true, Bool.not_eq_true', decide_eq_true_eq] at hc
    have e1 : Builtin.Bytes.words (b.size + 1) (b.size + 1) b.toList = [b.toList] := words_plain (by intro q; have : b.isEmpty = true := by simpa using q
                                                                                                     rw [hc.1.2] at this; cases this) (by rw [Array.any_toList]; exact hc.2) _ _ (by omega)
    have ks : Builtin.Bytes.Kind.same .bytes (.bytes b t) = pure (.bytes b t) := rfl
    rw [ks]
    have := lst [.bytes b t] s.heap s.toks O (.rfl L) (by rw [e1]; exact ⟨_, _, rfl, ⟨t, by simp⟩, rfl⟩)
    refine wpAny_bind (wpAny_pure ?_)
    refine wpAny_mono this (fun fin s' hh => hh) fun _ _ x => x
  · refine wpAny_bind (mkBytes_all _ s _ (fun x hx => Nat.le_trans (hw.1 x hx) (by omega)) L ?_)
    intro vals h' tk' G' a r
    exact lst vals h' tk' G' a r

theorem truthy_mat {M : Addr} {o : Obj} {Q : Bool → Shared → Prop} (hM : s.heap.get? M = some o) (hc : o.cls = .type "re.Match") (h : Q true s) : wpAny (model prog w) A (truthy (.ref M)) Q E s := by
  have hT : s.TypeIs (.ref M) "re.Match" := ⟨o, hM, hc⟩
  unfold truthy
  first
    | refine wpAny_bind (wpAny_callSpecial?_none (name := Str.ofString "__bool__") hT noBool_mat ?_)
    | refine wpAny_bind (wpAny_pure (wpAny_bind (wpAny_callSpecial?_none (name := Str.ofString "__bool__") hT noBool_mat ?_)))
  first
    | refine wpAny_bind (wpAny_specialOf (name := Str.ofString "__len__") hT noLen_mat ?_)
    | refine wpAny_bind (wpAny_pure (wpAny_bind (wpAny_specialOf (name := Str.ofString "__len__") hT noLen_mat ?_)))
  refine wpAny_ite ?_
  rw [if_pos (by rfl)]
  exact wpAny_pure h
end
end Mine
namespace Mine
open PySem PySem.Calls PyProof.Rows

theorem text_get {b : Array UInt8} {l : List UInt8} (h : b.toList = l) (i : Nat) : (b.map (·.toNat)).getD i 0 = (l.getD i 0).toNat := by
  subst h
  by_cases hi : i < b.size
  · have h1 : i < (b.map (·.toNat)).size := by simpa using hi
    simp [Array.getD, hi, List.getD]
  · simp [Array.getD, hi, List.getD]
theorem text_ok {b : Array UInt8} {m : List UInt8} (h : b.toList = lineStart ++ m ++ [41, 41]) (hm : m.all isFlagCh = true) (hl : m.length ≤ 200) : TextOk (b.map (·.toNat)) m.length := by
  have hsz : b.size = 20 + m.length := by
    have := congrArg List.length h
    simp [lineStart] at this
    omega
  have hin : ∀ x ∈ m, x ≠ 83 ∧ x ≠ 10 ∧ x ≠ 41 := fun x hx => by
    have := List.all_eq_true.mp hm x hx
    unfold isFlagCh at this
    simp only [Bool.or_eq_true, Bool.and_eq_true, beq_iff_eq, decide_eq_true_eq] at this
    rcases this with rfl | ⟨h1, h2⟩
    · decide
    · refine ⟨?_, ?_, ?_⟩ <;> rintro rfl <;> revert h1 h2 <;> decide
  have hat : ∀ i, 18 ≤ i → i < 18 + m.length → ∃ x ∈ m, (lineStart ++ m ++ [41, 41]).getD i 0 = x := fun i h1 h2 => by
    refine ⟨m[i - 18]'(by omega), List.getElem_mem _, ?_⟩
    have hl2 : lineStart.length = 18 := rfl
    rw [List.getD_eq_getElem?_getD, List.append_assoc, List.getElem?_append_right (by omega), hl2, List.getElem?_append_left (by omega)]
    simp [List.getElem?_eq_getElem (show i - 18 < m.length by omega)]
  have hend : ∀ i, 18 + m.length ≤ i → i < 20 + m.length → (lineStart ++ m ++ [41, 41]).getD i 0 = 41 := fun i h1 h2 => by
    have hl2 : (lineStart ++ m).length = 18 + m.length := by simp [lineStart]; omega
    rw [List.getD_eq_getElem?_getD, List.getElem?_append_right (by omega), hl2]
    have : i - (18 + m.length) = 0 ∨ i - (18 + m.length) = 1 := by omega
    rcases this with q | q <;> rw [q] <;> rfl
  have hout : ∀ i, 20 + m.length ≤ i → (lineStart ++ m ++ [41, 41]).getD i 0 = 0 := fun i h1 => by
    rw [List.getD_eq_getElem?_getD, List.getElem?_eq_none (by simp [lineStart]; omega)]
    rfl
  have hpre : ∀ i, i < 18 → (lineStart ++ m ++ [41, 41]).getD i 0 = lineStart.getD i 0 := fun i h1 => by
    have hl2 : lineStart.length = 18 := rfl
    rw [List.getD_eq_getElem?_getD, List.append_assoc, List.getElem?_append_left (by omega), List.getD_eq_getElem?_getD]
  have ne : ∀ (x y : UInt8), x ≠ y → x.toNat ≠ y.toNat := fun x y hxy q => hxy (UInt8.toNat_inj.mp q)
  refine ⟨by omega, by simpa using hsz, fun i hi => ?_, fun i hi => ?_, fun i hi => ?_, fun j hj => ?_, ?_⟩
  · rw [text_get h, hpre _ (by omega)]
    have : i = 0 ∨ i = 1 ∨ i = 2 ∨ i = 3 ∨ i = 4 ∨ i = 5 ∨ i = 6 := by omega
    rcases this with rfl | rfl | rfl | rfl | rfl | rfl | rfl <;> rfl
  · rw [text_get h]
    by_cases h1 : i + 4 < 18
    · rw [hpre _ h1]
      have : i + 4 = 16 ∨ i + 4 = 17 := by omega
      rcases this with q | q <;> rw [q] <;> decide
    · by_cases h2 : i + 4 < 18 + m.length
      · obtain ⟨x, hx, e⟩ := hat (i + 4) (by omega) h2
        rw [e]; exact ne x 83 (hin x hx).1
      · by_cases h3 : i + 4 < 20 + m.length
        · rw [hend _ (by omega) h3]; decide
        · rw [hout _ (by omega)]; decide
  · rw [text_get h]
    have hi' : i < 20 + m.length := by have : i < b.size := by simpa using hi
                                       omega
    by_cases h1 : i < 18
    · rw [hpre _ h1]
      have : ∀ j, j < 18 → (lineStart.getD j 0).toNat ≠ 10 := by decide
      exact this i h1
    · by_cases h2 : i < 18 + m.length
      · obtain ⟨x, hx, e⟩ := hat i (by omega) h2
        rw [e]; exact ne x 10 (hin x hx).2.1
      · rw [hend _ (by omega) hi']; decide
  · rw [text_get h]
    obtain ⟨x, hx, e⟩ := hat (18 + j) (by omega) (by omega)
    rw [e]; exact ne x 41 (hin x hx).2.2
  · rw [text_get h, hend _ (by omega) (by omega)]; rfl
theorem text_cut {b : Array UInt8} {m : List UInt8} (h : b.toList = lineStart ++ m ++ [41, 41]) : (((b.map (·.toNat)).extract 18 (18 + m.length)).map (·.toUInt8)) = m.toArray := by
  apply Array.toList_inj.mp
  simp only [Array.toList_map, Array.toList_extract, List.extract_eq_take_drop, List.map_take, List.map_drop, List.map_map]
  have e : (List.map ((fun x => Nat.toUInt8 x) ∘ fun x => x.toNat) b.toList) = b.toList := by
    have : ((fun x => Nat.toUInt8 x) ∘ fun (x : UInt8) => x.toNat) = id := by funext x; simp
    rw [this, List.map_id]
  rw [e, h]
  have hl2 : lineStart.length = 18 := rfl
  rw [List.append_assoc, List.drop_append, hl2]
  simp [show lineStart.drop 18 = [] from rfl]

/-! the function -/
noncomputable def fparse : Fn := rowFn 7 [Str.ofString "resp", Str.ofString "mo"] .nil 1
noncomputable def parseBody : List Stmt :=
  [.Assign [.Name (Str.ofString "mo") ⟨36, 4, 36, 6⟩] (.Call (.Attribute (.Name (Str.ofString "Flags") ⟨36, 9, 36, 14⟩) (Str.ofString "match") ⟨36, 9, 36, 20⟩) [.Name (Str.ofString "resp") ⟨36, 21, 36, 25⟩] [] ⟨36, 9, 36, 26⟩) ⟨36, 4, 36, 26⟩,
   .If (.UnaryOp .Not (.Name (Str.ofString "mo") ⟨37, 11, 37, 13⟩) ⟨37, 7, 37, 13⟩) [.Return (some (.Tuple [] 0 ⟨38, 15, 38, 17⟩)) ⟨38, 8, 38, 17⟩] [] ⟨37, 4, 38, 17⟩,
   .Return (some (.Call (.Name (Str.ofString "tuple") ⟨39, 11, 39, 16⟩) [.Call (.Attribute (.Call (.Attribute (.Name (Str.ofString "mo") ⟨39, 17, 39, 19⟩) (Str.ofString "group") ⟨39, 17, 39, 25⟩)
     [.Constant (.str (Str.ofString "flags")) 0 ⟨39, 26, 39, 33⟩] [] ⟨39, 17, 39, 34⟩) (Str.ofString "split") ⟨39, 17, 39, 40⟩) [] [] ⟨39, 17, 39, 42⟩] [] ⟨39, 11, 39, 43⟩)) ⟨39, 4, 39, 43⟩]
theorem parse_body : fparse.body = parseBody := by rfl

theorem pf_sound {c : Cx} {g : Heap} (B : Base c g) (hlim : g.NoLimit) {a pa : Addr} {o : Obj} {pm cd doc : Value} (ho : g.get? a = some o) (hd : o.data = .func (docDef fparse.name fparse.params fparse.body fparse.scope pm cd doc)) (hcd : g.CodeRec cd fparse.name)
    (hF : c.mg (Str.ofString "Flags") = some (.ref pa)) (hP : PatOk c.prog c.w g pa) (ht1 : c.mg (Str.ofString "tuple") = none) (ht2 : c.mb (Str.ofString "tuple") = some (.type "tuple")) {vs : List V} {v : V} (e : parseV vs = some v)
    (A : Around) (s : Shared) (O : Gh) (vals : List Value) (Q : Value → Shared → Prop) (E : Value → Shared → Prop) (R : Room A 4) (k : KeepsH g s.heap) (L : Ok O s.heap s.toks) (r : RepL O s.heap vs vals) (D : Done O s v Q) :
    wpAny (model c.prog c.w) A (call (.ref a) vals) Q E s := by
  unfold parseV at e
  split at e
  case h_2 => cases e
  rename_i b
  obtain ⟨val, q, rfl, ⟨t, rfl⟩, hq⟩ := r
  cases hq
  dsimp only at e
  split at e
  case isFalse => cases e
  rename_i hm
  cases e
  obtain ⟨h1, h2, h3⟩ := hm
  generalize (b.toList.drop 18).take (b.toList.length - 20) = m at h1 h2 h3 D
  have hbs : b.size = 20 + m.length := by
    have := congrArg List.length h1
    simp [lineStart] at this
    omega
  refine wpAny_call ?_
  refine call_plain_ret (binds := [(Str.ofString "resp", .bytes b t)]) (by have := R.dp; show A.depth < 1000; omega) (k a o ho) hd (hlim.keeps k) (hcd.keeps k) rfl (fun x hx => ?_) (fun h₁ F => ?_) rfl rfl rfl (by decide)
  · rw [List.mem_singleton.mp hx]; rfl
  rw [parse_body]
  show wpAny _ _ (execs parseBody _) _ _ _
  have k1 : KeepsH g h₁ := k.trans F.keep
  have B1 := B.keeps k1
  have P1 := hP.keeps k1
  obtain ⟨po, pfs, pe, pc, pd, _⟩ := id P1.obj
  refine wpAny_execs_cons (wpAny_Assign_Name ?_ rfl)
  refine wpAny_Call_method rfl rfl rfl pa_pat slot_pat_match ty_pat_match ?_
  refine Name_function_global rfl rfl (loadGlobal_global B1.ng hF ?_) (by decide)
  refine ⟨⟨po, pe, pc⟩, fun a' q => by cases q; exact ⟨po, pe, pd⟩, ?_⟩
  refine callWith_method1 (args_cons (ld F (by rfl) (args_nil ?_))) rfl rfl
  refine match_wp P1 (text_ok h1 h2 h3) (by omega) ?_
  have hbt : b.toList = lineStart ++ m ++ [41, 41] := h1
  have F2 := (F.push (spanTup m.length)).push (matObj pa h₁.objs.size b t (20 + m.length))
  have ksz : (h₁.push (spanTup m.length)).objs.size = h₁.objs.size + 1 := Heap.size_push _ _
  have hT2 : ((h₁.push (spanTup m.length)).push (matObj pa h₁.objs.size b t (20 + m.length))).get? h₁.objs.size = some (spanTup m.length) := Heap.get?_push_of_some _ (Heap.get?_push_size _ rfl)
  have hM2 : ((h₁.push (spanTup m.length)).push (matObj pa h₁.objs.size b t (20 + m.length))).get? (h₁.objs.size + 1) = some (matObj pa h₁.objs.size b t (20 + m.length)) := by rw [← ksz]; exact Heap.get?_push_size _ rfl
  have k2 : KeepsH h₁ ((h₁.push (spanTup m.length)).push (matObj pa h₁.objs.size b t (20 + m.length))) := (KeepsH.push _ _).trans (KeepsH.push _ _)
  have hL : s.heap.objs.size < h₁.objs.size := F.ns.lt
  generalize ((h₁.push (spanTup m.length)).push (matObj pa h₁.objs.size b t (20 + m.length))) = h2 at hT2 hM2 k2 F2 ⊢
  refine wpAny_storeName_local rfl F2.ns (fun h3 hn3 hs3 => ?_) rfl
  have kb : ∀ x ob, x ≠ s.heap.objs.size → h2.get? x = some ob → h3.get? x = some ob := fun x ob hx q => (hs3.2 x hx).trans q
  have k3 : KeepsH s.heap h3 := fun x ob q => kb x ob (Nat.ne_of_lt (Heap.lt_size q)) (F2.keep x ob q)
  have F3 : Fr s.heap s.heap.objs.size h3 (fun y => if y = Str.ofString "mo" then some (.ref (h₁.objs.size + 1)) else [(Str.ofString "resp", Value.bytes b t)].reverse.lookup y) := ⟨hn3, k3, Nat.le_refl _⟩
  have hT3 : h3.get? h₁.objs.size = some (spanTup m.length) := kb _ _ (Nat.ne_of_gt hL) hT2
  have hM3 : h3.get? (h₁.objs.size + 1) = some (matObj pa h₁.objs.size b t (20 + m.length)) := kb _ _ (Nat.ne_of_gt (Nat.lt_succ_of_lt hL)) hM2
  have P3 := hP.keeps (k.trans k3)
  have B3 := B.keeps (k.trans k3)
  refine wpAny_execs_cons (wpAny_If (wpAny_isTrue_Not (isTrue_plain (ld F3 (by rfl) (truthy_mat hM3 rfl ?_)))))
  refine wpAny_execs_nil ?_
  refine wpAny_execs_cons (wpAny_Return_some (wpAny_Call_NameR (Name_function_global rfl rfl (loadGlobal_builtin B3.ng ht1 B3.nb ht2 ?_) (by decide))))
  refine PyProof.Rows.callWith_type1 (args_cons ?_ rfl) rfl rfl
  refine wpAny_Call_method rfl rfl rfl PySem.W.FB.plainAttrs_bytes slot_bytes_split ty_bytes_split ?_
  refine wpAny_Call_method rfl rfl rfl pa_mat slot_mat_group ty_mat_group ?_
  refine ld F3 (by rfl) ?_
  refine ⟨⟨_, hM3, rfl⟩, fun a' q => by cases q; exact ⟨_, hM3, rfl⟩, ?_⟩
  refine callWith_method1 (args_cons (wpAny_Constant_str (args_nil ?_)) rfl) rfl rfl
  refine wpAny_with_toks (Nat.le_refl _) (group_wp P3 hM3 hT3 (by omega) fun t' tk le => ?_)
  rw [text_cut hbt]
  refine ⟨PySem.W.typeIs_bytes _ _ _, (fun a' q => nomatch q), ?_⟩
  have L3 : Ok O h3 tk := ⟨L.live.keeps k3, L.tb.le (Nat.le_trans ?_ le)⟩
  · refine callWith_method0 ?_
    have hms : m.toArray.size = m.length := by simp
    refine split_wp (s := { s with heap := h3, toks := tk }) (by omega) L3 fun lv h4 tk4 G4 a4 r4 => args_nil ?_
    have htl : m.toArray.toList = m := by simp
    rw [hms, htl] at r4
    obtain ⟨la, its, rfl, nol, hla, rla⟩ := r4
    have hwl := (words_len (m.length + 1) (m.length + 1) m).2
    have hsz4 : its.size ≤ 201 := by have := rla.size; rw [List.length_map] at this; omega
    refine call_tuple_list hla (fun h5 k5 => ?_) (by rw [sizeLine_eq]; omega)
    have L4 : Ok G4 h4 tk4 := a4.ok L3
    have L5 : LiveO G4 h5 := L4.live.keeps k5
    refine D _ _ tk4 G4 ⟨a4.own, a4.ext, ((k3.trans a4.kp).trans k5).trans (KeepsH.push _ _), a4.tb⟩ ?_
    have := rep_newTup (vs := its.toList) L5 (rla.keeps k5)
    simpa using this
  · show s.toks ≤ _
    simp only
    omega
end Mine
namespace Mine
open PySem PySem.Calls PyProof.Rows

/-- a frame with cells and one name given, with its token -/
theorem newEnv_cells1 {M : Model} {A : Around} {E : Value → Shared → Prop} {s : Shared} {scope : Scope} {globals : Addr} {n : Str} {v : Value} {qual : Str} {func : Option Addr} {code : Value} {builtins : Addr} {Q : Env → Shared → Prop} (hk : scope.kind = .function)
    (hloc : scope.names.lookup n = some .local)
    (hQ : ∀ env, env = newEnv scope s.heap.objs.size globals (cellsFrom (s.heap.objs.size + 1) scope.names []) qual func code none builtins → ∀ h₁, h₁.Ns env.locals (fun y => if y = n then some v else none) → KeepsH s.heap h₁ →
      (∀ x c, env.cells.lookup x = some c → h₁.IsCell c none ∧ s.heap.objs.size + 1 ≤ c) → Q env { s with heap := h₁, toks := s.toks + 1 }) :
    wpAny M A (newFunctionEnv scope globals [] [(n, v)] qual func code none builtins) Q E s := by
  simp only [newFunctionEnv, Option.isSome_none, Bool.false_eq_true, if_false]
  refine wpAny_bind (wpAny_alloc ?_)
  refine wpAny_bind (wpAny_layCells _ (fun name kind cells => by cases hkc : kind == NameKind.cell <;> simp [hkc]) _ _ _ _ ?_)
  have hz : (s.heap.push { cls := .type "frame", data := .dict #[] }).objs.size = s.heap.objs.size + 1 := Heap.size_push _ _
  have ok := cellsFrom_ok scope.names (s.heap.push { cls := .type "frame", data := .dict #[] }) (s.heap.objs.size + 1) [] ⟨fun _ _ hm => (nomatch hm), List.Pairwise.nil⟩ (by rw [hz]; exact Nat.le_refl _)
  rw [hz] at ok
  rw [show ({ s with heap := s.heap.push { cls := .type "frame", data := .dict #[] } } : Shared).heap.objs.size = s.heap.objs.size + 1 from hz]
  rw [List.forIn_cons]
  have kp : KeepsH (s.heap.push { cls := .type "frame", data := .dict #[] }) (pushCells (s.heap.push { cls := .type "frame", data := .dict #[] }) scope.names) := pushCells_keeps _ _
  refine wpAny_bind (wpAny_bind (wpAny_bind (wpAny_storeName_local (env := newEnv scope s.heap.objs.size globals (cellsFrom (s.heap.objs.size + 1) scope.names []) qual func code none builtins) hloc ((Heap.Ns.new s.heap (.type "frame")).keeps kp) (fun h' hn hs => ?_) (by show (scope.kind == ScopeKind.class || (scope.kind == ScopeKind.module && s.heap.objs.size != globals)) = false; rw [hk]; rfl))))
  refine wpAny_pure (wpAny_pure (wpAny_pure ?_))
  refine hQ _ rfl h' hn (fun b o q => ?_) fun x c hc => ?_
  · exact (hs.2 b (Nat.ne_of_lt (Heap.lt_size q))).trans (kp b o (Heap.get?_push_of_some _ q))
  · have := ok.empty x c (mem_of_lookup hc)
    exact ⟨this.1.sameBut hs (Nat.ne_of_gt this.2), this.2⟩

/-! the law's own call -/
theorem law_sound {prog : Program} {w : World} {fa : Nat → Addr} {mg mb : Str → Option Value} {s : Shared} (B : Base (mkC prog w fullΦ fa mg mb) s.heap) (hlim : s.heap.NoLimit) {a l : Addr} {o : Obj} {pm cd doc : Value}
    (ho : s.heap.get? a = some o) (hd : o.data = .func (docDef flaw.name flaw.params flaw.body flaw.scope pm cd doc)) (hcd : s.heap.CodeRec cd flaw.name) {its : Array Value} {ns : List Int} (hl : s.heap.IsList l its) (hi : IntsAre its.toList ns) {v : V}
    (e : runF fullΦ flaw [.lst (ns.map .int)] = some v) (A : Around) (Q : Value → Shared → Prop) (E : Value → Shared → Prop) (R : Room A 9) (D : ∀ O val h' tk', KeepsH s.heap h' → Rep O h' v val → Q val { s with heap := h', toks := tk' }) :
    wpAny (model prog w) A (call (.ref a) [.ref l]) Q E s := by
  unfold runF at e
  split at e
  case isFalse => cases e
  split at e
  case h_2 => cases e
  rename_i v' hx
  cases e
  let c := mkC prog w fullΦ fa mg mb
  let O : Gh := ⟨fun _ => False, fun _ => none⟩
  have rl : Rep O s.heap (.lst (ns.map .int)) (.ref l) := ⟨l, its, rfl, fun z => z, hl, repL_ints hi⟩
  refine wpAny_call ?_
  refine codeAny_call_function (body := flaw.body) (by have := R.dp; show A.depth < 1000; omega) ho hd rfl rfl rfl hcd ?_
  refine wpAny_of_eq (a := [(Str.ofString "script", Value.ref l)]) rfl ?_
  refine newEnv_cells1 rfl rfl fun env henv h₁ hns hk hcells => ?_
  have hL : env.locals = s.heap.objs.size := by rw [henv]; rfl
  have hsc : env.scope = flaw.scope := by rw [henv]; rfl
  have hce : env.cells = cellsFrom (s.heap.objs.size + 1) flaw.scope.names [] := by rw [henv]; rfl
  refine ⟨hlim.keeps hk, codeAny_func ?_⟩
  have kl : ∀ i, i < flawNm.length → i ≠ 10 → i ≠ 18 → flaw.scope.names.lookup (nmAt flawNm i) = some .local := by decide +kernel
  have kc : ∀ i, i = 10 ∨ i = 18 → flaw.scope.names.lookup (nmAt flawNm i) = some .cell ∧ ((cellsFrom (s.heap.objs.size + 1) flaw.scope.names []).lookup (nmAt flawNm i)).isSome = true := fun i h => by
    rcases h with rfl | rfl <;> exact ⟨by rfl, by rfl⟩
  have kind : ∀ i, i < flawNm.length → env.kindOf (nmAt flawNm i) = some .cell → i = 10 ∨ i = 18 := fun i hi kd => by
    by_cases h1 : i = 10
    · exact .inl h1
    · by_cases h2 : i = 18
      · exact .inr h2
      · have kd' : env.scope.names.lookup (nmAt flawNm i) = some .cell := kd
        rw [hsc, kl i hi h1 h2] at kd'; cases kd'
  have hnd : flawNm.Nodup := by decide +kernel
  have above : ∀ i cc, env.cells.lookup (nmAt flawNm i) = some cc → s.heap.objs.size < cc := fun i cc h => (hcells _ _ h).2
  have W : FWf env flawNm s.heap := {
    kind := by rw [hsc]; rfl
    glob := by rw [henv]; rfl
    blt := by rw [henv]; rfl
    kinds := fun i hi => by
      by_cases h : i = 10 ∨ i = 18
      · refine .inr ⟨by show env.scope.names.lookup _ = _; rw [hsc]; exact (kc i h).1, ?_⟩
        have := (kc i h).2
        rw [← hce] at this
        exact Option.isSome_iff_exists.mp this
      · exact .inl (by show env.scope.names.lookup _ = _; rw [hsc]; exact kl i hi (fun q => h (.inl q)) (fun q => h (.inr q)))
    inj := fun i j hi hj q => nodup_nm hnd hi hj q
    dbg := by
      have : ∀ i, i < flawNm.length → (nmAt flawNm i == ("__debug__" : Str)) = false := by decide +kernel
      exact this
    apart := fun i j cc hi hj ki kj ei ej => by
      rcases kind i hi ki with rfl | rfl <;> rcases kind j hj kj with rfl | rfl
      · rfl
      · rw [hce] at ei ej
        exfalso
        have e1 : (cellsFrom (s.heap.objs.size + 1) flaw.scope.names []).lookup (nmAt flawNm 10) ≠ (cellsFrom (s.heap.objs.size + 1) flaw.scope.names []).lookup (nmAt flawNm 18) := by
          intro q
          have q' : some (s.heap.objs.size + 1) = some (s.heap.objs.size + 1 + 1) ∨ some (s.heap.objs.size + 1 + 1) = some (s.heap.objs.size + 1) := by
            first
              | exact .inl q
              | exact .inr q
          rcases q' with q' | q' <;> exact absurd (Option.some.inj q') (by simp)
        exact e1 (ei.trans ej.symm)
      · rw [hce] at ei ej
        exfalso
        have e1 : (cellsFrom (s.heap.objs.size + 1) flaw.scope.names []).lookup (nmAt flawNm 10) ≠ (cellsFrom (s.heap.objs.size + 1) flaw.scope.names []).lookup (nmAt flawNm 18) := by
          intro q
          have q' : some (s.heap.objs.size + 1) = some (s.heap.objs.size + 1 + 1) ∨ some (s.heap.objs.size + 1 + 1) = some (s.heap.objs.size + 1) := by
            first
              | exact .inl q
              | exact .inr q
          rcases q' with q' | q' <;> exact absurd (Option.some.inj q') (by simp)
        exact e1 (ej.trans ei.symm)
      · rfl
    newL := by rw [hL]; exact none_of_ge (.refl _) (Nat.le_refl _) }
  have R1 : Fr1 c flaw.scope flawNm 8 env s.heap (A.deeper env) := ⟨W, hsc, R.deeper, B⟩
  have RS : FrS c flaw.scope flawNm 8 env s.heap (A.deeper env) := ⟨R1, fun i cc hi kd ec => none_of_ge (.refl _) (Nat.le_of_lt (above i cc ec))⟩
  have A1 : Adv O s.heap O h₁ (s.toks + 1) := ⟨rfl, fun _ _ q => q, hk, Nat.succ_pos _, fun _ _ h => nomatch h⟩
  have F1 : FInv env flawNm s.heap O (flaw.start [.lst (ns.map .int)]).vs h₁ (s.toks + 1) := {
    keep := hk
    len := by
      simp only [Fn.start, List.length_append, List.length_map, List.length_replicate, List.length_cons, List.length_nil]
      exact (by decide : 0 + 1 + (flaw.nm.length - flaw.k) ≤ flawNm.length)
    ok := ⟨fun _ h => h.elim, A1.tb⟩
    ns := ⟨_, hns, fun i x kn _ => by
      have hx := start_known kn
      have hi : i = 0 := by
        have := (List.getElem?_eq_some_iff.mp hx).1
        simpa using this
      subst hi
      have ex : V.lst (ns.map .int) = x := by simpa using hx
      subst ex
      refine ⟨.ref l, ?_, Rep.stab A1.stab _ _ rl⟩
      rfl⟩
    cell := fun i cc hi kd ec => ⟨_, (hcells _ _ ec).1, fun x kn => by
      have hx := start_known kn
      have hi : i = 0 := by
        have := (List.getElem?_eq_some_iff.mp hx).1
        simpa using this
      subst hi
      rcases kind 0 (by decide) kd with q | q <;> cases q⟩ }
  have I1 : SInv env flawNm s.heap O O (flaw.start [.lst (ns.map .int)]) h₁ (s.toks + 1) := ⟨F1, fun _ => rfl, fun i l q => nomatch q⟩
  rw [← body_law]
  refine exSs_sound c flawCode flaw.scope flawNm 8 (wf_law prog w fullΦ fa mg mb) _ s.heap _ O O { s with heap := h₁, toks := s.toks + 1 } (flaw.start [.lst (ns.map .int)]) (.ret v) _ _ RS I1 hx ?_
  exact fun val h' tk' G' ow ext kp tb rep => D G' val h' tk' kp rep
end Mine
namespace Mine
open PySem PySem.Calls PyProof.Rows

noncomputable def FunAt (g : Heap) (F : Fn) (a : Addr) : Prop := ∃ o pm cd doc, g.get? a = some o ∧ o.data = .func (docDef F.name F.params F.body F.scope pm cd doc) ∧ g.CodeRec cd F.name
noncomputable def fnOf : Nat → Fn
  | 0 => frgbtoyiq | 1 => fyiqtorgb | 2 => fInt2AP | 3 => fparse | 4 => fISNONTERMINAL | 5 => flawtells | 6 => flawcolours | 7 => flawlimits | 8 => flawallowed | 9 => flawnumber | _ => flawhighest
structure Facts (prog : Program) (w : World) (g : Heap) (mg mb : Str → Option Value) (fa : Nat → Addr) (pa : Addr) : Prop where
  ng : g.Ns mainGlobals mg
  nb : g.Ns builtinsNs mb
  nolimit : g.NoLimit
  names : ∀ f x, fnNames[f]? = some x → mg x = some (.ref (fa f)) ∧ FunAt g (fnOf f) (fa f)
  con : ∃ t, mg (Str.ofString "NT_OFFSET") = some (.int 256 t)
  blt : ∀ f : BF, mg f.name = none ∧ mb f.name = some f.val
  flags : mg (Str.ofString "Flags") = some (.ref pa)
  pat : PatOk prog w g pa
  tup : mg (Str.ofString "tuple") = none ∧ mb (Str.ofString "tuple") = some (.type "tuple")

section
variable {prog : Program} {w : World} {g : Heap} {mg mb : Str → Option Value} {fa : Nat → Addr} {pa : Addr}
theorem base_of (X : Facts prog w g mg mb fa pa) (Φ : Nat → List V → Option V)
    (h : ∀ f x vs v, fnNames[f]? = some x → Φ f vs = some v → ∀ (A : Around) (s : Shared) (O : Gh) (vals : List Value) (Q : Value → Shared → Prop) (E : Value → Shared → Prop),
      Room A (rkF f) → KeepsH g s.heap → Ok O s.heap s.toks → RepL O s.heap vs vals → Done O s v Q → wpAny (model prog w) A (call (.ref (fa f)) vals) Q E s) : Base (mkC prog w Φ fa mg mb) g where
  ng := X.ng
  nb := X.nb
  fn := fun f x hx => by
    obtain ⟨h1, o, pm, cd, doc, h2, h3, _⟩ := X.names f x hx
    exact ⟨h1, o, _, h2, h3⟩
  con := fun x i hx => by
    have hx' : theConsts.lookup x = some i := hx
    unfold theConsts at hx'
    cases q : x == Str.ofString "NT_OFFSET" with
    | true =>
      rw [List.lookup_cons, q] at hx'
      cases hx'
      rw [eq_of_beq q]
      exact X.con
    | false => rw [List.lookup_cons, q] at hx'; cases hx'
  blt := X.blt
  call := h

theorem base_no (X : Facts prog w g mg mb fa pa) : Base (mkC prog w noΦ fa mg mb) g := base_of X noΦ fun _ _ _ _ _ e => nomatch e
theorem one {n : Nat} {F : Fn} {f : Nat} {x : Str} {Φ : Nat → List V → Option V} (X : Facts prog w g mg mb fa pa) (B : Base (mkC prog w Φ fa mg mb) g) (ok : FnOk (mkC prog w Φ fa mg mb) F n) (hF : fnOf f = F) (hx : fnNames[f]? = some x) (hr : rkF f = n + 1) {vs : List V} {v : V}
    (e : runF Φ F vs = some v) (A : Around) (s : Shared) (O : Gh) (vals : List Value) (Q : Value → Shared → Prop) (E : Value → Shared → Prop) (R : Room A (rkF f)) (k : KeepsH g s.heap) (L : Ok O s.heap s.toks) (r : RepL O s.heap vs vals) (D : Done O s v Q) :
    wpAny (model prog w) A (call (.ref (fa f)) vals) Q E s := by
  obtain ⟨_, o, pm, cd, doc, h2, h3, h4⟩ := X.names f x hx
  rw [hF] at h3 h4
  rw [hr] at R
  exact fun_sound ok B X.nolimit h2 h3 h4 e A s O vals Q E R k L r D
theorem base_leaf (X : Facts prog w g mg mb fa pa) : Base (mkC prog w leafΦ fa mg mb) g := by
  have B0 := base_no X
  refine base_of X leafΦ fun f x vs v hx e => ?_
  match f, hx, e with
  | 0, hx, e => exact one X B0 (ok_rgb ..) rfl hx rfl e
  | 1, hx, e => exact one X B0 (ok_yiq ..) rfl hx rfl e
  | 2, hx, e => exact one X B0 (ok_i2a ..) rfl hx rfl e
  | 3, hx, e =>
    intro A s O vals Q E R k L r D
    obtain ⟨_, o, pm, cd, doc, h2, h3, h4⟩ := X.names 3 x hx
    exact pf_sound B0 X.nolimit h2 h3 h4 X.flags X.pat X.tup.1 X.tup.2 e A s O vals Q E (R.le (by decide)) k L r D
  | 4, hx, e => exact one X B0 (ok_non ..) rfl hx rfl e
  | 5, hx, e => exact one X B0 (ok_tells ..) rfl hx rfl e
  | 6, hx, e => cases e
  | 7, hx, e => exact one X B0 (ok_limits ..) rfl hx rfl e
  | 8, hx, e => exact one X B0 (ok_allowed ..) rfl hx rfl e
  | 9, hx, e => exact one X B0 (ok_number ..) rfl hx rfl e
  | 10, hx, e => exact one X B0 (ok_highest ..) rfl hx rfl e
  | n + 11, hx, e => cases e
theorem base_full (X : Facts prog w g mg mb fa pa) : Base (mkC prog w fullΦ fa mg mb) g := by
  have B1 := base_leaf X
  refine base_of X fullΦ fun f x vs v hx e => ?_
  unfold fullΦ at e
  split at e
  · rename_i h6
    subst h6
    exact one X B1 (ok_colours ..) rfl hx rfl e
  · exact B1.call f x vs v hx e
end

/-- the law from the facts -/
theorem law_runs {prog : Program} {w : World} {mg mb : Str → Option Value} {fa : Nat → Addr} {pa : Addr} {s : Shared} (X : Facts prog w s.heap mg mb fa pa) {a l : Addr} (hf : FunAt s.heap flaw a) {its : Array Value} {ns : List Int} (hl : s.heap.IsList l its) (hi : IntsAre its.toList ns)
    (e : runLaw ns = some (.boo true)) (A : Around) (Q : Value → Shared → Prop) (E : Value → Shared → Prop) (R : Room A 9) (D : ∀ h' tk', KeepsH s.heap h' → Q (.bool true) { s with heap := h', toks := tk' }) : wpAny (model prog w) A (call (.ref a) [.ref l]) Q E s := by
  obtain ⟨o, pm, cd, doc, h2, h3, h4⟩ := hf
  refine law_sound (base_full X) X.nolimit h2 h3 h4 hl hi e A Q E R fun O val h' tk' k rep => ?_
  cases rep
  exact D h' tk' k
end Mine
namespace Mine
open PySem PySem.W PyProof.Rows
theorem post_ok (args ds : List WData) : PySem.Challenge.rw_tp0001_01.row.claim.post args (.bool true) ds = true := by
  unfold RowW.claim
  dsimp only
  rw [Bool.and_eq_true]
  constructor
  · show WShape.has [] (.bool true) .bool = true
    first | rfl | decide | simp [WShape.has, WShape.arms]
  · show WTm.holds [] (.eq .res (.lit (.bool true))) { args := args, res := some (.bool true), after := ds } = true
    unfold WTm.holds
    have hs : PySem.W.same (WData.bool true) (WData.bool true) = true := by first | rfl | decide | simp [PySem.W.same]
    simp only [WTm.value, hs]
theorem keys_ok (prog : Program) (w : World) (t u : Tok) : KeysOf (PySem.strKind prog w) #[{ hash := PyData.keyHash w.params (Str.ofString "flags"), key := Value.str (Str.ofString "flags") t, val := Value.int 1 u }] := by
  intro e he
  have : e = { hash := PyData.keyHash w.params (Str.ofString "flags"), key := Value.str (Str.ofString "flags") t, val := Value.int 1 u } := by simpa using he
  subst this
  exact ⟨Str.ofString "flags", by rfl, rfl⟩
noncomputable def faOf : Nat → Addr
  | 0 => 38 | 1 => 45 | 2 => 57 | 3 => 64 | 4 => 71 | 5 => 78 | 6 => 85 | 7 => 92 | 8 => 99 | 9 => 106 | _ => 113
theorem room0 : Room callerA 9 := ⟨rfl, by decide, by decide⟩
end Mine
open PySem PySem.W PyProof.Rows
set_option maxHeartbeats 8000000 in
theorem PySem.Challenge.cw_tp0001_01_holds : PySem.Challenge.rw_tp0001_01.Holds := by
  w_on
  o_law
  k_head
  (case hw => w_witness2)
  w_strict (
  k_fill
  intro w s₀ s₁ mg mb G Y fa o pm cd doc dV kV ho hd hcd hD hmg hg args vals as hpre hlay hrd hwl hlo
  have KX := kIn_of Y
  refine Ground.open G ?_
  intro T B D TE TW
  wrow_args hpre hlay hrd hwl hlo
  have e118 : mg (Str.ofString "law") = some (.ref 118) := mg_of KX T.g rfl
  have hfa : fa = 118 := by
    have h1 : mg (Str.ofString "law") = some (.ref fa) := hmg
    rw [e118] at h1
    injection h1 with h1
    injection h1 with h1
    exact h1.symm
  refine Mine.law_runs (mg := mg) (mb := mb) (fa := Mine.faOf) (pa := 50) ?X ?hf (by assumption) (by assumption) (Mine.lawTrue _ (by omega)) callerA _ _ Mine.room0 ?D
  case hf =>
    rw [hfa]
    exact ⟨_, _, _, _, KX 118 _ rfl, rfl, _, _, _, _, rfl, KX 117 _ rfl, rfl, rfl⟩
  case D =>
    intro h' tk' k
    refine GoodW.toG ⟨.inl ⟨_, .bool true, [], rfl, ?_, ?_, ?_, ?_⟩, k, rfl, hg⟩
    · intro c; rfl
    · first | exact .bool _ | constructor
    · exact Mine.post_ok _ _
    · intro _; exact ⟨List.nodup_nil, fun a ha => nomatch ha⟩
  case X =>
    refine ⟨T.g, T.b, T.nolimit, ?_, ?_, ?_, mg_of KX T.g rfl, ?_, ?_⟩
    · intro f x hx
      match f, hx with
      | 0, hx => cases hx; exact ⟨mg_of KX T.g rfl, _, _, _, _, KX 38 _ rfl, rfl, _, _, _, _, rfl, KX 37 _ rfl, rfl, rfl⟩
      | 1, hx => cases hx; exact ⟨mg_of KX T.g rfl, _, _, _, _, KX 45 _ rfl, rfl, _, _, _, _, rfl, KX 44 _ rfl, rfl, rfl⟩
      | 2, hx => cases hx; exact ⟨mg_of KX T.g rfl, _, _, _, _, KX 57 _ rfl, rfl, _, _, _, _, rfl, KX 56 _ rfl, rfl, rfl⟩
      | 3, hx => cases hx; exact ⟨mg_of KX T.g rfl, _, _, _, _, KX 64 _ rfl, rfl, _, _, _, _, rfl, KX 63 _ rfl, rfl, rfl⟩
      | 4, hx => cases hx; exact ⟨mg_of KX T.g rfl, _, _, _, _, KX 71 _ rfl, rfl, _, _, _, _, rfl, KX 70 _ rfl, rfl, rfl⟩
      | 5, hx => cases hx; exact ⟨mg_of KX T.g rfl, _, _, _, _, KX 78 _ rfl, rfl, _, _, _, _, rfl, KX 77 _ rfl, rfl, rfl⟩
      | 6, hx => cases hx; exact ⟨mg_of KX T.g rfl, _, _, _, _, KX 85 _ rfl, rfl, _, _, _, _, rfl, KX 84 _ rfl, rfl, rfl⟩
      | 7, hx => cases hx; exact ⟨mg_of KX T.g rfl, _, _, _, _, KX 92 _ rfl, rfl, _, _, _, _, rfl, KX 91 _ rfl, rfl, rfl⟩
      | 8, hx => cases hx; exact ⟨mg_of KX T.g rfl, _, _, _, _, KX 99 _ rfl, rfl, _, _, _, _, rfl, KX 98 _ rfl, rfl, rfl⟩
      | 9, hx => cases hx; exact ⟨mg_of KX T.g rfl, _, _, _, _, KX 106 _ rfl, rfl, _, _, _, _, rfl, KX 105 _ rfl, rfl, rfl⟩
      | 10, hx => cases hx; exact ⟨mg_of KX T.g rfl, _, _, _, _, KX 113 _ rfl, rfl, _, _, _, _, rfl, KX 112 _ rfl, rfl, rfl⟩
      | n + 11, hx => cases hx
    · exact ⟨_, mg_of KX T.g rfl⟩
    · intro f
      cases f <;> exact ⟨mg_none_of KX T.g rfl, by rw [T.builtins _ (by decide)]; rfl⟩
    · refine ⟨_, _, KX 50 _ rfl, rfl, rfl, rfl, rfl, rfl, ⟨49, _, _, _, rfl, KX 49 _ rfl, rfl, by decide +kernel⟩, 47, _, _, rfl, ⟨_, _, _, KX 47 _ rfl, ⟨rfl, rfl, rfl⟩, rfl, ?_, fun k => rfl⟩, rfl⟩
      exact Mine.keys_ok _ _ _ _
    · exact ⟨mg_none_of KX T.g rfl, by rw [T.builtins _ (by decide)]; rfl⟩
    )
