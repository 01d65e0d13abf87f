import PyProof.Rows.All
import Wide.All
import OpenK.AllK
import Wide.FinOn
import Lean
import PySem.Challenge.RW_pg0164_01
set_option Elab.async false
set_option bootstrap.genMatcherCode false
section
open PySem PySem.W PyProof.Rows
namespace Mine

/-- plain data, by value -/
inductive D where
  | none
  | bool (b : Bool)
  | int (i : Int)
  | str (s : Str)
  | tup (l : List D)
  | list (l : List D)
  | dict (l : List (Int × D))

section
variable (prog : Program) (w : World)
mutual
/-- the heap h bears the datum at the value, and no address of μ is met on the way -/
inductive Rep (h : Heap) (μ : List Addr) : Value → D → Prop
  | none : Rep h μ .none .none
  | bool (b : Bool) : Rep h μ (.bool b) (.bool b)
  | int (i : Int) (t : Tok) : Rep h μ (.int i t) (.int i)
  | str (x : Str) (t : Tok) : Rep h μ (.str x t) (.str x)
  | tup {a : Addr} {vs : Array Value} {ds : List D} : h.IsTuple a vs → a ∉ μ → Reps h μ vs.toList ds → Rep h μ (.ref a) (.tup ds)
  | list {a : Addr} {vs : Array Value} {ds : List D} : h.PlainList a vs → a ∉ μ → Reps h μ vs.toList ds → Rep h μ (.ref a) (.list ds)
  | dict {a : Addr} {kvs : List (Int × Value)} {l : List (Int × D)} : h.DictOf (intKind prog w) a kvs → a ≠ sysModules → a ∉ μ → RepEs h μ kvs l → Rep h μ (.ref a) (.dict l)
inductive Reps (h : Heap) (μ : List Addr) : List Value → List D → Prop
  | nil : Reps h μ [] []
  | cons {v : Value} {vs : List Value} {d : D} {ds : List D} : Rep h μ v d → Reps h μ vs ds → Reps h μ (v :: vs) (d :: ds)
inductive RepEs (h : Heap) (μ : List Addr) : List (Int × Value) → List (Int × D) → Prop
  | nil : RepEs h μ [] []
  | cons {k : Int} {v : Value} {vs : List (Int × Value)} {d : D} {ds : List (Int × D)} : Rep h μ v d → RepEs h μ vs ds → RepEs h μ ((k, v) :: vs) ((k, d) :: ds)
end
end

section
variable {prog : Program} {w : World}

theorem isTuple_at {h h' : Heap} {a : Addr} {vs : Array Value} (x : h.IsTuple a vs) (e : ∀ o, h.get? a = some o → h'.get? a = some o) : h'.IsTuple a vs := let ⟨o, ho, r⟩ := x; ⟨o, e _ ho, r⟩
theorem isList_at {h h' : Heap} {a : Addr} {vs : Array Value} (x : h.IsList a vs) (e : ∀ o, h.get? a = some o → h'.get? a = some o) : h'.IsList a vs := let ⟨o, ho, r⟩ := x; ⟨o, e _ ho, r⟩
theorem dictOf_at {K : Type} [DecidableEq K] {knd : KeyKind prog w K} {h h' : Heap} {a : Addr} {kvs : List (K × Value)} (x : h.DictOf knd a kvs) (e : ∀ o, h.get? a = some o → h'.get? a = some o) : h'.DictOf knd a kvs := let ⟨o, es, ep, ho, r⟩ := x; ⟨o, es, ep, e _ ho, r⟩
theorem isTuple_get {h : Heap} {a : Addr} {vs : Array Value} (x : h.IsTuple a vs) : ∃ o, h.get? a = some o := let ⟨o, ho, _⟩ := x; ⟨o, ho⟩
theorem plainList_get {h : Heap} {a : Addr} {vs : Array Value} (x : h.PlainList a vs) : ∃ o, h.get? a = some o := let ⟨_, ho⟩ := x; ⟨_, ho⟩
theorem isList_get {h : Heap} {a : Addr} {vs : Array Value} (x : h.IsList a vs) : ∃ o, h.get? a = some o := let ⟨o, ho, _⟩ := x; ⟨o, ho⟩
theorem dictOf_get {K : Type} [DecidableEq K] {knd : KeyKind prog w K} {h : Heap} {a : Addr} {kvs : List (K × Value)} (x : h.DictOf knd a kvs) : ∃ o, h.get? a = some o := let ⟨o, _, _, ho, _⟩ := x; ⟨o, ho⟩

mutual
theorem Rep.move {h h' : Heap} {μ μ' : List Addr} (hk : ∀ a o, a ∉ μ → h.get? a = some o → h'.get? a = some o ∧ a ∉ μ') : ∀ {v : Value} {d : D}, Rep prog w h μ v d → Rep prog w h' μ' v d
  | _, _, .none => .none
  | _, _, .bool b => .bool b
  | _, _, .int i t => .int i t
  | _, _, .str x t => .str x t
  | _, _, .tup x n r => let ⟨_, ho⟩ := isTuple_get x; .tup (isTuple_at x fun o e => (hk _ o n e).1) (hk _ _ n ho).2 (Reps.move hk r)
  | _, _, .list x n r => let ⟨_, ho⟩ := plainList_get x; .list (x.at fun o e => (hk _ o n e).1) (hk _ _ n ho).2 (Reps.move hk r)
  | _, _, .dict x z n r => let ⟨_, ho⟩ := dictOf_get x; .dict (dictOf_at x fun o e => (hk _ o n e).1) z (hk _ _ n ho).2 (RepEs.move hk r)
theorem Reps.move {h h' : Heap} {μ μ' : List Addr} (hk : ∀ a o, a ∉ μ → h.get? a = some o → h'.get? a = some o ∧ a ∉ μ') : ∀ {vs : List Value} {ds : List D}, Reps prog w h μ vs ds → Reps prog w h' μ' vs ds
  | _, _, .nil => .nil
  | _, _, .cons r rs => .cons (Rep.move hk r) (Reps.move hk rs)
theorem RepEs.move {h h' : Heap} {μ μ' : List Addr} (hk : ∀ a o, a ∉ μ → h.get? a = some o → h'.get? a = some o ∧ a ∉ μ') : ∀ {vs : List (Int × Value)} {ds : List (Int × D)}, RepEs prog w h μ vs ds → RepEs prog w h' μ' vs ds
  | _, _, .nil => .nil
  | _, _, .cons r rs => .cons (Rep.move hk r) (RepEs.move hk rs)
end

theorem Rep.keep {h h' : Heap} {μ : List Addr} {v : Value} {d : D} (r : Rep prog w h μ v d) (hk : ∀ b o, h.get? b = some o → h'.get? b = some o) : Rep prog w h' μ v d := r.move fun a o n e => ⟨hk a o e, n⟩
theorem Reps.keep {h h' : Heap} {μ : List Addr} {v : List Value} {d : List D} (r : Reps prog w h μ v d) (hk : ∀ b o, h.get? b = some o → h'.get? b = some o) : Reps prog w h' μ v d := r.move fun a o n e => ⟨hk a o e, n⟩
theorem RepEs.keep {h h' : Heap} {μ : List Addr} {v : List (Int × Value)} {d : List (Int × D)} (r : RepEs prog w h μ v d) (hk : ∀ b o, h.get? b = some o → h'.get? b = some o) : RepEs prog w h' μ v d := r.move fun a o n e => ⟨hk a o e, n⟩

theorem Reps.length {h : Heap} {μ : List Addr} : ∀ {vs : List Value} {ds : List D}, Reps prog w h μ vs ds → vs.length = ds.length
  | _, _, .nil => rfl
  | _, _, .cons _ rs => congrArg (· + 1) rs.length
theorem Reps.at {h : Heap} {μ : List Addr} : ∀ {vs : List Value} {ds : List D}, Reps prog w h μ vs ds → ∀ {i : Nat} {d : D}, ds[i]? = some d → ∃ v, vs[i]? = some v ∧ Rep prog w h μ v d
  | _, _, .nil, _, _, e => by simp at e
  | _, _, .cons r rs, 0, _, e => by simp at e; subst e; exact ⟨_, rfl, r⟩
  | _, _, .cons r rs, i + 1, _, e => by simp at e; obtain ⟨v, hv, rv⟩ := rs.at e; exact ⟨v, by simpa using hv, rv⟩
theorem Reps.at' {h : Heap} {μ : List Addr} : ∀ {vs : List Value} {ds : List D}, Reps prog w h μ vs ds → ∀ {i : Nat} {v : Value}, vs[i]? = some v → ∃ d, ds[i]? = some d ∧ Rep prog w h μ v d
  | _, _, .nil, _, _, e => by simp at e
  | _, _, .cons r rs, 0, _, e => by simp at e; subst e; exact ⟨_, rfl, r⟩
  | _, _, .cons r rs, i + 1, _, e => by simp at e; obtain ⟨v, hv, rv⟩ := rs.at' e; exact ⟨v, by simpa using hv, rv⟩
theorem Reps.append {h : Heap} {μ : List Addr} {vs' : List Value} {ds' : List D} (r' : Reps prog w h μ vs' ds') : ∀ {vs : List Value} {ds : List D}, Reps prog w h μ vs ds → Reps prog w h μ (vs ++ vs') (ds ++ ds')
  | _, _, .nil => r'
  | _, _, .cons r rs => .cons r (Reps.append r' rs)
theorem Reps.snoc {h : Heap} {μ : List Addr} {vs : List Value} {ds : List D} {v : Value} {d : D} (rs : Reps prog w h μ vs ds) (r : Rep prog w h μ v d) : Reps prog w h μ (vs ++ [v]) (ds ++ [d]) := Reps.append (.cons r .nil) rs
theorem Reps.set {h : Heap} {μ : List Addr} {v : Value} {d : D} (r0 : Rep prog w h μ v d) : ∀ {vs : List Value} {ds : List D}, Reps prog w h μ vs ds → ∀ i : Nat, Reps prog w h μ (vs.set i v) (ds.set i d)
  | _, _, .nil, _ => by simpa using .nil
  | _, _, .cons r rs, 0 => .cons r0 rs
  | _, _, .cons r rs, i + 1 => .cons r (Reps.set r0 rs i)
theorem Reps.take {h : Heap} {μ : List Addr} : ∀ {vs : List Value} {ds : List D}, Reps prog w h μ vs ds → ∀ i : Nat, Reps prog w h μ (vs.take i) (ds.take i)
  | _, _, .nil, i => by simpa using .nil
  | _, _, .cons r rs, 0 => .nil
  | _, _, .cons r rs, i + 1 => .cons r (Reps.take rs i)
theorem Reps.drop {h : Heap} {μ : List Addr} : ∀ {vs : List Value} {ds : List D}, Reps prog w h μ vs ds → ∀ i : Nat, Reps prog w h μ (vs.drop i) (ds.drop i)
  | _, _, .nil, i => by simpa using .nil
  | _, _, .cons r rs, 0 => .cons r rs
  | _, _, .cons r rs, i + 1 => Reps.drop rs i

theorem RepEs.keys {h : Heap} {μ : List Addr} : ∀ {vs : List (Int × Value)} {ds : List (Int × D)}, RepEs prog w h μ vs ds → vs.map (·.1) = ds.map (·.1)
  | _, _, .nil => rfl
  | _, _, .cons _ rs => by simp [rs.keys]
theorem RepEs.length {h : Heap} {μ : List Addr} {vs : List (Int × Value)} {ds : List (Int × D)} (r : RepEs prog w h μ vs ds) : vs.length = ds.length := by
  have := congrArg List.length r.keys; simpa using this

noncomputable def dGet (l : List (Int × D)) (k : Int) : Option D := (l.find? fun kv => kv.1 = k).map (·.2)
noncomputable def dSet (l : List (Int × D)) (k : Int) (v : D) : List (Int × D) :=
  if l.any (fun kv => kv.1 = k) then l.map (fun kv => if kv.1 = k then (kv.1, v) else kv) else l ++ [(k, v)]

theorem RepEs.get {h : Heap} {μ : List Addr} : ∀ {vs : List (Int × Value)} {ds : List (Int × D)}, RepEs prog w h μ vs ds → ∀ {k : Int} {d : D}, dGet ds k = some d → ∃ v, valueAt vs k = some v ∧ Rep prog w h μ v d
  | _, _, .nil, _, _, e => by simp [dGet] at e
  | _, _, .cons (k := k') r rs, k, d, e => by
    by_cases hk : k' = k
    · subst hk; simp [dGet] at e; subst e; exact ⟨_, by simp [valueAt], r⟩
    · obtain ⟨v, hv, rv⟩ := RepEs.get rs (k := k) (d := d) (by simpa [dGet, hk] using e)
      exact ⟨v, by simpa [valueAt, hk] using hv, rv⟩
theorem RepEs.at' {h : Heap} {μ : List Addr} : ∀ {vs : List (Int × Value)} {ds : List (Int × D)}, RepEs prog w h μ vs ds → ∀ {i : Nat} {k : Int} {v : Value}, vs[i]? = some (k, v) → ∃ d, ds[i]? = some d ∧ d.1 = k ∧ Rep prog w h μ v d.2
  | _, _, .nil, _, _, _, e => by simp at e
  | _, _, .cons r rs, 0, _, _, e => by simp at e; obtain ⟨rfl, rfl⟩ := e; exact ⟨_, rfl, rfl, r⟩
  | _, _, .cons r rs, i + 1, _, _, e => by simp at e; obtain ⟨d, hd, rd⟩ := rs.at' e; exact ⟨d, by simpa using hd, rd⟩
theorem RepEs.any {h : Heap} {μ : List Addr} : ∀ {vs : List (Int × Value)} {ds : List (Int × D)}, RepEs prog w h μ vs ds → ∀ k : Int, vs.any (fun kv => kv.1 = k) = ds.any (fun kv => kv.1 = k)
  | _, _, .nil, _ => rfl
  | _, _, .cons r rs, k => by simp only [List.any_cons, RepEs.any rs k]
theorem RepEs.mapSet {h : Heap} {μ : List Addr} {v : Value} {d : D} (r0 : Rep prog w h μ v d) (k : Int) : ∀ {vs : List (Int × Value)} {ds : List (Int × D)}, RepEs prog w h μ vs ds →
    RepEs prog w h μ (vs.map (fun kv => if kv.1 = k then (kv.1, v) else kv)) (ds.map (fun kv => if kv.1 = k then (kv.1, d) else kv))
  | _, _, .nil => .nil
  | _, _, .cons (k := k') r rs => by
    simp only [List.map_cons]
    by_cases hk : k' = k
    · simp only [hk, if_true]; exact .cons r0 (RepEs.mapSet r0 k rs)
    · simp only [hk, if_false]; exact .cons r (RepEs.mapSet r0 k rs)
theorem RepEs.snoc {h : Heap} {μ : List Addr} {k : Int} {v : Value} {d : D} (r0 : Rep prog w h μ v d) : ∀ {vs : List (Int × Value)} {ds : List (Int × D)}, RepEs prog w h μ vs ds → RepEs prog w h μ (vs ++ [(k, v)]) (ds ++ [(k, d)])
  | _, _, .nil => .cons r0 .nil
  | _, _, .cons r rs => .cons r (RepEs.snoc r0 rs)
theorem RepEs.store {h : Heap} {μ : List Addr} {k : Int} {v : Value} {d : D} (r0 : Rep prog w h μ v d) {vs : List (Int × Value)} {ds : List (Int × D)} (rs : RepEs prog w h μ vs ds) : RepEs prog w h μ (stored vs k v) (dSet ds k d) := by
  unfold stored dSet
  rw [rs.any k]
  split
  · exact rs.mapSet r0 k
  · exact rs.snoc r0
end
end Mine
end
section
open PySem PySem.W PyProof.Rows
set_option genSizeOf false
set_option genInjectivity false
namespace Mine

inductive BOp | add | sub | mul | fdiv | mod | shr
inductive COp | lt | le | gt | eq | ne

mutual
inductive X where
  | int (i : Int)
  | str (s : Str)
  | none
  | bool (b : Bool)
  | var (i : Nat)
  | bor (i : Nat)
  | glob (name : Str) (i : Int)
  | bin (op : BOp) (a b : X)
  | neg (a : X)
  | ite (t : T) (a b : X)
  | orx (a b : X)
  | tup (l : Xs)
  | call (f : Nat) (l : Xs)
  | len (a : X)
  | min2 (a b : X)
  | max2 (a b : X)
  | min3 (a b c : X)
  | minL (a : X)
  | maxL (a : X)
  | sumL (a : X)
  | lower (a : X)
  | join (a b : X)
  | index (a b : X)
  | sub (a b : X)
  | from_ (a lo : X)
  | upto (a hi : X)
  | new (f : F)
inductive Xs where
  | nil
  | cons (a : X) (r : Xs)
inductive F where
  | list (l : Xs)
  | dict0
  | dict1 (k v : X)
  | comp (elt : X) (gs : Gs)
  | dcomp (k v : X) (i : Nat) (it : I)
  | range3 (a b c : X)
inductive T where
  | cmp (op : COp) (a b : X)
  | cmp2 (a : X) (op1 : COp) (b : X) (op2 : COp) (c : X)
  | and (l : Ts)
  | or (l : Ts)
  | not (t : T)
  | truth (a : X)
  | inD (a b : X)
  | isTup (a : X)
inductive Ts where
  | nil
  | cons (t : T) (r : Ts)
inductive I where
  | range1 (a : X)
  | range2 (a b : X)
  | rev (a : X)
  | seq (a : X)
  | items (a : X)
  | values (a : X)
inductive Gs where
  | nil
  | cons (i : Nat) (it : I) (ts : Ts) (r : Gs)
end

inductive S where
  | assign (i : Nat) (x : X)
  | own (i : Nat) (f : F)
  | unpack (is : List Nat) (x : X)
  | two (i j : Nat) (x : X)
  | swap (i j : Nat) (x y : X)
  | move (i j : Nat)
  | setAt (i : Nat) (k v : X)
  | aug (i : Nat) (op : BOp) (x : X)
  | augAt (i : Nat) (k : X) (op : BOp) (x : X)
  | append (i : Nat) (x : X)
  | for1 (i : Nat) (it : I) (body : List S)
  | for2 (i j : Nat) (it : I) (body : List S)
  | while (t : T) (body : List S)
  | ite (t : T) (a b : List S)
  | ret (x : X)
  | cont
  | brk
  | callIO (f i : Nat) (l : Xs)
  | stuck

abbrev Rho := List (Option D)

/-! ### the operations -/
noncomputable def big : Int := 4611686018427387904
noncomputable def small (i : Int) : Bool := decide (-big ≤ i) && decide (i ≤ big)

noncomputable def addD : D → D → Option D
  | .int a, .int b => some (.int (a + b))
  | .list a, .list b => if a.length + b.length ≤ 1000 then some (.list (a ++ b)) else none
  | _, _ => none
noncomputable def arith {α : Type} (f : Int → Int → Option α) : D → D → Option α
  | .int a, .int b => f a b
  | _, _ => none
noncomputable def binop : BOp → D → D → Option D
  | .add => addD
  | .sub => arith fun a b => some (.int (a - b))
  | .mul => arith fun a b => if small a && small b then some (.int (a * b)) else none
  | .fdiv => arith fun a b => if 0 < b ∧ b ≤ 64 then some (.int (a / b)) else none
  | .mod => arith fun a b => if 0 < b then some (.int (a % b)) else none
  | .shr => arith fun a b => if b = 1 then some (.int (a / 2)) else none

noncomputable def negD : D → Option D
  | .int a => some (.int (-a))
  | _ => none

mutual
noncomputable def same : Nat → D → D → Bool
  | _, .none, .none => true
  | _, .bool a, .bool b => a == b
  | _, .int a, .int b => a == b
  | _, .str a, .str b => a == b
  | n + 1, .tup a, .tup b => sames n a b
  | n + 1, .list a, .list b => sames n a b
  | n + 1, .dict a, .dict b => decide (a.length = b.length) && sameEs n a b
  | _, _, _ => false
noncomputable def sames : Nat → List D → List D → Bool
  | _, [], [] => true
  | n, a :: r, b :: q => same n a b && sames n r q
  | _, _, _ => false
noncomputable def sameEs : Nat → List (Int × D) → List (Int × D) → Bool
  | _, [], _ => true
  | n, (k, d) :: r, b => (match dGet b k with | some e => same n d e | none => false) && sameEs n r b
end

noncomputable def eqD : D → D → Option Bool
  | .int a, .int b => some (a == b)
  | .str a, .str b => some (a == b)
  | .list a, .list b => if a.length ≠ b.length then some false else if sames 8 a b then some true else none
  | .tup a, .tup b => if sames 8 a b then some true else none
  | _, _ => none

noncomputable def intsOf : List D → Option (List Int)
  | [] => some []
  | .int i :: r => (intsOf r).map (i :: ·)
  | _ => none

noncomputable def twoI : Option (List Int) → Option (Int × Int)
  | some [a, b] => some (a, b)
  | _ => none
noncomputable def ltL (o p : Option (List Int)) : Option Bool := (twoI o).bind fun x => (twoI p).bind fun y => some (decide (x.1 < y.1) || (decide (x.1 = y.1) && decide (x.2 < y.2)))
noncomputable def lt2 : D → D → Option Bool
  | .int a, .int b => some (decide (a < b))
  | .tup l, .tup m => ltL (intsOf l) (intsOf m)
  | _, _ => none
noncomputable def ne2 : D → D → Option Bool
  | .list _, .list _ => none
  | a, b => (eqD a b).map (!·)
noncomputable def cmpD : COp → D → D → Option Bool
  | .lt => lt2
  | .le => arith fun a b => some (decide (a ≤ b))
  | .gt => arith fun a b => some (decide (b < a))
  | .eq => eqD
  | .ne => ne2

noncomputable def truthD : D → Option Bool
  | .bool b => some b
  | .int a => some (decide (a ≠ 0))
  | .str s => if s.cps.size ≤ 1000 then some (decide (s.cps.size ≠ 0)) else none
  | .list l => if l.length ≤ 1000 then some (!l.isEmpty) else none
  | _ => none

noncomputable def lenD : D → Option D
  | .str s => if s.cps.size ≤ 1000 then some (.int s.cps.size) else none
  | .list l => if l.length ≤ 1000 then some (.int l.length) else none
  | _ => none

noncomputable def minOf : List Int → Option Int
  | [] => none
  | a :: r => some (r.foldl (fun m x => if x < m then x else m) a)
noncomputable def maxOf : List Int → Option Int
  | [] => none
  | a :: r => some (r.foldl (fun m x => if m < x then x else m) a)

noncomputable def min2D : D → D → Option D
  | .int a, .int b => some (.int (if b < a then b else a))
  | _, _ => none
noncomputable def max2D : D → D → Option D
  | .int a, .int b => some (.int (if a < b then b else a))
  | _, _ => none
noncomputable def min3D : D → D → D → Option D
  | .int a, .int b, .int c => some (.int (let m := if b < a then b else a; if c < m then c else m))
  | _, _, _ => none
noncomputable def minLD : D → Option D
  | .list l => (intsOf l).bind fun is => (minOf is).map .int
  | _ => none
noncomputable def maxLD : D → Option D
  | .list l => (intsOf l).bind fun is => (maxOf is).map .int
  | _ => none
noncomputable def sumLD : D → Option D
  | .list l => (intsOf l).map fun is => .int is.sum
  | _ => none
noncomputable def lowerD : D → Option D
  | .str s => if s.cps.toList.all (· < 128) && decide (s.cps.size ≤ 1000) then some (.str ⟨(s.cps.toList.map fun c => if 65 ≤ c ∧ c ≤ 90 then c + 32 else c).toArray⟩) else none
  | _ => none
noncomputable def strsOf : List D → Option (List Str)
  | [] => some []
  | .str i :: r => (strsOf r).map (i :: ·)
  | _ => none
noncomputable def joinD : D → D → Option D
  | .str s, .list l => if s.cps.size = 0 then (strsOf l).bind fun xs => if (xs.map (·.cps.size)).sum ≤ 1000 then some (.str ⟨(xs.flatMap (·.cps.toList)).toArray⟩) else none else none
  | _, _ => none
noncomputable def indexD : D → D → Option D
  | .list l, .int x => if l.length ≤ 1000 then (intsOf l).bind fun is => (is.findIdx? (· == x)).map fun j : Nat => D.int (j : Int) else none
  | _, _ => none

noncomputable def place (i : Int) (n : Nat) : Option Nat :=
  if n ≤ 1000 then (if 0 ≤ i then (if i < n then some i.toNat else none) else (if -(n : Int) ≤ i then some (i + n).toNat else none)) else none

noncomputable def subD : D → D → Option D
  | .list l, .int i => (place i l.length).bind fun j => l[j]?
  | .tup l, .int i => (place i l.length).bind fun j => l[j]?
  | .str s, .int i => (place i s.cps.size).bind fun j => s.cps[j]?.map fun c => .str ⟨#[c]⟩
  | .dict l, .int k => dGet l k
  | _, _ => none

noncomputable def fromD : D → D → Option D
  | .str s, .int i => if 0 ≤ i ∧ s.cps.size ≤ 1000 ∧ i ≤ 1000 then some (.str ⟨(s.cps.toList.drop i.toNat).toArray⟩) else none
  | _, _ => none
noncomputable def uptoN (n : Nat) (i : Int) : Nat := if 0 ≤ i then i.toNat else (i + n).toNat
noncomputable def uptoD : D → D → Option D
  | .str s, .none => if s.cps.size ≤ 1000 then some (.str s) else none
  | .str s, .int i => if s.cps.size ≤ 1000 ∧ -1000 ≤ i ∧ i ≤ 1000 then some (.str ⟨(s.cps.toList.take (uptoN s.cps.size i)).toArray⟩) else none
  | .list l, .int i => if 0 ≤ i ∧ i ≤ 1000 ∧ l.length ≤ 1000 then some (.list (l.take i.toNat)) else none
  | _, _ => none

noncomputable def rangeD (a : Int) (n : Nat) : List D := (List.range n).map fun k : Nat => .int (a + (k : Int))

noncomputable def flatM {α : Type} : List D → (D → Option (List α)) → Option (List α)
  | [], _ => some []
  | d :: r, f => (f d).bind fun x => (flatM r f).map (x ++ ·)

noncomputable def dictOfPairs (l : List (Int × D)) : List (Int × D) := l.foldl (fun m kv => dSet m kv.1 kv.2) []

noncomputable def keyOf : D → Option Int
  | .int i => some i
  | _ => none

noncomputable def seqD : D → Option (List D)
  | .list l => some l
  | .tup l => some l
  | .str s => if s.cps.toList.all (· < 128) then some (s.cps.toList.map fun c => .str ⟨#[c]⟩) else none
  | .dict l => some (l.map fun kv => .int kv.1)
  | _ => none
noncomputable def itemsD : D → Option (List D)
  | .dict l => some (l.map fun kv => .tup [.int kv.1, kv.2])
  | _ => none
noncomputable def valuesD : D → Option (List D)
  | .dict l => some (l.map (·.2))
  | _ => none
noncomputable def range1D : D → Option (List D)
  | .int n => if -1000 ≤ n ∧ n ≤ 1000 then some (rangeD 0 n.toNat) else none
  | _ => none
noncomputable def range2D : D → D → Option (List D)
  | .int a, .int b => if -1000 ≤ a ∧ a ≤ 1000 ∧ -1000 ≤ b ∧ b ≤ 1000 then some (rangeD a (b - a).toNat) else none
  | _, _ => none
noncomputable def revD : D → Option (List D)
  | .int n => if 0 ≤ n ∧ n ≤ 1000 then some ((rangeD 0 n.toNat).reverse) else none
  | _ => none
noncomputable def range3D : D → D → D → Option (List D)
  | .int a, .int b, .int c => if 0 ≤ a ∧ a ≤ 1000 ∧ -1000 ≤ b ∧ b ≤ 1000 ∧ c = 2 then some ((List.range ((b - a + 1) / 2).toNat).map fun k : Nat => .int (a + 2 * (k : Int))) else none
  | _, _, _ => none

noncomputable def look (ρ : Rho) (i : Nat) : Option D := (ρ[i]?).join

noncomputable def clear : Gs → Rho → Rho
  | .nil, ρ => ρ
  | .cons i _ _ r, ρ => clear r (ρ.set i Option.none)

section
variable (Φ : Nat → List D → Option D)
mutual
noncomputable def ev : X → Rho → Option D
  | .int i, _ => some (.int i)
  | .str s, _ => some (.str s)
  | .none, _ => some .none
  | .bool b, _ => some (.bool b)
  | .var i, ρ => look ρ i
  | .bor i, ρ => look ρ i
  | .glob _ i, _ => some (.int i)
  | .bin op a b, ρ => (ev a ρ).bind fun x => (ev b ρ).bind fun y => binop op x y
  | .neg a, ρ => (ev a ρ).bind negD
  | .ite t a b, ρ => (evT t ρ).bind fun c => if c then ev a ρ else ev b ρ
  | .orx a b, ρ => (ev a ρ).bind fun x => (truthD x).bind fun c => if c then some x else ev b ρ
  | .tup l, ρ => (evs l ρ).bind fun ds => if ds.length ≤ 1000 then some (.tup ds) else none
  | .call f l, ρ => (evs l ρ).bind (Φ f)
  | .len a, ρ => (ev a ρ).bind lenD
  | .min2 a b, ρ => (ev a ρ).bind fun x => (ev b ρ).bind fun y => min2D x y
  | .max2 a b, ρ => (ev a ρ).bind fun x => (ev b ρ).bind fun y => max2D x y
  | .min3 a b c, ρ => (ev a ρ).bind fun x => (ev b ρ).bind fun y => (ev c ρ).bind fun z => min3D x y z
  | .minL a, ρ => (ev a ρ).bind minLD
  | .maxL a, ρ => (ev a ρ).bind maxLD
  | .sumL a, ρ => (ev a ρ).bind sumLD
  | .lower a, ρ => (ev a ρ).bind lowerD
  | .join a b, ρ => (ev a ρ).bind fun x => (ev b ρ).bind fun y => joinD x y
  | .index a b, ρ => (ev a ρ).bind fun x => (ev b ρ).bind fun y => indexD x y
  | .sub a b, ρ => (ev a ρ).bind fun x => (ev b ρ).bind fun y => subD x y
  | .from_ a b, ρ => (ev a ρ).bind fun x => (ev b ρ).bind fun y => fromD x y
  | .upto a b, ρ => (ev a ρ).bind fun x => (ev b ρ).bind fun y => uptoD x y
  | .new f, ρ => evF f ρ
noncomputable def evs : Xs → Rho → Option (List D)
  | .nil, _ => some []
  | .cons a r, ρ => (ev a ρ).bind fun x => (evs r ρ).map (x :: ·)
noncomputable def evF : F → Rho → Option D
  | .list l, ρ => (evs l ρ).bind fun ds => if ds.length ≤ 1000 then some (.list ds) else none
  | .dict0, _ => some (.dict [])
  | .dict1 k v, ρ => (ev k ρ).bind fun x => (ev v ρ).bind fun y => (keyOf x).map fun i => .dict [(i, y)]
  | .comp elt gs, ρ => (evGs gs (clear gs ρ) ρ true fun ρ' => (ev elt ρ').map fun d => [d]).bind fun l => if l.length ≤ 1000 then some (.list l) else none
  | .dcomp k v i it, ρ => (evI it ρ).bind fun items => if items.length ≤ 1000 then (flatM items fun d => (ev k (ρ.set i (some d))).bind fun x => (ev v (ρ.set i (some d))).bind fun y => (keyOf x).map fun z => [(z, y)]).map fun l => .dict (dictOfPairs l) else none
  | .range3 a b c, ρ => (ev a ρ).bind fun x => (ev b ρ).bind fun y => (ev c ρ).bind fun z => (range3D x y z).map .list
noncomputable def evT : T → Rho → Option Bool
  | .cmp op a b, ρ => (ev a ρ).bind fun x => (ev b ρ).bind fun y => cmpD op x y
  | .cmp2 a op1 b op2 c, ρ => (ev a ρ).bind fun x => (ev b ρ).bind fun y => (cmpD op1 x y).bind fun r => if r then (ev c ρ).bind fun z => cmpD op2 y z else some false
  | .and l, ρ => evAnd l ρ
  | .or l, ρ => evOr l ρ
  | .not t, ρ => (evT t ρ).map (!·)
  | .truth a, ρ => (ev a ρ).bind truthD
  | .inD a b, ρ => (ev a ρ).bind fun x => (ev b ρ).bind fun y => (match x, y with | .int k, .dict l => some (l.any fun kv => kv.1 = k) | _, _ => Option.none)
  | .isTup a, ρ => (ev a ρ).bind fun x => (match x with | .int _ => some false | _ => Option.none)
noncomputable def evAnd : Ts → Rho → Option Bool
  | .nil, _ => some true
  | .cons t r, ρ => (evT t ρ).bind fun c => if c then evAnd r ρ else some false
noncomputable def evOr : Ts → Rho → Option Bool
  | .nil, _ => some false
  | .cons t r, ρ => (evT t ρ).bind fun c => if c then some true else evOr r ρ
noncomputable def evI : I → Rho → Option (List D)
  | .range1 a, ρ => (ev a ρ).bind range1D
  | .range2 a b, ρ => (ev a ρ).bind fun x => (ev b ρ).bind fun y => range2D x y
  | .rev a, ρ => (ev a ρ).bind revD
  | .seq a, ρ => (ev a ρ).bind seqD
  | .items a, ρ => (ev a ρ).bind itemsD
  | .values a, ρ => (ev a ρ).bind valuesD
/-- the clauses of a comprehension; the first one's source is told in the outer names (ρ0) -/
noncomputable def evGs : Gs → Rho → Rho → Bool → (Rho → Option (List D)) → Option (List D)
  | .nil, ρ, _, _, emit => emit ρ
  | .cons i it ts r, ρ, ρ0, _, emit => (evI it ρ0).bind fun items => if items.length ≤ 1000 then flatM items fun d => (evAnd ts (ρ.set i (some d))).bind fun c => if c then evGs r (ρ.set i (some d)) (ρ.set i (some d)) false emit else some [] else none
end
end

inductive Fl | next | brk | cont | ret (d : D)

/-- a while of at most so many turns -/
noncomputable def loopW (test : Rho → Option Bool) (body : Rho → Option (Fl × Rho)) : Nat → Rho → Option (Fl × Rho)
  | 0, _ => none
  | n + 1, ρ => (test ρ).bind fun c => if c then (body ρ).bind fun (f, ρ') => (match f with
      | .next | .cont => loopW test body n ρ'
      | .brk => some (.next, ρ')
      | .ret d => some (.ret d, ρ')) else some (.next, ρ)
noncomputable def loopF (bind : D → Rho → Option Rho) (body : Rho → Option (Fl × Rho)) : List D → Rho → Option (Fl × Rho)
  | [], ρ => some (.next, ρ)
  | d :: r, ρ => (bind d ρ).bind fun ρ1 => (body ρ1).bind fun (f, ρ') => (match f with
      | .next | .cont => loopF bind body r ρ'
      | .brk => some (.next, ρ')
      | .ret d => some (.ret d, ρ'))

noncomputable def setAll : List Nat → List D → Rho → Option Rho
  | [], [], ρ => some ρ
  | i :: r, d :: q, ρ => setAll r q (ρ.set i (some d))
  | _, _, _ => none
noncomputable def bind1 (i : Nat) (d : D) (ρ : Rho) : Option Rho := some (ρ.set i (some d))
noncomputable def bind2 (i j : Nat) (d : D) (ρ : Rho) : Option Rho := match d with | .tup [a, b] => some ((ρ.set i (some a)).set j (some b)) | _ => none

noncomputable def storeD : D → D → D → Option D
  | .list l, .int i, v => if 0 ≤ i ∧ i < l.length ∧ l.length ≤ 1000 then some (.list (l.set i.toNat v)) else none
  | .dict l, .int k, v => if l.length ≤ 1000 then some (.dict (dSet l k v)) else none
  | _, _, _ => none
noncomputable def appendD : D → D → Option D
  | .list l, v => if l.length ≤ 1000 then some (.list (l ++ [v])) else none
  | _, _ => none

noncomputable def turns : Nat := 64
/-- an augmented assignment, of ints alone -/
noncomputable def augD : BOp → D → D → Option D
  | .add => arith fun a b => some (.int (a + b))
  | .sub => arith fun a b => some (.int (a - b))
  | _ => fun _ _ => none

section
variable (Φ : Nat → List D → Option D) (Ψ : Nat → List D → Option D)
mutual
noncomputable def ex : S → Rho → Option (Fl × Rho)
  | .assign i x, ρ => (ev Φ x ρ).map fun d => (.next, ρ.set i (some d))
  | .own i f, ρ => (evF Φ f ρ).map fun d => (.next, ρ.set i (some d))
  | .unpack is x, ρ => (ev Φ x ρ).bind fun d => (match d with | .tup l => (setAll is l ρ).map fun ρ' => (.next, ρ') | _ => none)
  | .two i j x, ρ => (ev Φ x ρ).map fun d => (.next, (ρ.set i (some d)).set j (some d))
  | .swap i j x y, ρ => (ev Φ x ρ).bind fun a => (ev Φ y ρ).map fun b => (.next, (ρ.set i (some a)).set j (some b))
  | .move i j, ρ => (look ρ j).map fun d => (.next, (ρ.set j none).set i (some d))
  | .setAt i k v, ρ => (ev Φ v ρ).bind fun y => (look ρ i).bind fun l => (ev Φ k ρ).bind fun x => (storeD l x y).map fun l' => (.next, ρ.set i (some l'))
  | .aug i op x, ρ => (look ρ i).bind fun a => (ev Φ x ρ).bind fun b => (augD op a b).map fun d => (.next, ρ.set i (some d))
  | .augAt i k op x, ρ => (look ρ i).bind fun l => (ev Φ k ρ).bind fun kd => (subD l kd).bind fun a => (ev Φ x ρ).bind fun b => (augD op a b).bind fun d => (storeD l kd d).map fun l' => (.next, ρ.set i (some l'))
  | .append i x, ρ => (look ρ i).bind fun l => (ev Φ x ρ).bind fun d => (appendD l d).map fun l' => (.next, ρ.set i (some l'))
  | .for1 i it body, ρ => (evI Φ it ρ).bind fun items => loopF (bind1 i) (exs body) items ρ
  | .for2 i j it body, ρ => (evI Φ it ρ).bind fun items => loopF (bind2 i j) (exs body) items ρ
  | .while t body, ρ => loopW (evT Φ t) (exs body) turns ρ
  | .ite t a b, ρ => (evT Φ t ρ).bind fun c => if c then exs a ρ else exs b ρ
  | .ret x, ρ => (ev Φ x ρ).map fun d => (.ret d, ρ)
  | .cont, ρ => some (.cont, ρ)
  | .brk, ρ => some (.brk, ρ)
  | .callIO f i l, ρ => (look ρ i).bind fun h => (evs Φ l ρ).bind fun ds => (Ψ f (h :: ds)).map fun h' => (.next, ρ.set i (some h'))
  | .stuck, _ => none
noncomputable def exs : List S → Rho → Option (Fl × Rho)
  | [], ρ => some (.next, ρ)
  | s :: r, ρ => (ex s ρ).bind fun (f, ρ') => (match f with
      | .next => exs r ρ'
      | f => some (f, ρ'))
end
end

structure Fn where
  size : Nat
  params : Nat
  body : List S

/-- the run of a def: what it hands back, and its names at the end -/
noncomputable def runFn (Φ Ψ : Nat → List D → Option D) (f : Fn) (args : List D) : Option (D × Rho) :=
  if args.length = f.params then
    (exs Φ Ψ f.body (args.map some ++ List.replicate (f.size - f.params) none)).bind fun (fl, ρ) => (match fl with
      | .ret d => some (d, ρ)
      | .next => some (.none, ρ)
      | _ => none)
  else none

noncomputable def callBoth (P : Nat → Option Fn) : Nat → Nat → List D → Option (D × Rho)
  | 0, _, _ => none
  | n + 1, f, args => (P f).bind fun fn => runFn (fun g as => if 4 ≤ g then (callBoth P n g as).map (·.1) else none) (fun g as => if g < 4 then (callBoth P n g as).bind fun r => look r.2 0 else none) fn args
end Mine
end
section
open PySem PySem.W PyProof.Rows
namespace Mine

/-- heapreplace: 0 heap 1 item 2 returnitem -/
noncomputable def b_heapreplace : List S :=
  [.assign 2 (.sub (.bor 0) (.int 0)),
   .setAt 0 (.int 0) (.var 1),
   .callIO 3 0 (.cons (.int 0) (.nil)),
   .ret (.var 2)]
noncomputable def n_heapreplace : List Str := ["heap", "item", "returnitem"]
noncomputable def o_heapreplace : List Nat := [0]
noncomputable def f_heapreplace : Fn := ⟨3, 2, b_heapreplace⟩
/-- heapify: 0 x 1 n 2 i -/
noncomputable def b_heapify : List S :=
  [.assign 1 (.len (.bor 0)),
   .for1 2 (.rev (.bin .fdiv (.var 1) (.int 2)))
    [.callIO 3 0 (.cons (.var 2) (.nil))]]
noncomputable def n_heapify : List Str := ["x", "n", "i"]
noncomputable def o_heapify : List Nat := [0]
noncomputable def f_heapify : Fn := ⟨3, 1, b_heapify⟩
/-- _siftdown: 0 heap 1 startpos 2 pos 3 newitem 4 parentpos 5 parent -/
noncomputable def b_siftdown : List S :=
  [.assign 3 (.sub (.bor 0) (.var 2)),
   .while (.cmp .gt (.var 2) (.var 1))
    [.assign 4 (.bin .shr (.bin .sub (.var 2) (.int 1)) (.int 1)),
     .assign 5 (.sub (.bor 0) (.var 4)),
     .ite (.cmp .lt (.var 3) (.var 5))
      [.setAt 0 (.var 2) (.var 5),
       .assign 2 (.var 4),
       .cont]
      [],
     .brk],
   .setAt 0 (.var 2) (.var 3)]
noncomputable def n_siftdown : List Str := ["heap", "startpos", "pos", "newitem", "parentpos", "parent"]
noncomputable def o_siftdown : List Nat := [0]
noncomputable def f_siftdown : Fn := ⟨6, 3, b_siftdown⟩
/-- _siftup: 0 heap 1 pos 2 endpos 3 startpos 4 newitem 5 childpos 6 rightpos -/
noncomputable def b_siftup : List S :=
  [.assign 2 (.len (.bor 0)),
   .assign 3 (.var 1),
   .assign 4 (.sub (.bor 0) (.var 1)),
   .assign 5 (.bin .add (.bin .mul (.int 2) (.var 1)) (.int 1)),
   .while (.cmp .lt (.var 5) (.var 2))
    [.assign 6 (.bin .add (.var 5) (.int 1)),
     .ite (.and (.cons (.cmp .lt (.var 6) (.var 2)) (.cons (.not (.cmp .lt (.sub (.bor 0) (.var 5)) (.sub (.bor 0) (.var 6)))) (.nil))))
      [.assign 5 (.var 6)]
      [],
     .setAt 0 (.var 1) (.sub (.bor 0) (.var 5)),
     .assign 1 (.var 5),
     .assign 5 (.bin .add (.bin .mul (.int 2) (.var 1)) (.int 1))],
   .setAt 0 (.var 1) (.var 4),
   .callIO 2 0 (.cons (.var 3) (.cons (.var 1) (.nil)))]
noncomputable def n_siftup : List Str := ["heap", "pos", "endpos", "startpos", "newitem", "childpos", "rightpos"]
noncomputable def o_siftup : List Nat := [0]
noncomputable def f_siftup : Fn := ⟨7, 2, b_siftup⟩
/-- add_func_stats: 0 target 1 source 2 cc 3 nc 4 tt 5 ct 6 callers 7 t_cc 8 t_nc 9 t_tt 10 t_ct 11 t_callers -/
noncomputable def b_add_func_stats : List S :=
  [.unpack [2, 3, 4, 5, 6] (.var 1),
   .unpack [7, 8, 9, 10, 11] (.var 0),
   .ret (.tup (.cons (.bin .add (.var 2) (.var 7)) (.cons (.bin .add (.var 3) (.var 8)) (.cons (.bin .add (.var 4) (.var 9)) (.cons (.bin .add (.var 5) (.var 10)) (.cons (.call 5 (.cons (.var 11) (.cons (.var 6) (.nil)))) (.nil)))))))]
noncomputable def n_add_func_stats : List Str := ["target", "source", "cc", "nc", "tt", "ct", "callers", "t_cc", "t_nc", "t_tt", "t_ct", "t_callers"]
noncomputable def o_add_func_stats : List Nat := []
noncomputable def f_add_func_stats : Fn := ⟨12, 2, b_add_func_stats⟩
/-- add_callers: 0 target 1 source 2 new_callers 3 func 4 caller -/
noncomputable def b_add_callers : List S :=
  [.own 2 (.dict0),
   .for2 3 4 (.items (.var 0))
    [.setAt 2 (.var 3) (.var 4)],
   .for2 3 4 (.items (.var 1))
    [.ite (.inD (.var 3) (.bor 2))
      [.ite (.isTup (.var 4))
        [.stuck]
        [.augAt 2 (.var 3) .add (.var 4)]]
      [.setAt 2 (.var 3) (.var 4)]],
   .ret (.var 2)]
noncomputable def n_add_callers : List Str := ["target", "source", "new_callers", "func", "caller"]
noncomputable def o_add_callers : List Nat := [2]
noncomputable def f_add_callers : Fn := ⟨5, 2, b_add_callers⟩
/-- count_calls: 0 callers 1 nc 2 calls -/
noncomputable def b_count_calls : List S :=
  [.assign 1 (.int 0),
   .for1 2 (.values (.var 0))
    [.aug 1 .add (.var 2)],
   .ret (.var 1)]
noncomputable def n_count_calls : List Str := ["callers", "nc", "calls"]
noncomputable def o_count_calls : List Nat := []
noncomputable def f_count_calls : Fn := ⟨3, 1, b_count_calls⟩
/-- _substitution_cost: 0 ch_a 1 ch_b -/
noncomputable def b_substitution_cost : List S :=
  [.ite (.cmp .eq (.var 0) (.var 1))
    [.ret (.int 0)]
    [],
   .ite (.cmp .eq (.lower (.var 0)) (.lower (.var 1)))
    [.ret (.glob "_CASE_COST" 1)]
    [],
   .ret (.glob "_MOVE_COST" 2)]
noncomputable def n_substitution_cost : List Str := ["ch_a", "ch_b"]
noncomputable def o_substitution_cost : List Nat := []
noncomputable def f_substitution_cost : Fn := ⟨2, 2, b_substitution_cost⟩
/-- _levenshtein_distance: 0 a 1 b 2 max_cost 3 pre 4 post 5 row 6 result 7 bindex 8 bchar 9 distance 10 minimum 11 index 12 substitute 13 insert_delete -/
noncomputable def b_levenshtein_distance : List S :=
  [.ite (.cmp .eq (.var 0) (.var 1))
    [.ret (.int 0)]
    [],
   .assign 3 (.int 0),
   .while (.and (.cons (.truth (.from_ (.var 0) (.var 3))) (.cons (.truth (.from_ (.var 1) (.var 3))) (.cons (.cmp .eq (.sub (.var 0) (.var 3)) (.sub (.var 1) (.var 3))) (.nil)))))
    [.aug 3 .add (.int 1)],
   .assign 0 (.from_ (.var 0) (.var 3)),
   .assign 1 (.from_ (.var 1) (.var 3)),
   .assign 4 (.int 0),
   .while (.and (.cons (.truth (.upto (.var 0) (.orx (.var 4) (.none)))) (.cons (.truth (.upto (.var 1) (.orx (.var 4) (.none)))) (.cons (.cmp .eq (.sub (.var 0) (.bin .sub (.var 4) (.int 1))) (.sub (.var 1) (.bin .sub (.var 4) (.int 1)))) (.nil)))))
    [.aug 4 .sub (.int 1)],
   .assign 0 (.upto (.var 0) (.orx (.var 4) (.none))),
   .assign 1 (.upto (.var 1) (.orx (.var 4) (.none))),
   .ite (.or (.cons (.not (.truth (.var 0))) (.cons (.not (.truth (.var 1))) (.nil))))
    [.ret (.bin .mul (.glob "_MOVE_COST" 2) (.bin .add (.len (.var 0)) (.len (.var 1))))]
    [],
   .ite (.or (.cons (.cmp .gt (.len (.var 0)) (.glob "_MAX_STRING_SIZE" 40)) (.cons (.cmp .gt (.len (.var 1)) (.glob "_MAX_STRING_SIZE" 40)) (.nil))))
    [.ret (.bin .add (.var 2) (.int 1))]
    [],
   .ite (.cmp .lt (.len (.var 1)) (.len (.var 0)))
    [.swap 0 1 (.var 1) (.var 0)]
    [],
   .ite (.cmp .gt (.bin .mul (.bin .sub (.len (.var 1)) (.len (.var 0))) (.glob "_MOVE_COST" 2)) (.var 2))
    [.ret (.bin .add (.var 2) (.int 1))]
    [],
   .own 5 (.range3 (.glob "_MOVE_COST" 2) (.bin .mul (.glob "_MOVE_COST" 2) (.bin .add (.len (.var 0)) (.int 1))) (.glob "_MOVE_COST" 2)),
   .assign 6 (.int 0),
   .for1 7 (.range1 (.len (.var 1)))
    [.assign 8 (.sub (.var 1) (.var 7)),
     .two 9 6 (.bin .mul (.var 7) (.glob "_MOVE_COST" 2)),
     .assign 10 (.int 9223372036854775807),
     .for1 11 (.range1 (.len (.var 0)))
      [.assign 12 (.bin .add (.var 9) (.call 7 (.cons (.var 8) (.cons (.sub (.var 0) (.var 11)) (.nil))))),
       .assign 9 (.sub (.bor 5) (.var 11)),
       .assign 13 (.bin .add (.min2 (.var 6) (.var 9)) (.glob "_MOVE_COST" 2)),
       .assign 6 (.min2 (.var 13) (.var 12)),
       .setAt 5 (.var 11) (.var 6),
       .ite (.cmp .lt (.var 6) (.var 10))
        [.assign 10 (.var 6)]
        []],
     .ite (.cmp .gt (.var 10) (.var 2))
      [.ret (.bin .add (.var 2) (.int 1))]
      []],
   .ret (.var 6)]
noncomputable def n_levenshtein_distance : List Str := ["a", "b", "max_cost", "pre", "post", "row", "result", "bindex", "bchar", "distance", "minimum", "index", "substitute", "insert_delete"]
noncomputable def o_levenshtein_distance : List Nat := [5]
noncomputable def f_levenshtein_distance : Fn := ⟨14, 3, b_levenshtein_distance⟩
/-- _law_word: 0 x 1 step -/
noncomputable def b_law_word : List S :=
  [.ret (.join (.str "") (.new (.comp (.sub (.new (.list (.cons (.str "") (.cons (.str "a") (.cons (.str "A") (.cons (.str "b") (.nil))))))) (.bin .mod (.bin .fdiv (.bin .mod (.var 0) (.int 64)) (.var 1)) (.int 4))) (.cons 1 (.seq (.tup (.cons (.int 1) (.cons (.int 4) (.cons (.int 16) (.nil)))))) (.nil) (.nil)))))]
noncomputable def n_law_word : List Str := ["x", "step"]
noncomputable def o_law_word : List Nat := []
noncomputable def f_law_word : Fn := ⟨2, 1, b_law_word⟩
/-- _law_spread: 0 words 1 first 2 most 3 near 4 book 5 heap 6 place 7 steps 8 far 9 fresh 10 gaps 11 word 12 step 13 host 14 told -/
noncomputable def b_law_spread : List S :=
  [.own 3 (.comp (.tup (.cons (.call 8 (.cons (.sub (.var 0) (.var 1)) (.cons (.var 11) (.cons (.int 99) (.nil))))) (.cons (.var 1) (.nil)))) (.cons 11 (.seq (.var 0)) (.nil) (.nil))),
   .own 4 (.dict1 (.var 1) (.tup (.cons (.int 0) (.cons (.int 0) (.cons (.int 0) (.cons (.int 0) (.cons (.new (.dict0)) (.nil)))))))),
   .own 5 (.list (.nil)),
   .for1 6 (.range1 (.len (.var 0)))
    [.assign 8 (.sub (.sub (.bor 3) (.var 6)) (.int 0)),
     .setAt 4 (.var 1) (.call 4 (.cons (.sub (.bor 4) (.var 1)) (.cons (.tup (.cons (.int 1) (.cons (.int 1) (.cons (.var 8) (.cons (.bin .mul (.var 8) (.var 8)) (.cons (.new (.dict1 (.var 6) (.int 1))) (.nil))))))) (.nil)))),
     .append 5 (.tup (.cons (.neg (.var 8)) (.cons (.var 6) (.nil))))],
   .callIO 1 5 (.nil),
   .own 7 (.list (.cons (.tup (.cons (.var 1) (.cons (.neg (.sub (.sub (.bor 5) (.int 0)) (.int 0))) (.nil)))) (.nil))),
   .while (.and (.cons (.cmp .lt (.len (.bor 7)) (.var 2)) (.cons (.cmp .lt (.sub (.sub (.bor 5) (.int 0)) (.int 0)) (.int 0)) (.nil))))
    [.assign 9 (.sub (.sub (.bor 5) (.int 0)) (.int 1)),
     .assign 10 (.new (.dcomp (.sub (.var 12) (.int 0)) (.call 8 (.cons (.sub (.var 0) (.sub (.var 12) (.int 0))) (.cons (.sub (.var 0) (.var 9)) (.cons (.int 99) (.nil))))) 12 (.seq (.bor 7)))),
     .setAt 4 (.var 9) (.tup (.cons (.int 0) (.cons (.int 0) (.cons (.int 0) (.cons (.int 0) (.cons (.new (.dict0)) (.nil))))))),
     .for1 6 (.range1 (.len (.var 0)))
      [.unpack [8, 13] (.sub (.bor 3) (.var 6)),
       .ite (.cmp .lt (.sub (.var 10) (.var 13)) (.bin .mul (.int 2) (.var 8)))
        [.assign 14 (.call 8 (.cons (.sub (.var 0) (.var 6)) (.cons (.sub (.var 0) (.var 9)) (.cons (.bin .sub (.var 8) (.int 1)) (.nil))))),
         .ite (.cmp .lt (.var 14) (.var 8))
          [.setAt 3 (.var 6) (.tup (.cons (.var 14) (.cons (.var 9) (.nil)))),
           .setAt 4 (.var 13) (.call 4 (.cons (.sub (.bor 4) (.var 13)) (.cons (.tup (.cons (.neg (.int 1)) (.cons (.int 0) (.cons (.neg (.var 8)) (.cons (.bin .mul (.neg (.var 8)) (.var 8)) (.cons (.new (.dict1 (.var 6) (.neg (.int 1)))) (.nil))))))) (.nil)))),
           .setAt 4 (.var 9) (.call 4 (.cons (.sub (.bor 4) (.var 9)) (.cons (.tup (.cons (.int 1) (.cons (.int 1) (.cons (.var 14) (.cons (.bin .mul (.var 14) (.var 14)) (.cons (.new (.dict1 (.var 6) (.int 1))) (.nil))))))) (.nil))))]
          []]
        []],
     .while (.cmp .ne (.neg (.sub (.sub (.bor 5) (.int 0)) (.int 0))) (.sub (.sub (.bor 3) (.sub (.sub (.bor 5) (.int 0)) (.int 1))) (.int 0)))
      [.callIO 0 5 (.cons (.tup (.cons (.neg (.sub (.sub (.bor 3) (.sub (.sub (.bor 5) (.int 0)) (.int 1))) (.int 0))) (.cons (.sub (.sub (.bor 5) (.int 0)) (.int 1)) (.nil)))) (.nil))],
     .append 7 (.tup (.cons (.var 9) (.cons (.neg (.sub (.sub (.bor 5) (.int 0)) (.int 0))) (.nil))))],
   .ret (.tup (.cons (.var 7) (.cons (.var 3) (.cons (.var 4) (.nil)))))]
noncomputable def n_law_spread : List Str := ["words", "first", "most", "near", "book", "heap", "place", "steps", "far", "fresh", "gaps", "word", "step", "host", "told"]
noncomputable def o_law_spread : List Nat := [3, 4, 5, 7]
noncomputable def f_law_spread : Fn := ⟨15, 3, b_law_spread⟩
/-- _law_price: 0 one 1 two 2 row 3 sign 4 new 5 k 6 other -/
noncomputable def b_law_price : List S :=
  [.assign 2 (.new (.comp (.bin .mul (.int 2) (.var 5)) (.cons 5 (.range1 (.bin .add (.len (.var 1)) (.int 1))) (.nil) (.nil)))),
   .for1 3 (.seq (.var 0))
    [.own 4 (.list (.cons (.bin .add (.sub (.var 2) (.int 0)) (.int 2)) (.nil))),
     .for1 5 (.range1 (.len (.var 1)))
      [.assign 6 (.ite (.cmp .eq (.sub (.var 1) (.var 5)) (.var 3)) (.int 0) (.ite (.cmp .eq (.lower (.sub (.var 1) (.var 5))) (.lower (.var 3))) (.int 1) (.int 2))),
       .append 4 (.min3 (.bin .add (.sub (.var 2) (.var 5)) (.var 6)) (.bin .add (.sub (.var 2) (.bin .add (.var 5) (.int 1))) (.int 2)) (.bin .add (.sub (.bor 4) (.var 5)) (.int 2)))],
     .move 2 4],
   .ret (.sub (.var 2) (.neg (.int 1)))]
noncomputable def n_law_price : List Str := ["one", "two", "row", "sign", "new", "k", "other"]
noncomputable def o_law_price : List Nat := [4]
noncomputable def f_law_price : Fn := ⟨7, 2, b_law_price⟩
/-- _law_table: 0 words 1 count 2 half 3 q 4 p -/
noncomputable def b_law_table : List S :=
  [.assign 1 (.len (.var 0)),
   .assign 2 (.new (.comp (.new (.comp (.call 11 (.cons (.sub (.var 0) (.var 4)) (.cons (.sub (.var 0) (.var 3)) (.nil)))) (.cons 4 (.range1 (.var 3)) (.nil) (.nil)))) (.cons 3 (.range1 (.var 1)) (.nil) (.nil)))),
   .ret (.new (.comp (.new (.comp (.ite (.cmp .ne (.var 4) (.var 3)) (.sub (.sub (.var 2) (.max2 (.var 4) (.var 3))) (.min2 (.var 4) (.var 3))) (.int 0)) (.cons 3 (.range1 (.var 1)) (.nil) (.nil)))) (.cons 4 (.range1 (.var 1)) (.nil) (.nil))))]
noncomputable def n_law_table : List Str := ["words", "count", "half", "q", "p"]
noncomputable def o_law_table : List Nat := []
noncomputable def f_law_table : Fn := ⟨5, 1, b_law_table⟩
/-- _law_plain: 0 table 1 first 2 most 3 chosen 4 steps 5 near 6 book 7 k 8 lots 9 centre 10 ever 11 fars 12 served 13 p 14 row 15 c 16 far -/
noncomputable def b_law_plain : List S :=
  [.own 3 (.list (.cons (.var 1) (.nil))),
   .own 4 (.list (.nil)),
   .while (.cmp .lt (.len (.bor 4)) (.len (.bor 3)))
    [.assign 8 (.new (.comp (.minL (.new (.comp (.sub (.var 14) (.var 9)) (.cons 9 (.seq (.bor 3)) (.nil) (.nil))))) (.cons 14 (.seq (.var 0)) (.nil) (.nil)))),
     .append 4 (.tup (.cons (.sub (.bor 3) (.neg (.int 1))) (.cons (.maxL (.var 8)) (.nil)))),
     .ite (.and (.cons (.cmp .lt (.len (.bor 4)) (.var 2)) (.cons (.cmp .gt (.maxL (.var 8)) (.int 0)) (.nil))))
      [.append 3 (.index (.var 8) (.maxL (.var 8)))]
      []],
   .assign 5 (.new (.comp (.tup (.cons (.sub (.var 8) (.var 13)) (.cons (.sub (.new (.comp (.var 15) (.cons 15 (.seq (.bor 3)) (.cons (.cmp .eq (.sub (.sub (.var 0) (.var 13)) (.var 15)) (.sub (.var 8) (.var 13))) (.nil)) (.nil)))) (.int 0)) (.nil)))) (.cons 13 (.range1 (.len (.var 0))) (.nil) (.nil)))),
   .own 6 (.dict0),
   .for1 7 (.range1 (.len (.bor 3)))
    [.assign 9 (.sub (.bor 3) (.var 7)),
     .assign 10 (.new (.comp (.var 13) (.cons 13 (.range1 (.len (.var 0))) (.cons (.cmp .eq (.new (.comp (.var 15) (.cons 15 (.seq (.upto (.bor 3) (.var 7))) (.cons (.cmp .le (.sub (.sub (.var 0) (.var 13)) (.var 15)) (.sub (.sub (.var 0) (.var 13)) (.var 9))) (.nil)) (.nil)))) (.new (.list (.nil)))) (.nil)) (.nil)))),
     .assign 11 (.new (.comp (.sub (.sub (.var 5) (.var 13)) (.int 0)) (.cons 13 (.seq (.var 10)) (.cons (.cmp .eq (.sub (.sub (.var 5) (.var 13)) (.int 1)) (.var 9)) (.nil)) (.nil)))),
     .assign 12 (.new (.dcomp (.var 13) (.ite (.cmp .eq (.sub (.sub (.var 5) (.var 13)) (.int 1)) (.var 9)) (.int 1) (.int 0)) 13 (.seq (.var 10)))),
     .setAt 6 (.var 9) (.tup (.cons (.len (.var 11)) (.cons (.len (.var 10)) (.cons (.sumL (.var 11)) (.cons (.sumL (.new (.comp (.bin .mul (.var 16) (.var 16)) (.cons 16 (.seq (.var 11)) (.nil) (.nil))))) (.cons (.var 12) (.nil)))))))],
   .ret (.tup (.cons (.var 4) (.cons (.var 5) (.cons (.var 6) (.nil)))))]
noncomputable def n_law_plain : List Str := ["table", "first", "most", "chosen", "steps", "near", "book", "k", "lots", "centre", "ever", "fars", "served", "p", "row", "c", "far"]
noncomputable def o_law_plain : List Nat := [3, 4, 6]
noncomputable def f_law_plain : Fn := ⟨17, 3, b_law_plain⟩
/-- _law_choices: 0 count 1 size 2 choices 3 step 4 choice 5 p -/
noncomputable def b_law_choices : List S :=
  [.assign 2 (.new (.list (.cons (.new (.list (.nil))) (.nil)))),
   .for1 3 (.range1 (.var 1))
    [.assign 2 (.new (.comp (.bin .add (.var 4) (.new (.list (.cons (.var 5) (.nil))))) (.cons 4 (.seq (.var 2)) (.nil) (.cons 5 (.range2 (.ite (.truth (.var 4)) (.bin .add (.sub (.var 4) (.neg (.int 1))) (.int 1)) (.int 0)) (.var 0)) (.nil) (.nil)))))],
   .ret (.var 2)]
noncomputable def n_law_choices : List Str := ["count", "size", "choices", "step", "choice", "p"]
noncomputable def o_law_choices : List Nat := []
noncomputable def f_law_choices : Fn := ⟨6, 2, b_law_choices⟩
/-- _law_cover: 0 table 1 size 2 choice 3 row 4 c -/
noncomputable def b_law_cover : List S :=
  [.ret (.minL (.new (.comp (.maxL (.new (.comp (.minL (.new (.comp (.sub (.var 3) (.var 4)) (.cons 4 (.seq (.var 2)) (.nil) (.nil))))) (.cons 3 (.seq (.var 0)) (.nil) (.nil))))) (.cons 2 (.seq (.call 14 (.cons (.len (.var 0)) (.cons (.var 1) (.nil))))) (.nil) (.nil)))))]
noncomputable def n_law_cover : List Str := ["table", "size", "choice", "row", "c"]
noncomputable def o_law_cover : List Nat := []
noncomputable def f_law_cover : Fn := ⟨5, 2, b_law_cover⟩
/-- _law_apart: 0 table 1 size 2 choices 3 choice 4 q 5 p -/
noncomputable def b_law_apart : List S :=
  [.assign 2 (.call 14 (.cons (.len (.var 0)) (.cons (.var 1) (.nil)))),
   .ret (.maxL (.new (.comp (.minL (.new (.comp (.sub (.sub (.var 0) (.var 5)) (.var 4)) (.cons 4 (.seq (.var 3)) (.nil) (.cons 5 (.seq (.var 3)) (.cons (.cmp .lt (.var 5) (.var 4)) (.nil)) (.nil)))))) (.cons 3 (.seq (.var 2)) (.nil) (.nil)))))]
noncomputable def n_law_apart : List Str := ["table", "size", "choices", "choice", "q", "p"]
noncomputable def o_law_apart : List Nat := []
noncomputable def f_law_apart : Fn := ⟨6, 2, b_law_apart⟩
/-- law: 0 script 1 words 2 first 3 table 4 k 5 steps 6 near 7 book 8 radius 9 cover 10 apart 11 x 12 centre -/
noncomputable def b_law : List S :=
  [.assign 1 (.new (.comp (.call 9 (.cons (.var 11) (.nil))) (.cons 11 (.seq (.upto (.bin .add (.upto (.var 0) (.int 6)) (.new (.list (.cons (.int 27) (.cons (.int 6) (.cons (.int 45) (.cons (.int 1) (.cons (.int 37) (.nil))))))))) (.ite (.cmp .lt (.len (.var 0)) (.int 4)) (.int 5) (.int 6)))) (.nil) (.nil)))),
   .assign 2 (.bin .mod (.sumL (.upto (.var 0) (.int 10))) (.len (.var 1))),
   .unpack [5, 6, 7] (.call 10 (.cons (.var 1) (.cons (.var 2) (.cons (.int 3) (.nil))))),
   .assign 3 (.call 12 (.cons (.var 1) (.nil))),
   .ite (.cmp .ne (.tup (.cons (.var 5) (.cons (.var 6) (.cons (.var 7) (.nil))))) (.call 13 (.cons (.var 3) (.cons (.var 2) (.cons (.int 3) (.nil))))))
    [.ret (.bool false)]
    [],
   .ite (.cmp .ne (.sumL (.new (.comp (.call 6 (.cons (.sub (.sub (.var 7) (.var 12)) (.int 4)) (.nil))) (.cons 12 (.seq (.var 7)) (.nil) (.nil))))) (.len (.var 1)))
    [.ret (.bool false)]
    [],
   .for1 4 (.range2 (.int 1) (.bin .add (.len (.var 5)) (.int 1)))
    [.assign 8 (.sub (.sub (.var 5) (.bin .sub (.var 4) (.int 1))) (.int 1)),
     .assign 9 (.call 15 (.cons (.var 3) (.cons (.var 4) (.nil)))),
     .assign 10 (.call 16 (.cons (.var 3) (.cons (.bin .add (.var 4) (.int 1)) (.nil)))),
     .ite (.not (.and (.cons (.cmp2 (.var 9) .le (.var 8) .le (.bin .mul (.int 2) (.var 9))) (.cons (.cmp2 (.var 8) .le (.var 10) .le (.bin .mul (.int 2) (.var 8))) (.nil)))))
      [.ret (.bool false)]
      []],
   .ret (.bool true)]
noncomputable def n_law : List Str := ["script", "words", "first", "table", "k", "steps", "near", "book", "radius", "cover", "apart", "x", "centre"]
noncomputable def o_law : List Nat := []
noncomputable def f_law : Fn := ⟨13, 1, b_law⟩
noncomputable def progF : Nat → Option Fn
  | 0 => some f_heapreplace
  | 1 => some f_heapify
  | 2 => some f_siftdown
  | 3 => some f_siftup
  | 4 => some f_add_func_stats
  | 5 => some f_add_callers
  | 6 => some f_count_calls
  | 7 => some f_substitution_cost
  | 8 => some f_levenshtein_distance
  | 9 => some f_law_word
  | 10 => some f_law_spread
  | 11 => some f_law_price
  | 12 => some f_law_table
  | 13 => some f_law_plain
  | 14 => some f_law_choices
  | 15 => some f_law_cover
  | 16 => some f_law_apart
  | 17 => some f_law
  | _ => none
end Mine
end
section
open PySem PySem.W PyProof.Rows PySem.Calls
set_option maxRecDepth 100000
namespace Mine

abbrev Ext (h h' : Heap) : Prop := ∀ b o, h.get? b = some o → h'.get? b = some o
theorem Ext.refl (h : Heap) : Ext h h := fun _ _ e => e
theorem Ext.trans {a b c : Heap} (x : Ext a b) (y : Ext b c) : Ext a c := fun p o e => y p o (x p o e)
theorem Ext.push (h : Heap) (o : Obj) : Ext h (h.push o) := fun _ _ e => Heap.get?_push_of_some _ e
noncomputable def Alive (h : Heap) (μ : List Addr) : Prop := ∀ a ∈ μ, ∃ o, h.get? a = some o
theorem Alive.ext {h h' : Heap} {μ : List Addr} (x : Alive h μ) (e : Ext h h') : Alive h' μ := fun a m => let ⟨o, ho⟩ := x a m; ⟨o, e _ _ ho⟩
theorem Alive.fresh {h : Heap} {μ : List Addr} (x : Alive h μ) : h.objs.size ∉ μ := fun m => let ⟨_, ho⟩ := x _ m; absurd (Heap.lt_size ho) (Nat.lt_irrefl _)
theorem Alive.lt {h : Heap} {μ : List Addr} (x : Alive h μ) {a : Addr} (m : a ∈ μ) : a < h.objs.size := let ⟨_, ho⟩ := x _ m; Heap.lt_size ho

section
variable {prog : Program} {w : World}
/-- as Rep, but the topmost object may be one of μ -/
inductive RepB (prog : Program) (w : World) (h : Heap) (μ : List Addr) : Value → D → Prop
  | of {v : Value} {d : D} : Rep prog w h μ v d → RepB prog w h μ v d
  | list {a : Addr} {vs : Array Value} {ds : List D} : h.PlainList a vs → Reps prog w h μ vs.toList ds → RepB prog w h μ (.ref a) (.list ds)
  | dict {a : Addr} {kvs : List (Int × Value)} {l : List (Int × D)} : h.DictOf (intKind prog w) a kvs → a ≠ sysModules → RepEs prog w h μ kvs l → RepB prog w h μ (.ref a) (.dict l)

variable {h : Heap} {μ : List Addr} {v : Value}
theorem RepB.ext {h' : Heap} {d : D} (r : RepB prog w h μ v d) (e : Ext h h') : RepB prog w h' μ v d := by
  cases r with
  | of r => exact .of (r.keep e)
  | list p rs => exact .list (p.at fun o x => e _ o x) (rs.keep e)
  | dict p z rs => exact .dict (dictOf_at p fun o x => e _ o x) z (rs.keep e)
theorem RepB.intI {i : Int} (r : RepB prog w h μ v (.int i)) : ∃ t, v = .int i t := by
  cases r with | of r => cases r; exact ⟨_, rfl⟩
theorem RepB.strI {x : Str} (r : RepB prog w h μ v (.str x)) : ∃ t, v = .str x t := by
  cases r with | of r => cases r; exact ⟨_, rfl⟩
theorem RepB.noneI (r : RepB prog w h μ v .none) : v = .none := by
  cases r with | of r => cases r; rfl
theorem RepB.boolI {b : Bool} (r : RepB prog w h μ v (.bool b)) : v = .bool b := by
  cases r with | of r => cases r; rfl
theorem RepB.listI {ds : List D} (r : RepB prog w h μ v (.list ds)) : ∃ a vs, v = .ref a ∧ h.PlainList a vs ∧ Reps prog w h μ vs.toList ds := by
  cases r with
  | of r => cases r with | list p _ rs => exact ⟨_, _, rfl, p, rs⟩
  | list p rs => exact ⟨_, _, rfl, p, rs⟩
theorem RepB.dictI {l : List (Int × D)} (r : RepB prog w h μ v (.dict l)) : ∃ a kvs, v = .ref a ∧ h.DictOf (intKind prog w) a kvs ∧ a ≠ sysModules ∧ RepEs prog w h μ kvs l := by
  cases r with
  | of r => cases r with | dict p z _ rs => exact ⟨_, _, rfl, p, z, rs⟩
  | dict p z rs => exact ⟨_, _, rfl, p, z, rs⟩
theorem RepB.tupI {ds : List D} (r : RepB prog w h μ v (.tup ds)) : ∃ a vs, v = .ref a ∧ h.IsTuple a vs ∧ Reps prog w h μ vs.toList ds := by
  cases r with | of r => cases r with | tup p _ rs => exact ⟨_, _, rfl, p, rs⟩

noncomputable def Res (prog : Program) (w : World) (μ : List Addr) (d : D) (Q : Value → Shared → Prop) (s : Shared) : Prop :=
  ∀ v h' tk, Ext s.heap h' → Rep prog w h' μ v d → Q v { s with heap := h', toks := tk }
noncomputable def ResT (b : Bool) (Q : Bool → Shared → Prop) (s : Shared) : Prop := ∀ h' tk, Ext s.heap h' → Q b { s with heap := h', toks := tk }
noncomputable def ResU (Q : Shared → Prop) (s : Shared) : Prop := ∀ h' tk, Ext s.heap h' → Q { s with heap := h', toks := tk }

variable {A : Around} {E : Value → Shared → Prop} {s : Shared} {Q : Value → Shared → Prop}
theorem Res.int {i : Int} {t : Tok} {tk : Nat} (r : Res prog w μ (.int i) Q s) : Q (.int i t) { s with toks := tk } := r _ s.heap tk (Ext.refl _) (.int i t)
theorem Res.str {x : Str} {t : Tok} {tk : Nat} (r : Res prog w μ (.str x) Q s) : Q (.str x t) { s with toks := tk } := r _ s.heap tk (Ext.refl _) (.str x t)
theorem Res.bool {b : Bool} {tk : Nat} (r : Res prog w μ (.bool b) Q s) : Q (.bool b) { s with toks := tk } := r _ s.heap tk (Ext.refl _) (.bool b)
theorem Res.bool' {b : Bool} (r : Res prog w μ (.bool b) Q s) : Q (.bool b) s := r _ s.heap s.toks (Ext.refl _) (.bool b)
theorem Res.here {v : Value} {d : D} {tk : Nat} (r : Res prog w μ d Q s) (q : Rep prog w s.heap μ v d) : Q v { s with toks := tk } := r _ s.heap tk (Ext.refl _) q
theorem Res.here' {v : Value} {d : D} (r : Res prog w μ d Q s) (q : Rep prog w s.heap μ v d) : Q v s := r _ s.heap s.toks (Ext.refl _) q
theorem Res.newList {vs : Array Value} {ds : List D} {tk : Nat} (al : Alive s.heap μ) (r : Res prog w μ (.list ds) Q s) (q : Reps prog w s.heap μ vs.toList ds) :
    Q (.ref s.heap.objs.size) { s with heap := s.heap.push { cls := .type "list", data := .seq vs }, toks := tk } :=
  r _ _ tk (Ext.push _ _) (.list ⟨_, Heap.get?_push_size _ rfl⟩ al.fresh (q.keep (Ext.push _ _)))
theorem Res.newTup {vs : Array Value} {ds : List D} {tk : Nat} (al : Alive s.heap μ) (r : Res prog w μ (.tup ds) Q s) (q : Reps prog w s.heap μ vs.toList ds) :
    Q (.ref s.heap.objs.size) { s with heap := s.heap.push { cls := .type "tuple", data := .seq vs }, toks := tk } :=
  r _ _ tk (Ext.push _ _) (.tup ⟨_, Heap.get?_push_size _ rfl, rfl, _, rfl⟩ al.fresh (q.keep (Ext.push _ _)))
end

noncomputable def opB : BOp → Operator
  | .add => .Add | .sub => .Sub | .mul => .Mult | .fdiv => .FloorDiv | .mod => .Mod | .shr => .RShift
noncomputable def opC : COp → CmpOp
  | .lt => .Lt | .le => .LtE | .gt => .Gt | .eq => .Eq | .ne => .NotEq

section
variable {prog : Program} {w : World} {A : Around} {E : Value → Shared → Prop} {s : Shared} {Q : Value → Shared → Prop} {μ : List Addr}

theorem small_spec {i : Int} (h : small i = true) : -big ≤ i ∧ i ≤ big := by
  simp only [small, Bool.and_eq_true, decide_eq_true_eq] at h; exact h
theorem small_div {a b : Int} (h0 : 0 < b) (h1 : b ≤ 64) : Builtin.divisionGoesByPylong a b = false := by
  unfold Builtin.divisionGoesByPylong
  obtain ⟨k, hk⟩ := Int.eq_ofNat_of_zero_le (Int.le_of_lt h0)
  subst hk
  have h1 : k ≤ 64 := by (first | lia | omega)
  have h2 : k.log2 ≤ 64 := Nat.le_trans (Nat.log2_le_self k) h1
  have h3 : ((k : Int) == 0) = false := by simp; (first | lia | omega)
  have h4 : ¬ (k.log2 / 30 + 1 > 300) := by (first | lia | omega)
  simp [h3, h4]
theorem arith_inv {α : Type} {f : Int → Int → Option α} {x y : D} {z : α} (h : arith f x y = some z) : ∃ a b, x = .int a ∧ y = .int b ∧ f a b = some z := by
  cases x with
  | int a =>
    cases y with
    | int b => exact ⟨a, b, rfl, rfl, h⟩
    | _ => exact nomatch h
  | _ => exact nomatch h
theorem op_bin {op : BOp} {x y z : D} {a b : Value} (hz : binop op x y = some z) (al : Alive s.heap μ) (ra : RepB prog w s.heap μ a x) (rb : RepB prog w s.heap μ b y) (hQ : Res prog w μ z Q s) :
    wpAny (model prog w) A (binaryOp (opB op) a b) Q E s := by
  cases op with
  | add =>
    have hz : addD x y = some z := hz
    unfold addD at hz
    split at hz
    · cases hz; obtain ⟨t, rfl⟩ := ra.intI; obtain ⟨u, rfl⟩ := rb.intI; exact add_int hQ.int
    · split at hz
      · cases hz
        obtain ⟨a, vs, rfl, pa, qa⟩ := ra.listI
        obtain ⟨b, ws, rfl, pb, qb⟩ := rb.listI
        rename_i hl
        obtain ⟨n, pa⟩ := pa
        obtain ⟨m, pb⟩ := pb
        have l1 := qa.length
        have l2 := qb.length
        simp only [Array.length_toList] at l1 l2
        exact P.add_list pa pb (hQ.newList al (by simpa using Reps.append qb qa)) (by unfold sizeLine; (first | lia | omega))
      · cases hz
    · cases hz
  | sub =>
    obtain ⟨i, j, rfl, rfl, hz⟩ := arith_inv hz
    cases hz; obtain ⟨t, rfl⟩ := ra.intI; obtain ⟨u, rfl⟩ := rb.intI; exact sub_int hQ.int
  | mul =>
    obtain ⟨i, j, rfl, rfl, hz⟩ := arith_inv hz
    have hz : (if (small i && small j) = true then some (D.int (i * j)) else none) = some z := hz
    obtain ⟨t, rfl⟩ := ra.intI; obtain ⟨u, rfl⟩ := rb.intI
    split at hz
    · rename_i hs
      cases hz
      simp only [Bool.and_eq_true] at hs
      have h1 := small_spec hs.1
      exact mul_int hQ.int (.of_left (intBits_le_64 (by unfold big at h1; (first | lia | omega)) (by unfold big at h1; (first | lia | omega))))
    · cases hz
  | fdiv =>
    obtain ⟨i, j, rfl, rfl, hz⟩ := arith_inv hz
    have hz : (if 0 < j ∧ j ≤ 64 then some (D.int (i / j)) else none) = some z := hz
    obtain ⟨t, rfl⟩ := ra.intI; obtain ⟨u, rfl⟩ := rb.intI
    split at hz
    · rename_i hs
      cases hz
      refine floordiv_int (by (first | lia | omega)) ?_ (.inl (small_div hs.1 hs.2))
      rw [Int.fdiv_eq_ediv_of_nonneg _ (by (first | lia | omega))]; exact hQ.int
    · cases hz
  | mod =>
    obtain ⟨i, j, rfl, rfl, hz⟩ := arith_inv hz
    have hz : (if 0 < j then some (D.int (i % j)) else none) = some z := hz
    obtain ⟨t, rfl⟩ := ra.intI; obtain ⟨u, rfl⟩ := rb.intI
    split at hz
    · rename_i hs
      cases hz
      refine mod_int' (by (first | lia | omega)) ?_
      rw [Int.fmod_eq_emod_of_nonneg _ (by (first | lia | omega))]; exact hQ.int
    · cases hz
  | shr =>
    obtain ⟨i, j, rfl, rfl, hz⟩ := arith_inv hz
    have hz : (if j = 1 then some (D.int (i / 2)) else none) = some z := hz
    obtain ⟨t, rfl⟩ := ra.intI; obtain ⟨u, rfl⟩ := rb.intI
    split at hz
    · rename_i hs
      cases hz
      subst hs
      refine rshift_int (by (first | lia | omega)) ?_
      rw [Int.fdiv_eq_ediv_of_nonneg _ (by decide)]; exact hQ.int
    · cases hz
end
end Mine
end
section
open PySem PySem.W PyProof.Rows PySem.Calls
set_option maxRecDepth 100000
namespace Mine
section
variable {prog : Program} {w : World} {A : Around} {E : Value → Shared → Prop} {s : Shared} {Q : Value → Shared → Prop} {μ : List Addr}

theorem op_neg {x z : D} {a : Value} (hz : negD x = some z) (ra : RepB prog w s.heap μ a x) (hQ : Res prog w μ z Q s) :
    wpAny (model prog w) A (unaryOp .USub a) Q E s := by
  unfold negD at hz
  split at hz
  · cases hz; obtain ⟨t, rfl⟩ := ra.intI; exact neg_int hQ.int
  · cases hz

theorem op_truth {x : D} {b : Bool} {a : Value} {Q : Bool → Shared → Prop} (hz : truthD x = some b) (ra : RepB prog w s.heap μ a x) (hQ : ResT b Q s) :
    wpAny (model prog w) A (truthy a) Q E s := by
  unfold truthD at hz
  split at hz
  · cases hz; rw [ra.boolI]; exact wpAny_truthy_bool (hQ s.heap s.toks (Ext.refl _))
  · cases hz; obtain ⟨t, rfl⟩ := ra.intI
    refine truthy_int ?_
    rename_i i
    have : (i != 0) = decide (i ≠ 0) := by by_cases h : i = 0 <;> simp [h]
    rw [this]; exact hQ s.heap s.toks (Ext.refl _)
  · split at hz
    · cases hz; obtain ⟨t, rfl⟩ := ra.strI
      rename_i y hy
      refine PySem.P.truthy_str ?_ ?_
      · show ¬ ((y.cps.size : Nat) : Int) ≥ 2 ^ 63
        (first | lia | omega)
      · have e : (((Str.length y : Nat) : Int) != 0) = decide (y.cps.size ≠ 0) := by
          show (((y.cps.size : Nat) : Int) != 0) = _
          by_cases h : y.cps.size = 0 <;> simp [h]
        rw [e]; exact hQ s.heap _ (Ext.refl _)
    · cases hz
  · split at hz
    · cases hz; obtain ⟨a, vs, rfl, p, r⟩ := ra.listI
      have hl := r.length
      simp only [Array.length_toList] at hl
      refine wpAny_truthy_list p.isList (by (first | lia | omega)) ?_
      rename_i ds _
      have e : (!vs.isEmpty) = (!ds.isEmpty) := by
        rw [Array.isEmpty, hl]; cases ds <;> simp
      rw [e]; exact hQ s.heap _ (Ext.refl _)
    · cases hz
  · cases hz

theorem op_len {x z : D} {a : Value} (hz : lenD x = some z) (ra : RepB prog w s.heap μ a x) (hQ : Res prog w μ z Q s) :
    wpAny (model prog w) A (call (.builtin "len") [a]) Q E s := by
  unfold lenD at hz
  split at hz
  · split at hz
    · cases hz; obtain ⟨t, rfl⟩ := ra.strI
      rename_i y hy
      refine PySem.P.len_str ?_ hQ.int
      show ¬ ((y.cps.size : Nat) : Int) ≥ 2 ^ 63
      (first | lia | omega)
    · cases hz
  · split at hz
    · cases hz; obtain ⟨a, vs, rfl, p, r⟩ := ra.listI
      have hl := r.length
      simp only [Array.length_toList] at hl
      refine call_len_list p.isList (by (first | lia | omega)) ?_
      rw [hl]; exact hQ.int
    · cases hz
  · cases hz

/-! ### least, greatest, sum -/
theorem Reps.ints {h : Heap} : ∀ {vs : List Value} {ds : List D} {is : List Int}, Reps prog w h μ vs ds → intsOf ds = some is → IntsAre vs is
  | _, _, _, .nil, e => by cases e; exact .nil
  | _, _, _, .cons r rs, e => by
    unfold intsOf at e
    split at e
    · rename_i h1; cases h1
    · rename_i h1
      injection h1 with h2 h3
      subst h2 h3
      cases r
      obtain ⟨js, e1, rfl⟩ := Option.map_eq_some_iff.mp e
      exact .cons _ _ (Reps.ints rs e1)
    · cases e
theorem fold_min_at : ∀ (is : List Int) (k : Nat), k < is.length → is[argBest (fun i j => decide (is[i]! < is[j]!)) k]! = ((is.drop 1).take k).foldl (fun m x => if x < m then x else m) is[0]! ∧ argBest (fun i j => decide (is[i]! < is[j]!)) k < is.length := by
  intro is k
  induction k with
  | zero => intro h; simp [argBest]; exact h
  | succ k ih =>
    intro h
    obtain ⟨e, hl⟩ := ih (by (first | lia | omega))
    have ht : (is.drop 1).take (k + 1) = (is.drop 1).take k ++ [is[k + 1]!] := by
      rw [List.take_add_one]
      congr 1
      have : (is.drop 1)[k]? = some is[k + 1]! := by
        rw [List.getElem?_drop, Nat.add_comm 1 k, List.getElem?_eq_getElem h]
        simp [h]
      rw [this]; rfl
    rw [ht, List.foldl_append, ← e]
    simp only [argBest, List.foldl_cons, List.foldl_nil]
    by_cases hc : is[k + 1]! < is[argBest (fun i j => decide (is[i]! < is[j]!)) k]!
    · rw [if_pos (decide_eq_true hc), if_pos hc]; exact ⟨rfl, h⟩
    · rw [if_neg (fun x => hc (of_decide_eq_true x)), if_neg hc]; exact ⟨rfl, hl⟩
theorem fold_max_at : ∀ (is : List Int) (k : Nat), k < is.length → is[argBest (fun i j => decide (is[j]! < is[i]!)) k]! = ((is.drop 1).take k).foldl (fun m x => if m < x then x else m) is[0]! ∧ argBest (fun i j => decide (is[j]! < is[i]!)) k < is.length := by
  intro is k
  induction k with
  | zero => intro h; simp [argBest]; exact h
  | succ k ih =>
    intro h
    obtain ⟨e, hl⟩ := ih (by (first | lia | omega))
    have ht : (is.drop 1).take (k + 1) = (is.drop 1).take k ++ [is[k + 1]!] := by
      rw [List.take_add_one]
      congr 1
      have : (is.drop 1)[k]? = some is[k + 1]! := by
        rw [List.getElem?_drop, Nat.add_comm 1 k, List.getElem?_eq_getElem h]
        simp [h]
      rw [this]; rfl
    rw [ht, List.foldl_append, ← e]
    simp only [argBest, List.foldl_cons, List.foldl_nil]
    by_cases hc : is[argBest (fun i j => decide (is[j]! < is[i]!)) k]! < is[k + 1]!
    · rw [if_pos (decide_eq_true hc), if_pos hc]; exact ⟨rfl, h⟩
    · rw [if_neg (fun x => hc (of_decide_eq_true x)), if_neg hc]; exact ⟨rfl, hl⟩
noncomputable def AtI (is : List Int) (i : Nat) (v : Value) : Prop := i < is.length ∧ ∃ t, v = .int is[i]! t
theorem atI_of {vs : Array Value} {is : List Int} (h : IntsAre vs.toList is) {i : Nat} {v : Value} (e : vs[i]? = some v) : AtI is i v := by
  have hl := h.length
  have hlt : i < vs.size := by
    rcases Nat.lt_or_ge i vs.size with q | q
    · exact q
    · rw [Array.getElem?_eq_none q] at e; cases e
  have hi : i < is.length := by rw [← hl]; simpa using hlt
  obtain ⟨t, ht⟩ := h.get i is[i] (by simp [hi])
  refine ⟨hi, t, ?_⟩
  have : vs.toList[i]? = some v := by simpa using e
  rw [ht] at this
  have := Option.some.inj this
  rw [← this]; simp [hi]
theorem cmp_lt (is : List Int) : CmpOf prog w A .Lt (AtI is) (fun i j => decide (is[i]! < is[j]!)) := by
  rintro i j vi vj s Q E ⟨_, t, rfl⟩ ⟨_, u, rfl⟩ hQ
  exact lt_int hQ
theorem cmp_gt (is : List Int) : CmpOf prog w A .Gt (AtI is) (fun i j => decide (is[j]! < is[i]!)) := by
  rintro i j vi vj s Q E ⟨_, t, rfl⟩ ⟨_, u, rfl⟩ hQ
  exact gt_int hQ
/-- the iterator over a list or a tuple of ints -/
theorem src_ints {vs : Array Value} {is : List Int} {a : Addr} (hh : A.handled = none) (hl : s.heap.IsList a vs ∨ s.heap.IsTuple a vs) (hi : IntsAre vs.toList is)
    {Q : Value → Shared → Prop} (h : ∀ I fp wr St h', Walks prog w A I fp wr is.length (AtI is) St → St 0 h' → (∀ b ∈ fp, b < h'.objs.size) → (∀ b ∈ wr, s.heap.get? b = none) → Ext s.heap h' → Q (.ref I) { s with heap := h' }) :
    wpAny (model prog w) A (pyIter (.ref a)) Q E s := by
  have hlen : vs.size = is.length := by simpa using hi.length
  rcases hl with hl | hl
  · refine wpAny_pyIter_list hl ?_
    obtain ⟨o, ho, _⟩ := id hl
    have hlt := Heap.lt_size ho
    have W := Walks.list (prog := prog) (w := w) hh s.heap.objs.size a (Nat.ne_of_lt hlt) vs
    rw [hlen] at W
    refine h _ _ _ _ _ (W.weaken (fun i v e => atI_of hi e)) ⟨⟨_, Heap.get?_push_size _ rfl, rfl, rfl⟩, hl.at fun o e => Heap.get?_push_of_some _ e⟩ ?_ ?_ (Ext.push _ _)
    · intro b hb
      rw [Heap.size_push]
      rcases List.mem_cons.mp hb with rfl | hb
      · exact Nat.lt_succ_self _
      · rw [List.mem_singleton.mp hb]; exact Nat.lt_succ_of_lt hlt
    · intro b hb
      simp at hb; subst hb
      cases e : s.heap.get? s.heap.objs.size with
      | none => rfl
      | some o => exact absurd (Heap.lt_size e) (Nat.lt_irrefl _)
  · refine wpAny_pyIter_tuple hl ?_
    obtain ⟨o, ho, _⟩ := id hl
    have hlt := Heap.lt_size ho
    have W := Walks.tuple (prog := prog) (w := w) hh s.heap.objs.size a (Nat.ne_of_lt hlt) vs
    rw [hlen] at W
    refine h _ _ _ _ _ (W.weaken (fun i v e => atI_of hi e)) ⟨⟨_, Heap.get?_push_size _ rfl, rfl, rfl⟩, hl.at fun o e => Heap.get?_push_of_some _ e⟩ ?_ ?_ (Ext.push _ _)
    · intro b hb
      rw [Heap.size_push]
      rcases List.mem_cons.mp hb with rfl | hb
      · exact Nat.lt_succ_self _
      · rw [List.mem_singleton.mp hb]; exact Nat.lt_succ_of_lt hlt
    · intro b hb
      simp at hb; subst hb
      cases e : s.heap.get? s.heap.objs.size with
      | none => rfl
      | some o => exact absurd (Heap.lt_size e) (Nat.lt_irrefl _)

theorem minOf_at {is : List Int} {m : Int} (e : minOf is = some m) : 0 < is.length ∧ is[argBest (fun i j => decide (is[i]! < is[j]!)) (is.length - 1)]! = m := by
  cases is with
  | nil => cases e
  | cons a r =>
    refine ⟨Nat.succ_pos _, ?_⟩
    rw [(fold_min_at (a :: r) _ (by simp)).1]
    simp only [minOf, Option.some.injEq] at e
    simpa using e
theorem maxOf_at {is : List Int} {m : Int} (e : maxOf is = some m) : 0 < is.length ∧ is[argBest (fun i j => decide (is[j]! < is[i]!)) (is.length - 1)]! = m := by
  cases is with
  | nil => cases e
  | cons a r =>
    refine ⟨Nat.succ_pos _, ?_⟩
    rw [(fold_max_at (a :: r) _ (by simp)).1]
    simp only [maxOf, Option.some.injEq] at e
    simpa using e
section
variable {is : List Int} {m : Int} {vs : Array Value}
theorem src_min {a : Addr} (hh : A.handled = none) (hl : s.heap.IsList a vs ∨ s.heap.IsTuple a vs) (hi : IntsAre vs.toList is) (e : minOf is = some m) {s₀ : Shared} (e0 : Ext s₀.heap s.heap)
    (es : s = { s₀ with heap := s.heap, toks := s.toks }) (hQ : Res prog w μ (.int m) Q s₀) :
    wpAny (model prog w) A (pyIter (.ref a)) (fun it s₂ => ∃ I fp wr n P St bt, it = .ref I ∧ Walks prog w A I fp wr n P St ∧ St 0 s₂.heap ∧ (∀ b ∈ fp, b < s₂.heap.objs.size) ∧ 0 < n ∧ CmpOf prog w A .Lt P bt ∧
      ∀ v h' tk, P (argBest bt (n - 1)) v → (∀ b o, b ∉ wr → s₂.heap.get? b = some o → h'.get? b = some o) → Q v { s₂ with heap := h', toks := tk }) E s := by
  refine src_ints hh hl hi fun I fp wr St h' W h0 hfp hwr hx => ⟨I, fp, wr, _, _, St, _, rfl, W, h0, hfp, (minOf_at e).1, cmp_lt is, ?_⟩
  rintro v h'' tk ⟨_, t, rfl⟩ hk
  rw [(minOf_at e).2]
  have := hQ (.int m t) h'' tk (fun b o eb => hk b o (fun hb => by have := hwr b hb; rw [e0 _ _ eb] at this; cases this) (hx _ _ (e0 _ _ eb))) (.int m t)
  rw [es]; exact this
theorem src_max {a : Addr} (hh : A.handled = none) (hl : s.heap.IsList a vs ∨ s.heap.IsTuple a vs) (hi : IntsAre vs.toList is) (e : maxOf is = some m) {s₀ : Shared} (e0 : Ext s₀.heap s.heap)
    (es : s = { s₀ with heap := s.heap, toks := s.toks }) (hQ : Res prog w μ (.int m) Q s₀) :
    wpAny (model prog w) A (pyIter (.ref a)) (fun it s₂ => ∃ I fp wr n P St bt, it = .ref I ∧ Walks prog w A I fp wr n P St ∧ St 0 s₂.heap ∧ (∀ b ∈ fp, b < s₂.heap.objs.size) ∧ 0 < n ∧ CmpOf prog w A .Gt P bt ∧
      ∀ v h' tk, P (argBest bt (n - 1)) v → (∀ b o, b ∉ wr → s₂.heap.get? b = some o → h'.get? b = some o) → Q v { s₂ with heap := h', toks := tk }) E s := by
  refine src_ints hh hl hi fun I fp wr St h' W h0 hfp hwr hx => ⟨I, fp, wr, _, _, St, _, rfl, W, h0, hfp, (maxOf_at e).1, cmp_gt is, ?_⟩
  rintro v h'' tk ⟨_, t, rfl⟩ hk
  rw [(maxOf_at e).2]
  have := hQ (.int m t) h'' tk (fun b o eb => hk b o (fun hb => by have := hwr b hb; rw [e0 _ _ eb] at this; cases this) (hx _ _ (e0 _ _ eb))) (.int m t)
  rw [es]; exact this
end
theorem new_tup (h : Heap) (vs : Array Value) : (h.push { cls := .type "tuple", data := .seq vs }).IsTuple h.objs.size vs := ⟨_, Heap.get?_push_size _ rfl, rfl, _, rfl⟩
theorem op_min2 {x y z : D} {a b : Value} (hh : A.handled = none) (hz : min2D x y = some z) (ra : RepB prog w s.heap μ a x) (rb : RepB prog w s.heap μ b y) (hQ : Res prog w μ z Q s) :
    wpAny (model prog w) A (call (.builtin "min") [a, b]) Q E s := by
  unfold min2D at hz
  split at hz
  · cases hz; obtain ⟨t, rfl⟩ := ra.intI; obtain ⟨u, rfl⟩ := rb.intI
    exact call_min_two (src_min (A := A.in1) (s₀ := s) hh (.inr (new_tup _ _)) (.cons _ _ (.cons _ _ .nil)) (by rfl) (Ext.push _ _) rfl hQ)
  · cases hz
theorem op_max2 {x y z : D} {a b : Value} (hh : A.handled = none) (hz : max2D x y = some z) (ra : RepB prog w s.heap μ a x) (rb : RepB prog w s.heap μ b y) (hQ : Res prog w μ z Q s) :
    wpAny (model prog w) A (call (.builtin "max") [a, b]) Q E s := by
  unfold max2D at hz
  split at hz
  · cases hz; obtain ⟨t, rfl⟩ := ra.intI; obtain ⟨u, rfl⟩ := rb.intI
    exact call_max_two (src_max (A := A.in1) (s₀ := s) hh (.inr (new_tup _ _)) (.cons _ _ (.cons _ _ .nil)) (by rfl) (Ext.push _ _) rfl hQ)
  · cases hz
theorem op_min3 {x y x' z : D} {a b c : Value} (hh : A.handled = none) (hz : min3D x y x' = some z) (ra : RepB prog w s.heap μ a x) (rb : RepB prog w s.heap μ b y) (rc : RepB prog w s.heap μ c x') (hQ : Res prog w μ z Q s) :
    wpAny (model prog w) A (call (.builtin "min") [a, b, c]) Q E s := by
  unfold min3D at hz
  split at hz
  · cases hz; obtain ⟨t, rfl⟩ := ra.intI; obtain ⟨u, rfl⟩ := rb.intI; obtain ⟨u, rfl⟩ := rc.intI
    exact call_min_three (src_min (A := A.in1) (s₀ := s) hh (.inr (new_tup _ _)) (.cons _ _ (.cons _ _ (.cons _ _ .nil))) (by rfl) (Ext.push _ _) rfl hQ)
  · cases hz
theorem op_minL {x z : D} {a : Value} (hh : A.handled = none) (hz : minLD x = some z) (ra : RepB prog w s.heap μ a x) (hQ : Res prog w μ z Q s) :
    wpAny (model prog w) A (call (.builtin "min") [a]) Q E s := by
  unfold minLD at hz
  split at hz
  · obtain ⟨is, e1, e2⟩ := Option.bind_eq_some_iff.mp hz
    obtain ⟨m, e3, rfl⟩ := Option.map_eq_some_iff.mp e2
    obtain ⟨a, vs, rfl, p, r⟩ := ra.listI
    exact call_min_walk (src_min (A := A.in1) (s₀ := s) hh (.inl p.isList) (r.ints e1) e3 (Ext.refl _) rfl hQ)
  · cases hz
theorem op_maxL {x z : D} {a : Value} (hh : A.handled = none) (hz : maxLD x = some z) (ra : RepB prog w s.heap μ a x) (hQ : Res prog w μ z Q s) :
    wpAny (model prog w) A (call (.builtin "max") [a]) Q E s := by
  unfold maxLD at hz
  split at hz
  · obtain ⟨is, e1, e2⟩ := Option.bind_eq_some_iff.mp hz
    obtain ⟨m, e3, rfl⟩ := Option.map_eq_some_iff.mp e2
    obtain ⟨a, vs, rfl, p, r⟩ := ra.listI
    exact call_max_walk (src_max (A := A.in1) (s₀ := s) hh (.inl p.isList) (r.ints e1) e3 (Ext.refl _) rfl hQ)
  · cases hz
theorem preSum_list (is : List Int) : ∀ n, n ≤ is.length → preSum (fun i => is[i]!) n = (is.take n).sum := by
  intro n
  induction n with
  | zero => intro _; rfl
  | succ n ih =>
    intro h
    have hlt : n < is.length := h
    rw [List.take_add_one, List.getElem?_eq_getElem hlt, List.sum_append, ← ih (Nat.le_of_lt hlt)]
    simp [preSum, hlt]
theorem op_sumL {x z : D} {a : Value} (hh : A.handled = none) (hz : sumLD x = some z) (ra : RepB prog w s.heap μ a x) (hQ : Res prog w μ z Q s) :
    wpAny (model prog w) A (call (.builtin "sum") [a]) Q E s := by
  unfold sumLD at hz
  split at hz
  · obtain ⟨is, e1, rfl⟩ := Option.map_eq_some_iff.mp hz
    obtain ⟨a, vs, rfl, p, r⟩ := ra.listI
    refine call_sum_walkG (src_ints (A := A.in1) hh (.inl p.isList) (r.ints e1) fun I fp wr St h' W h0 hfp hwr hx => ⟨I, fp, wr, _, _, St, fun i => is[i]!, rfl, W, h0, hfp, fun i v hp => hp.2, ?_⟩)
    intro h'' tk t' hk
    rw [preSum_list is _ (Nat.le_refl _), List.take_length]
    exact hQ (.int _ t') h'' tk (fun b o eb => hk b o (fun hb => by have := hwr b hb; rw [eb] at this; cases this) (hx _ _ eb)) (.int _ t')
  · cases hz
end
end Mine
end
section
open PySem PySem.W PyProof.Rows PySem.Calls
set_option maxRecDepth 100000
namespace Mine
open PySem.MeetsSeq PySem.SeqAt

section
variable {prog : Program} {w : World} {A : Around} {E : Value → Shared → Prop} {s : Shared}
theorem eqI_t {a b : Int} {t u : Tok} {Q : Bool → Shared → Prop} (e : a = b) (h : Q true s) : wpAny (model prog w) A (eqBool (.int a t) (.int b u)) Q E s :=
  EqAt.int_int a t b u prog w E Q (by simpa [e] using h)
theorem eqI_f {a b : Int} {t u : Tok} {Q : Bool → Shared → Prop} (e : a ≠ b) (h : Q false s) : wpAny (model prog w) A (eqBool (.int a t) (.int b u)) Q E s :=
  EqAt.int_int a t b u prog w E Q (by rw [show (a == b) = false from by simpa using e]; exact h)
theorem ltI {a b : Int} {t u : Tok} {Q : Value → Shared → Prop} (h : Q (.bool (decide (a < b))) s) : wpAny (model prog w) A (richCompare .Lt (.int a t) (.int b u)) Q E s := wpAny_lt_int h
end
/-- two tuples, alike up to place k, not there: < is what it is there -/
theorem tuple_ltAt (l b : Addr) (items items2 : Array Value) (n n2 : Nat) (dd dd2 : Option Addr) (sl sl2 : Array (Option Value)) (k : Nat) (hk1 : k < items.size) (hk2 : k < items2.size) (r : Bool) :
    Meets (Builtin.«tuple.__lt__» ⟨[.ref l, .ref b], []⟩)
      (fun A R s => s.heap.get? l = some { cls := .type "tuple", dict := dd, data := .seq items n, slots := sl } ∧ s.heap.get? b = some { cls := .type "tuple", dict := dd2, data := .seq items2 n2, slots := sl2 } ∧
        (∀ j (h1 : j < items.size) (h2 : j < items2.size), j < k → EqAt A.in1 s items[j] items2[j] true) ∧ EqAt A.in1 s items[k] items2[k] false ∧
        (∀ (prog : Program) (w : World) (E : Value → Shared → Prop) (Q : Value → Shared → Prop), Q (.bool r) s → wpAny (model prog w) A.in1 (richCompare .Lt items[k] items2[k]) Q E s) ∧
        R (.ok (.ret (.bool r))) s) :=
  .of_wp fun prog w A R s h => by
    obtain ⟨hp, g, d, tk, os⟩ := s; obtain ⟨hl, hb, he, hf, hr, h⟩ := h
    have f2 := AutoSeq1.sub_tuple_tuple
    have hZ : (items.toList.zip items2.toList).length = min items.size items2.size := by simp
    wp_walk using wpAny_loadPart' hl, wpAny_loadPart' hb, wpAny_forIn_list _ (fun rest b s' => b.1 = none ∧ s' = ⟨hp, g, d, tk, os⟩ ∧ ∃ i, i ≤ k ∧ rest = (items.toList.zip items2.toList).drop i) _
    case turn =>
      rintro ⟨y, x⟩ rest b s' ⟨hb', rfl, i, hik, hz⟩
      have hlt : i < (items.toList.zip items2.toList).length := by rw [hZ]; (first | lia | omega)
      have h1 : i < items.size := by (first | lia | omega)
      have h2 : i < items2.size := by (first | lia | omega)
      rw [List.drop_eq_getElem_cons hlt] at hz
      injection hz with hyx hrest
      have hy : y = items[i] := by have := congrArg Prod.fst hyx; simpa using this
      have hx : x = items2[i] := by have := congrArg Prod.snd hyx; simpa using this
      subst hy hx
      rcases Nat.lt_or_ge i k with hlt' | hge
      · refine wpAny_bind (he i h1 h2 hlt' prog w _ _ ?_)
        wp_walk
        exact ⟨rfl, rfl, i + 1, hlt', hrest⟩
      · have : i = k := by (first | lia | omega)
        subst this
        refine wpAny_bind (hf prog w _ _ ?_)
        wp_walk using hr prog w _ _
        exact ⟨_, rfl, h⟩
    case fin =>
      rintro ⟨b1, b2⟩ s' ⟨hb', rfl, i, hik, hz⟩
      have hlt : i < (items.toList.zip items2.toList).length := by rw [hZ]; (first | lia | omega)
      rw [List.drop_eq_getElem_cons hlt] at hz
      cases hz
    case h =>
      exact ⟨rfl, rfl, 0, Nat.zero_le _, rfl⟩
/-- two tuples alike: < is False -/
theorem tuple_ltEq (l b : Addr) (items items2 : Array Value) (n n2 : Nat) (dd dd2 : Option Addr) (sl sl2 : Array (Option Value)) (hsz : items.size = items2.size) :
    Meets (Builtin.«tuple.__lt__» ⟨[.ref l, .ref b], []⟩)
      (fun A R s => s.heap.get? l = some { cls := .type "tuple", dict := dd, data := .seq items n, slots := sl } ∧ s.heap.get? b = some { cls := .type "tuple", dict := dd2, data := .seq items2 n2, slots := sl2 } ∧
        (∀ j (h1 : j < items.size) (h2 : j < items2.size), EqAt A.in1 s items[j] items2[j] true) ∧
        R (.ok (.ret (.bool false))) s) :=
  .of_wp fun prog w A R s h => by
    obtain ⟨hp, g, d, tk, os⟩ := s; obtain ⟨hl, hb, he, h⟩ := h
    have f2 := AutoSeq1.sub_tuple_tuple
    have hZ : (items.toList.zip items2.toList).length = items.size := by simp [hsz]
    wp_walk using wpAny_loadPart' hl, wpAny_loadPart' hb, wpAny_forIn_list _ (fun rest b s' => b.1 = none ∧ s' = ⟨hp, g, d, tk, os⟩ ∧ ∃ i, rest = (items.toList.zip items2.toList).drop i) _
    case turn =>
      rintro ⟨y, x⟩ rest b s' ⟨hb', rfl, i, hz⟩
      have hlt : i < (items.toList.zip items2.toList).length := by
        rcases Nat.lt_or_ge i (items.toList.zip items2.toList).length with h' | h'
        · exact h'
        · rw [List.drop_of_length_le h'] at hz; cases hz
      have h1 : i < items.size := hZ ▸ hlt
      have h2 : i < items2.size := hsz ▸ h1
      rw [List.drop_eq_getElem_cons hlt] at hz
      injection hz with hyx hrest
      have hy : y = items[i] := by have := congrArg Prod.fst hyx; simpa using this
      have hx : x = items2[i] := by have := congrArg Prod.snd hyx; simpa using this
      subst hy hx
      refine wpAny_bind (he i h1 h2 prog w _ _ ?_)
      wp_walk
      exact ⟨rfl, rfl, i + 1, hrest⟩
    case fin =>
      rintro ⟨b1, b2⟩ s' ⟨hb', rfl, i, hz⟩
      simp only at hb'
      subst hb'
      wp_walk
      exact ⟨_, rfl, by simpa [Builtin.Tuple.tupleCompareSizes, hsz] using h⟩
    case h =>
      exact ⟨rfl, rfl, 0, rfl⟩

/-- two tuples, alike item by item: != is False -/
theorem tuple_neAt (l b : Addr) (items items2 : Array Value) (n n2 : Nat) (dd dd2 : Option Addr) (sl sl2 : Array (Option Value)) (hsz : items.size = items2.size) :
    Meets (Builtin.«tuple.__ne__» ⟨[.ref l, .ref b], []⟩)
      (fun A R s => s.heap.get? l = some { cls := .type "tuple", dict := dd, data := .seq items n, slots := sl } ∧ s.heap.get? b = some { cls := .type "tuple", dict := dd2, data := .seq items2 n2, slots := sl2 } ∧
        (∀ j (h1 : j < items.size) (h2 : j < items2.size), EqAt A.in1 s items[j] items2[j] true) ∧
        R (.ok (.ret (.bool false))) s) :=
  .of_wp fun prog w A R s h => by
    obtain ⟨hp, g, d, tk, os⟩ := s; obtain ⟨hl, hb, he, h⟩ := h
    have f2 := AutoSeq1.sub_tuple_tuple
    have hZ : (items.toList.zip items2.toList).length = items.size := by simp [hsz]
    wp_walk using wpAny_loadPart' hl, wpAny_loadPart' hb, wpAny_forIn_list _ (fun rest b s' => b.1 = none ∧ s' = ⟨hp, g, d, tk, os⟩ ∧ ∃ i, rest = (items.toList.zip items2.toList).drop i) _
    case turn =>
      rintro ⟨y, x⟩ rest b s' ⟨hb', rfl, i, hz⟩
      have hlt : i < (items.toList.zip items2.toList).length := by
        rcases Nat.lt_or_ge i (items.toList.zip items2.toList).length with h' | h'
        · exact h'
        · rw [List.drop_of_length_le h'] at hz; cases hz
      have h1 : i < items.size := hZ ▸ hlt
      have h2 : i < items2.size := hsz ▸ h1
      rw [List.drop_eq_getElem_cons hlt] at hz
      injection hz with hyx hrest
      have hy : y = items[i] := by have := congrArg Prod.fst hyx; simpa using this
      have hx : x = items2[i] := by have := congrArg Prod.snd hyx; simpa using this
      subst hy hx
      refine wpAny_bind (he i h1 h2 prog w _ _ ?_)
      wp_walk
      exact ⟨rfl, rfl, i + 1, hrest⟩
    case fin =>
      rintro ⟨b1, b2⟩ s' ⟨hb', rfl, i, hz⟩
      simp only at hb'
      subst hb'
      wp_walk
      exact ⟨_, rfl, by simpa [Builtin.Tuple.tupleCompareSizes, hsz] using h⟩
    case h =>
      exact ⟨rfl, rfl, 0, rfl⟩
end Mine
end
section
open PySem PySem.W PyProof.Rows PySem.Calls
set_option maxRecDepth 100000
namespace Mine
open PySem.MeetsSeq PySem.SeqAt

section
variable {prog : Program} {w : World} {s : Shared} {μ : List Addr}
theorem EqAt.cast {A : Around} {v u : Value} {b c : Bool} (h : EqAt A s v u b) (e : b = c) : EqAt A s v u c := e ▸ h
theorem pairs_any {prog' : Program} {w' : World} : ∀ {es : List DictEntry} {kvs : List (Int × Value)}, Pairs (intKind prog w) es kvs → Pairs (intKind prog' w') es kvs
  | _, _, .nil => .nil
  | _, _, .cons h e p => .cons h e (pairs_any p)
theorem dictOf_any {prog' : Program} {w' : World} {h : Heap} {a : Addr} {kvs : List (Int × Value)} : h.DictOf (intKind prog w) a kvs → h.DictOf (intKind prog' w') a kvs :=
  fun ⟨o, es, ep, ho, hx, hd, hk, hp, hn⟩ => ⟨o, es, ep, ho, hx, hd, hk, pairs_any hp, hn⟩
noncomputable def SameP (prog : Program) (w : World) (s : Shared) (μ : List Addr) (n : Nat) : Prop :=
  ∀ d e, same n d e = true → ∀ (A : Around) v u, Rep prog w s.heap μ v d → Rep prog w s.heap μ u e → A.units + n < cLine → EqAt A s v u true
theorem samesOf {n : Nat} (P : SameP prog w s μ n) : ∀ ds es, sames n ds es = true → ∀ (A : Around) vs us, Reps prog w s.heap μ vs ds → Reps prog w s.heap μ us es → A.units + n < cLine →
    vs.length = us.length ∧ ∀ j (h1 : j < vs.length) (h2 : j < us.length), EqAt A s vs[j] us[j] true := by
  intro ds
  induction ds with
  | nil =>
    intro es h A vs us r q hu
    cases es with
    | nil => cases r; cases q; exact ⟨rfl, fun j h => absurd h (Nat.not_lt_zero _)⟩
    | cons => exact absurd h Bool.false_ne_true
  | cons d ds ih =>
    intro es h A vs us r q hu
    cases es with
    | nil => exact absurd h Bool.false_ne_true
    | cons e es =>
      have h : (same n d e && sames n ds es) = true := h
      rw [Bool.and_eq_true] at h
      cases r with
      | cons r rs =>
        cases q with
        | cons q qs =>
          have := ih es h.2 A _ _ rs qs hu
          refine ⟨by simp [this.1], fun j h1 h2 => ?_⟩
          cases j with
          | zero => exact P d e h.1 A _ _ r q hu
          | succ j => exact this.2 j (Nat.lt_of_succ_lt_succ h1) (Nat.lt_of_succ_lt_succ h2)
theorem sameEsOf {n : Nat} (P : SameP prog w s μ n) {b : List (Int × D)} {kb : List (Int × Value)} (qb : RepEs prog w s.heap μ kb b) : ∀ r, sameEs n r b = true → ∀ (A : Around) kvs, RepEs prog w s.heap μ kvs r → A.units + n < cLine →
    KeqHits A s kb kvs true := by
  intro r
  induction r with
  | nil => intro h A kvs q hu; cases q; exact .nil
  | cons x r ih =>
    intro h A kvs q hu
    obtain ⟨k, d⟩ := x
    have h : ((match dGet b k with | some e => same n d e | none => false) && sameEs n r b) = true := h
    rw [Bool.and_eq_true] at h
    cases q with
    | cons q qs =>
      obtain ⟨h1, h2⟩ := h
      cases he : dGet b k with
      | none => rw [he] at h1; exact absurd h1 Bool.false_ne_true
      | some e =>
        rw [he] at h1
        obtain ⟨y, hy, ry⟩ := qb.get he
        exact KeqHits.hit (e := true) (b := true) hy (P d e h1 A _ _ q ry hu) (ih h2 A _ qs hu)
theorem same_noneI {n : Nat} {e : D} (h : same n .none e = true) : e = .none := by
  cases n <;> cases e <;> first | rfl | exact absurd h Bool.false_ne_true
theorem same_boolI {n : Nat} {b : Bool} {e : D} (h : same n (.bool b) e = true) : e = .bool b := by
  cases n <;> cases e <;> first | exact absurd h Bool.false_ne_true | exact congrArg D.bool (eq_of_beq h).symm
theorem same_intI {n : Nat} {b : Int} {e : D} (h : same n (.int b) e = true) : e = .int b := by
  cases n <;> cases e <;> first | exact absurd h Bool.false_ne_true | exact congrArg D.int (eq_of_beq h).symm
theorem same_strI {n : Nat} {b : Str} {e : D} (h : same n (.str b) e = true) : e = .str b := by
  cases n <;> cases e <;> first | exact absurd h Bool.false_ne_true | exact congrArg D.str (eq_of_beq h).symm
theorem same_tupI {n : Nat} {a : List D} {e : D} (h : same n (.tup a) e = true) : ∃ m b, n = m + 1 ∧ e = .tup b ∧ sames m a b = true := by
  cases n <;> cases e <;> first | exact absurd h Bool.false_ne_true | exact ⟨_, _, rfl, rfl, h⟩
theorem same_listI {n : Nat} {a : List D} {e : D} (h : same n (.list a) e = true) : ∃ m b, n = m + 1 ∧ e = .list b ∧ sames m a b = true := by
  cases n <;> cases e <;> first | exact absurd h Bool.false_ne_true | exact ⟨_, _, rfl, rfl, h⟩
theorem same_dictI {n : Nat} {a : List (Int × D)} {e : D} (h : same n (.dict a) e = true) : ∃ m b, n = m + 1 ∧ e = .dict b ∧ (decide (a.length = b.length) && sameEs m a b) = true := by
  cases n <;> cases e <;> first | exact absurd h Bool.false_ne_true | exact ⟨_, _, rfl, rfl, h⟩
theorem elems_at {A : Around} {vs us : Array Value} (h : ∀ j (h1 : j < vs.toList.length) (h2 : j < us.toList.length), EqAt A s vs.toList[j] us.toList[j] true) : ∀ j (h1 : j < vs.size) (h2 : j < us.size), EqAt A s vs[j] us[j] true :=
  fun j h1 h2 => h j h1 h2
theorem sameStep {n : Nat} (ih : ∀ m, n = m + 1 → SameP prog w s μ m) : SameP prog w s μ n := by
  intro d e h A v u r q hu
  cases d with
  | none => cases same_noneI h; rw [(RepB.of r).noneI, (RepB.of q).noneI]; exact EqAt.same _
  | bool b => cases same_boolI h; rw [(RepB.of r).boolI, (RepB.of q).boolI]; exact EqAt.same _
  | int i =>
    cases same_intI h
    obtain ⟨t1, rfl⟩ := (RepB.of r).intI
    obtain ⟨t2, rfl⟩ := (RepB.of q).intI
    exact EqAt.cast (EqAt.int_int _ _ _ _) (by simp)
  | str x =>
    cases same_strI h
    obtain ⟨t1, rfl⟩ := (RepB.of r).strI
    obtain ⟨t2, rfl⟩ := (RepB.of q).strI
    exact EqAt.cast (EqAt.str_str _ _ _ _) (by simp)
  | tup ds =>
    obtain ⟨m, es, rfl, rfl, hs⟩ := same_tupI h
    obtain ⟨a, vs, rfl, p, rs⟩ := (RepB.of r).tupI
    obtain ⟨b, us, rfl, p', qs⟩ := (RepB.of q).tupI
    obtain ⟨hl, he⟩ := samesOf (ih m rfl) _ _ hs A.in1 _ _ rs qs (by show A.units + 1 + m < cLine; (first | lia | omega))
    by_cases hab : a = b
    · rw [hab]; exact EqAt.same _
    · exact EqAt.cast (EqAt.of_refs hab (RcAt.tuples (e := fun _ => true) p p' (by (first | lia | omega)) (elems_at he))) (by simpa using hl)
  | list ds =>
    obtain ⟨m, es, rfl, rfl, hs⟩ := same_listI h
    obtain ⟨a, vs, rfl, p, rs⟩ := (RepB.of r).listI
    obtain ⟨b, us, rfl, p', qs⟩ := (RepB.of q).listI
    obtain ⟨hl, he⟩ := samesOf (ih m rfl) _ _ hs A.in1 _ _ rs qs (by show A.units + 1 + m < cLine; (first | lia | omega))
    by_cases hab : a = b
    · rw [hab]; exact EqAt.same _
    · exact EqAt.cast (EqAt.of_refs hab (RcAt.lists (e := fun _ => true) p.isList p'.isList (by simpa using hl) (by (first | lia | omega)) (elems_at he))) (by simp)
  | dict la =>
    obtain ⟨m, es, rfl, rfl, hs⟩ := same_dictI h
    obtain ⟨a, ka, rfl, p, z, rs⟩ := (RepB.of r).dictI
    obtain ⟨b, kb, rfl, p', z', qs⟩ := (RepB.of q).dictI
    rw [Bool.and_eq_true, decide_eq_true_eq] at hs
    by_cases hab : a = b
    · rw [hab]; exact EqAt.same _
    · have hits := sameEsOf (ih m rfl) qs _ hs.2 A.in1 _ rs (by show A.units + 1 + m < cLine; (first | lia | omega))
      have hk : ka.length = kb.length := by rw [rs.length, qs.length, hs.1]
      refine EqAt.of_refs hab fun prog' w' E Q hQ => keq_eq (r := true) (by simpa using z) (by simpa using z') (dictOf_any p) (dictOf_any p') (by (first | lia | omega)) (fun _ => hits) ?_
      simpa [hk] using hQ
theorem sameP : ∀ n, SameP prog w s μ n
  | 0 => sameStep fun m h => nomatch h
  | n + 1 => sameStep fun m h => by cases h; exact sameP n

theorem all_true (n : Nat) : (List.range n).all (fun _ => true) = true := by simp
theorem twoI_inv {o : Option (List Int)} {p : Int × Int} (h : twoI o = some p) : o = some [p.1, p.2] := by
  match o, h with
  | some [a, b], h => cases h; rfl
  | none, h => cases h
  | some [], h => cases h
  | some [_], h => cases h
  | some (_ :: _ :: _ :: _), h => cases h
theorem ltL_inv {o p : Option (List Int)} {c : Bool} (h : ltL o p = some c) : ∃ x1 x2 y1 y2, o = some [x1, x2] ∧ p = some [y1, y2] ∧ c = (decide (x1 < y1) || (decide (x1 = y1) && decide (x2 < y2))) := by
  unfold ltL at h
  obtain ⟨⟨x1, x2⟩, h1, h⟩ := Option.bind_eq_some_iff.mp h
  obtain ⟨⟨y1, y2⟩, h2, h⟩ := Option.bind_eq_some_iff.mp h
  exact ⟨x1, x2, y1, y2, twoI_inv h1, twoI_inv h2, (Option.some.inj h).symm⟩
theorem ints_two {vs : List Value} {x y : Int} (h : IntsAre vs [x, y]) : ∃ t u, vs = [.int x t, .int y u] := by
  cases h with
  | cons n t h =>
    cases h with
    | cons n u h => cases h; exact ⟨t, u, rfl⟩
theorem op_lt_tup {A : Around} {E : Value → Shared → Prop} {Q : Value → Shared → Prop} {a b : Value} {l m : List D} {x1 x2 y1 y2 : Int} (hu : A.units < cLine)
    (ra : RepB prog w s.heap μ a (.tup l)) (rb : RepB prog w s.heap μ b (.tup m)) (hl : intsOf l = some [x1, x2]) (hm : intsOf m = some [y1, y2]) (hQ : Q (.bool (decide (x1 < y1) || (decide (x1 = y1) && decide (x2 < y2)))) s) :
    wpAny (model prog w) A (compareOp .Lt a b) Q E s := by
  obtain ⟨a, ⟨vs⟩, rfl, p, r⟩ := ra.tupI
  obtain ⟨b, ⟨us⟩, rfl, q, t⟩ := rb.tupI
  obtain ⟨t1, u1, rfl⟩ := ints_two (r.ints hl)
  obtain ⟨t2, u2, rfl⟩ := ints_two (t.ints hm)
  clear ra rb r t hl hm
  obtain ⟨⟨cls, dd, data, sl⟩, ho, hc, n, hd⟩ := id p
  obtain ⟨⟨cls2, dd2, data2, sl2⟩, ho2, hc2, n2, hd2⟩ := id q
  simp only at hc hd hc2 hd2
  subst hc hd hc2 hd2
  clear p q
  by_cases h1 : x1 = y1
  · subst h1
    by_cases h2 : x2 = y2
    · subst h2
      refine richCompare_meets_room (op := .Lt) ⟨_, ho, rfl⟩ ⟨_, ho2, rfl⟩ F.slot_tuple_lt F.entry_tuple_lt (F.args_tuple_lt_2 _ _) (tuple_ltEq a b _ _ n n2 dd dd2 sl sl2 (by rfl)) ⟨ho, ho2, ?_, (fun x => nomatch x), ?_⟩ hu
      · intro j h1 h2
        match j, h1 with
        | 0, _ => exact EqAt.cast (EqAt.int_int _ _ _ _) (by simp)
        | 1, _ => exact EqAt.cast (EqAt.int_int _ _ _ _) (by simp)
      · simpa using hQ
    · refine richCompare_meets_room (op := .Lt) ⟨_, ho, rfl⟩ ⟨_, ho2, rfl⟩ F.slot_tuple_lt F.entry_tuple_lt (F.args_tuple_lt_2 _ _) (tuple_ltAt a b _ _ n n2 dd dd2 sl sl2 1 (by simp) (by simp) (decide (x2 < y2))) ⟨ho, ho2, ?_, ?_, ?_, (fun x => nomatch x), ?_⟩ hu
      · intro j h1 h2 h3
        match j, h3 with
        | 0, _ => exact EqAt.cast (EqAt.int_int _ _ _ _) (by simp)
      · exact EqAt.cast (EqAt.int_int _ _ _ _) (by simpa using h2)
      · intro prog w E Q h; exact ltI h
      · simpa using hQ
  · refine richCompare_meets_room (op := .Lt) ⟨_, ho, rfl⟩ ⟨_, ho2, rfl⟩ F.slot_tuple_lt F.entry_tuple_lt (F.args_tuple_lt_2 _ _) (tuple_ltAt a b _ _ n n2 dd dd2 sl sl2 0 (by simp) (by simp) (decide (x1 < y1))) ⟨ho, ho2, ?_, ?_, ?_, (fun x => nomatch x), ?_⟩ hu
    · intro j h1 h2 h3; exact absurd h3 (Nat.not_lt_zero _)
    · exact EqAt.cast (EqAt.int_int _ _ _ _) (by simpa using h1)
    · intro prog w E Q h; exact ltI h
    · simpa [h1] using hQ

theorem eqD_inv {x y : D} {c : Bool} (h : eqD x y = some c) : (∃ a b, x = .int a ∧ y = .int b ∧ c = (a == b)) ∨ (∃ a b, x = .str a ∧ y = .str b ∧ c = (a == b)) ∨
    (∃ l m, x = .list l ∧ y = .list m ∧ ((l.length ≠ m.length ∧ c = false) ∨ (sames 8 l m = true ∧ c = true))) ∨ ∃ l m, x = .tup l ∧ y = .tup m ∧ sames 8 l m = true ∧ c = true := by
  cases x with
  | int a =>
    cases y with
    | int b => exact .inl ⟨a, b, rfl, rfl, (Option.some.inj h).symm⟩
    | _ => exact nomatch h
  | str a =>
    cases y with
    | str b => exact .inr (.inl ⟨a, b, rfl, rfl, (Option.some.inj h).symm⟩)
    | _ => exact nomatch h
  | list l =>
    cases y with
    | list m =>
      have h : (if l.length ≠ m.length then some false else if sames 8 l m = true then some true else none) = some c := h
      split at h
      · rename_i hne; exact .inr (.inr (.inl ⟨l, m, rfl, rfl, .inl ⟨hne, (Option.some.inj h).symm⟩⟩))
      · split at h
        · rename_i hs; exact .inr (.inr (.inl ⟨l, m, rfl, rfl, .inr ⟨hs, (Option.some.inj h).symm⟩⟩))
        · cases h
    | _ => exact nomatch h
  | tup l =>
    cases y with
    | tup m =>
      have h : (if sames 8 l m = true then some true else none) = some c := h
      split at h
      · rename_i hs; exact .inr (.inr (.inr ⟨l, m, rfl, rfl, hs, (Option.some.inj h).symm⟩))
      · cases h
    | _ => exact nomatch h
  | _ => exact nomatch h
theorem op_eq {A : Around} {E : Value → Shared → Prop} {Q : Value → Shared → Prop} {x y : D} {a b : Value} {c : Bool} (hu : A.units + 16 < cLine) (hz : eqD x y = some c)
    (ra : RepB prog w s.heap μ a x) (rb : RepB prog w s.heap μ b y) (hq : Q (.bool c) s) : wpAny (model prog w) A (compareOp .Eq a b) Q E s := by
  rcases eqD_inv hz with ⟨i, j, rfl, rfl, rfl⟩ | ⟨i, j, rfl, rfl, rfl⟩ | ⟨l, m, rfl, rfl, hc⟩ | ⟨l, m, rfl, rfl, hs, rfl⟩
  · obtain ⟨t, rfl⟩ := ra.intI; obtain ⟨u, rfl⟩ := rb.intI; exact eq_int hq
  · obtain ⟨t, rfl⟩ := ra.strI; obtain ⟨u, rfl⟩ := rb.strI; exact eq_str hq
  · obtain ⟨a, vs, rfl, p, r⟩ := ra.listI
    obtain ⟨b, us, rfl, q, t⟩ := rb.listI
    rcases hc with ⟨hne, rfl⟩ | ⟨hs, rfl⟩
    · have l1 := r.length
      have l2 := t.length
      simp only [Array.length_toList] at l1 l2
      exact eq_list_lengthsAt p.isList q.isList (by simpa [l1, l2] using hne) (by (first | lia | omega)) hq
    · obtain ⟨hl, he⟩ := samesOf (sameP 8) _ _ hs A.in1 _ _ r t (by show A.units + 1 + 8 < cLine; (first | lia | omega))
      exact eq_listAt (e := fun _ => true) p.isList q.isList (by simpa using hl) (by (first | lia | omega)) (elems_at he) (by rw [all_true]; exact hq)
  · obtain ⟨a, vs, rfl, p, r⟩ := ra.tupI
    obtain ⟨b, us, rfl, q, t⟩ := rb.tupI
    obtain ⟨hl, he⟩ := samesOf (sameP 8) _ _ hs A.in1 _ _ r t (by show A.units + 1 + 8 < cLine; (first | lia | omega))
    have hl : vs.size = us.size := by simpa using hl
    exact eq_tupleAt (e := fun _ => true) p q (by (first | lia | omega)) (elems_at he) (by rw [all_true, hl]; simpa using hq)
theorem op_ne {A : Around} {E : Value → Shared → Prop} {Q : Value → Shared → Prop} {x y : D} {a b : Value} {c : Bool} (hu : A.units + 16 < cLine) (hz : eqD x y = some c) (hno : ∀ l, x ≠ .list l)
    (ra : RepB prog w s.heap μ a x) (rb : RepB prog w s.heap μ b y) (hq : Q (.bool (!c)) s) : wpAny (model prog w) A (compareOp .NotEq a b) Q E s := by
  rcases eqD_inv hz with ⟨i, j, rfl, rfl, rfl⟩ | ⟨i, j, rfl, rfl, rfl⟩ | ⟨l, m, rfl, rfl, hc⟩ | ⟨l, m, rfl, rfl, hs, rfl⟩
  · obtain ⟨t, rfl⟩ := ra.intI; obtain ⟨u, rfl⟩ := rb.intI; exact ne_int hq
  · obtain ⟨t, rfl⟩ := ra.strI; obtain ⟨u, rfl⟩ := rb.strI; exact ne_str hq
  · exact absurd rfl (hno l)
  · obtain ⟨a, vs, rfl, p, r⟩ := ra.tupI
    obtain ⟨b, us, rfl, q, t⟩ := rb.tupI
    obtain ⟨hl, he⟩ := samesOf (sameP 8) _ _ hs A.in1 _ _ r t (by show A.units + 1 + 8 < cLine; (first | lia | omega))
    have hl : vs.size = us.size := by simpa using hl
    clear ra rb r t hs
    obtain ⟨⟨cls, dd, data, sl⟩, ho, hc, n, hd⟩ := id p
    obtain ⟨⟨cls2, dd2, data2, sl2⟩, ho2, hc2, n2, hd2⟩ := id q
    simp only at hc hd hc2 hd2
    subst hc hd hc2 hd2
    exact richCompare_meets_room (op := .NotEq) ⟨_, ho, rfl⟩ ⟨_, ho2, rfl⟩ F.slot_tuple_ne F.entry_tuple_ne (F.args_tuple_ne_2 _ _) (tuple_neAt a b _ _ n n2 dd dd2 sl sl2 hl) ⟨ho, ho2, elems_at he, (fun x => nomatch x), hq⟩ (by (first | lia | omega))
theorem op_cmp {A : Around} {E : Value → Shared → Prop} {Q : Value → Shared → Prop} {op : COp} {x y : D} {a b : Value} {c : Bool} (hu : A.units + 16 < cLine) (hz : cmpD op x y = some c)
    (ra : RepB prog w s.heap μ a x) (rb : RepB prog w s.heap μ b y) (na : ∀ l, x = .tup l → Rep prog w s.heap μ a x) (nb : ∀ l, y = .tup l → Rep prog w s.heap μ b y) (hQ : Res prog w μ (.bool c) Q s) :
    wpAny (model prog w) A (compareOp (opC op) a b) Q E s := by
  cases op with
  | lt =>
    have hz : lt2 x y = some c := hz
    unfold lt2 at hz
    split at hz
    · cases hz; obtain ⟨t, rfl⟩ := ra.intI; obtain ⟨u, rfl⟩ := rb.intI; exact lt_int hQ.bool'
    · obtain ⟨x1, x2, y1, y2, e1, e2, e3⟩ := ltL_inv hz
      cases e3; exact op_lt_tup (by (first | lia | omega)) ra rb e1 e2 hQ.bool'
    · cases hz
  | le =>
    obtain ⟨i, j, rfl, rfl, hz⟩ := arith_inv hz
    cases hz; obtain ⟨t, rfl⟩ := ra.intI; obtain ⟨u, rfl⟩ := rb.intI; exact le_int hQ.bool'
  | gt =>
    obtain ⟨i, j, rfl, rfl, hz⟩ := arith_inv hz
    cases hz; obtain ⟨t, rfl⟩ := ra.intI; obtain ⟨u, rfl⟩ := rb.intI; exact gt_int hQ.bool'
  | eq => exact op_eq hu hz ra rb hQ.bool'
  | ne =>
    have hz : ne2 x y = some c := hz
    unfold ne2 at hz
    split at hz
    · cases hz
    · rename_i hno
      obtain ⟨b', hb, rfl⟩ := Option.map_eq_some_iff.mp hz
      rcases eqD_inv hb with ⟨i, j, rfl, _⟩ | ⟨i, j, rfl, _⟩ | ⟨l, m, rfl, rfl, _⟩ | ⟨l, m, rfl, _⟩
      · exact op_ne hu hb (fun l e => nomatch e) ra rb hQ.bool'
      · exact op_ne hu hb (fun l e => nomatch e) ra rb hQ.bool'
      · exact absurd rfl (hno _ _ rfl)
      · exact op_ne hu hb (fun l e => nomatch e) ra rb hQ.bool'
end
end Mine
end
section
open PySem PySem.W PyProof.Rows PySem.Calls
set_option maxRecDepth 100000
namespace Mine
open PySem.MeetsSeq PySem.SeqAt

section
variable {prog : Program} {w : World} {A : Around} {E : Value → Shared → Prop} {s : Shared} {Q : Value → Shared → Prop} {μ : List Addr}

/-- an item is had through the type's own slot -/
noncomputable def Item (prog : Program) (w : World) (A : Around) (E : Value → Shared → Prop) (s : Shared) (o i : Value) (Q : Value → Shared → Prop) : Prop :=
  ∃ T id, s.TypeIs o T ∧ typeLookup (.type T) (Str.ofString "__getitem__") = pure (some (.builtin id)) ∧ wpAny (model prog w) A (getItem o i) Q E s

theorem place_spec {i : Int} {n j : Nat} (h : place i n = some j) : n ≤ 1000 ∧ j < n ∧ ((0 ≤ i ∧ i = j) ∨ (i < 0 ∧ i + n = j)) ∧ -(n : Int) ≤ i ∧ i < n := by
  unfold place at h
  split at h
  · split at h
    · split at h
      · cases h; (first | lia | omega)
      · cases h
    · split at h
      · cases h; (first | lia | omega)
      · cases h
  · cases h

theorem op_sub {x y z : D} {a b : Value} (hz : subD x y = some z) (ra : RepB prog w s.heap μ a x) (rb : RepB prog w s.heap μ b y) (hQ : Res prog w μ z Q s) : Item prog w A E s a b Q := by
  unfold subD at hz
  split at hz
  · obtain ⟨t, rfl⟩ := rb.intI
    obtain ⟨a, vs, rfl, p, r⟩ := ra.listI
    obtain ⟨j, hj, hd⟩ := Option.bind_eq_some_iff.mp hz
    obtain ⟨v, hv, rv⟩ := r.at hd
    have hl := r.length
    simp only [Array.length_toList] at hl
    obtain ⟨h1, h2, h3, h4, h5⟩ := place_spec hj
    have hv' : vs[j]? = some v := by simpa using hv
    refine ⟨_, _, p.isList.typeIs, slot_list_getitem.lookup, ?_⟩
    rcases h3 with ⟨h0, h3⟩ | ⟨h0, h3⟩
    · exact wpAny_getItem_list p.isList h0 (by (first | lia | omega)) (by rw [h3, Int.toNat_natCast]; exact hv') (hQ.here' rv)
    · exact wpAny_getItem_list_neg p.isList h0 (by (first | lia | omega)) (by (first | lia | omega)) (by rw [hl, h3, Int.toNat_natCast]; exact hv') (hQ.here' rv)
  · obtain ⟨t, rfl⟩ := rb.intI
    obtain ⟨a, vs, rfl, p, r⟩ := ra.tupI
    obtain ⟨j, hj, hd⟩ := Option.bind_eq_some_iff.mp hz
    obtain ⟨v, hv, rv⟩ := r.at hd
    have hl := r.length
    simp only [Array.length_toList] at hl
    obtain ⟨h1, h2, h3, h4, h5⟩ := place_spec hj
    have hv' : vs[j]? = some v := by simpa using hv
    refine ⟨_, _, p.typeIs, F.slot_tuple_getitem.lookup, getItem_tuple (j := j) p (by (first | lia | omega)) (by (first | lia | omega)) ?_ hv' (hQ.here' rv)⟩
    unfold seqIndex?
    rcases h3 with ⟨h0, h3⟩ | ⟨h0, h3⟩
    · have : ¬ (_ : Int) < 0 := Int.not_lt.mpr h0
      simp [this]; (first | lia | omega)
    · simp [h0, hl]; (first | lia | omega)
  · obtain ⟨t, rfl⟩ := rb.intI
    obtain ⟨u, rfl⟩ := ra.strI
    obtain ⟨j, hj, hd⟩ := Option.bind_eq_some_iff.mp hz
    obtain ⟨c, hc, rfl⟩ := Option.map_eq_some_iff.mp hd
    obtain ⟨h1, h2, h3, h4, h5⟩ := place_spec hj
    refine ⟨_, _, typeIs_str _ _ _, F.slot_str_getitem.lookup, PySem.P.getItem_str (c := c) ?_ ?_ hQ.str⟩
    · simp; (first | lia | omega)
    · rename_i y i
      have : seqIndex? i (Str.length y) = some j := by
        show seqIndex? i y.cps.size = some j
        unfold seqIndex?
        rcases h3 with ⟨h0, h3⟩ | ⟨h0, h3⟩
        · have : ¬ i < 0 := Int.not_lt.mpr h0
          simp [this]; (first | lia | omega)
        · simp [h0]; (first | lia | omega)
      rw [this]; exact hc
  · obtain ⟨t, rfl⟩ := rb.intI
    obtain ⟨a, kvs, rfl, p, z, r⟩ := ra.dictI
    obtain ⟨v, hv, rv⟩ := r.get hz
    refine ⟨_, _, p.typeIs, slot_dict_getitem.lookup, ?_⟩
    exact wpAny_getItem_of (by simp [intKind, Value.isInt]) p.mapOf hv (hQ.here rv)
  · cases hz

theorem op_lower {x z : D} {a : Value} (hz : lowerD x = some z) (ra : RepB prog w s.heap μ a x) (hQ : Res prog w μ z Q s) :
    wpAny (model prog w) A (call (.builtin "str.lower") [a]) Q E s := by
  unfold lowerD at hz
  split at hz
  · split at hz
    · cases hz
      rename_i y hy
      obtain ⟨t, rfl⟩ := ra.strI
      simp only [Bool.and_eq_true, List.all_eq_true, decide_eq_true_eq] at hy
      have e : Txt.lower y = ⟨(y.cps.toList.map fun c => if 65 ≤ c ∧ c ≤ 90 then c + 32 else c).toArray⟩ := by
        rw [lower_ascii (fun c hc => hy.1 c hc)]
        congr 1
        apply Array.ext'
        simp [lo1]
      refine PySem.SC.lower ?_ ?_
      · rw [e]
        show decide ((List.toArray _).size > sizeLine) = false
        simp [sizeLine]; (first | lia | omega)
      · rw [e]; exact hQ.str
    · cases hz
  · cases hz

theorem Reps.strs {h : Heap} : ∀ {vs : List Value} {ds : List D} {xs : List Str}, Reps prog w h μ vs ds → strsOf ds = some xs → ∃ l : List (Str × Tok), vs = strValues l ∧ l.map (·.1) = xs
  | _, _, _, .nil, e => by cases e; exact ⟨[], rfl, rfl⟩
  | _, _, _, .cons r rs, e => by
    unfold strsOf at e
    split at e
    · rename_i h1; cases h1
    · rename_i h1
      injection h1 with h2 h3
      subst h2 h3
      cases r
      obtain ⟨js, e1, rfl⟩ := Option.map_eq_some_iff.mp e
      obtain ⟨l, rfl, rfl⟩ := Reps.strs rs e1
      exact ⟨(_, _) :: l, rfl, rfl⟩
    · cases e

theorem glue_nil (sep : Str) (h : sep.cps.size = 0) (xs : List Str) : Txt.join sep xs = ⟨(xs.flatMap (·.cps.toList)).toArray⟩ := by
  have e0 : sep.cps = #[] := Array.eq_empty_of_size_eq_zero h
  show Builtin.Str.glued sep xs = _
  unfold Builtin.Str.glued
  rw [e0]
  congr 1
  have step : ∀ (l : List Str) (acc : Array Nat), l.foldl (fun acc p => acc ++ #[] ++ p.cps) acc = ⟨acc.toList ++ l.flatMap (·.cps.toList)⟩ := by
    intro l
    induction l with
    | nil => intro acc; simp
    | cons x r ih => intro acc; rw [List.foldl_cons, ih]; simp
  rw [step]
  cases xs with
  | nil => rfl
  | cons x r => simp
theorem join_ok (sep : Str) (h : sep.cps.size = 0) (xs : List Str) (hs : (xs.map (·.cps.size)).sum ≤ 1000) : JoinOk sep xs = true := by
  unfold JoinOk
  have step : ∀ (l : List Str) (acc : Nat), l.foldl (fun x1 x2 => x1 + x2.length + sep.length) acc = acc + (l.map (·.cps.size)).sum := by
    intro l
    induction l with
    | nil => intro acc; simp
    | cons x r ih =>
      intro acc
      rw [List.foldl_cons, ih]
      have e1 : sep.length = 0 := h
      have e2 : x.length = x.cps.size := rfl
      simp only [List.map_cons, List.sum_cons]; (first | lia | omega)
  rw [List.foldl_toArray' (h := rfl), step]
  have : ¬ (0 + (xs.map (·.cps.size)).sum > sizeLine) := by unfold sizeLine; (first | lia | omega)
  unfold Builtin.Str.tooLong
  simp [this]; (first | lia | omega)
theorem op_join {x y z : D} {a b : Value} (hz : joinD x y = some z) (ra : RepB prog w s.heap μ a x) (rb : RepB prog w s.heap μ b y) (hQ : Res prog w μ z Q s) :
    wpAny (model prog w) A (call (.builtin "str.join") [a, b]) Q E s := by
  unfold joinD at hz
  split at hz
  · split at hz
    · rename_i h0
      obtain ⟨xs, e1, e2⟩ := Option.bind_eq_some_iff.mp hz
      split at e2
      · cases e2
        rename_i hsz
        obtain ⟨t, rfl⟩ := ra.strI
        obtain ⟨b, vs, rfl, p, r⟩ := rb.listI
        obtain ⟨l, hl, rfl⟩ := r.strs e1
        have hl' : vs = (strValues l).toArray := by apply Array.ext'; simpa using hl
        subst hl'
        refine PySem.SC.join p.isList rfl ?_ fun t' k => ?_
        · exact join_ok _ h0 _ hsz
        · rw [glue_nil _ h0]; exact hQ.str
      · cases e2
    · cases hz
  · cases hz

theorem op_index {x y z : D} {a b : Value} (hz : indexD x y = some z) (ra : RepB prog w s.heap μ a x) (rb : RepB prog w s.heap μ b y) (hQ : Res prog w μ z Q s) :
    wpAny (model prog w) A (call (.builtin "list.index") [a, b]) Q E s := by
  unfold indexD at hz
  split at hz
  · rename_i l0 k
    split at hz
    · rename_i hl2
      obtain ⟨is, e1, e2⟩ := Option.bind_eq_some_iff.mp hz
      obtain ⟨j, e3, rfl⟩ := Option.map_eq_some_iff.mp e2
      obtain ⟨u, rfl⟩ := rb.intI
      obtain ⟨a, vs, rfl, p, r⟩ := ra.listI
      have hi := r.ints e1
      have hl1 := r.length
      simp only [Array.length_toList] at hl1
      have hlen : vs.size = is.length := by simpa using hi.length
      obtain ⟨n, ho⟩ := p
      obtain ⟨hj, hhit, hno⟩ := List.findIdx?_eq_some_iff_getElem.mp e3
      have at_ : ∀ m (hm : m < vs.size) (hm' : m < is.length), ∃ t, vs[m] = .int is[m] t := by
        intro m hm hm'
        obtain ⟨t, ht⟩ := hi.get m is[m] (by simp [hm'])
        refine ⟨t, ?_⟩
        have : vs.toList[m]? = some vs[m] := by simp [hm]
        rw [this] at ht; exact Option.some.inj ht
      refine call_meets F.slot_list_index ⟨_, ho, rfl⟩ F.entry_list_index (F.args_list_index_2 _ _) (SeqAt.list_indexAt a vs n none #[] (.int k u) (fun v => match v with | .int i _ => i == k | _ => false) j (by (first | lia | omega)) (by (first | lia | omega)) ?_ ?_) ⟨ho, ?_, ?_⟩
      · obtain ⟨t, e⟩ := at_ j (by (first | lia | omega)) (by (first | lia | omega))
        rw [e]; exact hhit
      · intro m hm hlt
        obtain ⟨t, e⟩ := at_ m hm (by (first | lia | omega))
        rw [e]; simpa using hno m hlt
      · intro y hy
        obtain ⟨m, hm, rfl⟩ := Array.mem_iff_getElem.mp hy
        obtain ⟨t, e⟩ := at_ m hm (by (first | lia | omega))
        rw [e]; exact EqAt.int_int _ _ _ _
      · exact hQ.int
    · cases hz
  · cases hz
theorem op_in {l : List (Int × D)} {k : Int} {a b : Value} (ra : RepB prog w s.heap μ a (.int k)) (rb : RepB prog w s.heap μ b (.dict l)) (hQ : Res prog w μ (.bool (l.any fun kv => kv.1 = k)) Q s) :
    wpAny (model prog w) A (compareOp .In a b) Q E s := by
  obtain ⟨t, rfl⟩ := ra.intI
  obtain ⟨b, kvs, rfl, p, z, r⟩ := rb.dictI
  refine wpAny_in_of (k := k) (by simp [intKind, Value.isInt]) (by simpa using z) p.mapOf ?_
  have e : (valueAt kvs k).isSome = l.any fun kv => kv.1 = k := by
    rw [← r.any k]
    unfold valueAt
    rw [Option.isSome_map]
    clear r p
    induction kvs with
    | nil => rfl
    | cons kv r ih =>
      rw [List.find?_cons, List.any_cons]
      cases hd : decide (kv.1 = k) with
      | true => rfl
      | false => exact ih
  rw [e]; exact hQ.bool
theorem op_isTup {i : Int} {a : Value} (ra : RepB prog w s.heap μ a (.int i)) (hQ : Res prog w μ (.bool false) Q s) :
    wpAny (model prog w) A (call (.builtin "isinstance") [a, .type "tuple"]) Q E s := by
  obtain ⟨t, rfl⟩ := ra.intI
  exact PySem.IsiPair.int_tuple hQ.bool
end
end Mine
end
section
open PySem PySem.W PyProof.Rows PySem.Calls
set_option maxRecDepth 100000
namespace Mine
open PySem.MeetsSeq PySem.SeqAt

section
variable {prog : Program} {w : World} {A : Around} {E : Value → Shared → Prop} {s : Shared} {Q : Value → Shared → Prop} {μ : List Addr}

noncomputable def IterP (prog : Program) (w : World) (h : Heap) (μ : List Addr) (ds : List D) (i : Nat) (v : Value) : Prop := ∃ d, ds[i]? = some d ∧ Rep prog w h μ v d

/-- what a loop wants of its source -/
structure Turns (prog : Program) (w : World) (A : Around) (μ : List Addr) (fz : Bool) (ds : List D) (h0 h : Heap) (I : Addr) (fp : List Addr) (St : Nat → Heap → Prop) : Prop where
  W : ∃ hp, Ext hp h ∧ hp.get? I = none ∧ Walks prog w A I fp [I] ds.length (IterP prog w hp μ ds) St
  st : St 0 h
  ext : Ext h0 h
  fresh : h0.get? I = none
  live : ∀ k h', St k h' → ∃ o, h'.get? I = some o
  old : ∀ b ∈ fp, b = I ∨ ((∃ o, h.get? b = some o) ∧ (fz = true → b ∉ μ))

noncomputable def Src (prog : Program) (w : World) (μ : List Addr) (fz : Bool) (h : Heap) (xv : Value) (ds : List D) : Prop :=
  ∀ (A : Around) (s : Shared) (E : Value → Shared → Prop) (Q : Value → Shared → Prop), A.handled = none → Ext h s.heap → Alive s.heap μ →
    (∀ I fp St h' tk, Turns prog w A μ fz ds s.heap h' I fp St → Q (.ref I) { s with heap := h', toks := tk }) → wpAny (model prog w) A (pyIter xv) Q E s

theorem none_of_size (h : Heap) : h.get? h.objs.size = none := by
  cases e : h.get? h.objs.size with
  | none => rfl
  | some o => exact absurd (Heap.lt_size e) (Nat.lt_irrefl _)

theorem walk_len {I : Addr} {fp wr : List Addr} {n m : Nat} {P P' : Nat → Value → Prop} {St : Nat → Heap → Prop} (e : n = m) (W : Walks prog w A I fp wr n P St) (h : ∀ i v, P i v → P' i v) : Walks prog w A I fp wr m P' St := e ▸ W.weaken h
theorem src_list {fz : Bool} {h : Heap} {a : Addr} {vs : Array Value} {ds : List D} (p : h.PlainList a vs) (r : Reps prog w h μ vs.toList ds) (hf : fz = true → a ∉ μ) : Src prog w μ fz h (.ref a) ds := by
  intro A s E Q hh hx al hQ
  have p' : s.heap.PlainList a vs := p.at fun o e => hx _ _ e
  obtain ⟨n, ho⟩ := id p'
  have hlt := Heap.lt_size ho
  have hlen : vs.size = ds.length := by simpa using r.length
  refine wpAny_pyIter_list p'.isList (hQ _ _ (fun i h => h.IsListIter s.heap.objs.size a i ∧ h.IsList a vs) _ s.toks ⟨⟨s.heap, Ext.push _ _, none_of_size _, walk_len hlen (Walks.list hh s.heap.objs.size a (Nat.ne_of_lt hlt) vs) ?_⟩, ⟨⟨_, Heap.get?_push_size _ rfl, rfl, rfl⟩, p'.isList.at fun o e => Heap.get?_push_of_some _ e⟩, Ext.push _ _, none_of_size _, (fun _ _ x => let ⟨o, ho, _⟩ := x.1; ⟨o, ho⟩), ?_⟩)
  · intro i v e
    obtain ⟨d, hd, rv⟩ := r.at' (by simpa using e)
    exact ⟨d, hd, rv.keep hx⟩
  · intro b hb
    rcases List.mem_cons.mp hb with e | hb
    · exact .inl e
    · rw [List.mem_singleton.mp hb]; exact .inr ⟨⟨_, Heap.get?_push_of_some _ ho⟩, hf⟩
theorem src_tup {fz : Bool} {h : Heap} {a : Addr} {vs : Array Value} {ds : List D} (p : h.IsTuple a vs) (r : Reps prog w h μ vs.toList ds) (hf : fz = true → a ∉ μ) : Src prog w μ fz h (.ref a) ds := by
  intro A s E Q hh hx al hQ
  have p' : s.heap.IsTuple a vs := isTuple_at p fun o e => hx _ _ e
  obtain ⟨o, ho, _⟩ := id p'
  have hlt := Heap.lt_size ho
  have hlen : vs.size = ds.length := by simpa using r.length
  refine wpAny_pyIter_tuple p' (hQ _ _ (fun i h => h.IsTupleIter s.heap.objs.size a i ∧ h.IsTuple a vs) _ s.toks ⟨⟨s.heap, Ext.push _ _, none_of_size _, walk_len hlen (Walks.tuple hh s.heap.objs.size a (Nat.ne_of_lt hlt) vs) ?_⟩, ⟨⟨_, Heap.get?_push_size _ rfl, rfl, rfl⟩, p'.at fun o e => Heap.get?_push_of_some _ e⟩, Ext.push _ _, none_of_size _, (fun _ _ x => let ⟨o, ho, _⟩ := x.1; ⟨o, ho⟩), ?_⟩)
  · intro i v e
    obtain ⟨d, hd, rv⟩ := r.at' (by simpa using e)
    exact ⟨d, hd, rv.keep hx⟩
  · intro b hb
    rcases List.mem_cons.mp hb with e | hb
    · exact .inl e
    · rw [List.mem_singleton.mp hb]; exact .inr ⟨⟨_, Heap.get?_push_of_some _ ho⟩, hf⟩
theorem src_dict {fz : Bool} {h : Heap} {a : Addr} {kvs : List (Int × Value)} {l : List (Int × D)} (p : h.DictOf (intKind prog w) a kvs) (z : a ≠ sysModules) (r : RepEs prog w h μ kvs l) (hf : fz = true → a ∉ μ) :
    Src prog w μ fz h (.ref a) (l.map fun kv => .int kv.1) := by
  intro A s E Q hh hx al hQ
  have p' : s.heap.DictOf (intKind prog w) a kvs := dictOf_at p fun o e => hx _ _ e
  obtain ⟨ep, hat⟩ := p'.dictAt
  obtain ⟨o, ho⟩ := dictOf_get p'
  have hlt := Heap.lt_size ho
  have hlen : kvs.length = (l.map fun kv => D.int kv.1).length := by simpa using r.length
  refine wpAny_pyIter_dict (by simpa using z) hat (hQ _ _ (fun i h => h.IsKeyIter s.heap.objs.size a i kvs.length ep ∧ h.DictAt (intKind prog w) a kvs ep) _ s.toks ⟨⟨s.heap, Ext.push _ _, none_of_size _, walk_len hlen (Walks.dictKeys hh s.heap.objs.size a (Nat.ne_of_lt hlt) kvs ep) ?_⟩, ⟨⟨_, Heap.get?_push_size _ rfl, rfl, rfl⟩, hat.push _⟩, Ext.push _ _, none_of_size _, (fun _ _ x => let ⟨o, ho, _⟩ := x.1; ⟨o, ho⟩), ?_⟩)
  · rintro i v ⟨k, x, hk, hv⟩
    obtain ⟨t, rfl⟩ := Value.isInt_shape hv
    have hk' : (kvs.map (·.1))[i]? = some k := by rw [List.getElem?_map, hk]; rfl
    rw [r.keys, List.getElem?_map] at hk'
    obtain ⟨y, hy, e⟩ := Option.map_eq_some_iff.mp hk'
    exact ⟨.int k, by rw [List.getElem?_map, hy, ← e]; rfl, .int k t⟩
  · intro b hb
    rcases List.mem_cons.mp hb with e | hb
    · exact .inl e
    · rw [List.mem_singleton.mp hb]; exact .inr ⟨⟨_, Heap.get?_push_of_some _ ho⟩, hf⟩
theorem src_values {fz : Bool} {h : Heap} {a v : Addr} {kvs : List (Int × Value)} {l : List (Int × D)} (hv : h.IsValuesView v a) (p : h.DictOf (intKind prog w) a kvs) (r : RepEs prog w h μ kvs l) (hf : fz = true → a ∉ μ) :
    Src prog w μ fz h (.ref v) (l.map (·.2)) := by
  intro A s E Q hh hx al hQ
  have p' : s.heap.DictOf (intKind prog w) a kvs := dictOf_at p fun o e => hx _ _ e
  have hv' : s.heap.IsValuesView v a := let ⟨o, ho, r⟩ := hv; ⟨o, hx _ _ ho, r⟩
  obtain ⟨ep, hat⟩ := p'.dictAt
  obtain ⟨o, ho⟩ := dictOf_get p'
  have hlt := Heap.lt_size ho
  have hlen : kvs.length = (l.map (·.2)).length := by simpa using r.length
  refine wpAny_pyIter_values hv' hat (hQ _ _ (fun i h => h.IsValIter s.heap.objs.size a i kvs.length ep ∧ h.DictAt (intKind prog w) a kvs ep) _ s.toks ⟨⟨s.heap, Ext.push _ _, none_of_size _, walk_len hlen (Walks.dictValues hh s.heap.objs.size a (Nat.ne_of_lt hlt) kvs ep) ?_⟩, ⟨⟨_, Heap.get?_push_size _ rfl, rfl, rfl⟩, hat.push _⟩, Ext.push _ _, none_of_size _, (fun _ _ x => let ⟨o, ho, _⟩ := x.1; ⟨o, ho⟩), ?_⟩)
  · rintro i v ⟨k, hk⟩
    obtain ⟨d, hd, _, rv⟩ := r.at' hk
    exact ⟨d.2, by rw [List.getElem?_map, hd]; rfl, rv.keep hx⟩
  · intro b hb
    rcases List.mem_cons.mp hb with e | hb
    · exact .inl e
    · rw [List.mem_singleton.mp hb]; exact .inr ⟨⟨_, Heap.get?_push_of_some _ ho⟩, hf⟩
theorem src_str {fz : Bool} {h : Heap} {x : Str} {t : Tok} (ha : x.cps.toList.all (· < 128) = true) : Src prog w μ fz h (.str x t) (x.cps.toList.map fun c => .str ⟨#[c]⟩) := by
  intro A s E Q hh hx al hQ
  have ha' : (x.cps.all (· < 128)) = true := by rw [← Array.all_toList]; exact ha
  refine wpAny_pyIter_ascii ha' (hQ _ [s.heap.objs.size] (fun i h => h.IsStrIter s.heap.objs.size "str_ascii_iterator" x t i) _ s.toks ⟨?_, ?_, Ext.push _ _, none_of_size _, (fun _ _ x => let ⟨o, ho, _⟩ := x; ⟨o, ho⟩), ?_⟩)
  · refine ⟨s.heap, Ext.push _ _, none_of_size _, walk_len (by simp) (Walks.strAscii hh s.heap.objs.size x t) ?_⟩
    rintro i v ⟨c, u, hc, rfl⟩
    exact ⟨.str ⟨#[c]⟩, by rw [List.getElem?_map]; simp [hc], .str _ u⟩
  · exact ⟨_, Heap.get?_push_size _ rfl, rfl, rfl⟩
  · intro b hb; exact .inl (List.mem_singleton.mp hb)

theorem range_size {a b : Int} : Builtin.Range.rangeSize a b 1 = (((b - a).toNat : Nat) : Int) := by
  rw [rangeSize_one]; split <;> (first | lia | omega)
theorem rangeD_at {a : Int} {n i : Nat} (h : i < n) : (rangeD a n)[i]? = some (.int (a + i)) := by
  unfold rangeD; simp [h]
theorem rangeD_len (a : Int) (n : Nat) : (rangeD a n).length = n := by simp [rangeD]
/-- a range by ones -/
theorem src_range {fz : Bool} {h : Heap} {r : Addr} {a b : Int} {t u v : Tok} (ha : -1000 ≤ a) (ha2 : a ≤ 1000) (hb2 : -1000 ≤ b) (hb : b ≤ 1000) (hr : IsRange h r a b 1 t u v) : Src prog w μ fz h (.ref r) (rangeD a (b - a).toNat) := by
  intro A s E Q hh hx al hQ
  refine wpAny_pyIter_range (hx _ _ hr) (small_one (by (first | lia | omega)) (by (first | lia | omega)) (by (first | lia | omega)) (by (first | lia | omega))) (hQ _ [s.heap.objs.size] (fun i h => IsRangeIter h s.heap.objs.size (a + (i : Nat) * 1) ((((b - a).toNat : Nat) : Int) - (i : Nat)) 1) _ s.toks ⟨?_, ?_, Ext.push _ _, none_of_size _, (fun _ _ x => ⟨_, x⟩), ?_⟩)
  · refine ⟨s.heap, Ext.push _ _, none_of_size _, walk_len (rangeD_len _ _).symm (Walks.bound (Walks.range hh s.heap.objs.size a 1 (b - a).toNat)) ?_⟩
    rintro i v ⟨hi, t, rfl⟩
    exact ⟨_, rangeD_at hi, by rw [Int.mul_one]; exact .int _ t⟩
  · show _ = _
    rw [range_size]
    simpa [rawInt] using Heap.get?_push_size _ rfl
  · intro b hb; exact .inl (List.mem_singleton.mp hb)

/-! ### reversed(range(n)) -/
theorem revr_m (r : Addr) (a b c : Int) (t u v : Tok) (hc0 : ¬(!(Builtin.Range.rangeFitsLong a && Builtin.Range.rangeFitsLong b && Builtin.Range.rangeFitsLong c && Builtin.Range.rangeFitsLong (-c) && Builtin.Range.rangeFitsLong (a - c) && Builtin.Range.rangeFitsLong (Builtin.Range.rangeSize a b c))) = true) :
    Meets (Builtin.«range.__reversed__» ⟨[.ref r], []⟩) (fun _ R s => s.heap.get? r = some { cls := .type "range", dict := none, data := .fields #[.int a t, .int b u, .int c v], slots := #[] } ∧ R (.ok (.ret (Value.ref s.heap.objs.size))) { s with heap := s.heap.push { cls := Value.type (if (Builtin.Range.rangeFitsLong a && Builtin.Range.rangeFitsLong b && Builtin.Range.rangeFitsLong c && Builtin.Range.rangeFitsLong (-c) && Builtin.Range.rangeFitsLong (a - c) && Builtin.Range.rangeFitsLong (Builtin.Range.rangeSize a b c)) = true then "range_iterator" else "longrange_iterator"), data := Data.fields #[rawInt (a + (Builtin.Range.rangeSize a b c - 1) * c), rawInt (Builtin.Range.rangeSize a b c), rawInt (-c)] }, toks := s.toks }) :=
  .of_wp fun prog w A R s h => by obtain ⟨hp, g, d, tk, os⟩ := s; obtain ⟨hl, h⟩ := h; wp_walk; exact ⟨_, rfl, h⟩
theorem revr_call {r : Addr} {a b : Int} {t u v : Tok} {n : Nat} {Q : Value → Shared → Prop} (ha : a = 0) (hn : Builtin.Range.rangeSize a b 1 = n) (hs : n ≤ 1000) (hb : 0 ≤ b) (hb' : b ≤ 1000) (hr : IsRange s.heap r a b 1 t u v)
    (h : Q (.ref s.heap.objs.size) { s with heap := s.heap.push { cls := .type "range_iterator", data := .fields #[rawInt (a + ((n : Int) - 1) * 1), rawInt n, rawInt (-1)] } }) :
    wpAny (model prog w) A (call (.builtin "range.__reversed__") [.ref r]) Q E s := by
  have e : (Builtin.Range.rangeFitsLong a && Builtin.Range.rangeFitsLong b && Builtin.Range.rangeFitsLong 1 && Builtin.Range.rangeFitsLong (-1) && Builtin.Range.rangeFitsLong (a - 1) && Builtin.Range.rangeFitsLong (Builtin.Range.rangeSize a b 1)) = true := by
    rw [hn, ha]
    simp only [Builtin.Range.rangeFitsLong, Bool.and_eq_true, decide_eq_true_eq]
    (first | lia | omega)
  refine call_meets F.slot_range_reversed ⟨_, hr, rfl⟩ F.entry_range_reversed (F.args_range_reversed_1 _) (revr_m r a b 1 t u v (by rw [e]; simp)) ⟨hr, ?_⟩
  rw [if_pos e, hn]
  exact h

theorem code_reversed_range {r : Addr} {a b : Int} {t u v : Tok} {n : Nat} {Q₁ : Value → Shared → Prop} (ha : a = 0) (hn : Builtin.Range.rangeSize a b 1 = n) (hs : n ≤ 1000) (hb : 0 ≤ b) (hb' : b ≤ 1000) (hr : IsRange s.heap r a b 1 t u v)
    (h : Q₁ (.ref s.heap.objs.size) { s with heap := s.heap.push { cls := .type "range_iterator", data := .fields #[rawInt (a + ((n : Int) - 1) * 1), rawInt n, rawInt (-1)] } }) :
    codeAny (model prog w) A (.call (.builtin "reversed.__new__") ⟨[.type "reversed", .ref r], []⟩) (wants Q₁ E) s := by
  have hT : s.TypeIs (.ref r) "range" := ⟨_, hr, rfl⟩
  refine codeAny_of_tree ?_
  show wpAny _ A.in1 (do checkBuiltinCall "reversed.__new__" ⟨[.type "reversed", .ref r], []⟩; again (.builtin "reversed.__new__" ⟨[.type "reversed", .ref r], []⟩)) _ _ s
  refine wpAny_bind (wpAny_of_eq (F.newCall_reversed_1 _) (wpAny_pure ⟨plainId_quiet F.plain_reversed_new _, codeAny_builtin F.entry_reversed_new ?_⟩))
  rw [Around.under_plainId F.plain_reversed_new _]
  unfold Builtin.«reversed.__new__»
  refine wpAny_bind (wpAny_of_eq (newClass_reversed _) ?_)
  try dsimp only
  refine wpAny_bind (wpAny_of_eq (a := ()) (by first | rfl | kernel_rfl) ?_)
  refine wpAny_bind (wpAny_of_eq (a := ()) (by first | rfl | kernel_rfl) ?_)
  try dsimp only
  refine wpAny_bind (wpAny_specialOf hT F.slot_range_reversed.lookup ?_)
  try dsimp only
  refine wpAny_bind (wpAny_of_eq (F.slot_range_reversed.bind _) ?_)
  try dsimp only
  first
  | rw [if_neg (show ¬ ((Value.builtin "range.__reversed__" == Value.none) = true) from Bool.false_ne_true)]
  | (show wpAny _ _ (if (Value.builtin "range.__reversed__" == Value.none) = true then _ else _) _ _ _; rw [if_neg (show ¬ ((Value.builtin "range.__reversed__" == Value.none) = true) from Bool.false_ne_true)])
  refine wpAny_bind (wpAny_rule ?_)
  refine wpAny_bind (m := runValue (.call (.builtin "range.__reversed__") ⟨[.ref r], []⟩)) (show wpAny _ _ (call (.builtin "range.__reversed__") [.ref r]) _ _ _ from revr_call ha hn hs hb hb' hr ?_)
  first
  | exact wpAny_pure h
  | exact wpAny_bind (wpAny_pure (wpAny_pure h))
theorem sub_ri_reversed : isSubtype (.type "range_iterator") (.type "reversed") = pure false := by rw [isSubtype_type]; kernel_rfl
theorem call_reversed_range {r : Addr} {a b : Int} {t u v : Tok} {n : Nat} {Q : Value → Shared → Prop} (ha : a = 0) (hn : Builtin.Range.rangeSize a b 1 = n) (hs : n ≤ 1000) (hb : 0 ≤ b) (hb' : b ≤ 1000) (hr : IsRange s.heap r a b 1 t u v)
    (h : Q (.ref s.heap.objs.size) { s with heap := s.heap.push { cls := .type "range_iterator", data := .fields #[rawInt (a + ((n : Int) - 1) * 1), rawInt n, rawInt (-1)] } }) : wpAny (model prog w) A (call (.type "reversed") [.ref r]) Q E s := by
  refine callType_other (U := "range_iterator") (Q₁ := fun obj s₁ => obj = .ref s.heap.objs.size ∧ s₁ = { s with heap := s.heap.push { cls := .type "range_iterator", data := .fields #[rawInt (a + ((n : Int) - 1) * 1), rawInt n, rawInt (-1)] } }) (by decide +kernel) F.create_reversed ⟨_, _, F.mro_reversed⟩ F.made_reversed sub_ri_reversed (F.typeCall_reversed_1 _) (code_reversed_range ha hn hs hb hb' hr ⟨rfl, rfl⟩) ?_
  rintro obj s₁ ⟨rfl, rfl⟩
  exact ⟨⟨_, Heap.get?_push_size _ rfl, rfl⟩, h⟩

theorem rangeD_rev_at {n i : Nat} (h : i < n) : ((rangeD 0 n).reverse)[i]? = some (.int ((n : Int) - 1 + i * -1)) := by
  rw [List.getElem?_reverse (by rw [rangeD_len]; exact h), rangeD_len, rangeD_at (by (first | lia | omega))]
  congr 2; (first | lia | omega)
/-- the iterator that reversed(range(n)) is -/
theorem src_rev {h : Heap} {I : Addr} {n : Nat} {A : Around} {s : Shared} {E : Value → Shared → Prop} {Q : Value → Shared → Prop} (hh : A.handled = none) (hI : IsRangeIter s.heap I ((n : Int) - 1) n (-1)) (hx : Ext h s.heap) (hf : h.get? I = none) {fz : Bool}
    (hQ : ∀ I fp St h' tk, Turns prog w A μ fz ((rangeD 0 n).reverse) h h' I fp St → Q (.ref I) { s with heap := h', toks := tk }) : wpAny (model prog w) A (pyIter (.ref I)) Q E s := by
  refine wpAny_pyIter_rangeiter hI (hQ I [I] (fun i h => IsRangeIter h I (((n : Int) - 1) + (i : Nat) * -1) ((n : Int) - (i : Nat)) (-1)) s.heap s.toks ⟨?_, ?_, hx, hf, (fun _ _ x => ⟨_, x⟩), ?_⟩)
  · refine ⟨h, hx, hf, walk_len (by rw [List.length_reverse, rangeD_len]) (Walks.bound (Walks.range hh I ((n : Int) - 1) (-1) n)) ?_⟩
    rintro i v ⟨hi, t, rfl⟩
    exact ⟨_, rangeD_rev_at hi, .int _ t⟩
  · show _ = _
    have e : s.heap.get? I = _ := hI
    rw [e]; simp
  · intro b hb; exact .inl (List.mem_singleton.mp hb)
end
end Mine
end
section
open PySem PySem.W PyProof.Rows PySem.Calls
set_option maxRecDepth 100000
namespace Mine
open PySem.MeetsSeq PySem.SeqAt

section
variable {prog : Program} {w : World} {A : Around} {E : Value → Shared → Prop} {s : Shared} {Q : Value → Shared → Prop} {μ : List Addr}

theorem maxmin (v : Int) (n : Nat) : max 0 (min v (n : Int)) = ((min v.toNat n : Nat) : Int) := by
  rcases Int.lt_or_le v 0 with h | h
  · rw [Int.toNat_of_nonpos (Int.le_of_lt h), Nat.zero_min, Int.max_eq_left (Int.le_trans (Int.min_le_left _ _) (Int.le_of_lt h))]; rfl
  · obtain ⟨k, rfl⟩ := Int.eq_ofNat_of_zero_le h
    rw [Int.toNat_natCast]
    rcases Nat.le_total k n with h2 | h2
    · rw [Int.min_eq_left (Int.ofNat_le.mpr h2), Nat.min_eq_left h2, Int.max_eq_right (Int.natCast_nonneg k)]
    · rw [Int.min_eq_right (Int.ofNat_le.mpr h2), Nat.min_eq_right h2, Int.max_eq_right (Int.natCast_nonneg n)]
theorem str_pick_from (x : Str) (i : Int) (h : 0 ≤ i) : Builtin.Str.strSliceIndices (some i) none 1 x.length = sliceRange ((min i.toNat x.cps.size : Nat) : Int) ((x.cps.size : Nat) : Int) 1 := by
  unfold Builtin.Str.strSliceIndices
  have h1 : ¬ i < 0 := by (first | lia | omega)
  simp only [h1, if_false, show (1 : Int) > 0 by decide, if_true]
  congr 1
  exact maxmin i x.cps.size
theorem str_pick_upto (x : Str) (i : Int) : Builtin.Str.strSliceIndices none (some i) 1 x.length = sliceRange ((0 : Nat) : Int) ((min (uptoN x.cps.size i) x.cps.size : Nat) : Int) 1 := by
  unfold Builtin.Str.strSliceIndices uptoN
  simp only [show (1 : Int) > 0 by decide, if_true]
  congr 1
  refine (maxmin _ x.cps.size).trans ?_
  by_cases h : i < 0
  · rw [if_pos h, if_neg (Int.not_le.mpr h)]; rfl
  · rw [if_neg h, if_pos (Int.not_lt.mp h)]
theorem str_pick_all (x : Str) : Builtin.Str.strSliceIndices none none 1 x.length = sliceRange ((0 : Nat) : Int) ((x.cps.size : Nat) : Int) 1 := by
  unfold Builtin.Str.strSliceIndices
  simp only [show (1 : Int) > 0 by decide, if_true]
  rfl
theorem str_slice {x : Str} {t : Tok} {a : Addr} {l u : Option (Int × Tok)} {p q : Nat} (hs : s.heap.IsSlice a l u none) (hlen : x.cps.size ≤ 1000) (hp : p ≤ x.cps.size) (hq : q ≤ x.cps.size)
    (hpick : Builtin.Str.strSliceIndices (l.map (·.1)) (u.map (·.1)) 1 x.length = sliceRange (p : Int) (q : Int) 1)
    (hQ : Res prog w μ (.str ⟨((x.cps.toList.drop p).take (q - p)).toArray⟩) Q s) : wpAny (model prog w) A (getItem (.str x t) (.ref a)) Q E s := by
  refine wpAny_getItem_str_slice hs rfl ?_
  unfold sliceMade slicePicked
  simp only [Option.map_none, Option.getD_none, beq_self_eq_true, Bool.true_and]
  rw [hpick, sliceRange_one, pick_run]
  have hl : ((List.range (q - p)).map (p + ·)).length = q - p := by simp
  rw [hl]
  split
  · rename_i hw
    have hw : q - p = x.cps.size := by have := beq_iff_eq.mp hw; exact this
    have hp0 : p = 0 := by (first | lia | omega)
    have e : (⟨((x.cps.toList.drop p).take (q - p)).toArray⟩ : Str) = x := by
      rw [hw, hp0, List.drop_zero, List.take_of_length_le (by simp)]
    rw [e] at hQ
    exact hQ.here' (.str x t)
  · refine ⟨?_, hQ.str⟩
    show (List.toArray _).size ≤ sizeLine
    simp [sizeLine]; (first | lia | omega)

theorem op_from {x y z : D} {a : Value} {sl : Addr} {vl : Value} (hz : fromD x y = some z) (hs : s.heap.IsSliceOf sl vl .none .none) (ra : RepB prog w s.heap μ a x) (rb : RepB prog w s.heap μ vl y) (hQ : Res prog w μ z Q s) :
    Item prog w A E s a (.ref sl) Q := by
  unfold fromD at hz
  split at hz
  · split at hz
    · rename_i y i hc
      cases hz
      obtain ⟨t, rfl⟩ := rb.intI
      obtain ⟨u, rfl⟩ := ra.strI
      refine ⟨_, _, typeIs_str _ _ _, F.slot_str_getitem.lookup, str_slice (μ := μ) (l := some (i, t)) (u := none) hs hc.2.1 (Nat.min_le_right i.toNat _) (Nat.le_refl _) (str_pick_from y i hc.1) ?_⟩
      have e : (y.cps.toList.drop (min i.toNat y.cps.size)).take (y.cps.size - min i.toNat y.cps.size) = y.cps.toList.drop i.toNat := by
        rw [List.take_of_length_le (by simp)]
        rcases Nat.le_total i.toNat y.cps.size with h2 | h2
        · rw [Nat.min_eq_left h2]
        · rw [Nat.min_eq_right h2, List.drop_of_length_le (by simp), List.drop_of_length_le (by simpa using h2)]
      rw [e]; exact hQ
    · cases hz
  · cases hz
theorem op_upto {x y z : D} {a : Value} {sl : Addr} {vu : Value} (hz : uptoD x y = some z) (al : Alive s.heap μ) (hs : s.heap.IsSliceOf sl .none vu .none) (ra : RepB prog w s.heap μ a x) (rb : RepB prog w s.heap μ vu y) (hQ : Res prog w μ z Q s) :
    Item prog w A E s a (.ref sl) Q := by
  unfold uptoD at hz
  split at hz
  · split at hz
    · rename_i y hc
      cases hz
      have := rb.noneI
      subst this
      obtain ⟨u, rfl⟩ := ra.strI
      refine ⟨_, _, typeIs_str _ _ _, F.slot_str_getitem.lookup, str_slice (μ := μ) (l := none) (u := none) hs hc (Nat.zero_le _) (Nat.le_refl _) (str_pick_all y) ?_⟩
      rw [List.drop_zero, Nat.sub_zero, List.take_of_length_le (by simp)]; exact hQ
    · cases hz
  · split at hz
    · rename_i y i hc
      cases hz
      obtain ⟨t, rfl⟩ := rb.intI
      obtain ⟨u, rfl⟩ := ra.strI
      refine ⟨_, _, typeIs_str _ _ _, F.slot_str_getitem.lookup, str_slice (μ := μ) (l := none) (u := some (i, t)) hs hc.1 (Nat.zero_le _) (Nat.min_le_right (uptoN y.cps.size i) _) (str_pick_upto y i) ?_⟩
      have e : (y.cps.toList.drop 0).take (min (uptoN y.cps.size i) y.cps.size - 0) = y.cps.toList.take (uptoN y.cps.size i) := by
        rw [List.drop_zero, Nat.sub_zero]
        rcases Nat.le_total (uptoN y.cps.size i) y.cps.size with h2 | h2
        · rw [Nat.min_eq_left h2]
        · rw [Nat.min_eq_right h2, List.take_of_length_le (by simp), List.take_of_length_le (by simpa using h2)]
      rw [e]; exact hQ
    · cases hz
  · split at hz
    · rename_i l i hc
      cases hz
      obtain ⟨t, rfl⟩ := rb.intI
      obtain ⟨a, vs, rfl, p, r⟩ := ra.listI
      have hl := r.length
      simp only [Array.length_toList] at hl
      refine ⟨_, _, p.isList.typeIs, slot_list_getitem.lookup, wpAny_getItem_list_slice p.isList hs .none (.int i t) .none (by simp) (hQ.newList al ?_) (by unfold sizeLine; (first | lia | omega))⟩
      obtain ⟨k, rfl⟩ := Int.eq_ofNat_of_zero_le hc.1
      have e : (slicePick vs none (some (k : Int)) none).toList = vs.toList.take k := by
        rcases Nat.le_total k vs.size with h2 | h2
        · rw [slicePick_upto vs k h2]
        · have e2 : slicePick vs none (some (k : Int)) none = slicePick vs none (some (vs.size : Int)) none := by
            unfold slicePick sliceBounds
            have h3 : ¬ ((k : Int) < 0) := by (first | lia | omega)
            have h4 : ¬ ((vs.size : Int) < 0) := by (first | lia | omega)
            simp only [Option.getD_none, h3, h4, if_false, show (1 : Int) > 0 by decide, if_true]
            congr 3
            rw [Int.min_eq_right (Int.ofNat_le.mpr h2), Int.min_self]
          rw [e2, slicePick_upto vs vs.size (Nat.le_refl _), List.take_of_length_le (by simp), List.take_of_length_le (by simpa using h2)]
      rw [e]
      exact r.take k
    · cases hz
  · cases hz

/-! ### what is stored into -/
theorem setItem_plain {l : Addr} {items : Array Value} {k : Int} {t : Tok} {v : Value} {Q : Unit → Shared → Prop} (hl : s.heap.PlainList l items) (h0 : 0 ≤ k) (hn : k < items.size) (hsz : items.size ≤ 1000)
    (hQ : ∀ h', h'.PlainList l (items.setIfInBounds k.toNat v) → Heap.SameBut l s.heap h' → Q () { s with heap := h' }) :
    wpAny (model prog w) A (setItem (.ref l) (.int k t) v) Q E s := by
  obtain ⟨ne, ho⟩ := id hl
  have hd : (⟨.type "list", none, .seq items ne, #[]⟩ : Obj).data = .seq items ne := rfl
  unfold setItem
  try with_reducible refine wpAny_holding ?_
  first | refine wpAny_bind (wpAny_pure ?_) | skip
  refine wpAny_bind (wpAny_sequenceKey hl.isList.typeIs (by decide) ?_)
  refine wpAny_bind (wpAny_callSpecial?_slot (name := Str.ofString "__setitem__") hl.isList.typeIs slot_list_setitem
    (wpAny_call_entry slot_list_setitem hl.isList.typeIs entry_list_setitem ?_ (args_list_setitem _ _ _)))
  show wpAny _ _ (Builtin.List.listSubscript? (.int k t) >>= _) _ _ s
  refine wpAny_bind (wpAny_listSubscript_int (fitsIndex_of h0 (by (first | lia | omega))) ?_)
  obtain ⟨j, rfl⟩ := Int.eq_ofNat_of_zero_le h0
  have hj : j < items.size := by (first | lia | omega)
  have hx' : items[j]? = some items[j] := Array.getElem?_eq_getElem hj
  show wpAny _ _ ((seqItemAt l j >>= fun r => pure (r.map (j, ·))) >>= _) _ _ s
  refine wpAny_bind (wpAny_bind (wpAny_seqItemAt ho hd (wpAny_pure ?_)))
  rw [hx']
  show wpAny _ _ (setSeqItemAt l j v >>= _) _ _ s
  have hm : Obj.mapSeq (·.setIfInBounds j v) ⟨.type "list", none, .seq items ne, #[]⟩ = (⟨.type "list", none, .seq (items.setIfInBounds j v) ne, #[]⟩ : Obj) := by
    simp [Obj.mapSeq]
  have hfin : (s.heap.update l (Obj.mapSeq (·.setIfInBounds j v))).PlainList l (items.setIfInBounds j v) :=
    ⟨ne, by rw [Heap.get?_update_self _ ho (by rw [hm]; rfl), hm]⟩
  refine wpAny_bind (wpAny_setSeqItemAt ho hd ?_)
  first
    | exact wpAny_bind (wpAny_pure (wpAny_pure ⟨.none, rfl, wpAny_pure (hQ _ hfin (Heap.SameBut.update ..))⟩))
    | exact wpAny_pure ⟨.none, rfl, wpAny_pure (hQ _ hfin (Heap.SameBut.update ..))⟩

/-- an owned thing at its address -/
inductive Own (prog : Program) (w : World) (h : Heap) (μ : List Addr) (a : Addr) : D → Prop
  | list {vs : Array Value} {ds : List D} : h.PlainList a vs → Reps prog w h μ vs.toList ds → Own prog w h μ a (.list ds)
  | dict {kvs : List (Int × Value)} {l : List (Int × D)} : h.DictOf (intKind prog w) a kvs → a ≠ sysModules → RepEs prog w h μ kvs l → Own prog w h μ a (.dict l)
theorem Own.repB {h : Heap} {a : Addr} {d : D} (o : Own prog w h μ a d) : RepB prog w h μ (.ref a) d := by
  cases o with
  | list p r => exact .list p r
  | dict p z r => exact .dict p z r
theorem Own.live {h : Heap} {a : Addr} {d : D} (o : Own prog w h μ a d) : ∃ ob, h.get? a = some ob := by
  cases o with
  | list p r => exact plainList_get p
  | dict p z r => exact dictOf_get p
/-- what is changed is not the thing itself, and only what is in μ -/
theorem Own.move {h h' : Heap} {μ' : List Addr} {a : Addr} {d : D} (o : Own prog w h μ a d) (ha : ∀ ob, h.get? a = some ob → h'.get? a = some ob) (hk : ∀ b ob, b ∉ μ → h.get? b = some ob → h'.get? b = some ob ∧ b ∉ μ') : Own prog w h' μ' a d := by
  cases o with
  | list p r => exact .list (p.at ha) (r.move hk)
  | dict p z r => exact .dict (dictOf_at p ha) z (r.move hk)
theorem Own.rep {h : Heap} {μ' : List Addr} {a : Addr} {d : D} (o : Own prog w h μ a d) (ha : a ∉ μ') (hs : ∀ b, b ∉ μ → b ∉ μ') : Rep prog w h μ' (.ref a) d := by
  cases o with
  | list p r => exact .list p ha (r.move fun b _ n e => ⟨e, hs b n⟩)
  | dict p z r => exact .dict p z ha (r.move fun b _ n e => ⟨e, hs b n⟩)

theorem sameBut_reps {h h' : Heap} {a : Addr} {vs : List Value} {ds : List D} (hs : Heap.SameBut a h h') (ha : a ∈ μ) (r : Reps prog w h μ vs ds) : Reps prog w h' μ vs ds :=
  r.move fun b o n e => ⟨hs.extBut b o (fun q => n (q ▸ ha)) e, n⟩
theorem sameBut_repEs {h h' : Heap} {a : Addr} {vs : List (Int × Value)} {ds : List (Int × D)} (hs : Heap.SameBut a h h') (ha : a ∈ μ) (r : RepEs prog w h μ vs ds) : RepEs prog w h' μ vs ds :=
  r.move fun b o n e => ⟨hs.extBut b o (fun q => n (q ▸ ha)) e, n⟩
theorem sameBut_rep {h h' : Heap} {a : Addr} {v : Value} {d : D} (hs : Heap.SameBut a h h') (ha : a ∈ μ) (r : Rep prog w h μ v d) : Rep prog w h' μ v d :=
  r.move fun b o n e => ⟨hs.extBut b o (fun q => n (q ▸ ha)) e, n⟩

theorem op_store {l x y z : D} {a : Addr} {kv v : Value} {Q : Unit → Shared → Prop} (hz : storeD l x y = some z) (ha : a ∈ μ) (o : Own prog w s.heap μ a l) (rk : RepB prog w s.heap μ kv x) (rv : Rep prog w s.heap μ v y)
    (hQ : ∀ h' tk, Own prog w h' μ a z → Heap.SameBut a s.heap h' → Q () { s with heap := h', toks := tk }) : wpAny (model prog w) A (setItem (.ref a) kv v) Q E s := by
  unfold storeD at hz
  split at hz
  · split at hz
    · rename_i hc
      cases hz
      obtain ⟨t, rfl⟩ := rk.intI
      cases o with
      | list p r =>
        have hl := r.length
        simp only [Array.length_toList] at hl
        refine setItem_plain p hc.1 (by (first | lia | omega)) (by (first | lia | omega)) fun h' p' hs => hQ h' _ (.list p' ?_) hs
        rw [Array.toList_setIfInBounds]
        exact Reps.set (sameBut_rep hs ha rv) (sameBut_reps hs ha r) _
    · cases hz
  · split at hz
    · rename_i hc
      cases hz
      obtain ⟨t, rfl⟩ := rk.intI
      cases o with
      | dict p z r =>
        have hl := r.length
        exact wpAny_setItem_pairs (by simp [intKind, Value.isInt]) p (fun h' p' hs => hQ h' _ (.dict p' z (RepEs.store (sameBut_rep hs ha rv) (sameBut_repEs hs ha r))) hs) (by unfold sizeLine; (first | lia | omega))
    · cases hz
  · cases hz
theorem op_append {l y z : D} {a : Addr} {v : Value} {Q : Value → Shared → Prop} (hz : appendD l y = some z) (ha : a ∈ μ) (o : Own prog w s.heap μ a l) (rv : Rep prog w s.heap μ v y)
    (hQ : ∀ h' tk, Own prog w h' μ a z → Heap.SameBut a s.heap h' → Q .none { s with heap := h', toks := tk }) : wpAny (model prog w) A (call (.builtin "list.append") [.ref a, v]) Q E s := by
  unfold appendD at hz
  split at hz
  · split at hz
    · rename_i hc
      cases hz
      cases o with
      | list p r =>
        have hl := r.length
        simp only [Array.length_toList] at hl
        refine wpAny_list_append_plain p (fun h' p' hs => hQ h' s.toks (.list p' ?_) hs) (by unfold sizeLine; (first | lia | omega))
        rw [Array.toList_push]
        exact Reps.snoc (sameBut_reps hs ha r) (sameBut_rep hs ha rv)
    · cases hz
  · cases hz
end
end Mine
end
section
open PySem PySem.W PyProof.Rows PySem.Calls
set_option maxRecDepth 100000
namespace Mine

/-- the names of a def by their numbers, the owned ones, the scope in force -/
structure Cx where
  names : List Str
  own : List Nat
  st : List Nat
  sc : Scope

noncomputable def kindIn (sc : Scope) (x : Str) : Option NameKind := sc.names.lookup x
noncomputable def bears (sc : Scope) (x : Str) : Bool := match kindIn sc x with
  | some .local | some .cell | some .free => true
  | _ => false
noncomputable def settable (sc : Scope) (x : Str) : Bool := match kindIn sc x with
  | some .local | some .cell => true
  | _ => false

/-- what the name x holds -/
noncomputable def Slot (h : Heap) (env : Env) (x : Str) (o : Option Value) : Prop :=
  (env.kindOf x = some .local ∧ ∃ m, h.Ns env.locals m ∧ m x = o) ∨
  ((env.kindOf x = some .cell ∨ env.kindOf x = some .free) ∧ ∃ c, env.cells.lookup x = some c ∧ h.IsCell c o)

/-- the address that a store into x changes -/
noncomputable def homeOf (env : Env) (x : Str) : Option Addr := match env.kindOf x with
  | some .local => some env.locals
  | some .cell => env.cells.lookup x
  | _ => none

section
variable (prog : Program) (w : World)
noncomputable def Val (cx : Cx) (h : Heap) (μ : List Addr) (ow : Nat → Option Addr) (i : Nat) (v : Value) (d : D) : Prop :=
  if i ∈ cx.own then ∃ a, ow i = some a ∧ v = .ref a ∧ Own prog w h μ a d else Rep prog w h μ v d

structure FrOk (cx : Cx) (h₀ : Heap) (env : Env) (wr μ : List Addr) (h : Heap) (ow : Nat → Option Addr) (ρ : Rho) : Prop where
  scope : env.scope = cx.sc
  kind : cx.sc.kind = .function
  globs : env.globals = mainGlobals
  blts : env.builtins = builtinsNs
  top : Ext h₀ h
  vis : ∀ (i : Nat) (x : Str), cx.names[i]? = some x → bears cx.sc x = true → ∃ o, Slot h env x o ∧ ∀ d, look ρ i = some d → ∃ v, o = some v ∧ Val prog w cx h μ ow i v d
  inj : ∀ (i j : Nat) (x : Str), cx.names[i]? = some x → cx.names[j]? = some x → i = j
  home : ∀ (i : Nat) (x : Str), i ∈ cx.st → cx.names[i]? = some x → settable cx.sc x = true → ∃ a, homeOf env x = some a ∧ a ∈ wr
  cells : ∀ x c, env.cells.lookup x = some c → c ∈ μ ∧ c ≠ env.locals
  apart : ∀ x y c, env.cells.lookup x = some c → env.cells.lookup y = some c → x = y
  loc : env.locals ∈ μ
  wrIn : ∀ a ∈ wr, a ∈ μ
  alive : Alive h μ
  owned : ∀ i a, ow i = some a → i ∈ cx.own ∧ a ∈ μ ∧ a ≠ env.locals ∧ (∀ x, env.cells.lookup x ≠ some a) ∧ ∀ j, ow j = some a → j = i
  new : ∀ a ∈ wr, h₀.get? a = none
  locNs : ∃ m, h.Ns env.locals m
end

section
variable {prog : Program} {w : World} {cx : Cx} {h₀ h h' : Heap} {env : Env} {wr μ : List Addr} {ow : Nat → Option Addr} {ρ : Rho}
theorem Slot.ext {x : Str} {o : Option Value} (s : Slot h env x o) (e : Ext h h') : Slot h' env x o := by
  rcases s with ⟨k, m, hn, hm⟩ | ⟨k, c, hc, hv⟩
  · exact .inl ⟨k, m, hn.at' fun o e' => e _ o e', hm⟩
  · exact .inr ⟨k, c, hc, hv.keeps e⟩
theorem Own.ext {a : Addr} {d : D} (o : Own prog w h μ a d) (e : Ext h h') : Own prog w h' μ a d := o.move (fun _ x => e _ _ x) fun b _ n x => ⟨e b _ x, n⟩
theorem Val.ext {i : Nat} {v : Value} {d : D} (r : Val prog w cx h μ ow i v d) (e : Ext h h') : Val prog w cx h' μ ow i v d := by
  unfold Val at *
  split
  · rename_i hi
    rw [if_pos hi] at r
    obtain ⟨a, h1, h2, h3⟩ := r
    exact ⟨a, h1, h2, h3.ext e⟩
  · rename_i hi
    rw [if_neg hi] at r
    exact r.keep e
theorem FrOk.ext (F : FrOk prog w cx h₀ env wr μ h ow ρ) (e : Ext h h') : FrOk prog w cx h₀ env wr μ h' ow ρ :=
  { F with
    top := F.top.trans e
    vis := fun i x hx hb => let ⟨o, hs, hv⟩ := F.vis i x hx hb; ⟨o, hs.ext e, fun d hd => let ⟨v, h1, h2⟩ := hv d hd; ⟨v, h1, h2.ext e⟩⟩
    alive := F.alive.ext e
    locNs := let ⟨m, hm⟩ := F.locNs; ⟨m, hm.at' fun o q => e _ _ q⟩ }

theorem notDebug_of {x : Str} (h : bears cx.sc x = true) (hd : kindIn cx.sc ("__debug__" : Str) = none) : (x == ("__debug__" : Str)) = false := by
  cases hx : x == ("__debug__" : Str) with
  | false => rfl
  | true =>
    have := beq_iff_eq.mp hx
    subst this
    unfold bears at h
    rw [hd] at h; cases h

variable {A : Around} {E : Value → Shared → Prop} {s : Shared}
theorem load_slot {x : Str} {v : Value} {Q : Value → Shared → Prop} (hk : env.scope.kind = .function) (hs : Slot s.heap env x (some v)) (h : Q v s) (hn : (x == ("__classdict__" : Str)) = false) :
    wpAny (model prog w) A (loadName env x) Q E s := by
  rcases hs with ⟨k, m, hn, hm⟩ | ⟨k | k, c, hc, hv⟩
  · exact wpAny_loadName_local hk k hn hm h
  · exact wpAny_loadName_cell hk k hc hv h
  · exact wpAny_loadName_free hk k hc hv h hn

/-- a store into x -/
theorem store_slot {x : Str} {a : Addr} {v : Value} {Q : Unit → Shared → Prop} (hk : env.scope.kind = .function) (hh : homeOf env x = some a) {o : Option Value} (hs : Slot s.heap env x o)
    (hapart : ∀ x y c, env.cells.lookup x = some c → env.cells.lookup y = some c → x = y) (hloc : ∀ x c, env.cells.lookup x = some c → c ≠ env.locals)
    (h : ∀ h' tk, Slot h' env x (some v) → (∀ y o, y ≠ x → Slot s.heap env y o → Slot h' env y o) → Heap.SameBut a s.heap h' → Q () { s with heap := h', toks := tk }) :
    wpAny (model prog w) A (storeName env x v) Q E s := by
  unfold homeOf at hh
  split at hh
  · rename_i k
    cases hh
    rcases hs with ⟨_, m, hn, _⟩ | ⟨k' | k', _⟩
    · refine wpAny_storeName_local k hn (fun h' hn' hs' => h h' _ (.inl ⟨k, _, hn', by simp⟩) (fun y o hy hsy => ?_) hs') (by rw [hk]; rfl)
      rcases hsy with ⟨ky, m', hn2, hm2⟩ | ⟨ky, c, hc, hv⟩
      · refine .inl ⟨ky, _, hn', ?_⟩
        simp only [if_neg hy]
        rw [hn.agree hn2]; exact hm2
      · exact .inr ⟨ky, c, hc, hv.sameBut hs' (hloc y c hc)⟩
    · rw [k] at k'; cases k'
    · rw [k] at k'; cases k'
  · rename_i k
    rcases hs with ⟨k', _⟩ | ⟨_, c, hc, hv⟩
    · rw [k] at k'; cases k'
    · rw [hc] at hh; cases hh
      refine wpAny_storeName_cell hk k hc hv fun h' hv' hs' => h h' s.toks (.inr ⟨.inl k, _, hc, hv'⟩) (fun y o hy hsy => ?_) hs'
      rcases hsy with ⟨ky, m', hn2, hm2⟩ | ⟨ky, c', hc', hv2⟩
      · exact .inl ⟨ky, m', hn2.sameBut hs' (Ne.symm (hloc x _ hc)), hm2⟩
      · exact .inr ⟨ky, c', hc', hv2.sameBut hs' fun e => hy (hapart y x c' hc' (e ▸ hc))⟩
  · cases hh

/-- what is changed lies in T, a part of μ that the frame itself does not use -/
theorem FrOk.touch (F : FrOk prog w cx h₀ env wr μ h ow ρ) {T : List Addr} (hT : ∀ a ∈ T, a ∈ μ ∧ a ≠ env.locals ∧ (∀ x, env.cells.lookup x ≠ some a) ∧ (∀ i, ow i ≠ some a) ∧ h₀.get? a = none)
    (hk : ∀ b o, b ∉ T → h.get? b = some o → h'.get? b = some o) (al : Alive h' μ) : FrOk prog w cx h₀ env wr μ h' ow ρ := by
  have notIn : ∀ b, b ∉ μ → b ∉ T := fun b hb hm => hb (hT b hm).1
  refine { F with top := fun b o e => hk b o (fun hm => ?_) (F.top b o e), vis := fun i x hx hb => ?_, alive := al, locNs := let ⟨m, hm⟩ := F.locNs; ⟨m, hm.at' fun o q => hk _ o (fun hm => (hT _ hm).2.1 rfl) q⟩ }
  · rw [(hT b hm).2.2.2.2] at e; cases e
  · obtain ⟨o, hs, hv⟩ := F.vis i x hx hb
    refine ⟨o, ?_, fun d hd => ?_⟩
    · rcases hs with ⟨k, m, hn, hm⟩ | ⟨k, c, hc, hcell⟩
      · exact .inl ⟨k, m, hn.at' fun o e => hk _ o (fun hm => (hT _ hm).2.1 rfl) e, hm⟩
      · exact .inr ⟨k, c, hc, let ⟨ob, hob, hd⟩ := hcell; ⟨ob, hk _ _ (fun hm => (hT _ hm).2.2.1 x hc) hob, hd⟩⟩
    · obtain ⟨v, h1, h2⟩ := hv d hd
      refine ⟨v, h1, ?_⟩
      unfold Val at *
      split
      · rename_i hi
        rw [if_pos hi] at h2
        obtain ⟨a, e1, e2, e3⟩ := h2
        exact ⟨a, e1, e2, e3.move (fun ob e => hk _ _ (fun hm => (hT _ hm).2.2.2.1 i e1) e) fun b ob n e => ⟨hk _ _ (notIn b n) e, n⟩⟩
      · rename_i hi
        rw [if_neg hi] at h2
        exact h2.move fun b ob n e => ⟨hk _ _ (notIn b n) e, n⟩

theorem FrOk.grow (F : FrOk prog w cx h₀ env wr μ h ow ρ) (e : Ext h h') {ν : List Addr} (hf : ∀ a ∈ ν, h.get? a = none) (al : Alive h' ν) : FrOk prog w cx h₀ env wr (ν ++ μ) h' ow ρ := by
  have mv : ∀ b ob, b ∉ μ → h.get? b = some ob → h'.get? b = some ob ∧ b ∉ ν ++ μ := fun b ob n eb =>
    ⟨e b ob eb, fun hm => (List.mem_append.mp hm).elim (fun hm => by rw [hf b hm] at eb; cases eb) n⟩
  refine { F with top := F.top.trans e, locNs := (let ⟨m, hm⟩ := F.locNs; ⟨m, hm.at' fun o q => e _ _ q⟩), vis := fun i x hx hb => ?_, cells := fun x c hc => ⟨List.mem_append_right _ (F.cells x c hc).1, (F.cells x c hc).2⟩, loc := List.mem_append_right _ F.loc,
                  wrIn := fun a ha => List.mem_append_right _ (F.wrIn a ha), alive := fun a ha => (List.mem_append.mp ha).elim (al a) (F.alive.ext e a),
                  owned := fun i a ha => let ⟨p, q, r⟩ := F.owned i a ha; ⟨p, List.mem_append_right _ q, r⟩ }
  obtain ⟨o, hs, hv⟩ := F.vis i x hx hb
  refine ⟨o, hs.ext e, fun d hd => ?_⟩
  obtain ⟨v, h1, h2⟩ := hv d hd
  refine ⟨v, h1, ?_⟩
  unfold Val at *
  split
  · rename_i hi
    rw [if_pos hi] at h2
    obtain ⟨a, e1, e2, e3⟩ := h2
    exact ⟨a, e1, e2, e3.move (fun ob q => e _ _ q) mv⟩
  · rename_i hi
    rw [if_neg hi] at h2
    exact h2.move mv

theorem FrOk.shrink {ν : List Addr} (F : FrOk prog w cx h₀ env wr (ν ++ μ) h ow ρ) (hl : env.locals ∈ μ) (hc : ∀ x c, env.cells.lookup x = some c → c ∈ μ) (hw : ∀ a ∈ wr, a ∈ μ) (ho : ∀ i a, ow i = some a → a ∈ μ) : FrOk prog w cx h₀ env wr μ h ow ρ := by
  have mv : ∀ b ob, b ∉ ν ++ μ → h.get? b = some ob → h.get? b = some ob ∧ b ∉ μ := fun b ob n eb => ⟨eb, fun hm => n (List.mem_append_right _ hm)⟩
  refine { F with vis := fun i x hx hb => ?_, cells := fun x c h => ⟨hc x c h, (F.cells x c h).2⟩, loc := hl, wrIn := hw, alive := fun a ha => F.alive a (List.mem_append_right _ ha),
                  owned := fun i a ha => let ⟨p, q, r⟩ := F.owned i a ha; ⟨p, ho i a ha, r⟩ }
  obtain ⟨o, hs, hv⟩ := F.vis i x hx hb
  refine ⟨o, hs, fun d hd => ?_⟩
  obtain ⟨v, h1, h2⟩ := hv d hd
  refine ⟨v, h1, ?_⟩
  unfold Val at *
  split
  · rename_i hi
    rw [if_pos hi] at h2
    obtain ⟨a, e1, e2, e3⟩ := h2
    exact ⟨a, e1, e2, e3.move (fun ob q => q) mv⟩
  · rename_i hi
    rw [if_neg hi] at h2
    exact h2.move mv

theorem look_set {ρ : Rho} {i j : Nat} {o : Option D} {d : D} (h : look (ρ.set i o) j = some d) : (j = i ∧ o = some d) ∨ (j ≠ i ∧ look ρ j = some d) := by
  unfold look at *
  rw [List.getElem?_set] at h
  by_cases e : i = j
  · subst e
    left
    simp only [if_true] at h
    split at h
    · exact ⟨rfl, by simpa using h⟩
    · simp at h
  · rw [if_neg e] at h
    exact .inr ⟨Ne.symm e, h⟩

/-- another address for an owned name, or none -/
noncomputable def reOwn (ow : Nat → Option Addr) (i : Nat) (a : Option Addr) : Nat → Option Addr := fun j => if j = i then a else ow j

theorem FrOk.forget (F : FrOk prog w cx h₀ env wr μ h ow ρ) {ρ' : Rho} (hr : ∀ i d, look ρ' i = some d → look ρ i = some d) : FrOk prog w cx h₀ env wr μ h ow ρ' :=
  { F with vis := fun i x hx hb => let ⟨o, hs, hv⟩ := F.vis i x hx hb; ⟨o, hs, fun d hd => hv d (hr i d hd)⟩ }

/-- a name takes a new value -/
theorem FrOk.assign {A : Around} {E : Value → Shared → Prop} {s : Shared} (F : FrOk prog w cx h₀ env wr μ s.heap ow ρ) {i : Nat} {x : Str} {v : Value} {d : D} (hi : i ∈ cx.st) (hx : cx.names[i]? = some x) (hset : settable cx.sc x = true)
    (hv : Val prog w cx s.heap μ ow i v d) {Q : Unit → Shared → Prop}
    (h : ∀ a h' tk, a ∈ wr → Heap.SameBut a s.heap h' → FrOk prog w cx h₀ env wr μ h' ow (ρ.set i (some d)) → Q () { s with heap := h', toks := tk }) :
    wpAny (model prog w) A (storeName env x v) Q E s := by
  obtain ⟨a, ha, hw⟩ := F.home i x hi hx hset
  have hb : bears cx.sc x = true := by
    unfold settable at hset; unfold bears
    split at hset <;> first | (rename_i k; rw [k]) | cases hset
  obtain ⟨o, hs, _⟩ := F.vis i x hx hb
  refine store_slot (by rw [F.scope]; exact F.kind) ha hs F.apart (fun x c hc => (F.cells x c hc).2) fun h' tk hnew hold hsb => h a h' tk hw hsb ?_
  have haμ := F.wrIn a hw
  have hoa : ∀ j b, ow j = some b → b ≠ a := by
    intro j b hb e
    subst e
    obtain ⟨_, _, n1, n2, _⟩ := F.owned j b hb
    unfold homeOf at ha
    split at ha
    · exact n1 (Option.some.inj ha).symm
    · exact n2 _ ha
    · cases ha
  have mv : ∀ b ob, b ∉ μ → s.heap.get? b = some ob → h'.get? b = some ob ∧ b ∉ μ := fun b ob n e => ⟨hsb.extBut b ob (fun q => n (q ▸ haμ)) e, n⟩
  have hval : ∀ j v d, Val prog w cx s.heap μ ow j v d → Val prog w cx h' μ ow j v d := by
    intro j v d hv
    unfold Val at *
    split
    · rename_i hi
      rw [if_pos hi] at hv
      obtain ⟨b, e1, e2, e3⟩ := hv
      exact ⟨b, e1, e2, e3.move (fun ob e => hsb.extBut b ob (hoa j b e1) e) mv⟩
    · rename_i hi
      rw [if_neg hi] at hv
      exact hv.move mv
  have hns : ∃ m, h'.Ns env.locals m := by
    rcases hnew with ⟨k, m, hn, _⟩ | ⟨k, c, hc, hcell⟩
    · exact ⟨m, hn⟩
    · obtain ⟨m, hm⟩ := F.locNs
      refine ⟨m, hm.sameBut hsb fun e => ?_⟩
      unfold homeOf at ha
      split at ha
      · rename_i k'; rcases k with k | k <;> (rw [k'] at k; cases k)
      · rw [hc] at ha; cases ha; exact (F.cells x _ hc).2 e.symm
      · cases ha
  refine { F with locNs := hns, top := fun b ob e => hsb.extBut b ob (fun q => ?_) (F.top b ob e), vis := fun j y hy hb => ?_, alive := fun b hb => ?_ }
  · rw [q, F.new a hw] at e; cases e
  · by_cases hyx : y = x
    · subst hyx
      have hji := F.inj j i y hy hx
      subst hji
      refine ⟨some v, hnew, fun d' hd => ?_⟩
      rcases look_set hd with ⟨_, e⟩ | ⟨n, _⟩
      · cases e; exact ⟨v, rfl, hval _ _ _ hv⟩
      · exact absurd rfl n
    · obtain ⟨o', hs', hv'⟩ := F.vis j y hy hb
      refine ⟨o', hold y o' hyx hs', fun d' hd => ?_⟩
      rcases look_set hd with ⟨e, _⟩ | ⟨_, e⟩
      · subst e; rw [hx] at hy; exact absurd (Option.some.inj hy).symm hyx
      · obtain ⟨v', h1, h2⟩ := hv' d' e
        exact ⟨v', h1, hval _ _ _ h2⟩
  · obtain ⟨ob, hob⟩ := F.alive b hb
    by_cases e : b = a
    · subst e
      rcases hnew with ⟨k, m, hn, _⟩ | ⟨k, c, hc, hcell⟩
      · unfold homeOf at ha; rw [k] at ha; cases ha
        obtain ⟨o', _, _, ho', _⟩ := hn; exact ⟨o', ho'⟩
      · unfold homeOf at ha
        split at ha
        · rename_i k'; rcases k with k | k <;> (rw [k'] at k; cases k)
        · rw [hc] at ha; cases ha
          obtain ⟨o', ho', _⟩ := hcell; exact ⟨o', ho'⟩
        · cases ha
    · exact ⟨ob, hsb.extBut b ob e hob⟩

/-- an owned name's thing turns into another, at its own address -/
theorem FrOk.turn (F : FrOk prog w cx h₀ env wr μ h ow ρ) {i : Nat} {a : Addr} {d : D} (ho : ow i = some a) (hn : h₀.get? a = none) (hs : Heap.SameBut a h h') (hO : Own prog w h' μ a d) (hlen : ∃ d0, look ρ i = some d0) : FrOk prog w cx h₀ env wr μ h' ow (ρ.set i (some d)) := by
  obtain ⟨hown, haμ, n1, n2, huniq⟩ := F.owned i a ho
  have mv : ∀ b ob, b ∉ μ → h.get? b = some ob → h'.get? b = some ob ∧ b ∉ μ := fun b ob n e => ⟨hs.extBut b ob (fun q => n (q ▸ haμ)) e, n⟩
  refine { F with locNs := (let ⟨m, hm⟩ := F.locNs; ⟨m, hm.sameBut hs (Ne.symm n1)⟩), top := fun b ob e => hs.extBut b ob (fun q => ?_) (F.top b ob e), vis := fun j y hy hb => ?_, alive := fun b hb => ?_ }
  · rw [q, hn] at e; cases e
  · obtain ⟨o, hsl, hv⟩ := F.vis j y hy hb
    refine ⟨o, ?_, fun d' hd => ?_⟩
    · rcases hsl with ⟨k, m, hns, hm⟩ | ⟨k, c, hc, hcell⟩
      · exact .inl ⟨k, m, hns.sameBut hs (Ne.symm n1), hm⟩
      · exact .inr ⟨k, c, hc, hcell.sameBut hs fun e => n2 y (e ▸ hc)⟩
    · rcases look_set hd with ⟨e, e2⟩ | ⟨ne, e⟩
      · subst e
        cases e2
        obtain ⟨d0, hd0⟩ := hlen
        obtain ⟨v, h1, h2⟩ := hv d0 hd0
        unfold Val at h2
        rw [if_pos hown] at h2
        obtain ⟨a', e1, e2, _⟩ := h2
        rw [ho] at e1; cases e1
        refine ⟨v, h1, ?_⟩
        unfold Val
        rw [if_pos hown]
        exact ⟨a, ho, e2, hO⟩
      · obtain ⟨v, h1, h2⟩ := hv d' e
        refine ⟨v, h1, ?_⟩
        unfold Val at *
        split
        · rename_i hi
          rw [if_pos hi] at h2
          obtain ⟨b, e1, e2, e3⟩ := h2
          refine ⟨b, e1, e2, e3.move (fun ob q => hs.extBut b ob (fun q2 => ?_) q) mv⟩
          subst q2
          exact ne (huniq j e1)
        · rename_i hi
          rw [if_neg hi] at h2
          exact h2.move mv
  · obtain ⟨ob, hob⟩ := F.alive b hb
    by_cases e : b = a
    · subst e; exact hO.live
    · exact ⟨ob, hs.extBut b ob e hob⟩

/-- all else follows from this one -/
theorem FrOk.move (F : FrOk prog w cx h₀ env wr μ h ow ρ) {μ' : List Addr} (mv : ∀ b ob, b ∉ μ → h.get? b = some ob → h'.get? b = some ob ∧ b ∉ μ') (ht : Ext h₀ h') (hl : ∀ o, h.get? env.locals = some o → h'.get? env.locals = some o)
    (hc : ∀ x c, env.cells.lookup x = some c → ∀ o, h.get? c = some o → h'.get? c = some o) (ho : ∀ i a, ow i = some a → ∀ o, h.get? a = some o → h'.get? a = some o)
    (m1 : env.locals ∈ μ') (m2 : ∀ x c, env.cells.lookup x = some c → c ∈ μ') (m3 : ∀ a ∈ wr, a ∈ μ') (m4 : ∀ i a, ow i = some a → a ∈ μ') (al : Alive h' μ') : FrOk prog w cx h₀ env wr μ' h' ow ρ := by
  refine { F with locNs := (let ⟨m, hm⟩ := F.locNs; ⟨m, hm.at' fun o q => hl o q⟩), top := ht, vis := fun i x hx hb => ?_, cells := fun x c h => ⟨m2 x c h, (F.cells x c h).2⟩, loc := m1, wrIn := m3, alive := al, owned := fun i a ha => let ⟨p, _, r⟩ := F.owned i a ha; ⟨p, m4 i a ha, r⟩ }
  obtain ⟨o, hs, hv⟩ := F.vis i x hx hb
  refine ⟨o, ?_, fun d hd => ?_⟩
  · rcases hs with ⟨k, m, hn, hm⟩ | ⟨k, c, hcl, hcell⟩
    · exact .inl ⟨k, m, hn.at' fun o e => hl o e, hm⟩
    · exact .inr ⟨k, c, hcl, let ⟨ob, hob, hd⟩ := hcell; ⟨ob, hc x c hcl _ hob, hd⟩⟩
  · obtain ⟨v, h1, h2⟩ := hv d hd
    refine ⟨v, h1, ?_⟩
    unfold Val at *
    split
    · rename_i hi
      rw [if_pos hi] at h2
      obtain ⟨a, e1, e2, e3⟩ := h2
      exact ⟨a, e1, e2, e3.move (fun ob q => ho i a e1 ob q) mv⟩
    · rename_i hi
      rw [if_neg hi] at h2
      exact h2.move mv
end
end Mine
end
section
open PySem PySem.W PyProof.Rows PySem.Calls
set_option maxRecDepth 100000
namespace Mine

noncomputable def usedBlts : List (Str × Value) := [("len", .builtin "len"), ("min", .builtin "min"), ("max", .builtin "max"), ("sum", .builtin "sum"), ("isinstance", .builtin "isinstance"),
  ("range", .type "range"), ("reversed", .type "reversed"), ("list", .type "list"), ("tuple", .type "tuple")]
noncomputable def usedConsts : List (Str × Int) := [("_MAX_STRING_SIZE", 40), ("_MOVE_COST", 2), ("_CASE_COST", 1)]

/-- what stands at the top: the text's defs, its numbers, the built-ins -/
structure Gl (fnAt : Nat → Option (Str × Addr)) (h₀ : Heap) (mg mb : Str → Option Value) : Prop where
  gNs : h₀.Ns mainGlobals mg
  bNs : h₀.Ns builtinsNs mb
  defs : ∀ f x a, fnAt f = some (x, a) → mg x = some (.ref a)
  fns : ∀ f x a, fnAt f = some (x, a) → ∃ o fd, h₀.get? a = some o ∧ o.data = .func fd
  nums : ∀ x i, (x, i) ∈ usedConsts → ∃ t, mg x = some (.int i t)
  blts : ∀ x v, (x, v) ∈ usedBlts → mg x = none ∧ mb x = some v
  sys : ∃ o, h₀.get? cStatics = some o

noncomputable def CallsOk (prog : Program) (w : World) (A : Around) (fnAt : Nat → Option (Str × Addr)) (h₀ : Heap) (Φ : Nat → List D → Option D) : Prop :=
  ∀ f x a ds d, fnAt f = some (x, a) → Φ f ds = some d → ∀ (μ : List Addr) (s : Shared) (vs : List Value) (Q : Value → Shared → Prop) (E : Value → Shared → Prop), Ext h₀ s.heap → Alive s.heap μ → Reps prog w s.heap μ vs ds → Res prog w μ d Q s →
    wpAny (model prog w) A (call (.ref a) vs) Q E s

structure Amb (prog : Program) (w : World) (A : Around) (fnAt : Nat → Option (Str × Addr)) (h₀ : Heap) (Φ : Nat → List D → Option D) : Prop where
  hA : A.handled = none
  hu : A.units + 16 < cLine
  gl : ∃ mg mb, Gl fnAt h₀ mg mb
  calls : CallsOk prog w A fnAt h₀ Φ

noncomputable def nb : X → Bool
  | .bor _ => false
  | _ => true

section
variable (prog : Program) (w : World) (A : Around) (h₀ : Heap) (Φ : Nat → List D → Option D)
noncomputable def EvP (cx : Cx) (e : Expr) (x : X) : Prop :=
  ∀ env wr μ ow ρ (s : Shared) d, FrOk prog w cx h₀ env wr μ s.heap ow ρ → ev Φ x ρ = some d → ∀ (E : Value → Shared → Prop) (Q : Value → Shared → Prop),
    (∀ v h' tk, Ext s.heap h' → RepB prog w h' μ v d → (nb x = true → Rep prog w h' μ v d) → Q v { s with heap := h', toks := tk }) → wpAny (model prog w) A (eval e env) Q E s
noncomputable def TestP (cx : Cx) (e : Expr) (t : T) : Prop :=
  ∀ env wr μ ow ρ (s : Shared) b, FrOk prog w cx h₀ env wr μ s.heap ow ρ → evT Φ t ρ = some b → ∀ (E : Value → Shared → Prop) (Q : Bool → Shared → Prop),
    ResT b Q s → wpAny (model prog w) A (isTrue e env (eval e env)) Q E s
noncomputable def AndP (cx : Cx) (es : List Expr) (ts : Ts) : Prop :=
  ∀ env wr μ ow ρ (s : Shared) b, FrOk prog w cx h₀ env wr μ s.heap ow ρ → evAnd Φ ts ρ = some b → ∀ (E : Value → Shared → Prop) (Q : Bool → Shared → Prop),
    ResT b Q s → wpAny (model prog w) A (allTrue .And es env) Q E s
noncomputable def OrP (cx : Cx) (es : List Expr) (ts : Ts) : Prop :=
  ∀ env wr μ ow ρ (s : Shared) b, FrOk prog w cx h₀ env wr μ s.heap ow ρ → evOr Φ ts ρ = some b → ∀ (E : Value → Shared → Prop) (Q : Bool → Shared → Prop),
    ResT b Q s → wpAny (model prog w) A (allTrue .Or es env) Q E s
noncomputable def ListP (cx : Cx) (es : List Expr) (xs : Xs) : Prop :=
  ∀ env wr μ ow ρ (s : Shared) ds, FrOk prog w cx h₀ env wr μ s.heap ow ρ → evs Φ xs ρ = some ds → ∀ (E : Value → Shared → Prop) (Q : List Value → Shared → Prop),
    (∀ vs h' tk, Ext s.heap h' → Reps prog w h' μ vs ds → Q vs { s with heap := h', toks := tk }) → wpAny (model prog w) A (spliced (es.map fun e => (false, eval e env))) Q E s
/-- a new thing, owned by none but the one that asked -/
noncomputable def NewP (cx : Cx) (e : Expr) (f : F) : Prop :=
  ∀ env wr μ ow ρ (s : Shared) d, FrOk prog w cx h₀ env wr μ s.heap ow ρ → evF Φ f ρ = some d → ∀ (E : Value → Shared → Prop) (Q : Value → Shared → Prop),
    (∀ b h' tk, Ext s.heap h' → s.heap.get? b = none → Own prog w h' (b :: μ) b d → Q (.ref b) { s with heap := h', toks := tk }) → wpAny (model prog w) A (eval e env) Q E s
noncomputable def SrcP (cx : Cx) (e : Expr) (it : I) (fz : Bool) : Prop :=
  ∀ env wr μ ow ρ (s : Shared) ds, FrOk prog w cx h₀ env wr μ s.heap ow ρ → evI Φ it ρ = some ds → ∀ (E : Value → Shared → Prop) (Q : Value → Shared → Prop),
    (∀ I fp St h' tk, Turns prog w A μ fz ds s.heap h' I fp St → Q (.ref I) { s with heap := h', toks := tk }) → wpAny (model prog w) A (eval e env) (fun xv s₁ => wpAny (model prog w) A (pyIter xv) Q E s₁) E s
end

noncomputable def plainE (e : Expr) : Prop := ∀ env r, starEach (e :: r) env = (false, eval e env) :: starEach r env
theorem trees_of (pos : Pos) (env : Env) : ∀ es : List Expr, (∀ e ∈ es, plainE e) → backTo pos (starEach es env) = es.map fun e => (false, eval e env)
  | [], _ => rfl
  | e :: r, h => by
    rw [h e (.head _) env r]
    show (false, _) :: backTo pos (starEach r env) = _
    rw [trees_of pos env r fun e he => h e (.tail _ he)]
    rfl
theorem trees_any (env : Env) : ∀ es : List Expr, (es.map fun e => ((false, eval e env) : Bool × Sem Value)).any (·.1) = false
  | [] => rfl
  | _ :: r => by rw [List.map_cons, List.any_cons, trees_any env r]; rfl

section
variable {prog : Program} {w : World} {A : Around} {fnAt : Nat → Option (Str × Addr)} {h₀ : Heap} {Φ : Nat → List D → Option D} {cx : Cx}
variable {E : Value → Shared → Prop} {s : Shared} {env : Env} {wr μ : List Addr} {ow : Nat → Option Addr} {ρ : Rho}

theorem RepB.tupR {h : Heap} {v : Value} {l : List D} (r : RepB prog w h μ v (.tup l)) : Rep prog w h μ v (.tup l) := by cases r with | of r => exact r

/-! ### names -/
theorem glob_def (B : Amb prog w A fnAt h₀ Φ) (F : FrOk prog w cx h₀ env wr μ s.heap ow ρ) {f : Nat} {x : Str} {a : Addr} {pos : Pos} (hf : fnAt f = some (x, a)) (hk : kindIn cx.sc x = some .globalImplicit) (hd : (x == ("__debug__" : Str)) = false) {Q : Value → Shared → Prop} (h : Q (.ref a) s) :
    wpAny (model prog w) A (eval (.Name x pos) env) Q E s := by
  obtain ⟨mg, mb, G⟩ := B.gl
  exact Name_function_global (by rw [F.scope]; exact F.kind) (by show env.scope.names.lookup x = _; rw [F.scope]; exact hk) (loadGlobal_global (by rw [F.globs]; exact G.gNs.keeps F.top) (G.defs f x a hf) h) hd
theorem glob_num (B : Amb prog w A fnAt h₀ Φ) (F : FrOk prog w cx h₀ env wr μ s.heap ow ρ) {x : Str} {i : Int} {pos : Pos} (hf : (x, i) ∈ usedConsts) (hk : kindIn cx.sc x = some .globalImplicit) (hd : (x == ("__debug__" : Str)) = false) {Q : Value → Shared → Prop} (h : ∀ t, Q (.int i t) s) :
    wpAny (model prog w) A (eval (.Name x pos) env) Q E s := by
  obtain ⟨mg, mb, G⟩ := B.gl
  obtain ⟨t, ht⟩ := G.nums x i hf
  exact Name_function_global (by rw [F.scope]; exact F.kind) (by show env.scope.names.lookup x = _; rw [F.scope]; exact hk) (loadGlobal_global (by rw [F.globs]; exact G.gNs.keeps F.top) ht (h t)) hd
theorem glob_blt (B : Amb prog w A fnAt h₀ Φ) (F : FrOk prog w cx h₀ env wr μ s.heap ow ρ) {x : Str} {v : Value} {pos : Pos} (hf : (x, v) ∈ usedBlts) (hk : kindIn cx.sc x = some .globalImplicit) (hd : (x == ("__debug__" : Str)) = false) {Q : Value → Shared → Prop} (h : Q v s) :
    wpAny (model prog w) A (eval (.Name x pos) env) Q E s := by
  obtain ⟨mg, mb, G⟩ := B.gl
  obtain ⟨h1, h2⟩ := G.blts x v hf
  exact Name_function_global (by rw [F.scope]; exact F.kind) (by show env.scope.names.lookup x = _; rw [F.scope]; exact hk) (loadGlobal_builtin (by rw [F.globs]; exact G.gNs.keeps F.top) h1 (by rw [F.blts]; exact G.bNs.keeps F.top) h2 h) hd

theorem ev_name (F : FrOk prog w cx h₀ env wr μ s.heap ow ρ) {i : Nat} {x : Str} {pos : Pos} {d : D} (hx : cx.names[i]? = some x) (hb : bears cx.sc x = true) (hd : (x == ("__debug__" : Str)) = false) (hc : (x == ("__classdict__" : Str)) = false)
    (hl : look ρ i = some d) {Q : Value → Shared → Prop} (h : ∀ v, Val prog w cx s.heap μ ow i v d → Q v s) : wpAny (model prog w) A (eval (.Name x pos) env) Q E s := by
  obtain ⟨o, hs, hv⟩ := F.vis i x hx hb
  obtain ⟨v, rfl, hval⟩ := hv d hl
  exact wpAny_Name (load_slot (by rw [F.scope]; exact F.kind) hs (h v hval) hc) hd
theorem Val.repB {h : Heap} {i : Nat} {v : Value} {d : D} (r : Val prog w cx h μ ow i v d) : RepB prog w h μ v d := by
  unfold Val at r
  split at r
  · obtain ⟨a, _, rfl, o⟩ := r; exact o.repB
  · exact .of r
theorem Val.rep {h : Heap} {i : Nat} {v : Value} {d : D} (r : Val prog w cx h μ ow i v d) (hi : i ∉ cx.own) : Rep prog w h μ v d := by
  unfold Val at r; rwa [if_neg hi] at r

noncomputable def goodName (x : Str) : Bool := !(x == ("__debug__" : Str)) && !(x == ("__classdict__" : Str))
theorem goodName_spec {x : Str} (h : goodName x = true) : (x == ("__debug__" : Str)) = false ∧ (x == ("__classdict__" : Str)) = false := by
  simpa [goodName] using h

theorem p_int {i : Int} {k : Nat} {pos : Pos} : EvP prog w A h₀ Φ cx (.Constant (.int i) k pos) (.int i) := by
  intro env wr μ ow ρ s d F hz E Q hQ
  simp only [ev, Option.some.injEq] at hz; subst hz
  exact wpAny_Constant_int (hQ _ s.heap _ (Ext.refl _) (.of (.int i _)) fun _ => .int i _)
theorem p_str {x : Str} {k : Nat} {pos : Pos} : EvP prog w A h₀ Φ cx (.Constant (.str x) k pos) (.str x) := by
  intro env wr μ ow ρ s d F hz E Q hQ
  simp only [ev, Option.some.injEq] at hz; subst hz
  exact wpAny_Constant_str (hQ _ s.heap _ (Ext.refl _) (.of (.str x _)) fun _ => .str x _)
theorem p_none {k : Nat} {pos : Pos} : EvP prog w A h₀ Φ cx (.Constant .none k pos) .none := by
  intro env wr μ ow ρ s d F hz E Q hQ
  simp only [ev, Option.some.injEq] at hz; subst hz
  exact wpAny_Constant_none (hQ _ s.heap s.toks (Ext.refl _) (.of .none) fun _ => .none)
theorem p_bool {b : Bool} {k : Nat} {pos : Pos} : EvP prog w A h₀ Φ cx (.Constant (.bool b) k pos) (.bool b) := by
  intro env wr μ ow ρ s d F hz E Q hQ
  simp only [ev, Option.some.injEq] at hz; subst hz
  exact wpAny_Constant_bool (hQ _ s.heap s.toks (Ext.refl _) (.of (.bool b)) fun _ => .bool b)
theorem p_var {i : Nat} {x : Str} {pos : Pos} (hx : cx.names[i]? = some x) (hb : bears cx.sc x = true) (hg : goodName x = true) (hi : i ∉ cx.own) : EvP prog w A h₀ Φ cx (.Name x pos) (.var i) := by
  intro env wr μ ow ρ s d F hz E Q hQ
  simp only [ev] at hz
  exact ev_name F hx hb (goodName_spec hg).1 (goodName_spec hg).2 hz fun v hv => hQ v s.heap s.toks (Ext.refl _) hv.repB fun _ => hv.rep hi
theorem p_bor {i : Nat} {x : Str} {pos : Pos} (hx : cx.names[i]? = some x) (hb : bears cx.sc x = true) (hg : goodName x = true) : EvP prog w A h₀ Φ cx (.Name x pos) (.bor i) := by
  intro env wr μ ow ρ s d F hz E Q hQ
  simp only [ev] at hz
  exact ev_name F hx hb (goodName_spec hg).1 (goodName_spec hg).2 hz fun v hv => hQ v s.heap s.toks (Ext.refl _) hv.repB fun h => by cases h
theorem p_glob (B : Amb prog w A fnAt h₀ Φ) {x : Str} {i : Int} {pos : Pos} (hf : (x, i) ∈ usedConsts) (hk : kindIn cx.sc x = some .globalImplicit) (hg : goodName x = true) : EvP prog w A h₀ Φ cx (.Name x pos) (.glob x i) := by
  intro env wr μ ow ρ s d F hz E Q hQ
  simp only [ev, Option.some.injEq] at hz; subst hz
  exact glob_num B F hf hk (goodName_spec hg).1 fun t => hQ _ s.heap s.toks (Ext.refl _) (.of (.int i t)) fun _ => .int i t

/-- two operands, one behind the other -/
theorem ev2 {e1 e2 : Expr} {x y : X} (p1 : EvP prog w A h₀ Φ cx e1 x) (p2 : EvP prog w A h₀ Φ cx e2 y) (F : FrOk prog w cx h₀ env wr μ s.heap ow ρ) {d1 d2 : D} (h1 : ev Φ x ρ = some d1) (h2 : ev Φ y ρ = some d2) {Q : Value → Value → Shared → Prop}
    (h : ∀ v1 v2 h' tk, Ext s.heap h' → RepB prog w h' μ v1 d1 → (nb x = true → Rep prog w h' μ v1 d1) → RepB prog w h' μ v2 d2 → (nb y = true → Rep prog w h' μ v2 d2) → Q v1 v2 { s with heap := h', toks := tk }) :
    wpAny (model prog w) A (eval e1 env) (fun a s₁ => wpAny (model prog w) A (eval e2 env) (fun b s₂ => Q a b s₂) E s₁) E s :=
  p1 env wr μ ow ρ s d1 F h1 E _ fun v1 h' tk hx r1 n1 => p2 env wr μ ow ρ _ d2 (F.ext hx) h2 E _ fun v2 h'' tk' hx' r2 n2 => h v1 v2 h'' tk' (hx.trans hx') (r1.ext hx') (fun q => (n1 q).keep hx') r2 n2

theorem Res.of {μ : List Addr} {d : D} {Q : Value → Shared → Prop} {s : Shared} {h' : Heap} {tk : Nat} (hx : Ext s.heap h') (hQ : ∀ v h'' tk', Ext s.heap h'' → RepB prog w h'' μ v d → (True → Rep prog w h'' μ v d) → Q v { s with heap := h'', toks := tk' }) :
    Res prog w μ d Q { s with heap := h', toks := tk } := fun v h'' tk' e r => hQ v h'' tk' (hx.trans e) (.of r) fun _ => r

theorem p_bin {op : BOp} {e1 e2 : Expr} {pos : Pos} {x y : X} (p1 : EvP prog w A h₀ Φ cx e1 x) (p2 : EvP prog w A h₀ Φ cx e2 y) : EvP prog w A h₀ Φ cx (.BinOp e1 (opB op) e2 pos) (.bin op x y) := by
  intro env wr μ ow ρ s d F hz E Q hQ
  simp only [ev] at hz
  obtain ⟨d1, h1, hz⟩ := Option.bind_eq_some_iff.mp hz
  obtain ⟨d2, h2, hz⟩ := Option.bind_eq_some_iff.mp hz
  exact wpAny_BinOp (ev2 p1 p2 F h1 h2 fun v1 v2 h' tk hx r1 _ r2 _ => op_bin hz (F.alive.ext hx) r1 r2 fun v h'' tk' e r => hQ v h'' tk' (hx.trans e) (.of r) fun _ => r)
theorem p_neg {e1 : Expr} {pos : Pos} {x : X} (p1 : EvP prog w A h₀ Φ cx e1 x) : EvP prog w A h₀ Φ cx (.UnaryOp .USub e1 pos) (.neg x) := by
  intro env wr μ ow ρ s d F hz E Q hQ
  simp only [ev] at hz
  obtain ⟨d1, h1, hz⟩ := Option.bind_eq_some_iff.mp hz
  exact wpAny_UnaryOp (p1 env wr μ ow ρ s d1 F h1 E _ fun v1 h' tk hx r1 _ => op_neg hz r1 fun v h'' tk' e r => hQ v h'' tk' (hx.trans e) (.of r) fun _ => r)
theorem p_ite {et e1 e2 : Expr} {pos : Pos} {t : T} {x y : X} (pt : TestP prog w A h₀ Φ cx et t) (p1 : EvP prog w A h₀ Φ cx e1 x) (p2 : EvP prog w A h₀ Φ cx e2 y) (n1 : nb x = true) (n2 : nb y = true) : EvP prog w A h₀ Φ cx (.IfExp et e1 e2 pos) (.ite t x y) := by
  intro env wr μ ow ρ s d F hz E Q hQ
  simp only [ev] at hz
  obtain ⟨c, h1, hz⟩ := Option.bind_eq_some_iff.mp hz
  refine wpAny_IfExp (pt env wr μ ow ρ s c F h1 E _ fun h' tk hx => ?_)
  cases c with
  | true =>
    rw [if_pos rfl] at hz ⊢
    exact p1 env wr μ ow ρ _ d (F.ext hx) hz E _ fun v h'' tk' e r n => hQ v h'' tk' (hx.trans e) r fun _ => n n1
  | false =>
    rw [if_neg Bool.false_ne_true] at hz ⊢
    exact p2 env wr μ ow ρ _ d (F.ext hx) hz E _ fun v h'' tk' e r n => hQ v h'' tk' (hx.trans e) r fun _ => n n2
theorem p_orx {e1 e2 : Expr} {pos : Pos} {x y : X} (p1 : EvP prog w A h₀ Φ cx e1 x) (p2 : EvP prog w A h₀ Φ cx e2 y) (n1 : nb x = true) (n2 : nb y = true) : EvP prog w A h₀ Φ cx (.BoolOp .Or [e1, e2] pos) (.orx x y) := by
  intro env wr μ ow ρ s d F hz E Q hQ
  simp only [ev] at hz
  obtain ⟨d1, h1, hz⟩ := Option.bind_eq_some_iff.mp hz
  obtain ⟨c, h2, hz⟩ := Option.bind_eq_some_iff.mp hz
  refine wpAny_Or2 (p1 env wr μ ow ρ s d1 F h1 E _ fun v1 h' tk hx r1 k1 => op_truth h2 r1 fun h'' tk' hx' => ?_)
  cases c with
  | true =>
    rw [if_pos rfl] at hz ⊢
    cases hz
    exact hQ v1 h'' tk' (hx.trans hx') (r1.ext hx') fun _ => (k1 n1).keep hx'
  | false =>
    rw [if_neg Bool.false_ne_true] at hz ⊢
    exact p2 env wr μ ow ρ _ d (F.ext (hx.trans hx')) hz E _ fun v h'' tk' e r n => hQ v h'' tk' ((hx.trans hx').trans e) r fun _ => n n2
theorem p_tup {es : List Expr} {k : Nat} {pos : Pos} {xs : Xs} (hp : ∀ e ∈ es, plainE e) (p : ListP prog w A h₀ Φ cx es xs) : EvP prog w A h₀ Φ cx (.Tuple es k pos) (.tup xs) := by
  intro env wr μ ow ρ s d F hz E Q hQ
  simp only [ev] at hz
  obtain ⟨ds, h1, hz⟩ := Option.bind_eq_some_iff.mp hz
  split at hz
  · rename_i hl
    cases hz
    refine wpAny_Tuple ?_
    rw [trees_of pos env es hp]
    refine p env wr μ ow ρ s ds F h1 E _ fun vs h' tk hx r => ⟨?_, ?_⟩
    · rw [r.length]; unfold sizeLine; (first | lia | omega)
    · exact Res.newTup (F.alive.ext hx) (fun v h'' tk' e r => hQ v h'' tk' (hx.trans e) (.of r) fun _ => r) (by simpa using r)
  · cases hz
theorem l_nil : ListP prog w A h₀ Φ cx [] .nil := by
  intro env wr μ ow ρ s ds F hz E Q hQ
  simp only [evs, Option.some.injEq] at hz; subst hz
  exact spliced_nil (hQ [] s.heap s.toks (Ext.refl _) .nil)
theorem l_cons {e : Expr} {r : List Expr} {x : X} {xs : Xs} (p1 : EvP prog w A h₀ Φ cx e x) (n1 : nb x = true) (p2 : ListP prog w A h₀ Φ cx r xs) : ListP prog w A h₀ Φ cx (e :: r) (.cons x xs) := by
  intro env wr μ ow ρ s ds F hz E Q hQ
  simp only [evs] at hz
  obtain ⟨d1, h1, hz⟩ := Option.bind_eq_some_iff.mp hz
  obtain ⟨ds2, h2, rfl⟩ := Option.map_eq_some_iff.mp hz
  exact spliced_cons (p1 env wr μ ow ρ s d1 F h1 E _ fun v h' tk hx _ k1 => p2 env wr μ ow ρ _ ds2 (F.ext hx) h2 E _ fun vs h'' tk' hx' r => hQ _ h'' tk' (hx.trans hx') (.cons ((k1 n1).keep hx') r))

/-! ### calls -/
theorem p_call (B : Amb prog w A fnAt h₀ Φ) {f : Nat} {x : Str} {a : Addr} {e : Expr} {es : List Expr} {p0 pos : Pos} {xs : Xs} (hf : fnAt f = some (x, a)) (hk : kindIn cx.sc x = some .globalImplicit) (hg : goodName x = true)
    (hp : ∀ e' ∈ e :: es, plainE e') (p : ListP prog w A h₀ Φ cx (e :: es) xs) (hform : ∀ env, eval (.Call (.Name x p0) (e :: es) [] pos) env = (do callWith pos (← eval (.Name x p0) env) [] (backTo pos (starEach (e :: es) env)) (backToKw pos (keywordEach [] env)))) :
    EvP prog w A h₀ Φ cx (.Call (.Name x p0) (e :: es) [] pos) (.call f xs) := by
  intro env wr μ ow ρ s d F hz E Q hQ
  simp only [ev] at hz
  obtain ⟨ds, h1, hz⟩ := Option.bind_eq_some_iff.mp hz
  rw [hform]
  refine wpAny_bind (glob_def B F hf hk (goodName_spec hg).1 ?_)
  rw [trees_of pos env _ hp]
  obtain ⟨mg, mb, G⟩ := B.gl
  obtain ⟨o, fd, ho, hfd⟩ := G.fns f x a hf
  show wpAny _ _ (callWith pos (.ref a) [] ((e :: es).map fun e => (false, eval e env)) []) _ _ _
  refine callWith_function (o := o) (fd := fd) (evalArgs_plain (p env wr μ ow ρ s ds F h1 E _ fun vs h' tk hx r => ⟨⟨hx _ _ (F.top _ _ ho), hfd⟩, ?_⟩))
  exact B.calls f x a ds d hf hz μ _ vs Q E (F.top.trans hx) (F.alive.ext hx) r fun v h'' tk' e r => hQ v h'' tk' (hx.trans e) (.of r) fun _ => r

/-- the call of a built-in name -/
theorem blt_call (B : Amb prog w A fnAt h₀ Φ) (F : FrOk prog w cx h₀ env wr μ s.heap ow ρ) {x : Str} {id : String} {e : Expr} {es : List Expr} {p0 pos : Pos} (hf : (x, Value.builtin id) ∈ usedBlts) (hk : kindIn cx.sc x = some .globalImplicit) (hg : goodName x = true)
    (hp : ∀ e' ∈ e :: es, plainE e') (hform : eval (.Call (.Name x p0) (e :: es) [] pos) env = (do callWith pos (← eval (.Name x p0) env) [] (backTo pos (starEach (e :: es) env)) (backToKw pos (keywordEach [] env)))) {Q : Value → Shared → Prop}
    (h : wpAny (model prog w) A (spliced ((e :: es).map fun e => (false, eval e env))) (fun vs s₁ => wpAny (model prog w) A (call (.builtin id) vs) Q E s₁) E s) :
    wpAny (model prog w) A (eval (.Call (.Name x p0) (e :: es) [] pos) env) Q E s := by
  rw [hform]
  refine wpAny_bind (glob_blt B F hf hk (goodName_spec hg).1 ?_)
  rw [trees_of pos env _ hp]
  show wpAny _ _ (callWith pos (.builtin id) [] ((e :: es).map fun e => (false, eval e env)) []) _ _ _
  exact callWith_builtin (trees_any env _) (evalArgs_plain h)

noncomputable def CallForm (x : Str) (p0 pos : Pos) (es : List Expr) : Prop := ∀ env, eval (.Call (.Name x p0) es [] pos) env = (do callWith pos (← eval (.Name x p0) env) [] (backTo pos (starEach es env)) (backToKw pos (keywordEach [] env)))

theorem spl1 {e : Expr} {x : X} {d : D} (p : EvP prog w A h₀ Φ cx e x) (F : FrOk prog w cx h₀ env wr μ s.heap ow ρ) (hz : ev Φ x ρ = some d) {Q : List Value → Shared → Prop}
    (h : ∀ v h' tk, Ext s.heap h' → RepB prog w h' μ v d → Q [v] { s with heap := h', toks := tk }) : wpAny (model prog w) A (spliced ([e].map fun e => (false, eval e env))) Q E s :=
  spliced_cons (p env wr μ ow ρ s d F hz E _ fun v h' tk hx r _ => spliced_nil (h v h' tk hx r))
theorem spl2 {e1 e2 : Expr} {x y : X} {d1 d2 : D} (p1 : EvP prog w A h₀ Φ cx e1 x) (p2 : EvP prog w A h₀ Φ cx e2 y) (F : FrOk prog w cx h₀ env wr μ s.heap ow ρ) (h1 : ev Φ x ρ = some d1) (h2 : ev Φ y ρ = some d2) {Q : List Value → Shared → Prop}
    (h : ∀ v1 v2 h' tk, Ext s.heap h' → RepB prog w h' μ v1 d1 → RepB prog w h' μ v2 d2 → Q [v1, v2] { s with heap := h', toks := tk }) : wpAny (model prog w) A (spliced ([e1, e2].map fun e => (false, eval e env))) Q E s :=
  spliced_cons (wpAny_mono (ev2 p1 p2 F h1 h2 (Q := fun v1 v2 s' => Q [v1, v2] s') fun v1 v2 h' tk hx r1 _ r2 _ => h v1 v2 h' tk hx r1 r2) (fun v1 s' q => spliced_cons (wpAny_mono q (fun v2 s'' q => spliced_nil q) fun _ _ e => e)) fun _ _ e => e)

theorem p_len (B : Amb prog w A fnAt h₀ Φ) {e : Expr} {p0 pos : Pos} {x : X} (hk : kindIn cx.sc "len" = some .globalImplicit) (hp : plainE e) (hform : CallForm "len" p0 pos [e]) (p : EvP prog w A h₀ Φ cx e x) : EvP prog w A h₀ Φ cx (.Call (.Name "len" p0) [e] [] pos) (.len x) := by
  intro env wr μ ow ρ s d F hz E Q hQ
  simp only [ev] at hz
  obtain ⟨d1, h1, hz⟩ := Option.bind_eq_some_iff.mp hz
  exact blt_call B F (by decide) hk (by decide) (by simpa using hp) (hform env) (spl1 p F h1 fun v h' tk hx r => op_len hz r fun v h'' tk' e r => hQ v h'' tk' (hx.trans e) (.of r) fun _ => r)
theorem p_minL (B : Amb prog w A fnAt h₀ Φ) {e : Expr} {p0 pos : Pos} {x : X} (hk : kindIn cx.sc "min" = some .globalImplicit) (hp : plainE e) (hform : CallForm "min" p0 pos [e]) (p : EvP prog w A h₀ Φ cx e x) : EvP prog w A h₀ Φ cx (.Call (.Name "min" p0) [e] [] pos) (.minL x) := by
  intro env wr μ ow ρ s d F hz E Q hQ
  simp only [ev] at hz
  obtain ⟨d1, h1, hz⟩ := Option.bind_eq_some_iff.mp hz
  exact blt_call B F (by decide) hk (by decide) (by simpa using hp) (hform env) (spl1 p F h1 fun v h' tk hx r => op_minL B.hA hz r fun v h'' tk' e r => hQ v h'' tk' (hx.trans e) (.of r) fun _ => r)
theorem p_maxL (B : Amb prog w A fnAt h₀ Φ) {e : Expr} {p0 pos : Pos} {x : X} (hk : kindIn cx.sc "max" = some .globalImplicit) (hp : plainE e) (hform : CallForm "max" p0 pos [e]) (p : EvP prog w A h₀ Φ cx e x) : EvP prog w A h₀ Φ cx (.Call (.Name "max" p0) [e] [] pos) (.maxL x) := by
  intro env wr μ ow ρ s d F hz E Q hQ
  simp only [ev] at hz
  obtain ⟨d1, h1, hz⟩ := Option.bind_eq_some_iff.mp hz
  exact blt_call B F (by decide) hk (by decide) (by simpa using hp) (hform env) (spl1 p F h1 fun v h' tk hx r => op_maxL B.hA hz r fun v h'' tk' e r => hQ v h'' tk' (hx.trans e) (.of r) fun _ => r)
theorem p_sumL (B : Amb prog w A fnAt h₀ Φ) {e : Expr} {p0 pos : Pos} {x : X} (hk : kindIn cx.sc "sum" = some .globalImplicit) (hp : plainE e) (hform : CallForm "sum" p0 pos [e]) (p : EvP prog w A h₀ Φ cx e x) : EvP prog w A h₀ Φ cx (.Call (.Name "sum" p0) [e] [] pos) (.sumL x) := by
  intro env wr μ ow ρ s d F hz E Q hQ
  simp only [ev] at hz
  obtain ⟨d1, h1, hz⟩ := Option.bind_eq_some_iff.mp hz
  exact blt_call B F (by decide) hk (by decide) (by simpa using hp) (hform env) (spl1 p F h1 fun v h' tk hx r => op_sumL B.hA hz r fun v h'' tk' e r => hQ v h'' tk' (hx.trans e) (.of r) fun _ => r)
theorem p_min2 (B : Amb prog w A fnAt h₀ Φ) {e1 e2 : Expr} {p0 pos : Pos} {x y : X} (hk : kindIn cx.sc "min" = some .globalImplicit) (hp1 : plainE e1) (hp2 : plainE e2) (hform : CallForm "min" p0 pos [e1, e2]) (p1 : EvP prog w A h₀ Φ cx e1 x) (p2 : EvP prog w A h₀ Φ cx e2 y) :
    EvP prog w A h₀ Φ cx (.Call (.Name "min" p0) [e1, e2] [] pos) (.min2 x y) := by
  intro env wr μ ow ρ s d F hz E Q hQ
  simp only [ev] at hz
  obtain ⟨d1, h1, hz⟩ := Option.bind_eq_some_iff.mp hz
  obtain ⟨d2, h2, hz⟩ := Option.bind_eq_some_iff.mp hz
  exact blt_call B F (by decide) hk (by decide) (by simpa using ⟨hp1, hp2⟩) (hform env) (spl2 p1 p2 F h1 h2 fun v1 v2 h' tk hx r1 r2 => op_min2 B.hA hz r1 r2 fun v h'' tk' e r => hQ v h'' tk' (hx.trans e) (.of r) fun _ => r)
theorem p_max2 (B : Amb prog w A fnAt h₀ Φ) {e1 e2 : Expr} {p0 pos : Pos} {x y : X} (hk : kindIn cx.sc "max" = some .globalImplicit) (hp1 : plainE e1) (hp2 : plainE e2) (hform : CallForm "max" p0 pos [e1, e2]) (p1 : EvP prog w A h₀ Φ cx e1 x) (p2 : EvP prog w A h₀ Φ cx e2 y) :
    EvP prog w A h₀ Φ cx (.Call (.Name "max" p0) [e1, e2] [] pos) (.max2 x y) := by
  intro env wr μ ow ρ s d F hz E Q hQ
  simp only [ev] at hz
  obtain ⟨d1, h1, hz⟩ := Option.bind_eq_some_iff.mp hz
  obtain ⟨d2, h2, hz⟩ := Option.bind_eq_some_iff.mp hz
  exact blt_call B F (by decide) hk (by decide) (by simpa using ⟨hp1, hp2⟩) (hform env) (spl2 p1 p2 F h1 h2 fun v1 v2 h' tk hx r1 r2 => op_max2 B.hA hz r1 r2 fun v h'' tk' e r => hQ v h'' tk' (hx.trans e) (.of r) fun _ => r)
theorem p_min3 (B : Amb prog w A fnAt h₀ Φ) {e1 e2 e3 : Expr} {p0 pos : Pos} {x y z : X} (hk : kindIn cx.sc "min" = some .globalImplicit) (hp1 : plainE e1) (hp2 : plainE e2) (hp3 : plainE e3) (hform : CallForm "min" p0 pos [e1, e2, e3])
    (p1 : EvP prog w A h₀ Φ cx e1 x) (p2 : EvP prog w A h₀ Φ cx e2 y) (p3 : EvP prog w A h₀ Φ cx e3 z) : EvP prog w A h₀ Φ cx (.Call (.Name "min" p0) [e1, e2, e3] [] pos) (.min3 x y z) := by
  intro env wr μ ow ρ s d F hz E Q hQ
  simp only [ev] at hz
  obtain ⟨d1, h1, hz⟩ := Option.bind_eq_some_iff.mp hz
  obtain ⟨d2, h2, hz⟩ := Option.bind_eq_some_iff.mp hz
  obtain ⟨d3, h3, hz⟩ := Option.bind_eq_some_iff.mp hz
  refine blt_call (id := "min") B F (by decide) hk (by decide) (by simpa using ⟨hp1, hp2, hp3⟩) (hform env) ?_
  refine spliced_cons (p1 env wr μ ow ρ s d1 F h1 E _ fun v1 ha ta xa r1 _ => spliced_cons (p2 env wr μ ow ρ _ d2 (F.ext xa) h2 E _ fun v2 hb tb xb r2 _ => spliced_cons (p3 env wr μ ow ρ _ d3 (F.ext (xa.trans xb)) h3 E _ fun v3 hc tc xc r3 _ => spliced_nil ?_)))
  exact op_min3 B.hA hz ((r1.ext xb).ext xc) (r2.ext xc) r3 fun v h'' tk' e r => hQ v h'' tk' (((xa.trans xb).trans xc).trans e) (.of r) fun _ => r
end
end Mine
end
section
open PySem PySem.W PyProof.Rows PySem.Calls
set_option maxRecDepth 100000
namespace Mine
section
variable {prog : Program} {w : World} {A : Around} {fnAt : Nat → Option (Str × Addr)} {h₀ : Heap} {Φ : Nat → List D → Option D} {cx : Cx}
variable {E : Value → Shared → Prop} {s : Shared} {env : Env} {wr μ : List Addr} {ow : Nat → Option Addr} {ρ : Rho}

/-! ### methods -/
theorem meth0 {o : Expr} {name : Str} {id T : String} {apos pos : Pos} {x : X} {d : D} (hbase : ∀ env, attributeBase o name env (eval o env) = eval o env) (hline : (apos.endLine == pos.line) = true) (pa : PlainAttrs T) (sl : PySem.Slot T name id) (hty : typeOf (.builtin id) = pure (.type "method_descriptor"))
    (p : EvP prog w A h₀ Φ cx o x) (F : FrOk prog w cx h₀ env wr μ s.heap ow ρ) (hz : ev Φ x ρ = some d) {Q : Value → Shared → Prop}
    (h : ∀ v h' tk, Ext s.heap h' → RepB prog w h' μ v d → ({ s with heap := h', toks := tk } : Shared).TypeIs v T ∧ (∀ a, v = .ref a → ∃ ob, h'.get? a = some ob ∧ ob.dict = none) ∧ wpAny (model prog w) A (call (.builtin id) [v]) Q E { s with heap := h', toks := tk }) :
    wpAny (model prog w) A (eval (.Call (.Attribute o name apos) [] [] pos) env) Q E s := by
  refine wpAny_Call_method0_late (hbase env) hline (p env wr μ ow ρ s d F hz E _ fun v h' tk hx r _ => ?_)
  obtain ⟨h1, h2, h3⟩ := h v h' tk hx r
  refine ⟨T, id, pa, sl, hty, h1, h2, callWith_builtin rfl ?_⟩
  exact PySem.evalArgs_none h3
theorem meth1 {o e1 : Expr} {name : Str} {id T : String} {apos pos : Pos} {x y : X} {d d1 : D} (hbase : ∀ env, attributeBase o name env (eval o env) = eval o env) (hline : (apos.endLine == pos.line) = true) (pa : PlainAttrs T) (sl : PySem.Slot T name id) (hty : typeOf (.builtin id) = pure (.type "method_descriptor"))
    (hp : plainE e1) (p : EvP prog w A h₀ Φ cx o x) (p1 : EvP prog w A h₀ Φ cx e1 y) (F : FrOk prog w cx h₀ env wr μ s.heap ow ρ) (hz : ev Φ x ρ = some d) (hz1 : ev Φ y ρ = some d1) {Q : Value → Shared → Prop}
    (hT : ∀ v h' tk, Ext s.heap h' → RepB prog w h' μ v d → ({ s with heap := h', toks := tk } : Shared).TypeIs v T ∧ (∀ a, v = .ref a → ∃ ob, h'.get? a = some ob ∧ ob.dict = none))
    (h : ∀ v v1 h' tk, Ext s.heap h' → RepB prog w h' μ v d → RepB prog w h' μ v1 d1 → wpAny (model prog w) A (call (.builtin id) [v, v1]) Q E { s with heap := h', toks := tk }) :
    wpAny (model prog w) A (eval (.Call (.Attribute o name apos) [e1] [] pos) env) Q E s := by
  refine wpAny_Call_method1_late (hbase env) hline (trees_of pos env [e1] (by simpa using hp)) (p env wr μ ow ρ s d F hz E _ fun v h' tk hx r _ => ?_)
  obtain ⟨h1, h2⟩ := hT v h' tk hx r
  refine ⟨T, id, pa, sl, hty, h1, h2, callWith_builtin rfl (evalArgs_plain (spliced_cons (p1 env wr μ ow ρ _ d1 (F.ext hx) hz1 E _ fun v1 h'' tk' hx' r1 _ => spliced_nil ?_)))⟩
  exact h v v1 h'' tk' (hx.trans hx') (r.ext hx') r1

theorem p_lower {o : Expr} {apos pos : Pos} {x : X} (hbase : ∀ env, attributeBase o "lower" env (eval o env) = eval o env) (hline : (apos.endLine == pos.line) = true) (p : EvP prog w A h₀ Φ cx o x) : EvP prog w A h₀ Φ cx (.Call (.Attribute o "lower" apos) [] [] pos) (.lower x) := by
  intro env wr μ ow ρ s d F hz E Q hQ
  simp only [ev] at hz
  obtain ⟨d1, h1, hz⟩ := Option.bind_eq_some_iff.mp hz
  refine meth0 hbase hline PySem.F.plainAttrs_str PySem.F.slot_str_lower PySem.F.type_str_lower p F h1 fun v h' tk hx r => ?_
  have hs : ∃ y, d1 = .str y := by
    unfold lowerD at hz; split at hz
    · exact ⟨_, rfl⟩
    · cases hz
  obtain ⟨y, rfl⟩ := hs
  obtain ⟨t, rfl⟩ := r.strI
  exact ⟨typeIs_str _ _ _, (fun _ e => nomatch e), op_lower hz r fun v h'' tk' e r => hQ v h'' tk' (hx.trans e) (.of r) fun _ => r⟩
theorem p_join {o e1 : Expr} {apos pos : Pos} {x y : X} (hbase : ∀ env, attributeBase o "join" env (eval o env) = eval o env) (hline : (apos.endLine == pos.line) = true) (hp : plainE e1) (p : EvP prog w A h₀ Φ cx o x) (p1 : EvP prog w A h₀ Φ cx e1 y) :
    EvP prog w A h₀ Φ cx (.Call (.Attribute o "join" apos) [e1] [] pos) (.join x y) := by
  intro env wr μ ow ρ s d F hz E Q hQ
  simp only [ev] at hz
  obtain ⟨d1, h1, hz⟩ := Option.bind_eq_some_iff.mp hz
  obtain ⟨d2, h2, hz⟩ := Option.bind_eq_some_iff.mp hz
  refine meth1 hbase hline PySem.F.plainAttrs_str PySem.F.slot_str_join PySem.F.type_str_join hp p p1 F h1 h2 (fun v h' tk hx r => ?_) fun v v1 h' tk hx r r1 => op_join hz r r1 fun v h'' tk' e r => hQ v h'' tk' (hx.trans e) (.of r) fun _ => r
  have hs : ∃ y, d1 = .str y := by
    unfold joinD at hz; split at hz
    · exact ⟨_, rfl⟩
    · cases hz
  obtain ⟨y, rfl⟩ := hs
  obtain ⟨t, rfl⟩ := r.strI
  exact ⟨typeIs_str _ _ _, fun _ e => nomatch e⟩
theorem p_index {o e1 : Expr} {apos pos : Pos} {x y : X} (hbase : ∀ env, attributeBase o "index" env (eval o env) = eval o env) (hline : (apos.endLine == pos.line) = true) (hp : plainE e1) (p : EvP prog w A h₀ Φ cx o x) (p1 : EvP prog w A h₀ Φ cx e1 y) :
    EvP prog w A h₀ Φ cx (.Call (.Attribute o "index" apos) [e1] [] pos) (.index x y) := by
  intro env wr μ ow ρ s d F hz E Q hQ
  simp only [ev] at hz
  obtain ⟨d1, h1, hz⟩ := Option.bind_eq_some_iff.mp hz
  obtain ⟨d2, h2, hz⟩ := Option.bind_eq_some_iff.mp hz
  refine meth1 hbase hline PySem.F.plainAttrs_list PySem.F.slot_list_index PySem.F.type_list_index hp p p1 F h1 h2 (fun v h' tk hx r => ?_) fun v v1 h' tk hx r r1 => op_index hz r r1 fun v h'' tk' e r => hQ v h'' tk' (hx.trans e) (.of r) fun _ => r
  have hs : ∃ y, d1 = .list y := by
    unfold indexD at hz; split at hz
    · exact ⟨_, rfl⟩
    · cases hz
  obtain ⟨y, rfl⟩ := hs
  obtain ⟨a, vs, rfl, ⟨n, hp⟩, _⟩ := r.listI
  exact ⟨⟨_, hp, rfl⟩, fun a' e => by cases e; exact ⟨_, hp, rfl⟩⟩

/-! ### items and slices -/
theorem tail_item {value slice : Expr} {o i : Value} {ops : List Value} {Q : Value → Shared → Prop} (h : Item prog w A E s o i Q) (hs : subscripted slice false o i = operate ops (getItem o i)) : wpAny (model prog w) A (subscriptTail value slice o i) Q E s := by
  obtain ⟨T, id, h1, h2, h3⟩ := h
  exact tail_any h1 h2 h3 hs
noncomputable def plainSlice (e : Expr) : Prop := ∀ o i, subscripted e false o i = operate [o, i] (getItem o i)
theorem p_sub {e1 e2 : Expr} {pos : Pos} {x y : X} (hs : plainSlice e2) (p1 : EvP prog w A h₀ Φ cx e1 x) (p2 : EvP prog w A h₀ Φ cx e2 y) : EvP prog w A h₀ Φ cx (.Subscript e1 e2 pos) (.sub x y) := by
  intro env wr μ ow ρ s d F hz E Q hQ
  simp only [ev] at hz
  obtain ⟨d1, h1, hz⟩ := Option.bind_eq_some_iff.mp hz
  obtain ⟨d2, h2, hz⟩ := Option.bind_eq_some_iff.mp hz
  exact Subscript_ (ev2 p1 p2 F h1 h2 fun v1 v2 h' tk hx r1 _ r2 _ => tail_item (op_sub hz r1 r2 fun v h'' tk' e r => hQ v h'' tk' (hx.trans e) (.of r) fun _ => r) (hs v1 v2))
theorem p_from {e1 e2 : Expr} {p0 pos : Pos} {x y : X} (p1 : EvP prog w A h₀ Φ cx e1 x) (p2 : EvP prog w A h₀ Φ cx e2 y) : EvP prog w A h₀ Φ cx (.Subscript e1 (.Slice (some e2) none none p0) pos) (.from_ x y) := by
  intro env wr μ ow ρ s d F hz E Q hQ
  simp only [ev] at hz
  obtain ⟨d1, h1, hz⟩ := Option.bind_eq_some_iff.mp hz
  obtain ⟨d2, h2, hz⟩ := Option.bind_eq_some_iff.mp hz
  refine Subscript_ (p1 env wr μ ow ρ s d1 F h1 E _ fun v1 h' tk hx r1 _ => wpAny_Slice (p2 env wr μ ow ρ _ d2 (F.ext hx) h2 E _ fun v2 h'' tk' hx' r2 _ => wpAny_pure (wpAny_pure ?_)))
  refine tail_item (op_from hz (Heap.IsSliceOf.new ..) ((r1.ext hx').ext (Ext.push _ _)) (r2.ext (Ext.push _ _)) fun v h3 tk3 e r => hQ v h3 tk3 (((hx.trans hx').trans (Ext.push _ _)).trans e) (.of r) fun _ => r) rfl
theorem p_upto {e1 e2 : Expr} {p0 pos : Pos} {x y : X} (p1 : EvP prog w A h₀ Φ cx e1 x) (p2 : EvP prog w A h₀ Φ cx e2 y) : EvP prog w A h₀ Φ cx (.Subscript e1 (.Slice none (some e2) none p0) pos) (.upto x y) := by
  intro env wr μ ow ρ s d F hz E Q hQ
  simp only [ev] at hz
  obtain ⟨d1, h1, hz⟩ := Option.bind_eq_some_iff.mp hz
  obtain ⟨d2, h2, hz⟩ := Option.bind_eq_some_iff.mp hz
  refine Subscript_ (p1 env wr μ ow ρ s d1 F h1 E _ fun v1 h' tk hx r1 _ => wpAny_Slice (wpAny_pure (p2 env wr μ ow ρ _ d2 (F.ext hx) h2 E _ fun v2 h'' tk' hx' r2 _ => wpAny_pure ?_)))
  refine tail_item (op_upto hz (F.alive.ext ((hx.trans hx').trans (Ext.push _ _))) (Heap.IsSliceOf.new ..) ((r1.ext hx').ext (Ext.push _ _)) (r2.ext (Ext.push _ _)) fun v h3 tk3 e r => hQ v h3 tk3 (((hx.trans hx').trans (Ext.push _ _)).trans e) (.of r) fun _ => r) rfl

/-! ### tests -/
theorem t_cmp (B : Amb prog w A fnAt h₀ Φ) {op : COp} {e1 e2 : Expr} {pos : Pos} {x y : X} (hm : behindInMarks (opC op) e2 = false) (p1 : EvP prog w A h₀ Φ cx e1 x) (p2 : EvP prog w A h₀ Φ cx e2 y) : TestP prog w A h₀ Φ cx (.Compare e1 [opC op] [e2] pos) (.cmp op x y) := by
  intro env wr μ ow ρ s b F hz E Q hQ
  simp only [evT] at hz
  obtain ⟨d1, h1, hz⟩ := Option.bind_eq_some_iff.mp hz
  obtain ⟨d2, h2, hz⟩ := Option.bind_eq_some_iff.mp hz
  refine wpAny_isTrue_Compare1 (hm := hm) (ev2 p1 p2 F h1 h2 fun v1 v2 h' tk hx r1 _ r2 _ => op_cmp B.hu hz r1 r2 (fun l e => by subst e; exact r1.tupR) (fun l e => by subst e; exact r2.tupR) fun v h'' tk' e r => ?_)
  cases r with | bool => exact wpAny_truthy_bool (hQ h'' tk' (hx.trans e))
theorem t_in (B : Amb prog w A fnAt h₀ Φ) {e1 e2 : Expr} {pos : Pos} {x y : X} (hm : behindInMarks .In e2 = false) (p1 : EvP prog w A h₀ Φ cx e1 x) (p2 : EvP prog w A h₀ Φ cx e2 y) : TestP prog w A h₀ Φ cx (.Compare e1 [.In] [e2] pos) (.inD x y) := by
  intro env wr μ ow ρ s b F hz E Q hQ
  simp only [evT] at hz
  obtain ⟨d1, h1, hz⟩ := Option.bind_eq_some_iff.mp hz
  obtain ⟨d2, h2, hz⟩ := Option.bind_eq_some_iff.mp hz
  split at hz
  · cases hz
    refine wpAny_isTrue_Compare1 (hm := hm) (ev2 p1 p2 F h1 h2 fun v1 v2 h' tk hx r1 _ r2 _ => op_in r1 r2 fun v h'' tk' e r => ?_)
    cases r with | bool => exact wpAny_truthy_bool (hQ h'' tk' (hx.trans e))
  · cases hz
theorem t_cmp2 (B : Amb prog w A fnAt h₀ Φ) {op1 op2 : COp} {e1 e2 e3 : Expr} {pos : Pos} {x y z : X} (hm : lastMarks [opC op1, opC op2] [e2, e3] = false) (p1 : EvP prog w A h₀ Φ cx e1 x) (p2 : EvP prog w A h₀ Φ cx e2 y) (p3 : EvP prog w A h₀ Φ cx e3 z) :
    TestP prog w A h₀ Φ cx (.Compare e1 [opC op1, opC op2] [e2, e3] pos) (.cmp2 x op1 y op2 z) := by
  intro env wr μ ow ρ s b F hz E Q hQ
  simp only [evT] at hz
  obtain ⟨d1, h1, hz⟩ := Option.bind_eq_some_iff.mp hz
  obtain ⟨d2, h2, hz⟩ := Option.bind_eq_some_iff.mp hz
  obtain ⟨c, hc, hz⟩ := Option.bind_eq_some_iff.mp hz
  refine isTrue_chain (hm := hm) (p1 env wr μ ow ρ s d1 F h1 E _ fun v1 ha ta xa r1 _ => ?_)
  show wpAny _ _ (do
    let rv ← holding [v1] (eval e2 env)
    standAt pos
    let c ← holding [v1, rv] (compareOp (opC op1) v1 rv)
    release [v1, rv] [c]
    if ← holding [c, rv] (truthy c) then testChain pos rv [opC op2] [eval e3 env] else pure false) Q E _
  refine wpAny_bind (wpAny_holding (p2 env wr μ ow ρ _ d2 (F.ext xa) h2 E _ fun v2 hb tb xb r2 _ => wpAny_bind (wpAny_standAt (wpAny_bind (wpAny_holding ?_)))))
  have r1' := r1.ext xb
  refine op_cmp B.hu hc r1' r2 (fun l e => by subst e; exact r1'.tupR) (fun l e => by subst e; exact r2.tupR) fun v hc' tc xc rc => ?_
  cases rc
  refine wpAny_bind (wpAny_release' (wpAny_bind (wpAny_holding (wpAny_truthy_bool ?_))))
  cases c with
  | false =>
    rw [if_neg Bool.false_ne_true] at hz ⊢
    cases hz
    exact wpAny_pure (hQ _ _ ((xa.trans xb).trans xc))
  | true =>
    rw [if_pos rfl] at hz ⊢
    obtain ⟨d3, h3, hz⟩ := Option.bind_eq_some_iff.mp hz
    show wpAny _ _ (do
      let rv ← holding [v2] (eval e3 env)
      standAt pos
      let c ← operate [v2, rv] (compareOp (opC op2) v2 rv)
      holding [c] (truthy c)) Q E _
    refine wpAny_bind (wpAny_holding (p3 env wr μ ow ρ _ d3 (F.ext ((xa.trans xb).trans xc)) h3 E _ fun v3 hd td xd r3 _ => wpAny_bind (wpAny_standAt (wpAny_bind (wpAny_operate' ?_)))))
    have r2' := (r2.ext xc).ext xd
    refine op_cmp B.hu hz r2' r3 (fun l e => by subst e; exact r2'.tupR) (fun l e => by subst e; exact r3.tupR) fun v he te xe re => ?_
    cases re
    exact wpAny_holding (wpAny_truthy_bool (hQ _ _ ((((xa.trans xb).trans xc).trans xd).trans xe)))
theorem a_nil : AndP prog w A h₀ Φ cx [] .nil := by
  intro env wr μ ow ρ s b F hz E Q hQ
  simp only [evAnd, Option.some.injEq] at hz; subst hz
  exact wpAny_allTrue_And_nil (hQ s.heap s.toks (Ext.refl _))
theorem a_cons {e : Expr} {r : List Expr} {t : T} {ts : Ts} (p1 : TestP prog w A h₀ Φ cx e t) (p2 : AndP prog w A h₀ Φ cx r ts) : AndP prog w A h₀ Φ cx (e :: r) (.cons t ts) := by
  intro env wr μ ow ρ s b F hz E Q hQ
  simp only [evAnd] at hz
  obtain ⟨c, h1, hz⟩ := Option.bind_eq_some_iff.mp hz
  refine wpAny_allTrue_And_cons (p1 env wr μ ow ρ s c F h1 E _ fun h' tk hx => ?_)
  cases c with
  | true =>
    rw [if_pos rfl] at hz ⊢
    exact p2 env wr μ ow ρ _ b (F.ext hx) hz E _ fun h'' tk' hx' => hQ h'' tk' (hx.trans hx')
  | false =>
    rw [if_neg Bool.false_ne_true] at hz ⊢
    cases hz; exact hQ h' tk hx
theorem o_nil : OrP prog w A h₀ Φ cx [] .nil := by
  intro env wr μ ow ρ s b F hz E Q hQ
  simp only [evOr, Option.some.injEq] at hz; subst hz
  exact wpAny_allTrue_Or_nil (hQ s.heap s.toks (Ext.refl _))
theorem o_cons {e : Expr} {r : List Expr} {t : T} {ts : Ts} (p1 : TestP prog w A h₀ Φ cx e t) (p2 : OrP prog w A h₀ Φ cx r ts) : OrP prog w A h₀ Φ cx (e :: r) (.cons t ts) := by
  intro env wr μ ow ρ s b F hz E Q hQ
  simp only [evOr] at hz
  obtain ⟨c, h1, hz⟩ := Option.bind_eq_some_iff.mp hz
  refine wpAny_allTrue_Or_cons (p1 env wr μ ow ρ s c F h1 E _ fun h' tk hx => ?_)
  cases c with
  | true =>
    rw [if_pos rfl] at hz ⊢
    cases hz; exact hQ h' tk hx
  | false =>
    rw [if_neg Bool.false_ne_true] at hz ⊢
    exact p2 env wr μ ow ρ _ b (F.ext hx) hz E _ fun h'' tk' hx' => hQ h'' tk' (hx.trans hx')
theorem t_and {es : List Expr} {pos : Pos} {ts : Ts} (p : AndP prog w A h₀ Φ cx es ts) : TestP prog w A h₀ Φ cx (.BoolOp .And es pos) (.and ts) := by
  intro env wr μ ow ρ s b F hz E Q hQ
  simp only [evT] at hz
  exact wpAny_isTrue_BoolOp (p env wr μ ow ρ s b F hz E Q hQ)
theorem t_or {es : List Expr} {pos : Pos} {ts : Ts} (p : OrP prog w A h₀ Φ cx es ts) : TestP prog w A h₀ Φ cx (.BoolOp .Or es pos) (.or ts) := by
  intro env wr μ ow ρ s b F hz E Q hQ
  simp only [evT] at hz
  exact wpAny_isTrue_BoolOp (p env wr μ ow ρ s b F hz E Q hQ)
theorem t_not {e : Expr} {pos : Pos} {t : T} (p : TestP prog w A h₀ Φ cx e t) : TestP prog w A h₀ Φ cx (.UnaryOp .Not e pos) (.not t) := by
  intro env wr μ ow ρ s b F hz E Q hQ
  simp only [evT] at hz
  obtain ⟨c, h1, rfl⟩ := Option.map_eq_some_iff.mp hz
  exact wpAny_isTrue_Not (p env wr μ ow ρ s c F h1 E _ hQ)
noncomputable def plainTest (e : Expr) : Prop := ∀ env, isTrue e env (eval e env) = (do let v ← eval e env; standAt e.pos; holding [v] (truthy v))
theorem t_truth {e : Expr} {x : X} (hs : plainTest e) (p : EvP prog w A h₀ Φ cx e x) : TestP prog w A h₀ Φ cx e (.truth x) := by
  intro env wr μ ow ρ s b F hz E Q hQ
  simp only [evT] at hz
  obtain ⟨d1, h1, hz⟩ := Option.bind_eq_some_iff.mp hz
  exact wpAny_isTrue_value (p env wr μ ow ρ s d1 F h1 E _ fun v h' tk hx r _ => op_truth hz r fun h'' tk' e => hQ h'' tk' (hx.trans e)) (hs env)
theorem t_isTup (B : Amb prog w A fnAt h₀ Φ) {e : Expr} {p0 p1 pos : Pos} {x : X} (hk : kindIn cx.sc "isinstance" = some .globalImplicit) (hk2 : kindIn cx.sc "tuple" = some .globalImplicit) (hp : plainE e) (hform : CallForm "isinstance" p0 pos [e, .Name "tuple" p1])
    (hs : plainTest (.Call (.Name "isinstance" p0) [e, .Name "tuple" p1] [] pos)) (p : EvP prog w A h₀ Φ cx e x) : TestP prog w A h₀ Φ cx (.Call (.Name "isinstance" p0) [e, .Name "tuple" p1] [] pos) (.isTup x) := by
  intro env wr μ ow ρ s b F hz E Q hQ
  simp only [evT] at hz
  obtain ⟨d1, h1, hz⟩ := Option.bind_eq_some_iff.mp hz
  split at hz
  · cases hz
    refine wpAny_isTrue_value (blt_call (id := "isinstance") B F (by decide) hk (by decide) (by intro e' he; rcases List.mem_cons.mp he with rfl | he; exact hp; rw [List.mem_singleton.mp he]; exact fun _ _ => rfl) (hform env) ?_) (hs env)
    refine spliced_cons (p env wr μ ow ρ s _ F h1 E _ fun v h' tk hx r _ => spliced_cons (glob_blt B (F.ext hx) (v := .type "tuple") (by decide) hk2 (by decide) (spliced_nil ?_)))
    refine op_isTup r fun v h'' tk' e r => ?_
    cases r
    exact wpAny_truthy_bool (hQ h'' tk' (hx.trans e))
  · cases hz
end
end Mine
end
section
open PySem PySem.W PyProof.Rows PySem.Calls
set_option maxRecDepth 100000
namespace Mine
section
variable {prog : Program} {w : World} {A : Around} {fnAt : Nat → Option (Str × Addr)} {h₀ : Heap} {Φ : Nat → List D → Option D} {cx : Cx}
variable {E : Value → Shared → Prop} {s : Shared} {env : Env} {wr μ : List Addr} {ow : Nat → Option Addr} {ρ : Rho}

theorem grow1 {h h' : Heap} {b : Addr} (e : Ext h h') (hb : h.get? b = none) : ∀ a o, a ∉ μ → h.get? a = some o → h'.get? a = some o ∧ a ∉ b :: μ := fun a o n q =>
  ⟨e a o q, fun hm => (List.mem_cons.mp hm).elim (fun x => by rw [x, hb] at q; cases q) n⟩
theorem none_back {h h' : Heap} {b : Addr} (e : Ext h h') (hb : h'.get? b = none) : h.get? b = none := by
  cases q : h.get? b with
  | none => rfl
  | some o => rw [e b o q] at hb; cases hb

theorem p_new {e : Expr} {f : F} (p : NewP prog w A h₀ Φ cx e f) : EvP prog w A h₀ Φ cx e (.new f) := by
  intro env wr μ ow ρ s d F hz E Q hQ
  simp only [ev] at hz
  refine p env wr μ ow ρ s d F hz E Q fun b h' tk hx hb o => ?_
  have r : Rep prog w h' μ (.ref b) d := o.rep (fun hm => by obtain ⟨ob, hob⟩ := F.alive b hm; rw [hb] at hob; cases hob) fun c n hm => n (List.mem_cons_of_mem _ hm)
  exact hQ _ h' tk hx (.of r) fun _ => r

theorem n_list {es : List Expr} {pos : Pos} {xs : Xs} (hp : ∀ e ∈ es, plainE e) (p : ListP prog w A h₀ Φ cx es xs) : NewP prog w A h₀ Φ cx (.List es pos) (.list xs) := by
  intro env wr μ ow ρ s d F hz E Q hQ
  simp only [evF] at hz
  obtain ⟨ds, h1, hz⟩ := Option.bind_eq_some_iff.mp hz
  split at hz
  · rename_i hl
    cases hz
    refine wpAny_List ?_
    rw [trees_of pos env es hp]
    refine p env wr μ ow ρ s ds F h1 E _ fun vs h' tk hx r => ⟨?_, ?_⟩
    · rw [r.length]; unfold sizeLine; (first | lia | omega)
    · refine hQ _ _ tk (hx.trans (Ext.push _ _)) (none_back hx (none_of_size _)) (.list ⟨_, Heap.get?_push_size _ rfl⟩ ?_)
      rw [List.toList_toArray]
      exact r.move (grow1 (Ext.push _ _) (none_of_size h'))
  · cases hz
theorem sys_ne (B : Amb prog w A fnAt h₀ Φ) {h : Heap} (ht : Ext h₀ h) : h.objs.size ≠ sysModules := by
  obtain ⟨mg, mb, G⟩ := B.gl
  obtain ⟨o, ho⟩ := G.sys
  intro e
  have := Heap.lt_size (ht _ _ ho)
  rw [e] at this
  exact absurd this (by decide)
theorem n_dict0 (B : Amb prog w A fnAt h₀ Φ) {pos : Pos} : NewP prog w A h₀ Φ cx (.Dict [] [] pos) .dict0 := by
  intro env wr μ ow ρ s d F hz E Q hQ
  simp only [evF, Option.some.injEq] at hz
  subst hz
  exact wpAny_Dict_empty (hQ _ _ s.toks (Ext.push _ _) (none_of_size _) (.dict (kvs := []) (Heap.DictOf.new _) (sys_ne B F.top) .nil))
theorem n_dict1 (B : Amb prog w A fnAt h₀ Φ) {ek evl : Expr} {pos : Pos} {x y : X} (p1 : EvP prog w A h₀ Φ cx ek x) (p2 : EvP prog w A h₀ Φ cx evl y) (n2 : nb y = true) : NewP prog w A h₀ Φ cx (.Dict [some ek] [evl] pos) (.dict1 x y) := by
  intro env wr μ ow ρ s d F hz E Q hQ
  simp only [evF] at hz
  obtain ⟨d1, h1, hz⟩ := Option.bind_eq_some_iff.mp hz
  obtain ⟨d2, h2, hz⟩ := Option.bind_eq_some_iff.mp hz
  obtain ⟨i, hi, rfl⟩ := Option.map_eq_some_iff.mp hz
  have hd1 : d1 = .int i := by unfold keyOf at hi; split at hi <;> first | (cases hi; rfl) | cases hi
  subst hd1
  have hb := none_of_size s.heap
  have F' : FrOk prog w cx h₀ env wr ([s.heap.objs.size] ++ μ) (s.heap.push { cls := .type "dict", data := .dict #[] }) ow ρ := F.grow (Ext.push _ _) (fun a ha => by rw [List.mem_singleton.mp ha]; exact hb) (fun a ha => by rw [List.mem_singleton.mp ha]; exact ⟨_, Heap.get?_push_size _ rfl⟩)
  refine wpAny_Dict_pairs (knd := intKind prog w) (pairs := [(eval ek env, do let x ← eval evl env; standAt pos; pure x)]) rfl (by simp) (by simp) ?_
  refine evalPairs_cons (p1 env wr _ ow ρ { s with heap := s.heap.push { cls := .type "dict", data := .dict #[] } } _ F' h1 E _ fun v1 ha ta xa r1 _ => wpAny_bind (p2 env wr _ ow ρ _ d2 (F'.ext xa) h2 E _ fun v2 hb tb xb r2 k2 => wpAny_bind (wpAny_standAt (wpAny_pure (evalPairs_nil ?_)))))
  obtain ⟨t, rfl⟩ := r1.intI
  refine ⟨[(i, v2)], ⟨by simp [intKind, Value.isInt], rfl, trivial⟩, dictOf_at (Heap.DictOf.new s.heap) fun o e => xb _ _ (xa _ _ e), fun h' hm hs => ?_⟩
  refine hQ _ h' _ ?_ (none_of_size _) (.dict (kvs := [(i, v2)]) ?_ (sys_ne B F.top) (.cons ?_ .nil))
  · intro c o e
    exact hs.extBut c o (Nat.ne_of_lt (Heap.lt_size e)) (xb _ _ (xa _ _ (Ext.push _ _ _ _ e)))
  · simpa [merged, stored] using hm
  · exact (k2 n2).move fun a o n e => ⟨hs.extBut a o (fun q => n (by rw [q]; exact List.mem_cons_self)) e, n⟩

theorem range3_list {a b c : D} {z : List D} (hz : range3D a b c = some z) : ∃ x y : Int, a = .int x ∧ b = .int y ∧ c = .int 2 ∧ 0 ≤ x ∧ x ≤ 1000 ∧ -1000 ≤ y ∧ y ≤ 1000 ∧ z = (List.range ((y - x + 1) / 2).toNat).map fun k : Nat => D.int (x + 2 * (k : Int)) := by
  unfold range3D at hz
  split at hz
  · split at hz
    · rename_i h
      cases hz
      exact ⟨_, _, rfl, rfl, by rw [h.2.2.2.2], h.1, h.2.1, h.2.2.1, h.2.2.2.1, rfl⟩
    · cases hz
  · cases hz

theorem typ_call (B : Amb prog w A fnAt h₀ Φ) (F : FrOk prog w cx h₀ env wr μ s.heap ow ρ) {x : Str} {T : String} {e : Expr} {es : List Expr} {p0 pos : Pos} (hf : (x, Value.type T) ∈ usedBlts) (hk : kindIn cx.sc x = some .globalImplicit) (hg : goodName x = true)
    (hp : ∀ e' ∈ e :: es, plainE e') (hform : eval (.Call (.Name x p0) (e :: es) [] pos) env = (do callWith pos (← eval (.Name x p0) env) [] (backTo pos (starEach (e :: es) env)) (backToKw pos (keywordEach [] env)))) {Q : Value → Shared → Prop}
    (h : wpAny (model prog w) A (spliced ((e :: es).map fun e => (false, eval e env))) (fun vs s₁ => wpAny (model prog w) A (call (.type T) vs) Q E s₁) E s) :
    wpAny (model prog w) A (eval (.Call (.Name x p0) (e :: es) [] pos) env) Q E s := by
  rw [hform]
  refine wpAny_bind (glob_blt B F hf hk (goodName_spec hg).1 ?_)
  rw [trees_of pos env _ hp]
  show wpAny _ _ (callWith pos (.type T) [] ((e :: es).map fun e => (false, eval e env)) []) _ _ _
  exact PySem.callWith_type (trees_any env _) (evalArgs_plain h)
theorem reps_of {h : Heap} : ∀ {vs : List Value} {ds : List D}, vs.length = ds.length → (∀ (j : Nat) v d, vs[j]? = some v → ds[j]? = some d → Rep prog w h μ v d) → Reps prog w h μ vs ds
  | [], [], _, _ => .nil
  | v :: vs, d :: ds, hl, h => .cons (h 0 v d rfl rfl) (reps_of (by simpa using hl) fun j v d hv hd => h (j + 1) v d hv hd)
theorem reps_ints {h : Heap} {acc : Array Value} {n : Nat} {f : Nat → Int} (hs : acc.size = n) (hit : ∀ (j : Nat) (hj : j < n), ∃ t, acc[j] = .int (f j) t) : Reps prog w h μ acc.toList ((List.range n).map fun k => D.int (f k)) := by
  refine reps_of (by simp [hs]) fun j v d hv hd => ?_
  have hj : j < n := by
    rcases Nat.lt_or_ge j n with q | q
    · exact q
    · rw [List.getElem?_eq_none (by simp [hs, q])] at hv; cases hv
  obtain ⟨t, ht⟩ := hit j hj
  have e1 : v = .int (f j) t := by
    rw [Array.getElem?_toList, Array.getElem?_eq_getElem (by (first | lia | omega)), ht] at hv
    exact (Option.some.inj hv).symm
  have e2 : d = .int (f j) := by
    rw [List.getElem?_map, List.getElem?_range hj] at hd
    exact (Option.some.inj hd).symm
  rw [e1, e2]; exact .int _ t
theorem n_range3 (B : Amb prog w A fnAt h₀ Φ) {e1 e2 e3 : Expr} {p0 p1 q0 pos : Pos} {x y z : X} (hk : kindIn cx.sc "list" = some .globalImplicit) (hk2 : kindIn cx.sc "range" = some .globalImplicit) (hp1 : plainE e1) (hp2 : plainE e2) (hp3 : plainE e3)
    (hform : CallForm "list" p0 pos [.Call (.Name "range" p1) [e1, e2, e3] [] q0]) (hform2 : CallForm "range" p1 q0 [e1, e2, e3])
    (r1 : EvP prog w A h₀ Φ cx e1 x) (r2 : EvP prog w A h₀ Φ cx e2 y) (r3 : EvP prog w A h₀ Φ cx e3 z) : NewP prog w A h₀ Φ cx (.Call (.Name "list" p0) [.Call (.Name "range" p1) [e1, e2, e3] [] q0] [] pos) (.range3 x y z) := by
  intro env wr μ ow ρ s d F hz E Q hQ
  simp only [evF] at hz
  obtain ⟨d1, h1, hz⟩ := Option.bind_eq_some_iff.mp hz
  obtain ⟨d2, h2, hz⟩ := Option.bind_eq_some_iff.mp hz
  obtain ⟨d3, h3, hz⟩ := Option.bind_eq_some_iff.mp hz
  obtain ⟨l, hl, rfl⟩ := Option.map_eq_some_iff.mp hz
  obtain ⟨a, b, rfl, rfl, rfl, ha, ha', hb0, hb, rfl⟩ := range3_list hl
  refine typ_call (T := "list") B F (by decide) hk (by decide) (by intro e' he; rw [List.mem_singleton.mp he]; exact fun _ _ => rfl) (hform env) ?_
  refine spliced_cons ?_
  refine typ_call (T := "range") B F (by decide) hk2 (by decide) (by simpa using ⟨hp1, hp2, hp3⟩) (hform2 env) ?_
  refine spliced_cons (r1 env wr μ ow ρ s _ F h1 E _ fun v1 ha ta xa r1 _ => spliced_cons (r2 env wr μ ow ρ _ _ (F.ext xa) h2 E _ fun v2 hb tb xb r2 _ => spliced_cons (r3 env wr μ ow ρ _ _ (F.ext (xa.trans xb)) h3 E _ fun v3 hc tc xc r3 _ => spliced_nil ?_)))
  obtain ⟨t, rfl⟩ := r1.intI
  obtain ⟨u, rfl⟩ := r2.intI
  obtain ⟨v, rfl⟩ := r3.intI
  refine call_range_3 (by decide) (spliced_nil ?_) (.inl (small_div (by decide) (by decide)))
  have xs : Ext s.heap hc := (xa.trans xb).trans xc
  have hsz : Builtin.Range.rangeSize a b 2 = (((b - a + 1) / 2).toNat : Nat) := by
    unfold Builtin.Range.rangeSize
    simp only [show (2 : Int) > 0 by decide, if_true]
    split <;> (first | lia | omega)
  refine call_list_range (n := ((b - a + 1) / 2).toNat) B.hA (IsRange.new hc a b 2 t u v) ?_ hsz (by (first | lia | omega)) ?_
  · unfold Builtin.Range.small
    rw [hsz]
    simp only [Builtin.Range.rangeFitsLong, Bool.and_eq_true, Bool.or_eq_true, decide_eq_true_eq, beq_iff_eq, show (2 : Int) > 0 by decide, if_true]
    (first | lia | omega)
  · intro h' tk acc c' hx hget hit
    refine hQ _ h' tk (fun q o e => hx q o (Ext.push _ _ _ _ (xs q o e))) ?_ (.list (vs := acc) ⟨c', hget⟩ ?_)
    · rw [Heap.size_push]
      exact none_back xs (by cases e : hc.get? (hc.objs.size + 1) with
        | none => rfl
        | some o => exact absurd (Heap.lt_size e) (Nat.not_lt.mpr (Nat.le_succ _)))
    · obtain ⟨h1, h2⟩ := hit
      refine reps_ints h1 fun j hj => ?_
      obtain ⟨t, ht⟩ := h2 j acc[j] (by simp [h1, hj])
      exact ⟨t, by rw [ht, Int.mul_comm]⟩

/-! ### sources -/
theorem s_range1 (B : Amb prog w A fnAt h₀ Φ) {e1 : Expr} {p0 pos : Pos} {x : X} (hk2 : kindIn cx.sc "range" = some .globalImplicit) (hp1 : plainE e1) (hform2 : CallForm "range" p0 pos [e1])
    (p : EvP prog w A h₀ Φ cx e1 x) : SrcP prog w A h₀ Φ cx (.Call (.Name "range" p0) [e1] [] pos) (.range1 x) true := by
  intro env wr μ ow ρ s ds F hz E Q hQ
  simp only [evI] at hz
  obtain ⟨d1, h1, hz⟩ := Option.bind_eq_some_iff.mp hz
  unfold range1D at hz
  split at hz
  · split at hz
    · rename_i n hn
      cases hz
      refine typ_call (T := "range") B F (by decide) hk2 (by decide) (by simpa using hp1) (hform2 env) (spl1 p F h1 fun v h' tk hx r => ?_)
      obtain ⟨t, rfl⟩ := r.intI
      refine call_range_1 ?_
      have := src_range (prog := prog) (w := w) (μ := μ) (fz := true) (h := h'.push { cls := .type "range", data := .fields #[.int 0 tk, .int n t, .int 1 (tk + 1)] }) (by (first | lia | omega)) (by (first | lia | omega)) hn.1 hn.2 (IsRange.new h' 0 n 1 tk t (tk + 1))
      rw [Int.sub_zero] at this
      refine this A { s with heap := _, toks := _ } E Q B.hA (Ext.refl _) (F.alive.ext (hx.trans (Ext.push _ _))) fun I fp St h'' tk' T => hQ I fp St h'' tk' ?_
      exact { T with ext := (hx.trans (Ext.push _ _)).trans T.ext, fresh := none_back (hx.trans (Ext.push _ _)) T.fresh }
    · cases hz
  · cases hz

theorem s_range2 (B : Amb prog w A fnAt h₀ Φ) {e1 e2 : Expr} {p0 pos : Pos} {x y : X} (hk2 : kindIn cx.sc "range" = some .globalImplicit) (hp1 : plainE e1) (hp2 : plainE e2) (hform2 : CallForm "range" p0 pos [e1, e2])
    (p : EvP prog w A h₀ Φ cx e1 x) (p' : EvP prog w A h₀ Φ cx e2 y) : SrcP prog w A h₀ Φ cx (.Call (.Name "range" p0) [e1, e2] [] pos) (.range2 x y) true := by
  intro env wr μ ow ρ s ds F hz E Q hQ
  simp only [evI] at hz
  obtain ⟨d1, h1, hz⟩ := Option.bind_eq_some_iff.mp hz
  obtain ⟨d2, h2, hz⟩ := Option.bind_eq_some_iff.mp hz
  unfold range2D at hz
  split at hz
  · rename_i a b _
    split at hz
    · rename_i hn
      cases hz
      refine typ_call (T := "range") B F (by decide) hk2 (by decide) (by simpa using ⟨hp1, hp2⟩) (hform2 env) (spl2 p p' F h1 h2 fun v v' h' tk hx r r' => ?_)
      obtain ⟨t, rfl⟩ := r.intI
      obtain ⟨u, rfl⟩ := r'.intI
      refine call_range_2 ?_
      have := src_range (prog := prog) (w := w) (μ := μ) (fz := true) (h := h'.push { cls := .type "range", data := .fields #[.int a t, .int b u, .int 1 tk] }) hn.1 hn.2.1 hn.2.2.1 hn.2.2.2 (IsRange.new h' a b 1 t u tk)
      refine this A { s with heap := _, toks := _ } E Q B.hA (Ext.refl _) (F.alive.ext (hx.trans (Ext.push _ _))) fun I fp St h'' tk' T => hQ I fp St h'' tk' ?_
      exact { T with ext := (hx.trans (Ext.push _ _)).trans T.ext, fresh := none_back (hx.trans (Ext.push _ _)) T.fresh }
    · cases hz
  · cases hz
theorem s_rev (B : Amb prog w A fnAt h₀ Φ) {e1 : Expr} {p0 p1 q0 pos : Pos} {x : X} (hk : kindIn cx.sc "reversed" = some .globalImplicit) (hk2 : kindIn cx.sc "range" = some .globalImplicit) (hp1 : plainE e1)
    (hform : CallForm "reversed" p0 pos [.Call (.Name "range" p1) [e1] [] q0]) (hform2 : CallForm "range" p1 q0 [e1])
    (p : EvP prog w A h₀ Φ cx e1 x) : SrcP prog w A h₀ Φ cx (.Call (.Name "reversed" p0) [.Call (.Name "range" p1) [e1] [] q0] [] pos) (.rev x) true := by
  intro env wr μ ow ρ s ds F hz E Q hQ
  simp only [evI] at hz
  obtain ⟨d1, h1, hz⟩ := Option.bind_eq_some_iff.mp hz
  unfold revD at hz
  split at hz
  · split at hz
    · rename_i n hn
      cases hz
      refine typ_call (T := "reversed") B F (by decide) hk (by decide) (by intro e' he; rw [List.mem_singleton.mp he]; exact fun _ _ => rfl) (hform env) (spliced_cons ?_)
      refine typ_call (T := "range") B F (by decide) hk2 (by decide) (by simpa using hp1) (hform2 env) (spl1 p F h1 fun v h' tk hx r => ?_)
      obtain ⟨t, rfl⟩ := r.intI
      refine call_range_1 (spliced_nil ?_)
      have hsz : Builtin.Range.rangeSize 0 n 1 = (n.toNat : Nat) := by rw [range_size]; congr 2; (first | lia | omega)
      refine call_reversed_range (n := n.toNat) rfl hsz (by (first | lia | omega)) hn.1 hn.2 (IsRange.new h' 0 n 1 tk t (tk + 1)) ?_
      have xh : Ext s.heap (h'.push { cls := .type "range", data := .fields #[.int 0 tk, .int n t, .int 1 (tk + 1)] }) := hx.trans (Ext.push _ _)
      refine src_rev (μ := μ) (fz := true) (h := s.heap) (n := n.toNat) B.hA ?_ (xh.trans (Ext.push _ _)) (none_back xh (none_of_size _)) fun I fp St h'' tk' T => hQ I fp St h'' tk' T
      show (Heap.push _ _).get? _ = _
      rw [Heap.get?_push_size _ rfl]
      simp [rawInt]
    · cases hz
  · cases hz
noncomputable def lends : D → Bool
  | .dict _ => true
  | _ => false
theorem s_seq (B : Amb prog w A fnAt h₀ Φ) {e : Expr} {x : X} {fz : Bool} (hn : fz = true → nb x = true) (p : EvP prog w A h₀ Φ cx e x) : SrcP prog w A h₀ Φ cx e (.seq x) fz := by
  intro env wr μ ow ρ s ds F hz E Q hQ
  simp only [evI] at hz
  obtain ⟨d1, h1, hz⟩ := Option.bind_eq_some_iff.mp hz
  refine p env wr μ ow ρ s d1 F h1 E _ fun v h' tk hx r k => ?_
  have fin : Src prog w μ fz h' v ds → wpAny (model prog w) A (pyIter v) Q E { s with heap := h', toks := tk } := fun S =>
    S A { s with heap := h', toks := tk } E Q B.hA (Ext.refl _) (F.alive.ext hx) fun I fp St h'' tk' T => hQ I fp St h'' tk' { T with ext := hx.trans T.ext, fresh := none_back hx T.fresh }
  refine fin ?_
  unfold seqD at hz
  split at hz
  · cases hz
    obtain ⟨a, vs, rfl, q, rs⟩ := r.listI
    refine src_list q rs fun hf => ?_
    have := k (hn hf)
    cases this with | list _ n _ => exact n
  · cases hz
    have := r.tupR
    cases this with | tup q n rs => exact src_tup q rs fun _ => n
  · split at hz
    · cases hz
      obtain ⟨t, rfl⟩ := r.strI
      exact src_str (by assumption)
    · cases hz
  · cases hz
    obtain ⟨a, kvs, rfl, q, z, rs⟩ := r.dictI
    refine src_dict q z rs fun hf => ?_
    have := k (hn hf)
    cases this with | dict _ _ n _ => exact n
  · cases hz
theorem s_values (B : Amb prog w A fnAt h₀ Φ) {o : Expr} {apos pos : Pos} {x : X} (hbase : ∀ env, attributeBase o "values" env (eval o env) = eval o env) (hline : (apos.endLine == pos.line) = true) (n1 : nb x = true) (p : EvP prog w A h₀ Φ cx o x) :
    SrcP prog w A h₀ Φ cx (.Call (.Attribute o "values" apos) [] [] pos) (.values x) true := by
  intro env wr μ ow ρ s ds F hz E Q hQ
  simp only [evI] at hz
  obtain ⟨d1, h1, hz⟩ := Option.bind_eq_some_iff.mp hz
  unfold valuesD at hz
  split at hz
  · cases hz
    rename_i l
    refine wpAny_Call_method0_late (hbase env) hline (p env wr μ ow ρ s _ F h1 E _ fun v h' tk hx r k => ?_)
    have := k n1
    cases this with
    | @dict a kvs l q z n rs =>
    refine ⟨"dict", "dict.values", PySem.F.plainAttrs_dict, PySem.F.slot_dict_values, PySem.F.type_dict_values, q.typeIs, q.mapOf.noDict, callWith_builtin rfl (PySem.evalArgs_none ?_)⟩
    refine call_meetsIn PySem.F.slot_dict_values q.typeIs PySem.F.entry_dict_values (PySem.F.args_dict_values_1 _) (meets_dict_values (intKind prog w) a (by simpa using z)) ⟨⟨kvs, q⟩, ?_⟩
    have S := src_values (fz := true) (μ := μ) (h := h'.push { cls := .type "dict_values", data := .fields #[.ref a] }) (v := h'.objs.size) (a := a) (kvs := kvs) (l := l) ⟨_, Heap.get?_push_size _ rfl, rfl, rfl⟩ (q.push _) (rs.keep (Ext.push _ _)) (fun _ => n)
    exact S A { s with heap := _, toks := _ } E Q B.hA (Ext.refl _) (F.alive.ext (hx.trans (Ext.push _ _))) fun I fp St h'' tk' T => hQ I fp St h'' tk' { T with ext := (hx.trans (Ext.push _ _)).trans T.ext, fresh := none_back (hx.trans (Ext.push _ _)) T.fresh }
  · cases hz
end
end Mine
end
section
open PySem PySem.W PyProof.Rows PySem.Calls
set_option maxRecDepth 100000
namespace Mine

noncomputable def Kept (T : List Addr) (h h' : Heap) : Prop := ∀ b o, b ∉ T → h.get? b = some o → h'.get? b = some o
theorem Kept.refl (T : List Addr) (h : Heap) : Kept T h h := fun _ _ _ e => e
theorem Kept.trans {T : List Addr} {a b c : Heap} (x : Kept T a b) (y : Kept T b c) : Kept T a c := fun p o n e => y p o n (x p o n e)
theorem Kept.ofExt {T : List Addr} {a b : Heap} (x : Ext a b) : Kept T a b := fun p o _ e => x p o e
theorem Kept.mono {T T' : List Addr} {a b : Heap} (x : Kept T a b) (h : ∀ p ∈ T, p ∈ T') : Kept T' a b := fun p o n e => x p o (fun q => n (h p q)) e
theorem Kept.same {T : List Addr} {a b : Heap} {p : Addr} (hs : Heap.SameBut p a b) (hp : p ∈ T) : Kept T a b := fun q o n e => hs.extBut q o (fun x => n (x ▸ hp)) e
theorem Kept.drop {T : List Addr} {a b c : Heap} {I : Addr} (x : Ext a b) (hI : a.get? I = none) (y : Kept (I :: T) b c) : Kept T a c := fun p o n e => y p o (fun q => (List.mem_cons.mp q).elim (fun z => by rw [z, hI] at e; cases e) n) (x p o e)

section
variable (prog : Program) (w : World) (A : Around) (h₀ : Heap) (Φ : Nat → List D → Option D)
noncomputable def IfsP (cx : Cx) (ifs : List Expr) (ts : Ts) : Prop :=
  ∀ env wr μ ow ρ (s : Shared) b, FrOk prog w cx h₀ env wr μ s.heap ow ρ → evAnd Φ ts ρ = some b → ∀ (E : Value → Shared → Prop) (Q : Bool → Shared → Prop), ResT b Q s →
    wpAny (model prog w) A (forIn ifs true fun c r => if r = true then do let ok ← isTrue c env (eval c env); pure (ForInStep.yield ok) else pure (ForInStep.yield r)) Q E s
end

/-- one clause's own: its target, its tests -/
structure ClauseP (prog : Program) (w : World) (A : Around) (h₀ : Heap) (Φ : Nat → List D → Option D) (cx : Cx) (g : Comprehension) (i : Nat) (ts : Ts) : Prop where
  target : ∃ x px, g.target = .Name x px ∧ cx.names[i]? = some x ∧ i ∈ cx.st ∧ settable cx.sc x = true ∧ i ∉ cx.own
  sync : g.is_async = 0
  tests : IfsP prog w A h₀ Φ cx g.ifs ts
/-- the clauses behind the first -/
noncomputable def TailP (prog : Program) (w : World) (A : Around) (h₀ : Heap) (Φ : Nat → List D → Option D) (cx : Cx) : List Comprehension → Gs → Prop
  | [], .nil => True
  | g :: r, .cons i it ts gr => ClauseP prog w A h₀ Φ cx g i ts ∧ (∃ fz, SrcP prog w A h₀ Φ cx g.iter it fz) ∧ (∀ env x, foldedSetIterable g.iter env x = pure x) ∧ TailP prog w A h₀ Φ cx r gr
  | _, _ => False
noncomputable def targets : Gs → List Nat
  | .nil => []
  | .cons i _ _ r => i :: targets r

theorem look_set_ne {ρ : Rho} {i j : Nat} {o : Option D} (h : j ≠ i) : look (ρ.set i o) j = look ρ j := by
  unfold look; rw [List.getElem?_set_ne (Ne.symm h)]
theorem look_set_none {ρ : Rho} {i j : Nat} (h : look ρ i = none) {d e : D} (q : look ρ j = some d) : look (ρ.set i (some e)) j = some d := by
  rw [look_set_ne (fun x => by rw [x, h] at q; cases q)]; exact q

section
variable {prog : Program} {w : World} {A : Around} {fnAt : Nat → Option (Str × Addr)} {h₀ : Heap} {Φ : Nat → List D → Option D} {cx : Cx}
variable {ow : Nat → Option Addr}

theorem i_nil : IfsP prog w A h₀ Φ cx [] .nil := by
  intro env wr μ ow ρ s b F hz E Q hQ
  simp only [evAnd, Option.some.injEq] at hz; subst hz
  exact wpAny_pure (hQ s.heap s.toks (Ext.refl _))
theorem ifs_done (env : Env) : ∀ ifs : List Expr, (forIn ifs false fun c r => if r = true then do let ok ← isTrue c env (eval c env); pure (ForInStep.yield ok) else pure (ForInStep.yield r)) = (pure false : Sem Bool)
  | [] => rfl
  | c :: r => by rw [List.forIn_cons]; simp only [Bool.false_eq_true, if_false, pure_bind]; exact ifs_done env r
theorem i_cons {e : Expr} {r : List Expr} {t : T} {ts : Ts} (p1 : TestP prog w A h₀ Φ cx e t) (p2 : IfsP prog w A h₀ Φ cx r ts) : IfsP prog w A h₀ Φ cx (e :: r) (.cons t ts) := by
  intro env wr μ ow ρ s b F hz E Q hQ
  simp only [evAnd] at hz
  obtain ⟨c, h1, hz⟩ := Option.bind_eq_some_iff.mp hz
  rw [List.forIn_cons]
  refine wpAny_bind ?_
  simp only [if_true]
  refine wpAny_bind (p1 env wr μ ow ρ s c F h1 E _ fun h' tk hx => wpAny_pure ?_)
  cases c with
  | true =>
    rw [if_pos rfl] at hz
    exact p2 env wr μ ow ρ _ b (F.ext hx) hz E _ fun h'' tk' hx' => hQ h'' tk' (hx.trans hx')
  | false =>
    rw [if_neg Bool.false_ne_true] at hz
    cases hz
    show wpAny _ _ (forIn r false _) _ _ _
    rw [ifs_done]; exact wpAny_pure (hQ h' tk hx)

section
variable (elt : Expr) (ex : X) (gens : List Comprehension) (scope : Scope) (pos : Pos) (cenv : Env) (D : Addr)
/-- what a turn does behind its tests -/
noncomputable def afterTests (depth : Nat) (it : Value) : Sem PySem.Fin :=
  match gens[depth + 1]? with
  | some g' => do
    let x ← eval g'.iter cenv
    standAt g'.iter.pos
    let x ← if (g'.is_async != 0) = true then foldedIterable g'.iter x else foldedSetIterable g'.iter cenv x
    let _ ← runOwn (.compStart (.ListComp elt gens scope pos) (depth + 1) (← holding [x] (if (g'.is_async != 0) = true then asyncIter x else pyIter x)) (.ref D) cenv) cenv
    again (.compLoop (.ListComp elt gens scope pos) depth it (.ref D) cenv)
  | none => do
    (do let _ ← call (.builtin "list.append") [.ref D, ← eval elt cenv])
    again (.compLoop (.ListComp elt gens scope pos) depth it (.ref D) cenv)

theorem compTurn_after (depth : Nat) (it : Value) (g : Comprehension) (hg : gens[depth]? = some g) (ha : g.is_async = 0) :
    compTurn (.ListComp elt gens scope pos) depth it (.ref D) cenv = (do
      standAt g.iter.pos
      match ← pyNext it with
      | none => pure (.done .next)
      | some v =>
        letOwnedTupleGo g.target it v
        assign g.target cenv v
        let ok ← forIn g.ifs true fun c r => if r = true then do let ok ← isTrue c cenv (eval c cenv); pure (ForInStep.yield ok) else pure (ForInStep.yield r)
        if ok = true then afterTests elt gens scope pos cenv D depth it else again (.compLoop (.ListComp elt gens scope pos) depth it (.ref D) cenv)) := by
  unfold compTurn afterTests
  simp only [hg, ha]
  cases h : gens[depth + 1]? with
  | none => rfl
  | some g' => 
    simp only []
    by_cases hq : (g'.is_async != 0) = true
    · simp only [hq]; rfl
    · simp only [hq]; rfl

noncomputable def Fin' (R : Result → Shared → Prop) (A : Around) (fin : PySem.Fin) (s' : Shared) : Prop := match fin with | .done f => R (.ok f) s' | .again c' => c'.quiet = true ∧ codeAny (model prog w) A c' R s'

structure Apart (cx : Cx) (h₀ : Heap) (cenv : Env) (wr μ : List Addr) (ow : Nat → Option Addr) (a : Addr) : Prop where
  mem : a ∈ μ
  nwr : a ∉ wr
  nloc : a ≠ cenv.locals
  ncell : ∀ x, cenv.cells.lookup x ≠ some a
  now : ∀ i, ow i ≠ some a
  new : h₀.get? a = none

/-- the deeper part of a turn: what it adds, all else kept -/
noncomputable def InnerP {prog : Program} {w : World} {A : Around} {h₀ : Heap} {cx : Cx} {ow : Nat → Option Addr} {α : Type} (acc : List α → Mine.D) (e : Expr) (cenv : Env) (D : Addr) (wr : List Addr) (depth : Nat) (after : Value → Sem PySem.Fin) (tl : List Nat) (f : Rho → Option (List α)) : Prop :=
  ∀ (s : Shared) (μ : List Addr) (ρ : Rho) (out o1 : List α) (it : Value) (R : Result → Shared → Prop) (E : Value → Shared → Prop), FrOk prog w cx h₀ cenv wr μ s.heap ow ρ → (∀ j ∈ tl, look ρ j = none) → Apart cx h₀ cenv wr μ ow D →
    Own prog w s.heap μ D (acc out) → f ρ = some o1 → out.length + o1.length ≤ 1000 →
    (∀ h' tk, FrOk prog w cx h₀ cenv wr μ h' ow ρ → Own prog w h' μ D (acc (out ++ o1)) → Kept (D :: wr) s.heap h' → codeAny (model prog w) A (.compLoop e depth it (.ref D) cenv) R { s with heap := h', toks := tk }) →
    wpAny (model prog w) A (after it) (Fin' (prog := prog) (w := w) R A) E s

theorem FrOk.touch1 {cenv : Env} {wr μ : List Addr} {h h' : Heap} {ρ : Rho} {a : Addr} (F : FrOk prog w cx h₀ cenv wr μ h ow ρ) (Ap : Apart cx h₀ cenv wr μ ow a) (hk : ∀ b o, b ∉ [a] → h.get? b = some o → h'.get? b = some o) (hl : ∃ o, h'.get? a = some o) : FrOk prog w cx h₀ cenv wr μ h' ow ρ :=
  F.touch (T := [a]) (fun b hb => by rw [List.mem_singleton.mp hb]; exact ⟨Ap.mem, Ap.nloc, Ap.ncell, Ap.now, Ap.new⟩) hk fun b hb => by
    by_cases e : b = a
    · rw [e]; exact hl
    · obtain ⟨o, ho⟩ := F.alive b hb
      exact ⟨o, hk b o (fun q => e (List.mem_singleton.mp q)) ho⟩

theorem flatM_cons {α : Type} {d : Mine.D} {r : List Mine.D} {f : Mine.D → Option (List α)} {l : List α} (h : flatM (d :: r) f = some l) : ∃ a b, f d = some a ∧ flatM r f = some b ∧ l = a ++ b := by
  unfold flatM at h
  obtain ⟨a, h1, h⟩ := Option.bind_eq_some_iff.mp h
  obtain ⟨b, h2, rfl⟩ := Option.map_eq_some_iff.mp h
  exact ⟨a, b, h1, h2, rfl⟩

noncomputable def turnF {α : Type} (Φ : Nat → List Mine.D → Option Mine.D) (i : Nat) (ts : Ts) (f : Rho → Option (List α)) (ρ : Rho) (d : Mine.D) : Option (List α) :=
  (evAnd Φ ts (ρ.set i (some d))).bind fun c => if c then f (ρ.set i (some d)) else some []

noncomputable def TurnForm (prog : Program) (w : World) (A : Around) (e : Expr) (depth : Nat) (g : Comprehension) (D : Addr) (cenv : Env) (after : Value → Sem PySem.Fin) : Prop :=
  (∀ it, A.under (Code.compLoop e depth it (.ref D) cenv) = A ∧ (model prog w).den (Code.compLoop e depth it (.ref D) cenv) = (compTurn e depth it (.ref D) cenv).onRaise (fun x => do noteFrame x cenv; theTreesLotGoes x)) ∧ (∀ it, (Code.compLoop e depth it (.ref D) cenv).quiet = true) ∧ ∀ it, compTurn e depth it (.ref D) cenv = (do
      standAt g.iter.pos
      match ← pyNext it with
      | none => pure (.done .next)
      | some v =>
        letOwnedTupleGo g.target it v
        assign g.target cenv v
        let ok ← forIn g.ifs true fun c r => if r = true then do let ok ← isTrue c cenv (eval c cenv); pure (ForInStep.yield ok) else pure (ForInStep.yield r)
        if ok = true then after it else again (.compLoop e depth it (.ref D) cenv))

theorem loop_at {α : Type} {acc : List α → Mine.D} {e : Expr} {cenv : Env} {D : Addr} {after : Value → Sem PySem.Fin} {tl : List Nat} {f : Rho → Option (List α)} {wr : List Addr} {depth : Nat} (IH : InnerP (prog := prog) (w := w) (A := A) (h₀ := h₀) (cx := cx) (ow := ow) acc e cenv D wr depth after tl f) {g : Comprehension} {i : Nat} {ts : Ts} (hform : TurnForm prog w A e depth g D cenv after) (C : ClauseP prog w A h₀ Φ cx g i ts)
    {I : Addr} {fp : List Addr} {P : Nat → Value → Prop} {St : Nat → Heap → Prop} {ds : List Mine.D} (W : Walks prog w A I fp [I] ds.length P St) {μ₀ : List Addr} {ρ : Rho} (hcl : ∀ j ∈ i :: tl, look ρ j = none) (hnd : (i :: tl).Nodup)
    (ApI : Apart cx h₀ cenv wr (I :: μ₀) ow I) (ApD : Apart cx h₀ cenv wr (I :: μ₀) ow D) (hID : I ≠ D) (hfp : ∀ b ∈ fp, b = I ∨ b ∉ D :: wr) (hI₀ : I ∉ μ₀) (hSt : ∀ k h, St k h → ∃ o, h.get? I = some o) :
    ∀ (n k : Nat) (s : Shared) (out outs : List α) (R : Result → Shared → Prop), n = ds.length - k → k ≤ ds.length → FrOk prog w cx h₀ cenv wr (I :: μ₀) s.heap ow ρ → Own prog w s.heap (I :: μ₀) D (acc out) → St k s.heap →
      (∀ j v, P j v → ∃ d, ds[j]? = some d ∧ Rep prog w s.heap (I :: μ₀) v d) → flatM (ds.drop k) (turnF Φ i ts f ρ) = some outs → out.length + outs.length ≤ 1000 →
      (∀ h' tk, FrOk prog w cx h₀ cenv wr μ₀ h' ow ρ → Own prog w h' μ₀ D (acc (out ++ outs)) → Kept (I :: D :: wr) s.heap h' → R (.ok .next) { s with heap := h', toks := tk }) →
      codeAny (model prog w) A (.compLoop e depth (.ref I) (.ref D) cenv) R s := by
  obtain ⟨x, px, htg, hx, hist, hset, hown⟩ := C.target
  obtain ⟨μ, hμ⟩ : ∃ μ, μ = I :: μ₀ := ⟨_, rfl⟩
  rw [← hμ] at ApI ApD ⊢
  have ownMv : ∀ {h h' : Heap} {o : List α} {a : Addr}, a ∈ μ → a ≠ D → (∀ b ob, b ≠ a → h.get? b = some ob → h'.get? b = some ob) → Own prog w h μ D (acc o) → Own prog w h' μ D (acc o) := fun ha hne hk O =>
    O.move (fun ob e => hk _ _ (Ne.symm hne) e) fun b ob n e => ⟨hk b ob (fun q => n (q ▸ ha)) e, n⟩
  intro n
  induction n with
  | zero =>
    intro k s out outs R hn hk F O st hit hz hsz hR
    have hk' : k = ds.length := by (first | lia | omega)
    subst hk'
    refine codeAny_of_tree ?_
    rw [(hform.1 _).1, (hform.1 _).2]
    refine wpAny_noted ?_
    rw [hform.2.2]
    refine wpAny_bind (wpAny_standAt (wpAny_bind (W.done s _ _ st fun h' tk hk' => wpAny_pure ?_)))
    rw [List.drop_length] at hz
    simp only [flatM, Option.some.injEq] at hz
    subst hz
    have inμ : ∀ a, a ∈ μ → a ≠ I → a ∈ μ₀ := fun a ha hne => by rw [hμ] at ha; exact (List.mem_cons.mp ha).elim (fun e => absurd e hne) id
    have kp : ∀ b o, b ≠ I → s.heap.get? b = some o → h'.get? b = some o := fun b o nb e => hk' b o (fun q => nb (List.mem_singleton.mp q)) e
    have mv : ∀ b ob, b ∉ μ → s.heap.get? b = some ob → h'.get? b = some ob ∧ b ∉ μ₀ := fun b ob nb e => ⟨kp b ob (fun q => nb (q ▸ ApI.mem)) e, fun q => nb (by rw [hμ]; exact List.mem_cons_of_mem _ q)⟩
    refine hR h' tk ?_ (by simpa using O.move (fun ob e => kp _ _ (Ne.symm hID) e) mv) fun b o nb e => kp b o (fun q => nb (q ▸ List.mem_cons_self)) e
    refine F.move mv (fun b o e => kp b o (fun q => by rw [q, ApI.new] at e; cases e) (F.top b o e)) (fun o e => kp _ _ (Ne.symm ApI.nloc) e) (fun x c hc o e => kp _ _ (fun q => ApI.ncell x (q ▸ hc)) e) (fun i a ha o e => kp _ _ (fun q => ApI.now i (q ▸ ha)) e)
      (inμ _ F.loc (Ne.symm ApI.nloc)) (fun x c hc => inμ _ (F.cells x c hc).1 fun q => ApI.ncell x (q ▸ hc)) (fun a ha => inμ _ (F.wrIn a ha) fun q => ApI.nwr (q ▸ ha)) (fun i a ha => inμ _ (F.owned i a ha).2.1 fun q => ApI.now i (q ▸ ha)) fun a ha => ?_
    obtain ⟨o, ho⟩ := F.alive a (by rw [hμ]; exact List.mem_cons_of_mem _ ha)
    exact ⟨o, kp a o (fun q => hI₀ (q ▸ ha)) ho⟩
  | succ n ih =>
    intro k s out outs R hn hk F O st hit hz hsz hR
    have hlt : k < ds.length := by (first | lia | omega)
    rw [List.drop_eq_getElem_cons hlt] at hz
    obtain ⟨o1, o2, hz1, hz2, rfl⟩ := flatM_cons hz
    rw [List.length_append] at hsz
    refine codeAny_of_tree ?_
    rw [(hform.1 _).1, (hform.1 _).2]
    refine wpAny_noted ?_
    rw [hform.2.2]
    refine wpAny_bind (wpAny_standAt (wpAny_bind (W.item k s _ _ hlt st fun v h1 tk1 hP st1 hk1 => ?_)))
    have F1 := F.touch1 ApI hk1 (hSt _ _ st1)
    have O1 := ownMv ApI.mem hID (fun b ob hb e => hk1 b ob (fun q => hb (List.mem_singleton.mp q)) e) O
    obtain ⟨d, hd, rv⟩ := hit k v hP
    have hdk : ds[k] = d := by rw [List.getElem?_eq_getElem hlt] at hd; exact Option.some.inj hd
    have rv1 : Rep prog w h1 μ v d := rv.move fun b ob nb e => ⟨hk1 b ob (fun q => nb (by rw [List.mem_singleton.mp q]; exact ApI.mem)) e, nb⟩
    rw [htg]
    refine wpAny_bind (wpAny_pure (wpAny_bind (wpAny_assign_Name (F1.assign (s := { s with heap := h1, toks := tk1 }) hist hx hset (by unfold Val; rw [if_neg hown]; exact rv1) fun a h2 tk2 haw hs2 F2 => ?_))))
    have haμ := F1.wrIn a haw
    have haD : a ≠ D := fun e => ApD.nwr (e ▸ haw)
    have haI : a ≠ I := fun e => ApI.nwr (e ▸ haw)
    have O2 := ownMv haμ haD (fun b ob hb e => hs2.extBut b ob hb e) O1
    have st2 : St (k + 1) h2 := W.frame _ _ _ st1 fun b hb ob e => hs2.extBut b ob (fun q => by
      rcases hfp b hb with e' | e'
      · exact haI (q ▸ e')
      · exact e' (List.mem_cons_of_mem _ (q ▸ haw))) e
    have hit2 : ∀ j v, P j v → ∃ d, ds[j]? = some d ∧ Rep prog w h2 μ v d := fun j v hp => by
      obtain ⟨d', hd', r'⟩ := hit j v hp
      exact ⟨d', hd', r'.move fun b ob nb e => ⟨hs2.extBut b ob (fun q => nb (q ▸ haμ)) (hk1 b ob (fun q => nb (by rw [List.mem_singleton.mp q]; exact ApI.mem)) e), nb⟩⟩
    have kept2 : Kept (I :: D :: wr) s.heap h2 := fun b ob nb e => hs2.extBut b ob (fun q => nb (by rw [q]; exact List.mem_cons_of_mem _ (List.mem_cons_of_mem _ haw))) (hk1 b ob (fun q => nb (by rw [List.mem_singleton.mp q]; exact List.mem_cons_self)) e)
    unfold turnF at hz1
    rw [hdk] at hz1
    obtain ⟨c, hc, hz1⟩ := Option.bind_eq_some_iff.mp hz1
    refine wpAny_bind (C.tests cenv wr μ ow _ _ c F2 hc _ _ fun h3 tk3 hx3 => ?_)
    have hli : look ρ i = none := hcl i List.mem_cons_self
    have back : ∀ h' : Heap, FrOk prog w cx h₀ cenv wr μ h' ow (ρ.set i (some d)) → FrOk prog w cx h₀ cenv wr μ h' ow ρ := fun h' F' => F'.forget fun j e he => look_set_none hli he
    have F3 := F2.ext hx3
    have O3 := O2.ext hx3
    have st3 : St (k + 1) h3 := W.frame _ _ _ st2 fun b _ ob e => hx3 b ob e
    have hit3 : ∀ j v, P j v → ∃ d, ds[j]? = some d ∧ Rep prog w h3 μ v d := fun j v hp => by
      obtain ⟨d', hd', r'⟩ := hit2 j v hp; exact ⟨d', hd', r'.keep hx3⟩
    cases c with
    | false =>
      rw [if_neg Bool.false_ne_true] at hz1 ⊢
      cases hz1
      refine wpAny_pure ⟨hform.2.1 _, ih (k + 1) _ out o2 R (by (first | lia | omega)) hlt (back _ F3) O3 st3 hit3 hz2 (by simpa using hsz) fun h' tk' F' O' K' => ?_⟩
      exact hR h' tk' F' (by simpa using O') (kept2.trans ((Kept.ofExt hx3).trans K'))
    | true =>
      rw [if_pos rfl] at hz1 ⊢
      refine IH { s with heap := h3, toks := tk3 } μ (ρ.set i (some d)) out o1 _ R _ F3 (fun j hj => ?_) ApD O3 hz1 (by (first | lia | omega)) fun h4 tk4 F4 O4 K4 => ?_
      · rw [look_set_ne (fun e : j = i => (List.nodup_cons.mp hnd).1 (e ▸ hj))]
        exact hcl j (List.mem_cons_of_mem _ hj)
      · have st4 : St (k + 1) h4 := W.frame _ _ _ st3 fun b hb ob e => by
          rcases hfp b hb with e' | e'
          · refine K4 b ob (fun q => ?_) e
            rcases List.mem_cons.mp q with q | q
            · exact hID (e' ▸ q)
            · exact ApI.nwr (e' ▸ q)
          · exact K4 b ob e' e
        have hit4 : ∀ j v, P j v → ∃ d, ds[j]? = some d ∧ Rep prog w h4 μ v d := fun j v hp => by
          obtain ⟨d', hd', r'⟩ := hit3 j v hp
          exact ⟨d', hd', r'.move fun b ob nb e => ⟨K4 b ob (fun q => nb (by
            rcases List.mem_cons.mp q with q | q
            · rw [q]; exact ApD.mem
            · exact F4.wrIn b q)) e, nb⟩⟩
        refine ih (k + 1) _ (out ++ o1) o2 R (by (first | lia | omega)) hlt (back _ F4) O4 st4 hit4 hz2 (by rw [List.length_append]; (first | lia | omega)) fun h' tk' F' O' K' => ?_
        exact hR h' tk' F' (by rw [← List.append_assoc]; exact O') (kept2.trans ((Kept.ofExt hx3).trans ((K4.mono fun p hp => List.mem_cons_of_mem _ hp).trans K')))
end
end
end Mine
end
section
open PySem PySem.W PyProof.Rows PySem.Calls
set_option maxRecDepth 100000
namespace Mine
section
variable {prog : Program} {w : World} {A : Around} {fnAt : Nat → Option (Str × Addr)} {h₀ : Heap} {Φ : Nat → List D → Option D} {cx : Cx}
variable {ow : Nat → Option Addr}

theorem form_list (elt : Expr) (gens : List Comprehension) (scope : Scope) (pos : Pos) (cenv : Env) (D : Addr) (depth : Nat) (g : Comprehension) (hg : gens[depth]? = some g) (ha : g.is_async = 0) :
    TurnForm prog w A (.ListComp elt gens scope pos) depth g D cenv (afterTests elt gens scope pos cenv D depth) :=
  ⟨fun _ => ⟨rfl, rfl⟩, fun _ => rfl, fun it => compTurn_after elt gens scope pos cenv D depth it g hg ha⟩

theorem start_at {e : Expr} {depth : Nat} {it acc : Value} {env : Env} {R : Result → Shared → Prop} {s : Shared} {g : Comprehension} (hform : A.under (.compStart e depth it acc env) = A ∧ (model prog w).den (.compStart e depth it acc env) = (compStart e depth it acc env).onRaise (fun x => do noteFrame x env; standAt theWindowsPlace))
    (hq : ∀ it', (Code.compLoop e depth it' acc env).quiet = true) (hg : (clausesOf e)[depth]? = some g) (ha : g.is_async = 0)
    (h0 : codeAny (model prog w) A (.compLoop e depth it acc env) R s)
    (h : wpAny (model prog w) A (pyIter it) (fun it' s' => codeAny (model prog w) A (.compLoop e depth it' acc env) R s') (notedBy (model prog w) A env fun x s' => R (.error x) s') s) :
    codeAny (model prog w) A (.compStart e depth it acc env) R s := by
  refine codeAny_of_tree ?_
  rw [hform.1, hform.2]
  refine wpAny_notedAt ?_
  unfold compStart
  rw [hg]
  simp only [Option.elim, ha]
  show wpAny _ _ (ask >>= _) _ _ s
  refine wpAny_bind (wpAny_askSetting (wpAny_ite ?_))
  split
  · exact wpAny_bind (wpAny_pure (wpAny_pure (And.intro (hq _) h0)))
  · refine wpAny_bind (wpAny_rule (wpAny_bind (wpAny_standAt (wpAny_bind (wpAny_mono h (fun it' s' h' => wpAny_pure (And.intro (hq _) h')) fun _ _ x => x)))))

noncomputable def emitF (Φ : Nat → List D → Option D) (ex : X) (r : Gs) (ρ : Rho) : Option (List D) := evGs Φ r ρ ρ false fun ρ' => (ev Φ ex ρ').map fun d => [d]

theorem inner_nil {elt : Expr} {ex : X} {gens : List Comprehension} {scope : Scope} {pos : Pos} {cenv : Env} {D : Addr} {wr : List Addr} {depth : Nat} (hlast : gens[depth + 1]? = none) (pe : EvP prog w A h₀ Φ cx elt ex) (nx : nb ex = true) :
    InnerP (prog := prog) (w := w) (A := A) (h₀ := h₀) (cx := cx) (ow := ow) .list (.ListComp elt gens scope pos) cenv D wr depth (afterTests elt gens scope pos cenv D depth) [] (emitF Φ ex .nil) := by
  intro s μ ρ out o1 it R E F hcl Ap O hz hsz hR
  unfold emitF evGs at hz
  obtain ⟨d, hd, rfl⟩ := Option.map_eq_some_iff.mp hz
  unfold afterTests
  rw [hlast]
  refine wpAny_bind (wpAny_bind (pe cenv wr μ ow ρ s d F hd _ _ fun v h1 tk1 hx1 _ k1 => wpAny_bind (op_append (l := .list out) (y := d) (z := .list (out ++ [d])) ?_ Ap.mem (O.ext hx1) (k1 nx) fun h2 tk2 O2 hs2 => wpAny_pure (wpAny_pure ⟨rfl, hR h2 tk2 ?_ O2 ?_⟩))))
  · show (if out.length ≤ 1000 then _ else _) = _
    rw [if_pos (by simp at hsz; (first | lia | omega))]
  · exact (F.ext hx1).touch1 Ap (fun b o hb e => hs2.extBut b o (fun q => hb (by rw [q]; exact List.mem_singleton.mpr rfl)) e) O2.live
  · exact (Kept.ofExt hx1).trans (Kept.same hs2 List.mem_cons_self)

theorem inner_cons {elt : Expr} {ex : X} {gens : List Comprehension} {scope : Scope} {pos : Pos} {cenv : Env} {D : Addr} {wr : List Addr} {depth : Nat} {g : Comprehension} {i : Nat} {it0 : I} {ts : Ts} {r : Gs} (hg : gens[depth + 1]? = some g)
    (C : ClauseP prog w A h₀ Φ cx g i ts) (S : SrcP prog w A h₀ Φ cx g.iter it0 true) (hfold : ∀ env x, foldedSetIterable g.iter env x = pure x) (hnd : (i :: targets r).Nodup)
    (IH : InnerP (prog := prog) (w := w) (A := A) (h₀ := h₀) (cx := cx) (ow := ow) .list (.ListComp elt gens scope pos) cenv D wr (depth + 1) (afterTests elt gens scope pos cenv D (depth + 1)) (targets r) (emitF Φ ex r)) :
    InnerP (prog := prog) (w := w) (A := A) (h₀ := h₀) (cx := cx) (ow := ow) .list (.ListComp elt gens scope pos) cenv D wr depth (afterTests elt gens scope pos cenv D depth) (i :: targets r) (emitF Φ ex (.cons i it0 ts r)) := by
  intro s μ ρ out o1 it R E F hcl Ap O hz hsz hR
  unfold emitF evGs at hz
  obtain ⟨ds, hds, hz⟩ := Option.bind_eq_some_iff.mp hz
  split at hz
  case isFalse => cases hz
  rename_i hlen
  unfold afterTests
  rw [hg]
  dsimp only
  have hns : (g.is_async != 0) = false := by rw [C.sync]; rfl
  simp only [hns, Bool.false_eq_true, if_false]
  refine wpAny_bind (wpAny_mono (S cenv wr μ ow ρ s ds F hds E _ fun I fp St h1 tk1 T => ?_) (fun x s₁ h₁ => wpAny_bind (wpAny_standAt (wpAny_bind (wpAny_of_eq (hfold cenv x) (wpAny_bind (wpAny_holding (wpAny_mono h₁ (fun it' s₂ h₂ => h₂) fun _ _ e => e))))))) fun _ _ e => e)
  have hx1 : Ext s.heap h1 := T.ext
  obtain ⟨oI, hoI⟩ := T.live 0 _ T.st
  have F1 : FrOk prog w cx h₀ cenv wr (I :: μ) h1 ow ρ := F.grow (ν := [I]) hx1 (fun a ha => by rw [List.mem_singleton.mp ha]; exact T.fresh) (fun a ha => by rw [List.mem_singleton.mp ha]; exact ⟨oI, hoI⟩)
  have hIμ : I ∉ μ := fun hm => by obtain ⟨o, ho⟩ := F.alive I hm; rw [T.fresh] at ho; cases ho
  have O1 : Own prog w h1 (I :: μ) D (.list out) := (O.move (fun ob e => hx1 _ _ e) (grow1 hx1 T.fresh))
  have hID : I ≠ D := fun e => hIμ (e ▸ Ap.mem)
  have ApI : Apart cx h₀ cenv wr (I :: μ) ow I := ⟨List.mem_cons_self, fun hm => hIμ (F.wrIn _ hm), fun e => hIμ (e ▸ F.loc), fun x hc => hIμ (F.cells x _ hc).1, fun i hi => hIμ (F.owned i _ hi).2.1, none_back F.top T.fresh⟩
  have ApD : Apart cx h₀ cenv wr (I :: μ) ow D := ⟨List.mem_cons_of_mem _ Ap.mem, Ap.nwr, Ap.nloc, Ap.ncell, Ap.now, Ap.new⟩
  obtain ⟨hp, hxp, hpI, W⟩ := T.W
  have key : codeAny (model prog w) A (.compLoop (.ListComp elt gens scope pos) (depth + 1) (.ref I) (.ref D) cenv) (fun r s' => match r with
      | .ok f => wpAny (model prog w) A (do again (.compLoop (.ListComp elt gens scope pos) depth it (.ref D) cenv)) (Fin' (prog := prog) (w := w) R A) E s'
      | .error e => cameBackBy (model prog w) A cenv E e s') { s with heap := h1, toks := tk1 } := by
    refine loop_at IH (form_list elt gens scope pos cenv D (depth + 1) g hg C.sync) C W (μ₀ := μ) (ρ := ρ) hcl hnd ApI ApD hID (fun b hb => ?_) hIμ T.live _ 0 _ out o1 _ rfl (Nat.zero_le _) F1 O1 T.st (fun j v hj => ?_) hz hsz fun h' tk' F' O' K' => ?_
    · rcases T.old b hb with e | ⟨_, e⟩
      · exact .inl e
      · refine .inr fun hm => e rfl ?_
        rcases List.mem_cons.mp hm with q | q
        · rw [q]; exact Ap.mem
        · exact F.wrIn b q
    · obtain ⟨d, hd, rv⟩ := hj
      exact ⟨d, hd, rv.move (grow1 hxp hpI)⟩
    · exact wpAny_pure ⟨rfl, hR h' tk' F' O' (Kept.drop hx1 T.fresh K')⟩
  refine wpAny_bind (wpAny_runOwn ?_)
  rw [Around.mark_none]
  exact start_at ⟨rfl, rfl⟩ (fun _ => rfl) hg C.sync key (W.self 0 _ _ _ T.st key)
end
end Mine
end
section
open PySem PySem.W PyProof.Rows PySem.Calls
set_option maxRecDepth 100000
namespace Mine

/-! ### the cells of a comprehension -/
theorem cellsFrom_app : ∀ (names : List (Str × NameKind)) (n : Nat) (a b : List (Str × Addr)), cellsFrom n names (a ++ b) = cellsFrom n names a ++ b
  | [], _, _, _ => rfl
  | (name, k) :: r, n, a, b => by
    unfold cellsFrom
    split
    · exact cellsFrom_app r (n + 1) ((name, n) :: a) b
    · exact cellsFrom_app r n a b
theorem cellsFrom_has : ∀ (names : List (Str × NameKind)) (n : Nat) (acc : List (Str × Addr)) (x : Str) (c : Addr), (x, c) ∈ cellsFrom n names acc → (x, NameKind.cell) ∈ names ∨ (x, c) ∈ acc
  | [], _, _, _, _, h => .inr h
  | (name, k) :: r, n, acc, x, c, h => by
    unfold cellsFrom at h
    split at h
    · rename_i hk
      rcases cellsFrom_has r (n + 1) _ x c h with q | q
      · exact .inl (.tail _ q)
      · rcases List.mem_cons.mp q with q | q
        · cases q; rw [beq_iff_eq.mp hk]; exact .inl (.head _)
        · exact .inr q
    · rcases cellsFrom_has r n _ x c h with q | q
      · exact .inl (.tail _ q)
      · exact .inr q
theorem cellsFrom_old : ∀ (names : List (Str × NameKind)) (n : Nat) (acc : List (Str × Addr)) (x : Str), (∃ c, (x, c) ∈ acc) → ∃ c, (x, c) ∈ cellsFrom n names acc
  | [], _, _, _, h => h
  | (name, k) :: r, n, acc, x, h => by
    unfold cellsFrom
    split
    · exact cellsFrom_old r _ _ x (let ⟨c, hc⟩ := h; ⟨c, .tail _ hc⟩)
    · exact cellsFrom_old r _ _ x h
theorem cellsFrom_get : ∀ (names : List (Str × NameKind)) (n : Nat) (acc : List (Str × Addr)) (x : Str), (x, NameKind.cell) ∈ names → ∃ c, (x, c) ∈ cellsFrom n names acc
  | (name, k) :: r, n, acc, x, h => by
    unfold cellsFrom
    rcases List.mem_cons.mp h with q | q
    · cases q
      rw [if_pos (by rfl)]
      exact cellsFrom_old r _ _ _ ⟨n, .head _⟩
    · split
      · exact cellsFrom_get r _ _ x q
      · exact cellsFrom_get r _ _ x q
theorem lookup_of_mem : ∀ {l : List (Str × Addr)} {x : Str}, (∃ c, (x, c) ∈ l) → ∃ c, l.lookup x = some c
  | [], _, ⟨_, h⟩ => by cases h
  | (k, v) :: r, x, ⟨c, h⟩ => by
    rw [List.lookup_cons]
    cases hb : x == k with
    | true => exact ⟨v, rfl⟩
    | false =>
      refine lookup_of_mem (l := r) ⟨c, ?_⟩
      rcases List.mem_cons.mp h with q | q
      · cases q; simp at hb
      · exact q
theorem kind_unique : ∀ {l : List (Str × NameKind)} {x : Str} {k : NameKind}, (l.map (·.1)).Nodup → (x, k) ∈ l → l.lookup x = some k
  | (n, k') :: r, x, k, hn, h => by
    rw [List.lookup_cons]
    obtain ⟨h1, h2⟩ := List.nodup_cons.mp hn
    rcases List.mem_cons.mp h with q | q
    · cases q; simp
    · cases hb : x == n with
      | true =>
        rw [beq_iff_eq.mp hb] at q
        exact absurd (List.mem_map.mpr ⟨(n, k), q, rfl⟩) h1
      | false => exact kind_unique h2 q

noncomputable def closOf (cells : List (Str × Addr)) : List (Str × NameKind) → List (Str × Addr) → List (Str × Addr)
  | [], acc => acc
  | (n, k) :: r, acc => if k == .free then closOf cells r ((n, (cells.lookup n).getD 0) :: acc) else closOf cells r acc
theorem closOf_has (cells : List (Str × Addr)) : ∀ (names : List (Str × NameKind)) (acc : List (Str × Addr)) (x : Str) (c : Addr), (x, c) ∈ closOf cells names acc → ((x, NameKind.free) ∈ names ∧ c = (cells.lookup x).getD 0) ∨ (x, c) ∈ acc
  | [], _, _, _, h => .inr h
  | (name, k) :: r, acc, x, c, h => by
    unfold closOf at h
    split at h
    · rename_i hk
      rcases closOf_has cells r _ x c h with ⟨q, e⟩ | q
      · exact .inl ⟨.tail _ q, e⟩
      · rcases List.mem_cons.mp q with q | q
        · cases q; rw [beq_iff_eq.mp hk]; exact .inl ⟨.head _, rfl⟩
        · exact .inr q
    · rcases closOf_has cells r _ x c h with ⟨q, e⟩ | q
      · exact .inl ⟨.tail _ q, e⟩
      · exact .inr q
theorem closOf_old (cells : List (Str × Addr)) : ∀ (names : List (Str × NameKind)) (acc : List (Str × Addr)) (x : Str), (∃ c, (x, c) ∈ acc) → ∃ c, (x, c) ∈ closOf cells names acc
  | [], _, _, h => h
  | (name, k) :: r, acc, x, h => by
    unfold closOf
    split
    · exact closOf_old cells r _ x (let ⟨c, hc⟩ := h; ⟨c, .tail _ hc⟩)
    · exact closOf_old cells r _ x h
theorem closOf_get (cells : List (Str × Addr)) : ∀ (names : List (Str × NameKind)) (acc : List (Str × Addr)) (x : Str), (x, NameKind.free) ∈ names → ∃ c, (x, c) ∈ closOf cells names acc
  | (name, k) :: r, acc, x, h => by
    unfold closOf
    rcases List.mem_cons.mp h with q | q
    · cases q
      rw [if_pos (by rfl)]
      exact closOf_old cells r _ _ ⟨_, .head _⟩
    · split
      · exact closOf_get cells r _ x q
      · exact closOf_get cells r _ x q
theorem closure_loop (env : Env) : ∀ (names : List (Str × NameKind)) (acc : List (Str × Addr)) (f : Str × NameKind → List (Str × Addr) → Sem (ForInStep (List (Str × Addr)))),
    (∀ n k cs, f (n, k) cs = if k == .free then (do let a ← cellOf env n; pure (.yield ((n, a) :: cs))) else pure (.yield cs)) → (∀ x, (x, NameKind.free) ∈ names → ∃ c, env.cells.lookup x = some c) → forIn names acc f = (pure (closOf env.cells names acc) : Sem _)
  | [], acc, f, _, _ => by rw [List.forIn_nil]; rfl
  | (n, k) :: r, acc, f, hf, h => by
    rw [List.forIn_cons, hf]
    unfold closOf
    split
    · rename_i hk
      obtain ⟨c, hc⟩ := h n (by rw [← beq_iff_eq.mp hk]; exact .head _)
      unfold cellOf
      rw [hc]
      simp only [pure_bind, Option.getD_some]
      exact closure_loop env r _ f hf fun x hx => h x (.tail _ hx)
    · simp only [pure_bind]
      exact closure_loop env r _ f hf fun x hx => h x (.tail _ hx)
theorem closureFor_eq {scope : Scope} {env : Env} (h : ∀ x, (x, NameKind.free) ∈ scope.names → ∃ c, env.cells.lookup x = some c) : closureFor scope env = pure (closOf env.cells scope.names []) := by
  unfold closureFor
  simp only [bind_pure]
  refine closure_loop env scope.names [] _ (fun n k cs => ?_) h
  cases hk : k == NameKind.free <;> simp [hk]

section
variable {prog : Program} {w : World} {A : Around} {E : Value → Shared → Prop} {s : Shared}
theorem newEnv_own {scope : Scope} {globals : Addr} {cl : List (Str × Addr)} {qual : Str} {code : Value} {outer : Env} {builtins : Addr} {func : Option Addr} {Q : Env → Shared → Prop}
    (hQ : ∀ h' new, new = cellsFrom (s.heap.objs.size + 1) scope.names [] → Ext s.heap h' → s.heap.get? s.heap.objs.size = none → h'.Ns s.heap.objs.size (fun _ => none) → CellsOk h' (s.heap.objs.size + 1) new →
      Q (newEnv scope s.heap.objs.size globals (new ++ cl) qual func code (some outer) builtins) { s with heap := h' }) :
    wpAny (model prog w) A (newFunctionEnv scope globals cl [] qual func code (some outer) builtins) Q E s := by
  simp only [newFunctionEnv, Option.isSome_some, if_true]
  refine wpAny_bind (wpAny_alloc ?_)
  refine wpAny_bind (wpAny_layCells _ (fun name kind cells => by cases hkc : kind == NameKind.cell <;> simp [hkc]) _ _ _ _ ?_)
  have ok := cellsFrom_ok scope.names (s.heap.push { cls := .type "dict", data := .dict #[] }) (s.heap.objs.size + 1) [] ⟨fun _ _ hm => (nomatch hm), List.Pairwise.nil⟩ (by rw [Heap.size_push]; exact Nat.le_refl _)
  rw [Heap.size_push] at ok
  rw [show ({ s with heap := s.heap.push { cls := .type "dict", data := .dict #[] } } : Shared).heap.objs.size = s.heap.objs.size + 1 from Heap.size_push ..]
  rw [show cl = [] ++ cl from rfl, cellsFrom_app]
  rw [List.forIn_nil]
  refine wpAny_bind (wpAny_pure (wpAny_pure ?_))
  exact hQ _ _ rfl (fun b o e => pushCells_keeps _ _ b o (Heap.get?_push_of_some _ e)) (none_of_size _) ((Heap.Ns.new s.heap (.type "dict")).keeps (pushCells_keeps _ _)) ok
end
end Mine
end
section
open PySem PySem.W PyProof.Rows PySem.Calls
set_option maxRecDepth 100000
namespace Mine

noncomputable def childSc (sc scope : Scope) : Scope := { scope with names := scope.names.map fun (n, k) => if (k == .free && sc.kind == .function && kindIn sc n == some .cell) then (n, .cell) else (n, k) }
noncomputable def childCx (cx : Cx) (scope : Scope) (tg : List Nat) : Cx := ⟨cx.names, cx.own, tg, childSc cx.sc scope⟩
theorem relabel_eq {scope sc : Scope} {env : Env} (h : env.scope = sc) : relabel scope env = childSc sc scope := by subst h; rfl
theorem child_kind {sc scope : Scope} {x : Str} : kindIn (childSc sc scope) x = (kindIn scope x).map fun k => if (k == .free && sc.kind == .function && kindIn sc x == some .cell) then .cell else k := by
  show List.lookup x (scope.names.map _) = (List.lookup x scope.names).map _
  generalize scope.names = l
  induction l with
  | nil => rfl
  | cons p r ih =>
    obtain ⟨n, k⟩ := p
    show List.lookup x ((if (k == .free && sc.kind == .function && kindIn sc n == some .cell) = true then (n, NameKind.cell) else (n, k)) :: _) = _
    cases hb : x == n with
    | true =>
      have e := beq_iff_eq.mp hb
      by_cases hc : (k == .free && sc.kind == .function && kindIn sc n == some .cell) = true
      · rw [if_pos hc]
        simp only [List.lookup_cons, hb, Option.map_some]
        rw [if_pos (by rw [e]; exact hc)]
      · rw [if_neg hc]
        simp only [List.lookup_cons, hb, Option.map_some]
        rw [if_neg (by rw [e]; exact hc)]
    | false =>
      by_cases hc : (k == .free && sc.kind == .function && kindIn sc n == some .cell) = true
      · rw [if_pos hc]; simp only [List.lookup_cons, hb]; exact ih
      · rw [if_neg hc]; simp only [List.lookup_cons, hb]; exact ih

structure CompOk (cx : Cx) (scope : Scope) (tg : List Nat) : Prop where
  kind : scope.kind = .function
  nodup : (scope.names.map (·.1)).Nodup
  free : ∀ x, (x, NameKind.free) ∈ scope.names → kindIn cx.sc x = some .cell ∨ kindIn cx.sc x = some .free
  named : ∀ x : Str, (x, NameKind.free) ∈ scope.names → ∃ i : Nat, cx.names[i]? = some x
  loc : ∀ (i : Nat) (x : Str), cx.names[i]? = some x → kindIn scope x = some .local ∨ kindIn scope x = some .cell → i ∈ tg
  tgt : ∀ (i : Nat) (x : Str), i ∈ tg → cx.names[i]? = some x → kindIn scope x = some .local ∨ kindIn scope x = some .cell
  tgNodup : tg.Nodup

section
variable {prog : Program} {w : World} {A : Around} {E : Value → Shared → Prop} {s : Shared} {cx : Cx} {h₀ h h' : Heap} {env : Env} {wr μ : List Addr} {ow : Nat → Option Addr} {ρ ρ' : Rho}

theorem FrOk.reorder {μ' : List Addr} (F : FrOk prog w cx h₀ env wr μ h ow ρ) (e : ∀ a, a ∈ μ ↔ a ∈ μ') : FrOk prog w cx h₀ env wr μ' h ow ρ :=
  F.move (fun b ob n q => ⟨q, fun m => n ((e b).mpr m)⟩) F.top (fun _ q => q) (fun _ _ _ _ q => q) (fun _ _ _ _ q => q) ((e _).mp F.loc) (fun x c hc => (e _).mp (F.cells x c hc).1) (fun a ha => (e _).mp (F.wrIn a ha)) (fun i a ha => (e _).mp (F.owned i a ha).2.1) fun a ha => F.alive a ((e _).mpr ha)

theorem FrOk.freeCells (F : FrOk prog w cx h₀ env wr μ h ow ρ) {scope : Scope} {tg : List Nat} (ok : CompOk cx scope tg) : ∀ x, (x, NameKind.free) ∈ scope.names → ∃ c, env.cells.lookup x = some c := by
  intro x hx
  obtain ⟨i, hi⟩ := ok.named x hx
  have hk := ok.free x hx
  have hb : bears cx.sc x = true := by unfold bears; rcases hk with q | q <;> rw [q]
  obtain ⟨o, hs, _⟩ := F.vis i x hi hb
  rcases hs with ⟨k, _⟩ | ⟨_, c, hc, _⟩
  · have k' : kindIn cx.sc x = some .local := by rw [← F.scope]; exact k
    rcases hk with q | q <;> (rw [q] at k'; cases k')
  · exact ⟨c, hc⟩

theorem FrOk.child {scope : Scope} {tg : List Nat} (F : FrOk prog w cx h₀ env wr μ h ow ρ) (ok : CompOk cx scope tg) {C : Addr} {new : List (Str × Addr)} (hnew : new = cellsFrom (C + 1) scope.names []) (hx : Ext h h') (hnC : ∀ b, C ≤ b → h.get? b = none)
    (hns : h'.Ns C fun _ => none) (hok : CellsOk h' (C + 1) new) (hρ : ∀ i, i ∈ tg → look ρ' i = none) (hρ2 : ∀ i d, look ρ' i = some d → look ρ i = some d) :
    FrOk prog w (childCx cx scope tg) h₀ (compEnvC scope (new ++ closOf env.cells scope.names []) C env) (C :: new.map (·.2)) ((C :: new.map (·.2)) ++ μ) h' ow ρ' := by
  have hrel : relabel scope env = childSc cx.sc scope := relabel_eq F.scope
  have hfree := F.freeCells ok
  have newC : ∀ x c, (x, c) ∈ new → (x, NameKind.cell) ∈ scope.names := fun x c hm => by
    rw [hnew] at hm
    rcases cellsFrom_has _ _ _ _ _ hm with q | q
    · exact q
    · cases q
  have newFresh : ∀ x c, (x, c) ∈ new → h.get? c = none ∧ c ≠ C := fun x c hm => by
    have := (hok.empty x c hm).2
    exact ⟨hnC c (Nat.le_of_succ_le this), Nat.ne_of_gt this⟩
  have cloC : ∀ x c, (x, c) ∈ closOf env.cells scope.names [] → env.cells.lookup x = some c := fun x c hm => by
    rcases closOf_has _ _ _ _ _ hm with ⟨q, e⟩ | q
    · obtain ⟨c', hc'⟩ := hfree x q
      rw [hc'] at e; rw [hc', e]; rfl
    · cases q
  have lk : ∀ x c, (new ++ closOf env.cells scope.names []).lookup x = some c → (x, c) ∈ new ∨ (x, c) ∈ closOf env.cells scope.names [] := fun x c hc => List.mem_append.mp (mem_of_lookup hc)
  have hCμ : C ∉ μ := fun hm => by obtain ⟨o, ho⟩ := F.alive C hm; rw [hnC C (Nat.le_refl _)] at ho; cases ho
  have wrFresh : ∀ a ∈ C :: new.map (·.2), h.get? a = none := fun a ha => by
    rcases List.mem_cons.mp ha with e | ha
    · rw [e]; exact hnC C (Nat.le_refl _)
    · obtain ⟨⟨x, c⟩, hm, rfl⟩ := List.mem_map.mp ha; exact (newFresh x c hm).1
  have mv : ∀ b ob, b ∉ μ → h.get? b = some ob → h'.get? b = some ob ∧ b ∉ (C :: new.map (·.2)) ++ μ := fun b ob n e =>
    ⟨hx b ob e, fun hm => (List.mem_append.mp hm).elim (fun hm => by rw [wrFresh b hm] at e; cases e) n⟩
  have kindC : ∀ x, (compEnvC scope (new ++ closOf env.cells scope.names []) C env).kindOf x = kindIn (childSc cx.sc scope) x := fun x => by rw [← hrel]; rfl
  refine { scope := hrel, kind := ok.kind, globs := F.globs, blts := F.blts, top := F.top.trans hx, vis := fun i x hi hb => ?_, inj := F.inj, home := fun i x hi hx hs => ?_, cells := fun x c hc => ?_, apart := fun x y c hc hc' => ?_,
           loc := List.mem_append_left _ List.mem_cons_self, wrIn := fun a ha => List.mem_append_left _ ha, alive := fun a ha => ?_, owned := fun i a ha => ?_, new := fun a ha => none_back F.top (wrFresh a ha), locNs := ⟨_, hns⟩ }
  · have noD : kindIn scope x = some .local ∨ kindIn scope x = some .cell → ∀ d, look ρ' i = some d → False := fun q d hd => by
      rw [hρ i (ok.loc i x hi q)] at hd; cases hd
    have ck := child_kind (sc := cx.sc) (scope := scope) (x := x)
    cases hk : kindIn scope x with
    | none => rw [hk] at ck; unfold bears at hb; rw [show kindIn (childCx cx scope tg).sc x = none from ck] at hb; cases hb
    | some k =>
      rw [hk] at ck
      cases k with
      | «local» =>
        exact ⟨none, .inl ⟨by rw [kindC, ck]; rfl, _, hns, rfl⟩, fun d hd => (noD (.inl hk) d hd).elim⟩
      | cell =>
        obtain ⟨c, hc⟩ := cellsFrom_get scope.names (C + 1) [] x (mem_of_lookup hk)
        obtain ⟨c', hc'⟩ := lookup_of_mem (l := new) (x := x) ⟨c, hnew ▸ hc⟩
        refine ⟨none, .inr ⟨.inl (by rw [kindC, ck]; rfl), c', ?_, (hok.empty x c' (mem_of_lookup hc')).1⟩, fun d hd => (noD (.inr hk) d hd).elim⟩
        show (new ++ _).lookup x = _
        rw [List.lookup_append, hc']; rfl
      | free =>
        have hm : (x, NameKind.free) ∈ scope.names := mem_of_lookup hk
        have hpk := ok.free x hm
        have hbp : bears cx.sc x = true := by unfold bears; rcases hpk with q | q <;> rw [q]
        obtain ⟨o, hs, hv⟩ := F.vis i x hi hbp
        rcases hs with ⟨k', _⟩ | ⟨_, c, hc, hcell⟩
        · have k'' : kindIn cx.sc x = some .local := by rw [← F.scope]; exact k'
          rcases hpk with q | q <;> (rw [q] at k''; cases k'')
        · have hnn : new.lookup x = none := by
            cases q : new.lookup x with
            | none => rfl
            | some c' =>
              have := kind_unique ok.nodup (newC x c' (mem_of_lookup q))
              rw [show scope.names.lookup x = some .free from hk] at this; cases this
          obtain ⟨c', hc'⟩ := lookup_of_mem (closOf_get env.cells scope.names [] x hm)
          have e : c' = c := by
            have := cloC x c' (mem_of_lookup hc'); rw [hc] at this; exact (Option.some.inj this).symm
          subst e
          refine ⟨o, .inr ⟨?_, c', ?_, hcell.keeps hx⟩, fun d hd => ?_⟩
          · rw [kindC, ck]
            show some (if _ then _ else _) = _ ∨ some (if _ then _ else _) = _
            split
            · exact .inl rfl
            · exact .inr rfl
          · show (new ++ _).lookup x = _
            rw [List.lookup_append, hnn]; exact hc'
          · obtain ⟨v, h1, h2⟩ := hv d (hρ2 i d hd)
            refine ⟨v, h1, ?_⟩
            show Val prog w cx h' _ ow i v d
            unfold Val at h2 ⊢
            split
            · rename_i hi'
              rw [if_pos hi'] at h2
              obtain ⟨a, e1, e2, e3⟩ := h2
              exact ⟨a, e1, e2, e3.move (fun ob q => hx _ _ q) mv⟩
            · rename_i hi'
              rw [if_neg hi'] at h2
              exact h2.move mv
      | _ => (unfold bears at hb; rw [show kindIn (childCx cx scope tg).sc x = _ from ck] at hb; cases hb)
  · have ck := child_kind (sc := cx.sc) (scope := scope) (x := x)
    unfold homeOf
    rw [kindC]
    rcases ok.tgt i x hi hx with q | q
    · rw [q] at ck; rw [ck]
      exact ⟨C, rfl, List.mem_cons_self⟩
    · rw [q] at ck; rw [ck]
      obtain ⟨c, hc⟩ := cellsFrom_get scope.names (C + 1) [] x (mem_of_lookup q)
      obtain ⟨c', hc'⟩ := lookup_of_mem (l := new) (x := x) ⟨c, hnew ▸ hc⟩
      refine ⟨c', ?_, List.mem_cons_of_mem _ (List.mem_map.mpr ⟨_, mem_of_lookup hc', rfl⟩)⟩
      show (new ++ _).lookup x = _
      rw [List.lookup_append, hc']; rfl
  · rcases lk x c hc with q | q
    · exact ⟨List.mem_append_left _ (List.mem_cons_of_mem _ (List.mem_map.mpr ⟨_, q, rfl⟩)), (newFresh x c q).2⟩
    · have hm := (F.cells x c (cloC x c q)).1
      exact ⟨List.mem_append_right _ hm, fun (e : c = C) => hCμ (e ▸ hm)⟩
  · rcases lk x c hc with q | q <;> rcases lk y c hc' with q' | q'
    · exact name_of_addr hok.apart q q'
    · have hm := (F.cells y c (cloC y c q')).1
      obtain ⟨o, ho⟩ := F.alive c hm
      rw [(newFresh x c q).1] at ho; cases ho
    · have hm := (F.cells x c (cloC x c q)).1
      obtain ⟨o, ho⟩ := F.alive c hm
      rw [(newFresh y c q').1] at ho; cases ho
    · exact F.apart x y c (cloC x c q) (cloC y c q')
  · rcases List.mem_append.mp ha with q | q
    · rcases List.mem_cons.mp q with e | q
      · rw [e]; obtain ⟨o, _, _, ho, _⟩ := hns; exact ⟨o, ho⟩
      · obtain ⟨⟨x, c⟩, hm, rfl⟩ := List.mem_map.mp q
        obtain ⟨o, ho, _⟩ := (hok.empty x c hm).1; exact ⟨o, ho⟩
    · exact F.alive.ext hx a q
  · obtain ⟨p, q, _, r2, r3⟩ := F.owned i a ha
    refine ⟨p, List.mem_append_right _ q, fun (e : a = C) => hCμ (e ▸ q), fun x hc => ?_, r3⟩
    rcases lk x a hc with u | u
    · obtain ⟨o, ho⟩ := F.alive a q
      rw [(newFresh x a u).1] at ho; cases ho
    · exact r2 x (cloC x a u)
end
end Mine
end
section
open PySem PySem.W PyProof.Rows PySem.Calls
set_option maxRecDepth 100000
namespace Mine
section
variable {prog : Program} {w : World} {A : Around} {fnAt : Nat → Option (Str × Addr)} {h₀ : Heap} {Φ : Nat → List D → Option D} {cx : Cx}
variable {E : Value → Shared → Prop} {s : Shared} {env : Env} {wr μ : List Addr} {ow : Nat → Option Addr} {ρ ρ' : Rho}

theorem comp_core (B : Amb prog w A fnAt h₀ Φ) {α : Type} {acc : List α → D} {e : Expr} {scope : Scope} {pos : Pos} {newAcc : Sem Value} {g : Comprehension} {gs : List Comprehension} {i : Nat} {it0 : I} {ts : Ts} {tl : List Nat} {f : Rho → Option (List α)}
    {after : Addr → Env → Value → Sem PySem.Fin} {obj : Obj} {fz : Bool} {use : Option (Value → Sem Unit)} {Q : Value → Shared → Prop}
    (hcl : clausesOf e = g :: gs) (hfold : ∀ env x, foldedSetIterable g.iter env x = pure x) (hform : ∀ D cenv, TurnForm prog w A e 0 g D cenv (after D cenv))
    (hst : ∀ it a cenv, A.under (.compStart e 0 it a cenv) = A ∧ (model prog w).den (.compStart e 0 it a cenv) = (compStart e 0 it a cenv).onRaise (fun x => do noteFrame x cenv; standAt theWindowsPlace))
    (hnew : ∀ (s : Shared) (Q : Value → Shared → Prop), Q (.ref s.heap.objs.size) { s with heap := s.heap.push obj } → wpAny (model prog w) A newAcc Q E s)
    (hfr : obj.isFreed = false) (hobj : ∀ (h : Heap) (μ : List Addr) (b : Addr), h.get? b = some obj → b ≠ sysModules → Own prog w h μ b (acc []))
    (ok : CompOk cx scope (i :: tl)) (S : SrcP prog w A h₀ Φ cx g.iter it0 fz) (C : ClauseP prog w A h₀ Φ (childCx cx scope (i :: tl)) g i ts)
    (IH : ∀ D cenv wr, InnerP (prog := prog) (w := w) (A := A) (h₀ := h₀) (cx := childCx cx scope (i :: tl)) (ow := ow) acc e cenv D wr 0 (after D cenv) tl f)
    (F : FrOk prog w cx h₀ env wr μ s.heap ow ρ) {ds : List D} (hds : evI Φ it0 ρ = some ds) (hρ : ∀ j ∈ i :: tl, look ρ' j = none) (hρ2 : ∀ j d, look ρ' j = some d → look ρ j = some d)
    {outs : List α} (hz : flatM ds (turnF Φ i ts f ρ') = some outs) (hsz : outs.length ≤ 1000)
    (hQ : ∀ b h' tk C m, Ext s.heap h' → s.heap.get? b = none → s.heap.get? C = none → b ≠ C → Own prog w h' (b :: C :: μ) b (acc outs) → h'.Ns C m → compPost (model prog w) A E use Q (.ref b) C (.ok .next) { s with heap := h', toks := tk }) :
    wpAny (model prog w) A (comprehension e scope env pos newAcc false (eval g.iter env) use) Q E s := by
  refine wpAny_comprehension_free (use := use) hcl (hfold env) (closureFor_eq (F.freeCells ok)) ok.kind (fun x hx hl => kind_unique ok.nodup (by rw [← hl]; exact hx)) (wpAny_mono (S env wr μ ow ρ s ds F hds E _ fun I fp St h1 tk1 T => ?_) (fun x s₁ h₁ => wpAny_mono h₁ (fun _ _ e => e) fun _ _ e => e) fun _ _ e => e)
  refine hnew _ _ ?_
  dsimp only
  generalize hH2 : h1.push obj = h2
  have hx1 : Ext s.heap h1 := T.ext
  have hx12 : Ext h1 h2 := by rw [← hH2]; exact Ext.push _ _
  have hsz2 : h2.objs.size = h1.objs.size + 1 := by rw [← hH2, Heap.size_push]
  have hDget : h2.get? h1.objs.size = some obj := by rw [← hH2]; exact Heap.get?_push_size _ hfr
  refine newEnv_own fun h3 new hnewEq hx23 hCn hns hok => ?_
  dsimp only at hx23 hCn hns hok hnewEq ⊢
  rw [hsz2] at hnewEq hns hok hCn ⊢
  obtain ⟨oI, hoI⟩ := T.live 0 _ T.st
  have hDI : I ≠ h1.objs.size := Nat.ne_of_lt (Heap.lt_size hoI)
  have hD1 : h1.get? h1.objs.size = none := none_of_size _
  have hDs : s.heap.get? h1.objs.size = none := none_back hx1 hD1
  -- frames
  have F1 : FrOk prog w cx h₀ env wr ([I] ++ μ) h1 ow ρ := F.grow (ν := [I]) hx1 (fun a ha => by rw [List.mem_singleton.mp ha]; exact T.fresh) (fun a ha => by rw [List.mem_singleton.mp ha]; exact ⟨oI, hoI⟩)
  have F2 : FrOk prog w cx h₀ env wr ([h1.objs.size] ++ ([I] ++ μ)) h2 ow ρ := F1.grow (ν := [h1.objs.size]) hx12 (fun a ha => by rw [List.mem_singleton.mp ha]; exact hD1) (fun a ha => by rw [List.mem_singleton.mp ha]; exact ⟨_, hDget⟩)
  have above : ∀ b, h1.objs.size + 1 ≤ b → h2.get? b = none := fun b hb => by
    cases q : h2.get? b with
    | none => rfl
    | some o => have := Heap.lt_size q; rw [hsz2] at this; exact absurd this (Nat.not_lt.mpr hb)
  have F3 := F2.child (ρ' := ρ') ok hnewEq hx23 above hns hok hρ hρ2
  have nf : ∀ x c, (x, c) ∈ new → h1.objs.size + 2 ≤ c := fun x c hm => (hok.empty x c hm).2
  generalize hν : (h1.objs.size + 1) :: new.map (·.2) = ν at F3
  have hνge : ∀ a ∈ ν, h1.objs.size + 1 ≤ a := fun a ha => by
    rw [← hν] at ha
    rcases List.mem_cons.mp ha with e | ha
    · rw [e]; exact Nat.le_refl _
    · obtain ⟨⟨x, c⟩, hm, rfl⟩ := List.mem_map.mp ha
      exact Nat.le_of_succ_le (nf x c hm)
  have hIlt : I < h1.objs.size := Heap.lt_size hoI
  have hIμ : I ∉ μ := fun hm => by obtain ⟨o, ho⟩ := F.alive I hm; rw [T.fresh] at ho; cases ho
  have hμlt : ∀ a ∈ μ, a < h1.objs.size := fun a ha => by obtain ⟨o, ho⟩ := F.alive a ha; exact Heap.lt_size (hx1 _ _ ho)
  obtain ⟨μ₀, hμ₀⟩ : ∃ μ₀, μ₀ = ν ++ (h1.objs.size :: μ) := ⟨_, rfl⟩
  have mem₀ : ∀ a, a ∈ I :: μ₀ ↔ a ∈ ν ++ ([h1.objs.size] ++ ([I] ++ μ)) := fun a => by
    rw [hμ₀]; simp only [List.mem_cons, List.mem_append, List.not_mem_nil, or_false]
    constructor
    · rintro (q | q | q | q)
      · exact .inr (.inr (.inl q))
      · exact .inl q
      · exact .inr (.inl q)
      · exact .inr (.inr (.inr q))
    · rintro (q | q | q | q)
      · exact .inr (.inl q)
      · exact .inr (.inr (.inl q))
      · exact .inl q
      · exact .inr (.inr (.inr q))
  have F4 := F3.reorder fun a => (mem₀ a).symm
  have hIν : I ∉ ν := fun hm => absurd hIlt (Nat.not_lt.mpr (Nat.le_of_succ_le (hνge I hm)))
  have hDν : h1.objs.size ∉ ν := fun hm => Nat.not_succ_le_self _ (hνge _ hm)
  have hI₀ : I ∉ μ₀ := by
    rw [hμ₀]
    intro hm
    rcases List.mem_append.mp hm with q | q
    · exact hIν q
    · rcases List.mem_cons.mp q with q | q
      · exact hDI q
      · exact hIμ q
  have hcells : ∀ x c, (compEnvC scope (new ++ closOf env.cells scope.names []) (h1.objs.size + 1) env).cells.lookup x = some c → c ∈ ν ∨ c ∈ μ := fun x c hc => by
    rcases List.mem_append.mp (mem_of_lookup hc) with q | q
    · left; rw [← hν]; exact List.mem_cons_of_mem _ (List.mem_map.mpr ⟨_, q, rfl⟩)
    · right
      rcases closOf_has _ _ _ _ _ q with ⟨q, e⟩ | q
      · obtain ⟨c', hc'⟩ := F.freeCells ok x q
        rw [hc'] at e
        have e2 : c = c' := e
        rw [e2]; exact (F.cells x c' hc').1
      · cases q
  have hsys : h1.objs.size ≠ sysModules := sys_ne B (F.top.trans hx1)
  have ApI : Apart (childCx cx scope (i :: tl)) h₀ (compEnvC scope (new ++ closOf env.cells scope.names []) (h1.objs.size + 1) env) ν (I :: μ₀) ow I :=
    ⟨List.mem_cons_self, hIν, fun (q : I = h1.objs.size + 1) => absurd hIlt (by rw [q]; exact Nat.not_lt.mpr (Nat.le_succ _)), fun x hc => (hcells x I hc).elim hIν hIμ, fun j hj => hIμ (F.owned j I hj).2.1, none_back F.top T.fresh⟩
  have hDμ : h1.objs.size ∉ μ := fun hm => Nat.lt_irrefl _ (hμlt _ hm)
  have ApD : Apart (childCx cx scope (i :: tl)) h₀ (compEnvC scope (new ++ closOf env.cells scope.names []) (h1.objs.size + 1) env) ν (I :: μ₀) ow h1.objs.size :=
    ⟨(mem₀ _).mpr (List.mem_append_right _ (List.mem_append_left _ (List.mem_singleton.mpr rfl))), hDν, fun (q : h1.objs.size = h1.objs.size + 1) => Nat.ne_of_lt (Nat.lt_succ_self _) q, fun x hc => (hcells x _ hc).elim hDν hDμ, fun j hj => hDμ (F.owned j _ hj).2.1, none_back F.top hDs⟩
  obtain ⟨hp, hxp, hpI, W⟩ := T.W
  have key : codeAny (model prog w) A (.compLoop e 0 (.ref I) (.ref h1.objs.size) (compEnvC scope (new ++ closOf env.cells scope.names []) (h1.objs.size + 1) env))
      (compPost (model prog w) A E use Q (.ref h1.objs.size) (h1.objs.size + 1)) { s with heap := h3, toks := tk1 } := by
    refine loop_at (IH _ _ ν) (hform _ _) C W (μ₀ := μ₀) (ρ := ρ') hρ ok.tgNodup ApI ApD hDI (fun b hb => ?_) hI₀ T.live _ 0 _ [] outs _ rfl (Nat.zero_le _) F4 (hobj _ _ _ (hx23 _ _ hDget) hsys) (W.frame _ _ _ T.st fun b _ o e => hx23 _ _ (hx12 _ _ e)) (fun j v hj => ?_) hz (by simpa using hsz) fun h' tk' F' O' K' => ?_
    · rcases T.old b hb with e | ⟨⟨o, ho⟩, _⟩
      · exact .inl e
      · refine .inr fun hm => ?_
        have hlt := Heap.lt_size ho
        rcases List.mem_cons.mp hm with q | q
        · exact Nat.ne_of_lt hlt q
        · exact absurd hlt (Nat.not_lt.mpr (Nat.le_of_succ_le (hνge b q)))
    · obtain ⟨d, hd, rv⟩ := hj
      refine ⟨d, hd, rv.move fun b ob n eb => ⟨hx23 _ _ (hx12 _ _ (hxp _ _ eb)), fun hm => ?_⟩⟩
      have hlt := Heap.lt_size (hxp _ _ eb)
      rcases List.mem_append.mp ((mem₀ b).mp hm) with q | q
      · exact absurd hlt (Nat.not_lt.mpr (Nat.le_of_succ_le (hνge b q)))
      · rcases List.mem_append.mp q with q | q
        · rw [List.mem_singleton.mp q] at hlt; exact Nat.lt_irrefl _ hlt
        · rcases List.mem_append.mp q with q | q
          · rw [List.mem_singleton.mp q, hpI] at eb; cases eb
          · exact n q
    · obtain ⟨m, hm⟩ := F'.locNs
      refine hQ h1.objs.size h' tk' (h1.objs.size + 1) m (fun b o eb => ?_) hDs (none_back hx1 (by
        cases q : h1.get? (h1.objs.size + 1) with
        | none => rfl
        | some o => exact absurd (Heap.lt_size q) (Nat.not_lt.mpr (Nat.le_succ _)))) (Nat.ne_of_lt (Nat.lt_succ_self _)) ?_ hm
      · have hlt := Heap.lt_size (hx1 _ _ eb)
        refine K' b o (fun hm => ?_) (hx23 _ _ (hx12 _ _ (hx1 _ _ eb)))
        rcases List.mem_cons.mp hm with q | hm
        · rw [q, T.fresh] at eb; cases eb
        · rcases List.mem_cons.mp hm with q | hm
          · exact Nat.ne_of_lt hlt q
          · exact absurd hlt (Nat.not_lt.mpr (Nat.le_of_succ_le (hνge b hm)))
      · refine Own.move (by simpa using O') (fun _ q => q) fun b ob n q => ⟨q, fun hm => n ?_⟩
        rw [hμ₀]
        rcases List.mem_cons.mp hm with e | hm
        · rw [e]; exact List.mem_append_right _ List.mem_cons_self
        · rcases List.mem_cons.mp hm with e | hm
          · rw [e, ← hν]; exact List.mem_append_left _ List.mem_cons_self
          · exact List.mem_append_right _ (List.mem_cons_of_mem _ hm)
  exact start_at (hst _ _ _) (fun it' => (hform _ _).2.1 it') (by rw [hcl]; rfl) C.sync key (W.self 0 _ _ _ (W.frame _ _ _ T.st fun b _ o e => hx23 _ _ (hx12 _ _ e)) key)

theorem look_clear : ∀ (gs : Gs) (ρ : Rho), (∀ j ∈ targets gs, look (clear gs ρ) j = none) ∧ (∀ j d, look (clear gs ρ) j = some d → look ρ j = some d)
  | .nil, ρ => ⟨fun _ hj => (nomatch hj), fun _ _ h => h⟩
  | .cons i it ts r, ρ => by
    obtain ⟨h1, h2⟩ := look_clear r (ρ.set i none)
    refine ⟨fun j hj => ?_, fun j d h => ?_⟩
    · rcases List.mem_cons.mp hj with e | hj
      · subst e
        cases q : look (clear r (ρ.set j none)) j with
        | none => exact q
        | some d =>
          rcases look_set (h2 j d q) with ⟨_, e⟩ | ⟨e, _⟩
          · cases e
          · exact absurd rfl e
      · exact h1 j hj
    · rcases look_set (h2 j d h) with ⟨_, e⟩ | ⟨_, e⟩
      · cases e
      · exact e

/-- the clauses of a list comprehension, all of them -/
noncomputable def ClausesP (prog : Program) (w : World) (A : Around) (h₀ : Heap) (Φ : Nat → List D → Option D) (cx : Cx) : List Comprehension → Gs → Prop
  | [], .nil => True
  | g :: r, .cons i it ts gr => ClauseP prog w A h₀ Φ cx g i ts ∧ SrcP prog w A h₀ Φ cx g.iter it true ∧ (∀ env x, foldedSetIterable g.iter env x = pure x) ∧ ClausesP prog w A h₀ Φ cx r gr
  | _, _ => False
theorem inner_all {elt : Expr} {ex : X} {gens : List Comprehension} {scope : Scope} {pos : Pos} {cenv : Env} {D : Addr} {wr : List Addr} (pe : EvP prog w A h₀ Φ cx elt ex) (nx : nb ex = true) : ∀ (r : Gs) (depth : Nat), (targets r).Nodup → ClausesP prog w A h₀ Φ cx (gens.drop (depth + 1)) r →
    InnerP (prog := prog) (w := w) (A := A) (h₀ := h₀) (cx := cx) (ow := ow) .list (.ListComp elt gens scope pos) cenv D wr depth (afterTests elt gens scope pos cenv D depth) (targets r) (emitF Φ ex r)
  | .nil, depth, _, h => by
    refine inner_nil ?_ pe nx
    cases q : gens.drop (depth + 1) with
    | nil => rw [List.drop_eq_nil_iff] at q; exact List.getElem?_eq_none q
    | cons a b => rw [q] at h; exact h.elim
  | .cons i it ts r, depth, hn, h => by
    cases q : gens.drop (depth + 1) with
    | nil => rw [q] at h; exact h.elim
    | cons g b =>
      rw [q] at h
      have hg : gens[depth + 1]? = some g := by
        have := congrArg (·[0]?) q
        simpa using this
      have hb : gens.drop (depth + 1 + 1) = b := by rw [← List.drop_drop (i := 1), q]; rfl
      exact inner_cons hg h.1 h.2.1 h.2.2.1 hn (inner_all pe nx r (depth + 1) (List.nodup_cons.mp hn).2 (by rw [hb]; exact h.2.2.2))

structure ListCompP (prog : Program) (w : World) (A : Around) (h₀ : Heap) (Φ : Nat → List D → Option D) (cx : Cx) (elt : Expr) (g : Comprehension) (gs : List Comprehension) (scope : Scope) (ex : X) (i : Nat) (it0 : I) (ts : Ts) (r : Gs) : Prop where
  ok : CompOk cx scope (i :: targets r)
  src : ∃ fz, SrcP prog w A h₀ Φ cx g.iter it0 fz
  fold : ∀ env x, foldedSetIterable g.iter env x = pure x
  first : ClauseP prog w A h₀ Φ (childCx cx scope (i :: targets r)) g i ts
  rest : ClausesP prog w A h₀ Φ (childCx cx scope (i :: targets r)) gs r
  elt : EvP prog w A h₀ Φ (childCx cx scope (i :: targets r)) elt ex
  new : nb ex = true

theorem comp_list (B : Amb prog w A fnAt h₀ Φ) {elt : Expr} {g : Comprehension} {gs : List Comprehension} {scope : Scope} {ex : X} {i : Nat} {it0 : I} {ts : Ts} {r : Gs} {pos p1 : Pos} {use : Option (Value → Sem Unit)} {Q : Value → Shared → Prop} {d : D}
    (P : ListCompP prog w A h₀ Φ cx elt g gs scope ex i it0 ts r) (F : FrOk prog w cx h₀ env wr μ s.heap ow ρ) (hz : evF Φ (.comp ex (.cons i it0 ts r)) ρ = some d)
    (hQ : ∀ b h' tk C m, Ext s.heap h' → s.heap.get? b = none → s.heap.get? C = none → b ≠ C → Own prog w h' (b :: C :: μ) b d → h'.Ns C m → compPost (model prog w) A E use Q (.ref b) C (.ok .next) { s with heap := h', toks := tk }) :
    wpAny (model prog w) A (comprehension (.ListComp elt (g :: gs) scope pos) scope env p1 (newList []) false (eval g.iter env) use) Q E s := by
  simp only [evF] at hz
  obtain ⟨outs, hz1, hz2⟩ := Option.bind_eq_some_iff.mp hz
  split at hz2
  case isFalse => cases hz2
  rename_i hlen
  cases hz2
  simp only [evGs] at hz1
  obtain ⟨ds, hds, hz1⟩ := Option.bind_eq_some_iff.mp hz1
  split at hz1
  case isFalse => cases hz1
  obtain ⟨fz, S⟩ := P.src
  refine comp_core (acc := .list) (obj := { cls := .type "list", dict := none, data := .seq ([] : List Value).toArray }) (after := fun D cenv => afterTests elt (g :: gs) scope pos cenv D 0) B rfl P.fold (fun D cenv => form_list elt (g :: gs) scope pos cenv D 0 g rfl P.first.sync) (fun _ _ _ => ⟨rfl, rfl⟩)
    (fun s Q h => wpAny_newObj_type h) rfl (fun h μ b hb _ => .list (vs := #[]) ⟨_, hb⟩ .nil) P.ok S P.first (fun D cenv wr => inner_all P.elt P.new r 0 (List.nodup_cons.mp P.ok.tgNodup).2 P.rest) F hds (look_clear (.cons i it0 ts r) ρ).1 (look_clear (.cons i it0 ts r) ρ).2 (outs := outs) hz1 hlen hQ

theorem n_comp (B : Amb prog w A fnAt h₀ Φ) {elt : Expr} {g : Comprehension} {gs : List Comprehension} {scope : Scope} {ex : X} {i : Nat} {it0 : I} {ts : Ts} {r : Gs} {pos : Pos}
    (P : ListCompP prog w A h₀ Φ cx elt g gs scope ex i it0 ts r) : NewP prog w A h₀ Φ cx (.ListComp elt (g :: gs) scope pos) (.comp ex (.cons i it0 ts r)) := by
  intro env wr μ ow ρ s d F hz E Q hQ
  rw [eval_ListComp]
  have hns : firstAsync (g :: gs) = false := by
    have := P.first.sync
    cases g; dsimp only at this; show (_ != 0) = false; rw [this]; rfl
  have hfi : firstIter (g :: gs) env = eval g.iter env := by cases g; rfl
  rw [hns, hfi]
  refine comp_list B (use := none) P F hz fun b h' tk C m hx hb hC hbC O hns => ⟨m, hns, fun h'' hs => ?_⟩
  refine hQ b h'' tk (fun q o e => hs.extBut q o (fun z => by rw [z, hC] at e; cases e) (hx q o e)) hb (O.move (fun ob e => hs.extBut _ _ hbC e) fun q ob n e => ⟨hs.extBut q ob (fun z => n (by rw [z]; exact List.mem_cons_of_mem _ List.mem_cons_self)) e, fun hm => n ?_⟩)
  rcases List.mem_cons.mp hm with z | z
  · rw [z]; exact List.mem_cons_self
  · exact List.mem_cons_of_mem _ (List.mem_cons_of_mem _ z)
end
end Mine
end
section
open PySem PySem.W PyProof.Rows PySem.Calls
set_option maxRecDepth 100000
namespace Mine
section
variable {prog : Program} {w : World} {A : Around} {fnAt : Nat → Option (Str × Addr)} {h₀ : Heap} {Φ : Nat → List D → Option D} {cx : Cx}
variable {E : Value → Shared → Prop} {s : Shared} {env : Env} {wr μ : List Addr} {ow : Nat → Option Addr} {ρ ρ' : Rho}

theorem dSet_len (m : List (Int × D)) (k : Int) (v : D) : (dSet m k v).length ≤ m.length + 1 := by
  unfold dSet; split <;> simp
theorem dictOfPairs_snoc (l : List (Int × D)) (k : Int) (v : D) : dictOfPairs (l ++ [(k, v)]) = dSet (dictOfPairs l) k v := by
  unfold dictOfPairs; rw [List.foldl_append]; rfl
theorem foldSet_len : ∀ (l m : List (Int × D)), (l.foldl (fun m kv => dSet m kv.1 kv.2) m).length ≤ m.length + l.length
  | [], m => by simp
  | (k, v) :: r, m => by
    have h1 := foldSet_len r (dSet m k v)
    have h2 := dSet_len m k v
    simp only [List.foldl_cons, List.length_cons]
    (first | lia | omega)
theorem dictOfPairs_len (l : List (Int × D)) : (dictOfPairs l).length ≤ l.length := by
  have := foldSet_len l []; simpa [dictOfPairs] using this

noncomputable def afterD (kx vx : Expr) (gens : List Comprehension) (scope : Scope) (pos : Pos) (D : Addr) (cenv : Env) (it : Value) : Sem PySem.Fin := do
  (do
    let kv ← eval kx cenv
    let vv ← holding [kv] (eval vx cenv)
    standAt { kx.pos with endLine := vx.pos.endLine, endCol := vx.pos.endCol }
    holding [kv, vv] (dictSet D kv vv))
  again (.compLoop (.DictComp kx vx gens scope pos) 0 it (.ref D) cenv)
theorem form_dict (kx vx : Expr) (g : Comprehension) (scope : Scope) (pos : Pos) (cenv : Env) (D : Addr) (ha : g.is_async = 0) :
    TurnForm prog w A (.DictComp kx vx [g] scope pos) 0 g D cenv (afterD kx vx [g] scope pos D cenv) := by
  refine ⟨fun _ => ⟨rfl, rfl⟩, fun _ => rfl, fun it => ?_⟩
  unfold compTurn
  simp only [List.getElem?_cons_zero, ha]
  rfl
noncomputable def emitD (Φ : Nat → List D → Option D) (k v : X) (ρ : Rho) : Option (List (Int × D)) := (ev Φ k ρ).bind fun x => (ev Φ v ρ).bind fun y => (keyOf x).map fun z => [(z, y)]
theorem keyOf_int {d : D} {z : Int} (h : keyOf d = some z) : d = .int z := by
  unfold keyOf at h; split at h <;> first | (cases h; rfl) | cases h

theorem inner_dict {kx vx : Expr} {k v : X} {g : Comprehension} {scope : Scope} {pos : Pos} {cenv : Env} {D : Addr} {wr : List Addr} (pk : EvP prog w A h₀ Φ cx kx k) (pv : EvP prog w A h₀ Φ cx vx v) (nv : nb v = true) :
    InnerP (prog := prog) (w := w) (A := A) (h₀ := h₀) (cx := cx) (ow := ow) (fun l => .dict (dictOfPairs l)) (.DictComp kx vx [g] scope pos) cenv D wr 0 (afterD kx vx [g] scope pos D cenv) [] (emitD Φ k v) := by
  intro s μ ρ out o1 it R E F hcl Ap O hz hsz hR
  unfold emitD at hz
  obtain ⟨d1, h1, hz⟩ := Option.bind_eq_some_iff.mp hz
  obtain ⟨d2, h2, hz⟩ := Option.bind_eq_some_iff.mp hz
  obtain ⟨z, hk, rfl⟩ := Option.map_eq_some_iff.mp hz
  have := keyOf_int hk
  subst this
  unfold afterD
  refine wpAny_bind (wpAny_bind (pk cenv wr μ ow ρ s _ F h1 _ _ fun v1 ha ta xa r1 _ => wpAny_bind (wpAny_holding (pv cenv wr μ ow ρ _ d2 (F.ext xa) h2 _ _ fun v2 hb tb xb _ k2 => wpAny_bind (wpAny_standAt (wpAny_holding ?_))))))
  obtain ⟨t, rfl⟩ := r1.intI
  have xs : Ext s.heap hb := xa.trans xb
  have O' := O.ext xs
  cases O' with
  | dict q zz rs =>
    have hl := rs.length
    have hl2 := dictOfPairs_len out
    have hsz' : out.length + 1 ≤ 1000 := by simpa using hsz
    refine wpAny_dictSet_pairs (knd := intKind prog w) (k := z) (by simp [intKind, Value.isInt]) q (fun h' q' hs => wpAny_pure ⟨rfl, hR h' _ ?_ ?_ ?_⟩) (by unfold sizeLine; (first | lia | omega))
    · exact (F.ext xs).touch1 Ap (fun b o hb e => hs.extBut b o (fun q => hb (by rw [q]; exact List.mem_singleton.mpr rfl)) e) (dictOf_get q')
    · show Own prog w h' μ D (.dict (dictOfPairs (out ++ [(z, d2)])))
      rw [dictOfPairs_snoc]
      exact .dict q' zz (RepEs.store (sameBut_rep hs Ap.mem (k2 nv)) (sameBut_repEs hs Ap.mem rs))
    · exact (Kept.ofExt xs).trans (Kept.same hs List.mem_cons_self)

structure DictCompP (prog : Program) (w : World) (A : Around) (h₀ : Heap) (Φ : Nat → List D → Option D) (cx : Cx) (kx vx : Expr) (g : Comprehension) (scope : Scope) (k v : X) (i : Nat) (it0 : I) : Prop where
  ok : CompOk cx scope [i]
  src : ∃ fz, SrcP prog w A h₀ Φ cx g.iter it0 fz
  fold : ∀ env x, foldedSetIterable g.iter env x = pure x
  first : ClauseP prog w A h₀ Φ (childCx cx scope [i]) g i .nil
  key : EvP prog w A h₀ Φ (childCx cx scope [i]) kx k
  val : EvP prog w A h₀ Φ (childCx cx scope [i]) vx v
  new : nb v = true

theorem flatM_len1 {α : Type} {f : D → Option (List α)} (hf : ∀ d a, f d = some a → a.length ≤ 1) : ∀ (ds : List D) (outs : List α), flatM ds f = some outs → outs.length ≤ ds.length
  | [], outs, h => by simp only [flatM, Option.some.injEq] at h; subst h; exact Nat.le_refl _
  | d :: r, outs, h => by
    obtain ⟨a, b, h1, h2, rfl⟩ := flatM_cons h
    have e1 := hf d a h1
    have e2 := flatM_len1 hf r b h2
    simp only [List.length_append, List.length_cons]; (first | lia | omega)

theorem comp_dict (B : Amb prog w A fnAt h₀ Φ) {kx vx : Expr} {g : Comprehension} {scope : Scope} {k v : X} {i : Nat} {it0 : I} {pos p1 : Pos} {use : Option (Value → Sem Unit)} {Q : Value → Shared → Prop} {d : D}
    (P : DictCompP prog w A h₀ Φ cx kx vx g scope k v i it0) (F : FrOk prog w cx h₀ env wr μ s.heap ow ρ) (hz : evF Φ (.dcomp k v i it0) ρ = some d)
    (hQ : ∀ b h' tk C m, Ext s.heap h' → s.heap.get? b = none → s.heap.get? C = none → b ≠ C → Own prog w h' (b :: C :: μ) b d → h'.Ns C m → compPost (model prog w) A E use Q (.ref b) C (.ok .next) { s with heap := h', toks := tk }) :
    wpAny (model prog w) A (comprehension (.DictComp kx vx [g] scope pos) scope env p1 newDict false (eval g.iter env) use) Q E s := by
  simp only [evF] at hz
  obtain ⟨ds, hds, hz⟩ := Option.bind_eq_some_iff.mp hz
  split at hz
  case isFalse => cases hz
  rename_i hlen
  obtain ⟨outs, hz1, rfl⟩ := Option.map_eq_some_iff.mp hz
  obtain ⟨fz, S⟩ := P.src
  have hf : (fun d => (ev Φ k (ρ.set i (some d))).bind fun x => (ev Φ v (ρ.set i (some d))).bind fun y => (keyOf x).map fun z => [(z, y)]) = turnF Φ i .nil (emitD Φ k v) (ρ.set i none) := by
    funext d
    unfold turnF emitD
    simp only [evAnd, Option.bind_some, if_true, List.set_set]
  have hout : outs.length ≤ ds.length := flatM_len1 (fun d a h1 => by
      obtain ⟨x, _, h1⟩ := Option.bind_eq_some_iff.mp h1
      obtain ⟨y, _, h1⟩ := Option.bind_eq_some_iff.mp h1
      obtain ⟨z, _, rfl⟩ := Option.map_eq_some_iff.mp h1
      exact Nat.le_refl _) ds outs hz1
  rw [hf] at hz1
  refine comp_core (acc := fun l => .dict (dictOfPairs l)) (obj := { cls := .type "dict", dict := none, data := .dict #[] }) (after := fun D cenv => afterD kx vx [g] scope pos D cenv) B rfl P.fold (fun D cenv => form_dict kx vx g scope pos cenv D P.first.sync) (fun _ _ _ => ⟨rfl, rfl⟩)
    (fun s Q h => wpAny_newObj_type h) rfl (fun h μ b hb hs => .dict (kvs := []) ⟨_, #[], 0, hb, ⟨rfl, rfl, rfl⟩, rfl, fun _ he => by simp at he, Pairs.nil, List.nodup_nil⟩ hs .nil) P.ok S P.first (fun D cenv wr => inner_dict P.key P.val P.new) F hds (look_clear (.cons i it0 .nil .nil) ρ).1 (look_clear (.cons i it0 .nil .nil) ρ).2 (outs := outs) hz1 (by (first | lia | omega)) hQ

theorem n_dcomp (B : Amb prog w A fnAt h₀ Φ) {kx vx : Expr} {g : Comprehension} {scope : Scope} {k v : X} {i : Nat} {it0 : I} {pos : Pos}
    (P : DictCompP prog w A h₀ Φ cx kx vx g scope k v i it0) : NewP prog w A h₀ Φ cx (.DictComp kx vx [g] scope pos) (.dcomp k v i it0) := by
  intro env wr μ ow ρ s d F hz E Q hQ
  rw [arm_eval_DictComp]
  have hns : firstAsync [g] = false := by
    have := P.first.sync
    cases g; dsimp only at this; show (_ != 0) = false; rw [this]; rfl
  have hfi : firstIter [g] env = eval g.iter env := by cases g; rfl
  dsimp only
  rw [hns, hfi]
  refine comp_dict B (use := none) P F hz fun b h' tk C m hx hb hC hbC O hns => ⟨m, hns, fun h'' hs => ?_⟩
  refine hQ b h'' tk (fun q o e => hs.extBut q o (fun z => by rw [z, hC] at e; cases e) (hx q o e)) hb (O.move (fun ob e => hs.extBut _ _ hbC e) fun q ob n e => ⟨hs.extBut q ob (fun z => n (by rw [z]; exact List.mem_cons_of_mem _ List.mem_cons_self)) e, fun hm => n ?_⟩)
  rcases List.mem_cons.mp hm with z | z
  · rw [z]; exact List.mem_cons_self
  · exact List.mem_cons_of_mem _ (List.mem_cons_of_mem _ z)
end
end Mine
end
section
open PySem PySem.W PyProof.Rows PySem.Calls
set_option maxRecDepth 100000
namespace Mine

/-- the frame of a def in its run: what it may change, what it may hand back -/
structure Run (prog : Program) (w : World) (cx : Cx) (rets : List Nat) (h₀ : Heap) (env : Env) (wr μ μ₀ : List Addr) (h : Heap) (ow : Nat → Option Addr) (ρ : Rho) : Prop where
  fr : FrOk prog w cx h₀ env wr μ h ow ρ
  sub : ∀ b ∈ μ₀, b ∈ μ
  ret : ∀ i a, ow i = some a → i ∈ rets → a ∉ μ₀
  ownNew : ∀ i a, ow i = some a → h₀.get? a = none
  ownWr : ∀ i a, ow i = some a → a ∉ wr
  base : rets = [] → ∀ i a, ow i = some a → a ∈ μ₀

/-- what a statement leaves as it was -/
structure Post (wr μ : List Addr) (ow : Nat → Option Addr) (h : Heap) (μ' : List Addr) (ow' : Nat → Option Addr) (h' : Heap) : Prop where
  kept : ∀ b o, b ∉ wr → (∀ i, ow i ≠ some b) → h.get? b = some o → h'.get? b = some o
  mu : ∀ b o, b ∉ μ → h.get? b = some o → h'.get? b = some o ∧ b ∉ μ'
  stay : ∀ b ∈ μ, (∃ o, h.get? b = some o) → b ∈ μ' ∨ ∃ i, ow i = some b
  own : ∀ i b, ow' i = some b → (∃ j, ow j = some b) ∨ h.get? b = none
  live : ∀ b o, h.get? b = some o → ∃ o', h'.get? b = some o'

theorem Post.refl (wr μ : List Addr) (ow : Nat → Option Addr) (h : Heap) : Post wr μ ow h μ ow h :=
  ⟨fun _ _ _ _ e => e, fun _ _ n e => ⟨e, n⟩, fun _ m _ => .inl m, fun i b e => .inl ⟨i, e⟩, fun _ o e => ⟨o, e⟩⟩
theorem Post.trans {wr μ μ' μ'' : List Addr} {ow ow' ow'' : Nat → Option Addr} {h h' h'' : Heap} (x : Post wr μ ow h μ' ow' h') (y : Post wr μ' ow' h' μ'' ow'' h'') : Post wr μ ow h μ'' ow'' h'' := by
  refine ⟨fun b o n m e => ?_, fun b o n e => ?_, fun b m al => ?_, fun i b e => ?_, fun b o e => ?_⟩
  · refine y.kept b o n (fun i q => ?_) (x.kept b o n m e)
    rcases x.own i b q with ⟨j, hj⟩ | q
    · exact m j hj
    · rw [q] at e; cases e
  · obtain ⟨e1, n1⟩ := x.mu b o n e
    exact y.mu b o n1 e1
  · obtain ⟨o, ho⟩ := al
    rcases x.stay b m ⟨o, ho⟩ with q | q
    · rcases y.stay b q (x.live b o ho) with r | ⟨i, r⟩
      · exact .inl r
      · rcases x.own i b r with r | r
        · exact .inr r
        · rw [r] at ho; cases ho
    · exact .inr q
  · rcases y.own i b e with ⟨j, hj⟩ | q
    · exact x.own j b hj
    · right
      cases r : h.get? b with
      | none => rfl
      | some o => obtain ⟨o', ho'⟩ := x.live b o r; rw [q] at ho'; cases ho'
  · obtain ⟨o', e'⟩ := x.live b o e
    exact y.live b o' e'

/-- a change at one place that is in μ, of the write set or owned -/
theorem Post.change {wr μ : List Addr} {ow : Nat → Option Addr} {h h' : Heap} {a : Addr} (hs : Heap.SameBut a h h') (hl : ∃ o, h'.get? a = some o) (hm : a ∈ μ) (hw : a ∈ wr ∨ ∃ i, ow i = some a) : Post wr μ ow h μ ow h' :=
  ⟨fun b o n m e => hs.extBut b o (fun q => hw.elim (fun q' => n (q ▸ q')) fun ⟨i, q'⟩ => m i (q ▸ q')) e, fun b o n e => ⟨hs.extBut b o (fun q => n (q ▸ hm)) e, n⟩, fun _ m _ => .inl m, fun i b e => .inl ⟨i, e⟩, fun b o e => by
    by_cases q : b = a
    · rw [q]; exact hl
    · exact ⟨o, hs.extBut b o q e⟩⟩
theorem Post.ext {wr μ : List Addr} {ow : Nat → Option Addr} {h h' : Heap} (e : Ext h h') : Post wr μ ow h μ ow h' :=
  ⟨fun b o _ _ q => e b o q, fun b o n q => ⟨e b o q, n⟩, fun _ m _ => .inl m, fun i b q => .inl ⟨i, q⟩, fun b o q => ⟨o, e b o q⟩⟩

section
variable {prog : Program} {w : World}
noncomputable def FlOk (prog : Program) (w : World) (h : Heap) (μ₀ : List Addr) : Fl → Flow → Prop
  | .next, .next => True
  | .brk, .brk => True
  | .cont, .cont => True
  | .ret d, .ret v => Rep prog w h μ₀ v d
  | _, _ => False

variable (prog w) in
noncomputable def ExecP (A : Around) (h₀ : Heap) (Φ Ψ : Nat → List D → Option D) (cx : Cx) (rets : List Nat) (st : Stmt) (x : S) : Prop :=
  ∀ env wr μ μ₀ ow ρ (s : Shared) f ρ', Run prog w cx rets h₀ env wr μ μ₀ s.heap ow ρ → ex Φ Ψ x ρ = some (f, ρ') → ∀ (E : Value → Shared → Prop) (Q : Flow → Shared → Prop),
    (∀ fl h' tk μ' ow', Run prog w cx rets h₀ env wr μ' μ₀ h' ow' ρ' → Post wr μ ow s.heap μ' ow' h' → FlOk prog w h' μ₀ f fl → Q fl { s with heap := h', toks := tk }) → wpAny (model prog w) A (exec st env) Q E s
variable (prog w) in
noncomputable def ExecsP (A : Around) (h₀ : Heap) (Φ Ψ : Nat → List D → Option D) (cx : Cx) (rets : List Nat) (sts : List Stmt) (xs : List S) : Prop :=
  ∀ env wr μ μ₀ ow ρ (s : Shared) f ρ', Run prog w cx rets h₀ env wr μ μ₀ s.heap ow ρ → exs Φ Ψ xs ρ = some (f, ρ') → ∀ (E : Value → Shared → Prop) (Q : Flow → Shared → Prop),
    (∀ fl h' tk μ' ow', Run prog w cx rets h₀ env wr μ' μ₀ h' ow' ρ' → Post wr μ ow s.heap μ' ow' h' → FlOk prog w h' μ₀ f fl → Q fl { s with heap := h', toks := tk }) → wpAny (model prog w) A (execs sts env) Q E s

variable {A : Around} {fnAt : Nat → Option (Str × Addr)} {h₀ : Heap} {Φ Ψ : Nat → List D → Option D} {cx : Cx} {rets : List Nat}

theorem Run.ext {env : Env} {wr μ μ₀ : List Addr} {h h' : Heap} {ow : Nat → Option Addr} {ρ : Rho} (R : Run prog w cx rets h₀ env wr μ μ₀ h ow ρ) (e : Ext h h') : Run prog w cx rets h₀ env wr μ μ₀ h' ow ρ := { R with fr := R.fr.ext e }
theorem Run.with {env : Env} {wr μ μ₀ : List Addr} {h h' : Heap} {ow : Nat → Option Addr} {ρ ρ' : Rho} (R : Run prog w cx rets h₀ env wr μ μ₀ h ow ρ) (F : FrOk prog w cx h₀ env wr μ h' ow ρ') : Run prog w cx rets h₀ env wr μ μ₀ h' ow ρ' := { R with fr := F }

theorem x_nil : ExecsP prog w A h₀ Φ Ψ cx rets [] [] := by
  intro env wr μ μ₀ ow ρ s f ρ' R hz E Q hQ
  simp only [exs, Option.some.injEq, Prod.mk.injEq] at hz
  obtain ⟨rfl, rfl⟩ := hz
  exact wpAny_execs_nil (hQ .next s.heap s.toks μ ow R (Post.refl _ _ _ _) trivial)
theorem x_cons {st : Stmt} {sts : List Stmt} {x : S} {xs : List S} (p : ExecP prog w A h₀ Φ Ψ cx rets st x) (q : ExecsP prog w A h₀ Φ Ψ cx rets sts xs) : ExecsP prog w A h₀ Φ Ψ cx rets (st :: sts) (x :: xs) := by
  intro env wr μ μ₀ ow ρ s f ρ' R hz E Q hQ
  simp only [exs] at hz
  obtain ⟨⟨f1, ρ1⟩, h1, hz⟩ := Option.bind_eq_some_iff.mp hz
  refine wpAny_execs_cons (p env wr μ μ₀ ow ρ s f1 ρ1 R h1 E _ fun fl h' tk μ' ow' R' P' hf => ?_)
  cases f1 with
  | next =>
    cases fl with
    | next => exact q env wr μ' μ₀ ow' ρ1 _ f ρ' R' hz E _ fun fl h'' tk' μ'' ow'' R'' P'' hf' => hQ fl h'' tk' μ'' ow'' R'' (P'.trans P'') hf'
    | _ => exact hf.elim
  | brk =>
    cases fl with
    | brk => cases hz; exact hQ _ h' tk μ' ow' R' P' trivial
    | _ => exact hf.elim
  | cont =>
    cases fl with
    | cont => cases hz; exact hQ _ h' tk μ' ow' R' P' trivial
    | _ => exact hf.elim
  | ret d =>
    cases fl with
    | ret v => cases hz; exact hQ _ h' tk μ' ow' R' P' hf
    | _ => exact hf.elim
end
end Mine
end
section
open PySem PySem.W PyProof.Rows PySem.Calls
set_option maxRecDepth 100000
namespace Mine
section
variable {prog : Program} {w : World} {A : Around} {fnAt : Nat → Option (Str × Addr)} {h₀ : Heap} {Φ Ψ : Nat → List D → Option D} {cx : Cx} {rets : List Nat}
variable {E : Value → Shared → Prop} {s : Shared} {env : Env} {wr μ μ₀ : List Addr} {ow : Nat → Option Addr} {ρ ρ' : Rho} {h h' : Heap}

/-- a name that a statement may set -/
structure Can (cx : Cx) (i : Nat) (x : Str) : Prop where
  name : cx.names[i]? = some x
  st : i ∈ cx.st
  set : settable cx.sc x = true
theorem Can.bears {i : Nat} {x : Str} (c : Can cx i x) : bears cx.sc x = true := by
  have := c.set
  unfold settable at this; unfold Mine.bears
  split at this <;> first | (rename_i k; rw [k]) | cases this

theorem Run.change (R : Run prog w cx rets h₀ env wr μ μ₀ h ow ρ) {a : Addr} (hw : a ∈ wr) (hs : Heap.SameBut a h h') (F : FrOk prog w cx h₀ env wr μ h' ow ρ') : Post wr μ ow h μ ow h' :=
  Post.change hs (F.alive a (F.wrIn a hw)) (F.wrIn a hw) (.inl hw)

theorem s_assign {i : Nat} {x : Str} {px pos : Pos} {value : Expr} {X : X} (c : Can cx i x) (hi : i ∉ cx.own) (p : EvP prog w A h₀ Φ cx value X) (n : nb X = true) (hs : ∀ env, env.scope = cx.sc → swapsWith value (some (.Name x px)) pos.line env = pure false) :
    ExecP prog w A h₀ Φ Ψ cx rets (.Assign [.Name x px] value pos) (.assign i X) := by
  intro env wr μ μ₀ ow ρ s f ρ' R hz E Q hQ
  simp only [ex] at hz
  obtain ⟨d, h1, hz⟩ := Option.map_eq_some_iff.mp hz
  cases hz
  refine wpAny_Assign_Name (p env wr μ ow ρ s d R.fr h1 E _ fun v h1 tk1 hx r k => ?_) (hs env R.fr.scope)
  refine (R.fr.ext hx).assign (s := { s with heap := h1, toks := tk1 }) c.st c.name c.set (by unfold Val; rw [if_neg hi]; exact k n) fun a h2 tk2 ha hsb F2 => ?_
  exact hQ .next h2 tk2 μ ow ((R.ext hx).with F2) ((Post.ext hx).trans ((R.ext hx).change ha hsb F2)) trivial

/-- an owned name gets another thing, at a place that is already in μ -/
theorem FrOk.reOwn (F : FrOk prog w cx h₀ env wr μ h ow ρ) {i : Nat} {b : Addr} (hi : i ∈ cx.own) (hm : b ∈ μ) (nl : b ≠ env.locals) (nc : ∀ x, env.cells.lookup x ≠ some b) (nw : ∀ j, ow j ≠ some b) : FrOk prog w cx h₀ env wr μ h (reOwn ow i (some b)) (ρ.set i none) := by
  refine { F with vis := fun j x hx hb => ?_, owned := fun j a ha => ?_ }
  · obtain ⟨o, hs, hv⟩ := F.vis j x hx hb
    refine ⟨o, hs, fun d hd => ?_⟩
    rcases look_set hd with ⟨_, e⟩ | ⟨ne, e⟩
    · cases e
    · obtain ⟨v, h1, h2⟩ := hv d e
      refine ⟨v, h1, ?_⟩
      unfold Val at h2 ⊢
      split
      · rename_i hj
        rw [if_pos hj] at h2
        obtain ⟨a, e1, e2, e3⟩ := h2
        exact ⟨a, by unfold Mine.reOwn; rw [if_neg ne]; exact e1, e2, e3⟩
      · rename_i hj
        rw [if_neg hj] at h2
        exact h2
  · unfold Mine.reOwn at ha
    by_cases e : j = i
    · rw [if_pos e] at ha
      cases ha
      subst e
      refine ⟨hi, hm, nl, nc, fun k hk => ?_⟩
      unfold Mine.reOwn at hk
      by_cases e : k = j
      · exact e
      · rw [if_neg e] at hk; exact absurd hk (nw k)
    · rw [if_neg e] at ha
      obtain ⟨p1, p2, p3, p4, p5⟩ := F.owned j a ha
      refine ⟨p1, p2, p3, p4, fun k hk => ?_⟩
      unfold Mine.reOwn at hk
      by_cases e' : k = i
      · rw [if_pos e'] at hk; cases hk; exact absurd ha (nw j)
      · rw [if_neg e'] at hk; exact p5 k hk

theorem reOwn_post {i : Nat} {b : Addr} {ν : List Addr} (hx : Ext h h') (hb : h.get? b = none) (hν : ∀ a ∈ ν, h.get? a = none) : Post wr μ ow h (ν ++ μ) (reOwn ow i (some b)) h' :=
  ⟨fun a o _ _ e => hx a o e, fun a o n e => ⟨hx a o e, fun hm => (List.mem_append.mp hm).elim (fun q => by rw [hν a q] at e; cases e) n⟩, fun a m _ => .inl (List.mem_append_right _ m), fun j a e => by
    unfold Mine.reOwn at e
    by_cases q : j = i
    · rw [if_pos q] at e; cases e; exact .inr hb
    · rw [if_neg q] at e; exact .inl ⟨j, e⟩, fun a o e => ⟨o, hx a o e⟩⟩

theorem Run.fresh (R : Run prog w cx rets h₀ env wr μ μ₀ h ow ρ) {b : Addr} (hb : h.get? b = none) : b ∉ μ := fun hm => by obtain ⟨o, ho⟩ := R.fr.alive b hm; rw [hb] at ho; cases ho

/-- the frame after a new thing b has come to be the owned i's -/
theorem Run.newOwn (R : Run prog w cx rets h₀ env wr μ μ₀ h ow ρ) {i : Nat} {b : Addr} {ν : List Addr} (hi : i ∈ cx.own) (hr : i ∈ rets) (hx : Ext h h') (hb : h.get? b = none) (hbν : b ∈ ν) (hν : ∀ a ∈ ν, h.get? a = none) (al : Alive h' ν) :
    Run prog w cx rets h₀ env wr (ν ++ μ) μ₀ h' (reOwn ow i (some b)) (ρ.set i none) := by
  have nb := R.fresh hb
  have F1 := R.fr.grow hx hν al
  refine ⟨F1.reOwn hi (List.mem_append_left _ hbν) (fun e => nb (e ▸ R.fr.loc)) (fun x hc => nb (R.fr.cells x b hc).1) (fun j hj => nb (R.fr.owned j b hj).2.1), fun a ha => List.mem_append_right _ (R.sub a ha), fun j a ha hr => ?_, fun j a ha => ?_, fun j a ha => ?_, fun e => by rw [e] at hr; cases hr⟩
  all_goals
    unfold Mine.reOwn at ha
    by_cases q : j = i
    · rw [if_pos q] at ha; cases ha
      first
      | exact fun hm => nb (R.sub _ hm)
      | exact none_back R.fr.top hb
      | exact fun hm => nb (R.fr.wrIn _ hm)
    · rw [if_neg q] at ha
      first
      | exact R.ret j a ha hr
      | exact R.ownNew j a ha
      | exact R.ownWr j a ha

theorem s_own {i : Nat} {x : Str} {px pos : Pos} {value : Expr} {f : F} (c : Can cx i x) (hi : i ∈ cx.own) (hr : i ∈ rets) (p : NewP prog w A h₀ Φ cx value f) (hs : ∀ env, env.scope = cx.sc → swapsWith value (some (.Name x px)) pos.line env = pure false) :
    ExecP prog w A h₀ Φ Ψ cx rets (.Assign [.Name x px] value pos) (.own i f) := by
  intro env wr μ μ₀ ow ρ s fl ρ' R hz E Q hQ
  simp only [ex] at hz
  obtain ⟨d, h1, hz⟩ := Option.map_eq_some_iff.mp hz
  cases hz
  refine wpAny_Assign_Name (p env wr μ ow ρ s d R.fr h1 E _ fun b h1 tk1 hx hb O => ?_) (hs env R.fr.scope)
  have R1 := R.newOwn (ν := [b]) hi hr hx hb List.mem_cons_self (fun a ha => by rw [List.mem_singleton.mp ha]; exact hb) (fun a ha => by rw [List.mem_singleton.mp ha]; exact O.live)
  refine R1.fr.assign (s := { s with heap := h1, toks := tk1 }) c.st c.name c.set (d := d) (by unfold Val; rw [if_pos hi]; exact ⟨b, by unfold Mine.reOwn; rw [if_pos rfl], rfl, O⟩) fun a h2 tk2 ha hsb F2 => ?_
  rw [List.set_set] at F2
  exact hQ .next h2 tk2 _ _ (R1.with F2) ((reOwn_post hx hb (fun a ha => by rw [List.mem_singleton.mp ha]; exact hb)).trans (R1.change ha hsb F2)) trivial

theorem Post.drop {μ1 μ2 : List Addr} {ow1 : Nat → Option Addr} {h2 h3 : Heap} {C : Addr} (P : Post wr μ ow h μ1 ow1 h2) (hs : Heap.SameBut C h2 h3) (hC : h.get? C = none) (h12 : ∀ b ∈ μ1, b = C ∨ b ∈ μ2) (h21 : ∀ b ∈ μ2, b ∈ μ1) : Post wr μ ow h μ2 ow1 h3 := by
  have ne : ∀ b o, h.get? b = some o → b ≠ C := fun b o e q => by rw [q, hC] at e; cases e
  refine ⟨fun b o n m e => hs.extBut b o (ne b o e) (P.kept b o n m e), fun b o n e => ?_, fun b m al => ?_, P.own, fun b o e => ?_⟩
  · obtain ⟨e1, n1⟩ := P.mu b o n e
    exact ⟨hs.extBut b o (ne b o e) e1, fun hm => n1 (h21 b hm)⟩
  · obtain ⟨o, ho⟩ := al
    rcases P.stay b m ⟨o, ho⟩ with q | q
    · rcases h12 b q with q | q
      · exact absurd q (ne b o ho)
      · exact .inl q
    · exact .inr q
  · obtain ⟨o', ho'⟩ := P.live b o e
    exact ⟨o', hs.extBut b o' (ne b o e) ho'⟩

/-! ### comprehensions whose value is stored before their names go -/
noncomputable def swaps (cx : Cx) (value : Expr) (x : Str) (px pos : Pos) : Prop := ∀ env : Env, env.scope = cx.sc → swapsWith value (some (.Name x px)) pos.line env = pure true
/-- what the store does in the midst of a comprehension -/
theorem use_store (R : Run prog w cx rets h₀ env wr μ μ₀ s.heap ow ρ) {i : Nat} {x : Str} {px : Pos} (c : Can cx i x) (hr : i ∈ cx.own → i ∈ rets) {d : D} {b C : Addr} {m : Str → Option Value} {h1 : Heap} {tk1 : Nat} (hx : Ext s.heap h1) (hb : s.heap.get? b = none) (hC : s.heap.get? C = none) (hbC : b ≠ C) (O : Own prog w h1 (b :: C :: μ) b d) (hns : h1.Ns C m) {Q : Flow → Shared → Prop}
    (hQ : ∀ fl h' tk μ' ow', Run prog w cx rets h₀ env wr μ' μ₀ h' ow' (ρ.set i (some d)) → Post wr μ ow s.heap μ' ow' h' → FlOk prog w h' μ₀ .next fl → Q fl { s with heap := h', toks := tk }) :
    compPost (model prog w) A E (some (assign (.Name x px) env)) (fun _ s' => Q .next s') (.ref b) C (.ok .next) { s with heap := h1, toks := tk1 } := by
  show wpAny (model prog w) A (assign (.Name x px) env (.ref b)) _ E _
  obtain ⟨oC, hoC⟩ : ∃ o, h1.get? C = some o := let ⟨o, _, _, ho, _⟩ := hns; ⟨o, ho⟩
  have nC := R.fresh hC
  have nb := R.fresh hb
  have fin : ∀ (ν : List Addr) (ow1 : Nat → Option Addr) (ρ1 : Rho), (∀ a ∈ ν, s.heap.get? a = none ∧ a ≠ C) → ρ1.set i (some d) = ρ.set i (some d) → Run prog w cx rets h₀ env wr ((C :: ν) ++ μ) μ₀ h1 ow1 ρ1 → Val prog w cx h1 ((C :: ν) ++ μ) ow1 i (.ref b) d → Post wr μ ow s.heap ((C :: ν) ++ μ) ow1 h1 → (∀ j, ow1 j ≠ some C) →
      wpAny (model prog w) A (assign (.Name x px) env (.ref b)) (fun _ s'' => ∃ m, s''.heap.Ns C m ∧ ∀ h', Heap.SameBut C s''.heap h' → Q .next { s'' with heap := h' }) E { s with heap := h1, toks := tk1 } := by
    intro ν ow1 ρ1 hν hρ R1 hv P1 nowC
    refine wpAny_assign_Name (R1.fr.assign (s := { s with heap := h1, toks := tk1 }) c.st c.name c.set hv fun a h2 tk2 ha hsb F2 => ?_)
    rw [hρ] at F2
    have haC : a ≠ C := fun e => nC (e ▸ R.fr.wrIn a ha)
    refine ⟨m, hns.sameBut hsb (Ne.symm haC), fun h3 hs3 => ?_⟩
    have hs3' : Heap.SameBut C h2 h3 := hs3
    have notC : ∀ a, a ∈ (C :: ν) ++ μ → a ≠ C → a ∈ ν ++ μ := fun a hm ne => (List.mem_cons.mp hm).elim (fun e => absurd e ne) id
    have F3 : FrOk prog w cx h₀ env wr (ν ++ μ) h3 ow1 (ρ.set i (some d)) := by
      have k : ∀ b o, b ≠ C → h2.get? b = some o → h3.get? b = some o := fun b o hb e => hs3'.extBut b o hb e
      refine F2.move (fun b ob n e => ⟨k b ob (fun q => n (by rw [q]; exact .head _)) e, fun hm => n (.tail _ hm)⟩) (fun b o e => k b o (fun q => by rw [q, none_back R.fr.top hC] at e; cases e) (F2.top b o e)) (fun o e => k _ o (fun q => nC (q ▸ R.fr.loc)) e)
        (fun x c hc o e => k c o (fun q => nC (q ▸ (R.fr.cells x c hc).1)) e) (fun j a hj o e => k a o (fun q => nowC j (q ▸ hj)) e) (notC _ F2.loc fun q => nC (q ▸ R.fr.loc)) (fun x c hc => notC _ (F2.cells x c hc).1 fun q => nC (q ▸ (R.fr.cells x c hc).1)) (fun a ha => notC _ (F2.wrIn a ha) fun q => nC (q ▸ R.fr.wrIn a ha)) (fun j a hj => notC _ (F2.owned j a hj).2.1 fun q => nowC j (q ▸ hj)) fun a hm => ?_
      obtain ⟨o, ho⟩ := F2.alive a (.tail _ hm)
      refine ⟨o, k a o (fun q => ?_) ho⟩
      rcases List.mem_append.mp hm with z | z
      · exact (hν a z).2 q
      · exact nC (q ▸ z)
    refine hQ .next h3 tk2 (ν ++ μ) ow1 ⟨F3, fun a ha => List.mem_append_right _ (R.sub a ha), R1.ret, R1.ownNew, R1.ownWr, R1.base⟩ ?_ trivial
    exact (P1.trans (R1.change ha hsb F2)).drop hs3' hC (fun a hm => (List.mem_cons.mp hm)) fun a hm => .tail _ hm
  by_cases hi : i ∈ cx.own
  · have hν : ∀ a ∈ [C, b], s.heap.get? a = none := fun a ha => by
      rcases List.mem_cons.mp ha with e | ha
      · rw [e]; exact hC
      · rw [List.mem_singleton.mp ha]; exact hb
    have O' : Own prog w h1 ([C, b] ++ μ) b d := O.move (fun _ e => e) fun a ob n e => ⟨e, fun hm => n (by
      rcases List.mem_cons.mp hm with q | q
      · rw [q]; exact .tail _ (.head _)
      · rcases List.mem_cons.mp q with q | q
        · rw [q]; exact .head _
        · exact .tail _ (.tail _ q))⟩
    refine fin [b] (reOwn ow i (some b)) (ρ.set i none) (fun a ha => by rw [List.mem_singleton.mp ha]; exact ⟨hb, hbC⟩) (List.set_set ..) (R.newOwn (ν := [C, b]) hi (hr hi) hx hb (.tail _ (.head _)) hν fun a ha => ?_) ?_ (reOwn_post (ν := [C, b]) hx hb hν) fun j hj => ?_
    · rcases List.mem_cons.mp ha with e | ha
      · rw [e]; exact ⟨oC, hoC⟩
      · rw [List.mem_singleton.mp ha]; exact O.live
    · unfold Val; rw [if_pos hi]; exact ⟨b, by unfold Mine.reOwn; rw [if_pos rfl], rfl, O'⟩
    · unfold Mine.reOwn at hj
      by_cases q : j = i
      · rw [if_pos q] at hj; cases hj; exact hbC rfl
      · rw [if_neg q] at hj; exact nC (R.fr.owned j C hj).2.1
  · have F1 : FrOk prog w cx h₀ env wr ([C] ++ μ) h1 ow ρ := R.fr.grow (ν := [C]) hx (fun a ha => by rw [List.mem_singleton.mp ha]; exact hC) (fun a ha => by rw [List.mem_singleton.mp ha]; exact ⟨oC, hoC⟩)
    refine fin [] ow ρ (fun a ha => nomatch ha) rfl ⟨F1, fun a ha => List.mem_append_right _ (R.sub a ha), R.ret, R.ownNew, R.ownWr, R.base⟩ ?_ ?_ fun j hj => nC (R.fr.owned j C hj).2.1
    · unfold Val; rw [if_neg hi]
      exact O.rep (fun hm => (List.mem_cons.mp hm).elim hbC nb) fun a n hm => n (.tail _ hm)
    · exact ⟨fun a o _ _ e => hx a o e, fun a o n e => ⟨hx a o e, fun hm => (List.mem_cons.mp hm).elim (fun q => by rw [q, hC] at e; cases e) n⟩, fun a m _ => .inl (.tail _ m), fun j a e => .inl ⟨j, e⟩, fun a o e => ⟨o, hx a o e⟩⟩
end
end Mine
end
section
open PySem PySem.W PyProof.Rows PySem.Calls
set_option maxRecDepth 100000
namespace Mine
section
variable {prog : Program} {w : World} {A : Around} {fnAt : Nat → Option (Str × Addr)} {h₀ : Heap} {Φ Ψ : Nat → List D → Option D} {cx : Cx} {rets : List Nat}
variable {E : Value → Shared → Prop} {s : Shared} {env : Env} {wr μ μ₀ : List Addr} {ow : Nat → Option Addr} {ρ ρ' : Rho} {h h' : Heap}

theorem use_list (B : Amb prog w A fnAt h₀ Φ) {elt : Expr} {g : Comprehension} {gs : List Comprehension} {scope : Scope} {ex : X} {i : Nat} {it0 : I} {ts : Ts} {r : Gs} {px p1 pos : Pos} {j : Nat} {x : Str} {d : D} (P : ListCompP prog w A h₀ Φ cx elt g gs scope ex i it0 ts r) (c : Can cx j x) (hr : j ∈ cx.own → j ∈ rets)
    (hs : swaps cx (.ListComp elt (g :: gs) scope p1) x px pos) (R : Run prog w cx rets h₀ env wr μ μ₀ s.heap ow ρ) (hz : evF Φ (.comp ex (.cons i it0 ts r)) ρ = some d) {Q : Flow → Shared → Prop}
    (hQ : ∀ fl h' tk μ' ow', Run prog w cx rets h₀ env wr μ' μ₀ h' ow' (ρ.set j (some d)) → Post wr μ ow s.heap μ' ow' h' → FlOk prog w h' μ₀ .next fl → Q fl { s with heap := h', toks := tk }) : wpAny (model prog w) A (exec (.Assign [.Name x px] (.ListComp elt (g :: gs) scope p1) pos) env) Q E s := by
  rw [exec_Assign_Name_used _ _ _ _ (hs env R.fr.scope)]
  refine wpAny_bind (wpAny_standAt (wpAny_bind ?_))
  have hns : firstAsync (g :: gs) = false := by
    have := P.first.sync
    cases g; dsimp only at this; show (_ != 0) = false; rw [this]; rfl
  have hfi : firstIter (g :: gs) env = eval g.iter env := by cases g; rfl
  show wpAny _ A (do let _ ← comprehension (.ListComp elt (g :: gs) scope p1) scope env (firstIterPos (g :: gs) p1) (newList []) (firstAsync (g :: gs)) (firstIter (g :: gs) env) (some (assign (.Name x px) env))) _ _ s
  rw [hns, hfi]
  exact wpAny_bind (wpAny_mono (comp_list B (use := some (assign (.Name x px) env)) (Q := fun _ s' => Q .next s') P R.fr hz fun b h' tk C m hx hb hC hbC O hn => use_store R c hr hx hb hC hbC O hn hQ) (fun _ _ q => wpAny_pure (wpAny_pure q)) fun _ _ e => e)
theorem use_dict (B : Amb prog w A fnAt h₀ Φ) {kx vx : Expr} {g : Comprehension} {scope : Scope} {k v : X} {i : Nat} {it0 : I} {px p1 pos : Pos} {j : Nat} {x : Str} {d : D} (P : DictCompP prog w A h₀ Φ cx kx vx g scope k v i it0) (c : Can cx j x) (hr : j ∈ cx.own → j ∈ rets)
    (hs : swaps cx (.DictComp kx vx [g] scope p1) x px pos) (R : Run prog w cx rets h₀ env wr μ μ₀ s.heap ow ρ) (hz : evF Φ (.dcomp k v i it0) ρ = some d) {Q : Flow → Shared → Prop}
    (hQ : ∀ fl h' tk μ' ow', Run prog w cx rets h₀ env wr μ' μ₀ h' ow' (ρ.set j (some d)) → Post wr μ ow s.heap μ' ow' h' → FlOk prog w h' μ₀ .next fl → Q fl { s with heap := h', toks := tk }) : wpAny (model prog w) A (exec (.Assign [.Name x px] (.DictComp kx vx [g] scope p1) pos) env) Q E s := by
  rw [exec_Assign_Name_used _ _ _ _ (hs env R.fr.scope)]
  refine wpAny_bind (wpAny_standAt (wpAny_bind ?_))
  have hns : firstAsync [g] = false := by
    have := P.first.sync
    cases g; dsimp only at this; show (_ != 0) = false; rw [this]; rfl
  have hfi : firstIter [g] env = eval g.iter env := by cases g; rfl
  show wpAny _ A (do let _ ← comprehension (.DictComp kx vx [g] scope p1) scope env (firstIterPos [g] p1) newDict (firstAsync [g]) (firstIter [g] env) (some (assign (.Name x px) env))) _ _ s
  rw [hns, hfi]
  exact wpAny_bind (wpAny_mono (comp_dict B (use := some (assign (.Name x px) env)) (Q := fun _ s' => Q .next s') P R.fr hz fun b h' tk C m hx hb hC hbC O hn => use_store R c hr hx hb hC hbC O hn hQ) (fun _ _ q => wpAny_pure (wpAny_pure q)) fun _ _ e => e)

theorem s_useL (B : Amb prog w A fnAt h₀ Φ) {elt : Expr} {g : Comprehension} {gs : List Comprehension} {scope : Scope} {ex : X} {i : Nat} {it0 : I} {ts : Ts} {r : Gs} {px p1 pos : Pos} {j : Nat} {x : Str} (c : Can cx j x) (hr : j ∈ cx.own → j ∈ rets) (P : ListCompP prog w A h₀ Φ cx elt g gs scope ex i it0 ts r)
    (hs : swaps cx (.ListComp elt (g :: gs) scope p1) x px pos) : ExecP prog w A h₀ Φ Ψ cx rets (.Assign [.Name x px] (.ListComp elt (g :: gs) scope p1) pos) (.assign j (.new (.comp ex (.cons i it0 ts r)))) := by
  intro env wr μ μ₀ ow ρ s f ρ' R hz E Q hQ
  simp only [Mine.ex, ev] at hz
  obtain ⟨d, h1, hz⟩ := Option.map_eq_some_iff.mp hz
  cases hz
  exact use_list B P c hr hs R h1 hQ
theorem s_useLo (B : Amb prog w A fnAt h₀ Φ) {elt : Expr} {g : Comprehension} {gs : List Comprehension} {scope : Scope} {ex : X} {i : Nat} {it0 : I} {ts : Ts} {r : Gs} {px p1 pos : Pos} {j : Nat} {x : Str} (c : Can cx j x) (hr : j ∈ cx.own → j ∈ rets) (P : ListCompP prog w A h₀ Φ cx elt g gs scope ex i it0 ts r)
    (hs : swaps cx (.ListComp elt (g :: gs) scope p1) x px pos) : ExecP prog w A h₀ Φ Ψ cx rets (.Assign [.Name x px] (.ListComp elt (g :: gs) scope p1) pos) (.own j (.comp ex (.cons i it0 ts r))) := by
  intro env wr μ μ₀ ow ρ s f ρ' R hz E Q hQ
  simp only [Mine.ex] at hz
  obtain ⟨d, h1, hz⟩ := Option.map_eq_some_iff.mp hz
  cases hz
  exact use_list B P c hr hs R h1 hQ
theorem s_useD (B : Amb prog w A fnAt h₀ Φ) {kx vx : Expr} {g : Comprehension} {scope : Scope} {k v : X} {i : Nat} {it0 : I} {px p1 pos : Pos} {j : Nat} {x : Str} (c : Can cx j x) (hr : j ∈ cx.own → j ∈ rets) (P : DictCompP prog w A h₀ Φ cx kx vx g scope k v i it0)
    (hs : swaps cx (.DictComp kx vx [g] scope p1) x px pos) : ExecP prog w A h₀ Φ Ψ cx rets (.Assign [.Name x px] (.DictComp kx vx [g] scope p1) pos) (.assign j (.new (.dcomp k v i it0))) := by
  intro env wr μ μ₀ ow ρ s f ρ' R hz E Q hQ
  simp only [Mine.ex, ev] at hz
  obtain ⟨d, h1, hz⟩ := Option.map_eq_some_iff.mp hz
  cases hz
  exact use_dict B P c hr hs R h1 hQ

/-! ### more than one name -/
noncomputable def NamesOk (cx : Cx) : List Nat → List Expr → Prop
  | [], [] => True
  | i :: is, .Name x _ :: es => Can cx i x ∧ i ∉ cx.own ∧ NamesOk cx is es
  | _, _ => False
theorem names_each : ∀ (is : List Nat) (es : List Expr), NamesOk cx is es → (assignEach es env).length = is.length ∧ (assignEach es env).findIdx? (·.1) = none
  | [], [], _ => ⟨rfl, rfl⟩
  | i :: is, e :: es, h => by
    cases e <;> first | exact h.elim | skip
    obtain ⟨h1, h2⟩ := names_each is es h.2.2
    refine ⟨congrArg (· + 1) h1, ?_⟩
    show List.findIdx? (·.1) ((false, _) :: assignEach es env) = none
    rw [List.findIdx?_cons]
    simp [h2]
  | [], _ :: _, h => h.elim
  | _ :: _, [], h => h.elim

theorem assign_all : ∀ (is : List Nat) (es : List Expr), NamesOk cx is es → ∀ (s : Shared) (ρ ρ' : Rho) (vs : List Value) (l : List D) (E : Value → Shared → Prop) (Q : Unit → Shared → Prop), Run prog w cx rets h₀ env wr μ μ₀ s.heap ow ρ → Reps prog w s.heap μ vs l → setAll is l ρ = some ρ' →
    (∀ h' tk, Run prog w cx rets h₀ env wr μ μ₀ h' ow ρ' → Post wr μ ow s.heap μ ow h' → Q () { s with heap := h', toks := tk }) → wpAny (model prog w) A (assignInOrder ((assignEach es env).map (·.2)) vs) Q E s
  | [], [], _, s, ρ, ρ', vs, l, E, Q, R, r, hz, hQ => by
    cases r with
    | nil => simp only [setAll, Option.some.injEq] at hz; subst hz; exact wpAny_pure (hQ s.heap s.toks R (Post.refl _ _ _ _))
    | cons _ _ => simp [setAll] at hz
  | i :: is, e :: es, h, s, ρ, ρ', vs, l, E, Q, R, r, hz, hQ => by
    cases e <;> first | exact h.elim | skip
    rename_i x px
    cases r with
    | nil => simp [setAll] at hz
    | cons rv rs =>
      simp only [setAll] at hz
      refine wpAny_assignInOrder_more ?_
      show wpAny (model prog w) A (assign (.Name x px) env _) _ E s
      refine wpAny_assign_Name (R.fr.assign h.1.st h.1.name h.1.set (by unfold Val; rw [if_neg h.2.1]; exact rv) fun a h1 tk1 ha hs F1 => ?_)
      exact assign_all is es h.2.2 { s with heap := h1, toks := tk1 } _ ρ' _ _ E Q (R.with F1) (sameBut_reps hs (R.fr.wrIn a ha) rs) hz fun h' tk R' P' => hQ h' tk R' ((R.change ha hs F1).trans P')
  | [], _ :: _, h, _, _, _, _, _, _, _, _, _, _, _ => h.elim
  | _ :: _, [], h, _, _, _, _, _, _, _, _, _, _, _ => h.elim

theorem setAll_len : ∀ (is : List Nat) (l : List D) (ρ ρ' : Rho), setAll is l ρ = some ρ' → is.length = l.length
  | [], [], _, _, _ => rfl
  | i :: is, d :: l, ρ, ρ', h => by simp only [setAll] at h; exact congrArg (· + 1) (setAll_len is l _ ρ' h)
  | [], _ :: _, _, _, h => by simp [setAll] at h
  | _ :: _, [], _, _, h => by simp [setAll] at h

/-- the tuple at a place is taken apart into names -/
theorem assign_tuple (hA : A.handled = none) {is : List Nat} {es : List Expr} {k : Nat} {tpos : Pos} {v : Value} {l : List D} {Q : Unit → Shared → Prop} (hn : NamesOk cx is es) (R : Run prog w cx rets h₀ env wr μ μ₀ s.heap ow ρ) (r : Rep prog w s.heap μ v (.tup l)) (hz : setAll is l ρ = some ρ')
    (hQ : ∀ h' tk, Run prog w cx rets h₀ env wr μ μ₀ h' ow ρ' → Post wr μ ow s.heap μ ow h' → Q () { s with heap := h', toks := tk }) : wpAny (model prog w) A (assign (.Tuple es k tpos) env v) Q E s := by
  cases r with
  | tup q n rs =>
    obtain ⟨e1, e2⟩ := names_each (env := env) is es hn
    have hl := rs.length
    have hl2 := setAll_len is l ρ ρ' hz
    refine wpAny_assign_Tuple hA q (by rw [e1, hl2, ← hl]; simp) e2 fun h1 hx => ?_
    have hx1 : Ext s.heap h1 := fun b o e => hx b o (Nat.ne_of_lt (Heap.lt_size e)) e
    exact assign_all is es hn { s with heap := h1 } ρ ρ' _ l E Q (R.ext hx1) (rs.keep hx1) hz fun h' tk R' P' => hQ h' tk R' ((Post.ext hx1).trans P')

theorem s_unpack (hA : A.handled = none) {is : List Nat} {es : List Expr} {k : Nat} {tpos pos : Pos} {value : Expr} {X : Mine.X} (hn : NamesOk cx is es) (p : EvP prog w A h₀ Φ cx value X) (n : nb X = true) (hs : ∀ env, swapsWithSole [.Tuple es k tpos] value pos.line env = pure false) (hw : ∀ env, swappedStores [.Tuple es k tpos] value env = pure none) :
    ExecP prog w A h₀ Φ Ψ cx rets (.Assign [.Tuple es k tpos] value pos) (.unpack is X) := by
  intro env wr μ μ₀ ow ρ s f ρ' R hz E Q hQ
  simp only [ex] at hz
  obtain ⟨d, h1, hz⟩ := Option.bind_eq_some_iff.mp hz
  split at hz
  case h_2 => cases hz
  rename_i l
  obtain ⟨ρ1, h2, hz⟩ := Option.map_eq_some_iff.mp hz
  cases hz
  refine Assign_Tuple (p env wr μ ow ρ s _ R.fr h1 E _ fun v h1 tk1 hx _ kr => ?_) (hs env) (hw env)
  exact assign_tuple hA hn (R.ext hx) (kr n) h2 fun h' tk R' P' => hQ .next h' tk μ ow R' ((Post.ext hx).trans P') trivial
theorem s_two {i j : Nat} {x y : Str} {px py pos : Pos} {value : Expr} {X : Mine.X} (ci : Can cx i x) (cj : Can cx j y) (hi : i ∉ cx.own) (hj : j ∉ cx.own) (p : EvP prog w A h₀ Φ cx value X) (n : nb X = true) (hw : ∀ env, swappedStores [.Name x px, .Name y py] value env = pure none) :
    ExecP prog w A h₀ Φ Ψ cx rets (.Assign [.Name x px, .Name y py] value pos) (.two i j X) := by
  intro env wr μ μ₀ ow ρ s f ρ' R hz E Q hQ
  simp only [ex] at hz
  obtain ⟨d, h1, hz⟩ := Option.map_eq_some_iff.mp hz
  cases hz
  refine wpAny_Assign_two (p env wr μ ow ρ s _ R.fr h1 E _ fun v h1 tk1 hx _ kr => ?_) rfl (hw env)
  have R1 := R.ext hx
  refine wpAny_assign_Name (R1.fr.assign (s := { s with heap := h1, toks := tk1 }) ci.st ci.name ci.set (by unfold Val; rw [if_neg hi]; exact kr n) fun a h2 tk2 ha hsb F2 => ?_)
  have R2 := R1.with F2
  refine wpAny_assign_Name (R2.fr.assign (s := { s with heap := h2, toks := tk2 }) cj.st cj.name cj.set (by unfold Val; rw [if_neg hj]; exact sameBut_rep hsb (R.fr.wrIn a ha) (kr n)) fun a2 h3 tk3 ha2 hsb2 F3 => ?_)
  exact hQ .next h3 tk3 μ ow (R2.with F3) ((Post.ext hx).trans ((R1.change ha hsb F2).trans (R2.change ha2 hsb2 F3))) trivial
theorem s_swap (hA : A.handled = none) {i j : Nat} {x y : Str} {e1 e2 : Expr} {es : List Expr} {k k2 : Nat} {tpos vpos pos : Pos} {X Y : Mine.X} (ci : Can cx i x) (cj : Can cx j y) (hi : i ∉ cx.own) (hj : j ∉ cx.own) (hij : i ≠ j) (p1 : EvP prog w A h₀ Φ cx e1 X) (p2 : EvP prog w A h₀ Φ cx e2 Y) (n1 : nb X = true) (n2 : nb Y = true) (hp1 : plainE e1) (hp2 : plainE e2)
    (hs : ∀ env, swapsWithSole [.Tuple es k tpos] (.Tuple [e1, e2] k2 vpos) pos.line env = pure false) (hw : ∀ env, env.scope = cx.sc → swappedStores [.Tuple es k tpos] (.Tuple [e1, e2] k2 vpos) env = pure (some [x, y])) :
    ExecP prog w A h₀ Φ Ψ cx rets (.Assign [.Tuple es k tpos] (.Tuple [e1, e2] k2 vpos) pos) (.swap i j X Y) := by
  intro env wr μ μ₀ ow ρ s f ρ' R hz E Q hQ
  simp only [ex] at hz
  obtain ⟨d1, h1, hz⟩ := Option.bind_eq_some_iff.mp hz
  obtain ⟨d2, h2, hz⟩ := Option.map_eq_some_iff.mp hz
  cases hz
  have pt : EvP prog w A h₀ Φ cx (.Tuple [e1, e2] k2 vpos) (.tup (.cons X (.cons Y .nil))) := p_tup (by simpa using ⟨hp1, hp2⟩) (l_cons p1 n1 (l_cons p2 n2 l_nil))
  have ht : ev Φ (.tup (.cons X (.cons Y .nil))) ρ = some (.tup [d1, d2]) := by simp [ev, evs, h1, h2]
  refine Assign_Tuple_swapped (names := [x, y]) (pt env wr μ ow ρ s _ R.fr ht E _ fun v h1 tk1 hx _ kr => ?_) (hs env) (hw env R.fr.scope)
  have := kr rfl
  cases this with
  | @tup a vs _ q nn rs =>
    have hl : vs.size = 2 := by simpa using rs.length
    have hu := wpAny_unpackItems_tuple (prog := prog) (w := w) (A := A) (E := E) (s := { s with heap := h1, toks := tk1 }) hA q (Q := fun items s₂ => wpAny (model prog w) A (assignInOrder ([x, y].reverse.map fun n => bindName env n) items.reverse) (fun _ => Q .next) E s₂)
    rw [hl] at hu
    refine hu fun h2 hx2 => ?_
    have hx2' : Ext h1 h2 := fun b o e => hx2 b o (Nat.ne_of_lt (Heap.lt_size e)) e
    have rs2 := rs.keep hx2'
    generalize hvs : vs.toList = L at rs2
    cases rs2 with
    | cons ra rb =>
      cases rb with
      | cons rb rc =>
        cases rc
        have R1 := R.ext (hx.trans hx2')
        show wpAny _ _ (assignInOrder [bindName env y, bindName env x] [_, _]) _ _ _
        refine wpAny_assignInOrder_more (bindName_ (R1.fr.assign (s := { s with heap := h2, toks := tk1 }) cj.st cj.name cj.set (by unfold Val; rw [if_neg hj]; exact rb) fun a h3 tk3 ha hsb F3 => ?_))
        have R3 := R1.with F3
        refine wpAny_assignInOrder_more (bindName_ (R3.fr.assign (s := { s with heap := h3, toks := tk3 }) ci.st ci.name ci.set (by unfold Val; rw [if_neg hi]; exact sameBut_rep hsb (R.fr.wrIn a ha) ra) fun a2 h4 tk4 ha2 hsb2 F4 => ?_))
        refine wpAny_pure (hQ .next h4 tk4 μ ow ((R3.with F4).with ?_) ((Post.ext (hx.trans hx2')).trans ((R1.change ha hsb F3).trans (R3.change ha2 hsb2 F4))) trivial)
        rw [List.set_comm _ _ (Ne.symm hij)] at F4
        exact F4
end
end Mine
end
section
open PySem PySem.W PyProof.Rows PySem.Calls
set_option maxRecDepth 100000
namespace Mine
section
variable {prog : Program} {w : World} {A : Around} {fnAt : Nat → Option (Str × Addr)} {h₀ : Heap} {Φ Ψ : Nat → List D → Option D} {cx : Cx} {rets : List Nat}
variable {E : Value → Shared → Prop} {s : Shared} {env : Env} {wr μ μ₀ : List Addr} {ow : Nat → Option Addr} {ρ ρ' : Rho} {h h' : Heap}

/-- an owned name's thing turns into another, at its own address -/
theorem FrOk.turnE (F : FrOk prog w cx h₀ env wr μ h ow ρ) {i : Nat} {a : Addr} {d : D} (ho : ow i = some a) (hn : h₀.get? a = none) (hs : ∀ b o, b ≠ a → h.get? b = some o → h'.get? b = some o) (hO : Own prog w h' μ a d) (hlen : ∃ d0, look ρ i = some d0) : FrOk prog w cx h₀ env wr μ h' ow (ρ.set i (some d)) := by
  obtain ⟨hown, haμ, n1, n2, huniq⟩ := F.owned i a ho
  have mv : ∀ b ob, b ∉ μ → h.get? b = some ob → h'.get? b = some ob ∧ b ∉ μ := fun b ob n e => ⟨hs b ob (fun q => n (q ▸ haμ)) e, n⟩
  refine { F with locNs := (let ⟨m, hm⟩ := F.locNs; ⟨m, hm.at' fun o q => hs _ o (Ne.symm n1) q⟩), top := fun b ob e => hs b ob (fun q => ?_) (F.top b ob e), vis := fun j y hy hb => ?_, alive := fun b hb => ?_ }
  · rw [q, hn] at e; cases e
  · obtain ⟨o, hsl, hv⟩ := F.vis j y hy hb
    refine ⟨o, ?_, fun d' hd => ?_⟩
    · rcases hsl with ⟨k, m, hns, hm⟩ | ⟨k, c, hc, hcell⟩
      · exact .inl ⟨k, m, hns.at' (fun o q => hs _ o (Ne.symm n1) q), hm⟩
      · exact .inr ⟨k, c, hc, (let ⟨ob, hob, hd⟩ := hcell; ⟨ob, hs _ _ (fun e => n2 y (e ▸ hc)) hob, hd⟩)⟩
    · rcases look_set hd with ⟨e, e2⟩ | ⟨ne, e⟩
      · subst e
        cases e2
        obtain ⟨d0, hd0⟩ := hlen
        obtain ⟨v, h1, h2⟩ := hv d0 hd0
        unfold Val at h2
        rw [if_pos hown] at h2
        obtain ⟨a', e1, e2, _⟩ := h2
        rw [ho] at e1; cases e1
        refine ⟨v, h1, ?_⟩
        unfold Val
        rw [if_pos hown]
        exact ⟨a, ho, e2, hO⟩
      · obtain ⟨v, h1, h2⟩ := hv d' e
        refine ⟨v, h1, ?_⟩
        unfold Val at *
        split
        · rename_i hi
          rw [if_pos hi] at h2
          obtain ⟨b, e1, e2, e3⟩ := h2
          refine ⟨b, e1, e2, e3.move (fun ob q => hs b ob (fun q2 => ?_) q) mv⟩
          subst q2
          exact ne (huniq j e1)
        · rename_i hi
          rw [if_neg hi] at h2
          exact h2.move mv
  · obtain ⟨ob, hob⟩ := F.alive b hb
    by_cases e : b = a
    · subst e; exact hO.live
    · exact ⟨ob, hs b ob e hob⟩

/-- a name that bears, read -/
structure Has (cx : Cx) (i : Nat) (x : Str) : Prop where
  name : cx.names[i]? = some x
  bears : bears cx.sc x = true
  good : goodName x = true

theorem own_name (F : FrOk prog w cx h₀ env wr μ s.heap ow ρ) {i : Nat} {x : Str} {pos : Pos} {d : D} (c : Has cx i x) (hi : i ∈ cx.own) (hl : look ρ i = some d) {Q : Value → Shared → Prop} (h : ∀ a, ow i = some a → Own prog w s.heap μ a d → Q (.ref a) s) : wpAny (model prog w) A (eval (.Name x pos) env) Q E s :=
  ev_name F c.name c.bears (goodName_spec c.good).1 (goodName_spec c.good).2 hl fun v hv => by
    unfold Val at hv
    rw [if_pos hi] at hv
    obtain ⟨a, e1, rfl, O⟩ := hv
    exact h a e1 O

theorem Run.turn (R : Run prog w cx rets h₀ env wr μ μ₀ h ow ρ) {i : Nat} {a : Addr} {d d0 : D} (ho : ow i = some a) (hs : Heap.SameBut a h h') (hO : Own prog w h' μ a d) (hl : look ρ i = some d0) :
    Run prog w cx rets h₀ env wr μ μ₀ h' ow (ρ.set i (some d)) ∧ Post wr μ ow h μ ow h' :=
  ⟨R.with (R.fr.turn ho (R.ownNew i a ho) hs hO ⟨d0, hl⟩), Post.change hs hO.live (R.fr.owned i a ho).2.1 (.inr ⟨i, ho⟩)⟩

theorem s_setAt {i : Nat} {x : Str} {px p1 pos : Pos} {ek value : Expr} {k v : Mine.X} (c : Has cx i x) (hi : i ∈ cx.own) (pk : EvP prog w A h₀ Φ cx ek k) (pv : EvP prog w A h₀ Φ cx value v) (nv : nb v = true)
    (hs : ∀ env, swapsWith value (some (.Subscript (.Name x px) ek p1)) pos.line env = pure false) : ExecP prog w A h₀ Φ Ψ cx rets (.Assign [.Subscript (.Name x px) ek p1] value pos) (.setAt i k v) := by
  intro env wr μ μ₀ ow ρ s f ρ' R hz E Q hQ
  simp only [ex] at hz
  obtain ⟨y, h1, hz⟩ := Option.bind_eq_some_iff.mp hz
  obtain ⟨l, h2, hz⟩ := Option.bind_eq_some_iff.mp hz
  obtain ⟨kd, h3, hz⟩ := Option.bind_eq_some_iff.mp hz
  obtain ⟨l', h4, hz⟩ := Option.map_eq_some_iff.mp hz
  cases hz
  refine wpAny_Assign_Subscript (pv env wr μ ow ρ s y R.fr h1 E _ fun v1 ha ta xa _ k1 => own_name (s := { s with heap := ha, toks := ta }) (R.fr.ext xa) c hi h2 fun a ho O => pk env wr μ ow ρ _ kd (R.fr.ext xa) h3 E _ fun v2 hb tb xb r2 _ => ?_) (hs env)
  refine op_store (s := { s with heap := hb, toks := tb }) h4 (R.fr.owned i a ho).2.1 (O.ext xb) r2 ((k1 nv).keep xb) fun h5 t5 O5 hs5 => ?_
  obtain ⟨R5, P5⟩ := (R.ext (xa.trans xb)).turn ho hs5 O5 h2
  exact hQ .next h5 t5 μ ow R5 ((Post.ext (xa.trans xb)).trans P5) trivial

theorem op_aug {op : BOp} {x y z : D} {a b : Value} {Q : Value → Shared → Prop} (hz : augD op x y = some z) (ra : RepB prog w s.heap μ a x) (rb : RepB prog w s.heap μ b y) (hQ : Res prog w μ z Q s) : wpAny (model prog w) A (inplaceOp (opB op) a b) Q E s := by
  cases op with
  | add => obtain ⟨i, j, rfl, rfl, hz⟩ := arith_inv hz; cases hz; obtain ⟨t, rfl⟩ := ra.intI; obtain ⟨u, rfl⟩ := rb.intI; exact PySem.AutoIntOps.iadd_0 hQ.int
  | sub => obtain ⟨i, j, rfl, rfl, hz⟩ := arith_inv hz; cases hz; obtain ⟨t, rfl⟩ := ra.intI; obtain ⟨u, rfl⟩ := rb.intI; exact PySem.AutoIntOps.isub_0 hQ.int
  | _ => exact nomatch hz

theorem s_aug {i : Nat} {x : Str} {px pos : Pos} {value : Expr} {op : BOp} {X : Mine.X} (c : Can cx i x) (hg : goodName x = true) (hi : i ∉ cx.own) (p : EvP prog w A h₀ Φ cx value X) : ExecP prog w A h₀ Φ Ψ cx rets (.AugAssign (.Name x px) (opB op) value pos) (.aug i op X) := by
  intro env wr μ μ₀ ow ρ s f ρ' R hz E Q hQ
  simp only [ex] at hz
  obtain ⟨a, h1, hz⟩ := Option.bind_eq_some_iff.mp hz
  obtain ⟨b, h2, hz⟩ := Option.bind_eq_some_iff.mp hz
  obtain ⟨d, h3, hz⟩ := Option.map_eq_some_iff.mp hz
  cases hz
  obtain ⟨o, hsl, hv⟩ := R.fr.vis i x c.name c.bears
  obtain ⟨v, rfl, hval⟩ := hv a h1
  refine wpAny_AugAssign_Name (load_slot (by rw [R.fr.scope]; exact R.fr.kind) hsl (p env wr μ ow ρ s b R.fr h2 E _ fun v1 ha ta xa r1 _ => ?_) (goodName_spec hg).2)
  refine op_aug (s := { s with heap := ha, toks := ta }) h3 (hval.repB.ext xa) r1 fun v2 hb tb xb r2 => ?_
  have R2 := R.ext (xa.trans xb)
  refine R2.fr.assign (s := { s with heap := hb, toks := tb }) c.st c.name c.set (by unfold Val; rw [if_neg hi]; exact r2) fun a h4 tk4 haw hsb F4 => ?_
  exact hQ .next h4 tk4 μ ow (R2.with F4) ((Post.ext (xa.trans xb)).trans (R2.change haw hsb F4)) trivial

theorem item_get {o i : Value} {Q : Value → Shared → Prop} (h : Item prog w A E s o i Q) : wpAny (model prog w) A (getItem o i) Q E s := let ⟨_, _, _, _, h⟩ := h; h
theorem s_augAt {i : Nat} {x : Str} {px p1 pos : Pos} {ek value : Expr} {op : BOp} {k X : Mine.X} (c : Has cx i x) (hi : i ∈ cx.own) (pk : EvP prog w A h₀ Φ cx ek k) (nk : nb k = true) (p : EvP prog w A h₀ Φ cx value X)
    (ha : ∀ ov iv new, augStore ek ov iv new = (do holding [new, ov, iv] (setItem ov iv new); release [new, ov, iv] []; pure .next)) : ExecP prog w A h₀ Φ Ψ cx rets (.AugAssign (.Subscript (.Name x px) ek p1) (opB op) value pos) (.augAt i k op X) := by
  intro env wr μ μ₀ ow ρ s f ρ' R hz E Q hQ
  simp only [ex] at hz
  obtain ⟨l, h1, hz⟩ := Option.bind_eq_some_iff.mp hz
  obtain ⟨kd, h2, hz⟩ := Option.bind_eq_some_iff.mp hz
  obtain ⟨a0, h3, hz⟩ := Option.bind_eq_some_iff.mp hz
  obtain ⟨b, h4, hz⟩ := Option.bind_eq_some_iff.mp hz
  obtain ⟨d, h5, hz⟩ := Option.bind_eq_some_iff.mp hz
  obtain ⟨l', h6, hz⟩ := Option.map_eq_some_iff.mp hz
  cases hz
  refine wpAny_AugAssign_Subscript_any (own_name R.fr c hi h1 fun a ho O => pk env wr μ ow ρ s kd R.fr h2 E _ fun v2 hb tb xb r2 k2 => ?_) ha
  refine item_get (op_sub (s := { s with heap := hb, toks := tb }) (μ := μ) h3 ((O.ext xb).repB) r2 (fun v3 hc tc xc r3 => ?_))
  refine p env wr μ ow ρ _ b (R.fr.ext (xb.trans xc)) h4 E _ fun v4 hd td xd r4 _ => ?_
  refine op_aug (s := { s with heap := hd, toks := td }) h5 (.of (r3.keep xd)) r4 fun v5 he te xe r5 => ?_
  have xs : Ext s.heap he := (xb.trans xc).trans (xd.trans xe)
  refine op_store (s := { s with heap := he, toks := te }) h6 (R.fr.owned i a ho).2.1 (O.ext xs) (((r2.ext xc).ext xd).ext xe) r5 fun h7 t7 O7 hs7 => ?_
  obtain ⟨R7, P7⟩ := (R.ext xs).turn ho hs7 O7 h1
  exact hQ .next h7 t7 μ ow R7 ((Post.ext xs).trans P7) trivial

theorem inter_no (F : FrOk prog w cx h₀ env wr μ h ow ρ) : interactive env = false := by
  unfold interactive; rw [F.scope, F.kind]; rfl

theorem s_append {i : Nat} {x : Str} {px apos cpos pos : Pos} {e1 : Expr} {X : Mine.X} (c : Has cx i x) (hi : i ∈ cx.own) (hbase : ∀ env, attributeBase (.Name x px) "append" env (eval (.Name x px) env) = eval (.Name x px) env) (hline : (apos.endLine == cpos.line) = true) (hp : plainE e1) (p : EvP prog w A h₀ Φ cx e1 X) (n : nb X = true) :
    ExecP prog w A h₀ Φ Ψ cx rets (.Expr (.Call (.Attribute (.Name x px) "append" apos) [e1] [] cpos) pos) (.append i X) := by
  intro env wr μ μ₀ ow ρ s f ρ' R hz E Q hQ
  simp only [ex] at hz
  obtain ⟨l, h1, hz⟩ := Option.bind_eq_some_iff.mp hz
  obtain ⟨d, h2, hz⟩ := Option.bind_eq_some_iff.mp hz
  obtain ⟨l', h3, hz⟩ := Option.map_eq_some_iff.mp hz
  cases hz
  refine wpAny_Expr_any (wpAny_Call_method1_late (hbase env) hline (trees_of cpos env [e1] (by simpa using hp)) (own_name R.fr c hi h1 fun a ho O => ?_)) (inter_no R.fr) rfl
  have hl : ∃ ds, l = .list ds := by
    unfold appendD at h3; split at h3
    · exact ⟨_, rfl⟩
    · cases h3
  obtain ⟨ds, rfl⟩ := hl
  have hT : s.TypeIs (.ref a) "list" ∧ (∀ b, Value.ref a = .ref b → ∃ ob, s.heap.get? b = some ob ∧ ob.dict = none) := by
    cases O with
    | list q _ => obtain ⟨ne, q⟩ := q; exact ⟨⟨_, q, rfl⟩, fun b e => by cases e; exact ⟨_, q, rfl⟩⟩
  refine ⟨"list", "list.append", PySem.F.plainAttrs_list, PySem.F.slot_list_append, PySem.F.type_list_append, hT.1, hT.2, callWith_builtin rfl (evalArgs_plain (spliced_cons (p env wr μ ow ρ s d R.fr h2 E _ fun v1 ha ta xa _ k1 => spliced_nil ?_)))⟩
  refine op_append (s := { s with heap := ha, toks := ta }) h3 (R.fr.owned i a ho).2.1 (O.ext xa) (k1 n) fun h7 t7 O7 hs7 => ?_
  obtain ⟨R7, P7⟩ := (R.ext xa).turn ho hs7 O7 h1
  exact hQ .next h7 t7 μ ow R7 ((Post.ext xa).trans P7) trivial

theorem s_ite {et : Expr} {b1 b2 : List Stmt} {pos : Pos} {t : T} {x1 x2 : List S} (pt : TestP prog w A h₀ Φ cx et t) (p1 : ExecsP prog w A h₀ Φ Ψ cx rets b1 x1) (p2 : ExecsP prog w A h₀ Φ Ψ cx rets b2 x2) : ExecP prog w A h₀ Φ Ψ cx rets (.If et b1 b2 pos) (.ite t x1 x2) := by
  intro env wr μ μ₀ ow ρ s f ρ' R hz E Q hQ
  simp only [ex] at hz
  obtain ⟨c, h1, hz⟩ := Option.bind_eq_some_iff.mp hz
  refine wpAny_If (pt env wr μ ow ρ s c R.fr h1 E _ fun ha ta xa => ?_)
  cases c with
  | true =>
    rw [if_pos rfl] at hz ⊢
    exact p1 env wr μ μ₀ ow ρ _ f ρ' (R.ext xa) hz E _ fun fl h' tk μ' ow' R' P' hf => hQ fl h' tk μ' ow' R' ((Post.ext xa).trans P') hf
  | false =>
    rw [if_neg Bool.false_ne_true] at hz ⊢
    exact p2 env wr μ μ₀ ow ρ _ f ρ' (R.ext xa) hz E _ fun fl h' tk μ' ow' R' P' hf => hQ fl h' tk μ' ow' R' ((Post.ext xa).trans P') hf
theorem s_cont {pos : Pos} : ExecP prog w A h₀ Φ Ψ cx rets (.Continue pos) .cont := by
  intro env wr μ μ₀ ow ρ s f ρ' R hz E Q hQ
  simp only [ex, Option.some.injEq, Prod.mk.injEq] at hz
  obtain ⟨rfl, rfl⟩ := hz
  show wpAny _ _ (do standAt pos; pure Flow.cont) _ _ _
  exact wpAny_bind (wpAny_standAt (wpAny_pure (hQ _ s.heap s.toks μ ow R (Post.refl _ _ _ _) trivial)))
theorem s_brk {pos : Pos} : ExecP prog w A h₀ Φ Ψ cx rets (.Break pos) .brk := by
  intro env wr μ μ₀ ow ρ s f ρ' R hz E Q hQ
  simp only [ex, Option.some.injEq, Prod.mk.injEq] at hz
  obtain ⟨rfl, rfl⟩ := hz
  show wpAny _ _ (do standAt pos; pure Flow.brk) _ _ _
  exact wpAny_bind (wpAny_standAt (wpAny_pure (hQ _ s.heap s.toks μ ow R (Post.refl _ _ _ _) trivial)))
theorem s_stuck {st : Stmt} : ExecP prog w A h₀ Φ Ψ cx rets st .stuck := by
  intro env wr μ μ₀ ow ρ s f ρ' R hz E Q hQ
  simp only [ex] at hz; cases hz

/-! ### what is handed back -/
variable (prog w A h₀ Φ cx rets) in
noncomputable def RetP (e : Expr) (x : Mine.X) : Prop :=
  ∀ env wr μ μ₀ ow ρ (s : Shared) d, Run prog w cx rets h₀ env wr μ μ₀ s.heap ow ρ → ev Φ x ρ = some d → ∀ (E : Value → Shared → Prop) (Q : Value → Shared → Prop),
    (∀ v h' tk, Ext s.heap h' → Rep prog w h' μ₀ v d → Q v { s with heap := h', toks := tk }) → wpAny (model prog w) A (eval e env) Q E s
variable (prog w A h₀ Φ cx rets) in
noncomputable def RetsP (es : List Expr) (xs : Xs) : Prop :=
  ∀ env wr μ μ₀ ow ρ (s : Shared) ds, Run prog w cx rets h₀ env wr μ μ₀ s.heap ow ρ → evs Φ xs ρ = some ds → ∀ (E : Value → Shared → Prop) (Q : List Value → Shared → Prop),
    (∀ vs h' tk, Ext s.heap h' → Reps prog w h' μ₀ vs ds → Q vs { s with heap := h', toks := tk }) → wpAny (model prog w) A (spliced (es.map fun e => (false, eval e env))) Q E s
theorem r_plain {e : Expr} {x : Mine.X} (p : EvP prog w A h₀ Φ cx e x) (n : nb x = true) : RetP prog w A h₀ Φ cx rets e x := by
  intro env wr μ μ₀ ow ρ s d R hz E Q hQ
  exact p env wr μ ow ρ s d R.fr hz E _ fun v h' tk hx _ k => hQ v h' tk hx ((k n).move fun b o nb e => ⟨e, fun hm => nb (R.sub b hm)⟩)
theorem r_own {i : Nat} {x : Str} {pos : Pos} (c : Has cx i x) (hi : i ∈ cx.own) (hr : i ∈ rets) : RetP prog w A h₀ Φ cx rets (.Name x pos) (.var i) := by
  intro env wr μ μ₀ ow ρ s d R hz E Q hQ
  simp only [ev] at hz
  exact own_name R.fr c hi hz fun a ho O => hQ _ s.heap s.toks (Ext.refl _) (O.rep (R.ret i a ho hr) fun b n hm => n (R.sub b hm))
theorem rl_nil : RetsP prog w A h₀ Φ cx rets [] .nil := by
  intro env wr μ μ₀ ow ρ s ds R hz E Q hQ
  simp only [evs, Option.some.injEq] at hz; subst hz
  exact spliced_nil (hQ [] s.heap s.toks (Ext.refl _) .nil)
theorem rl_cons {e : Expr} {r : List Expr} {x : Mine.X} {xs : Xs} (p1 : RetP prog w A h₀ Φ cx rets e x) (p2 : RetsP prog w A h₀ Φ cx rets r xs) : RetsP prog w A h₀ Φ cx rets (e :: r) (.cons x xs) := by
  intro env wr μ μ₀ ow ρ s ds R hz E Q hQ
  simp only [evs] at hz
  obtain ⟨d1, h1, hz⟩ := Option.bind_eq_some_iff.mp hz
  obtain ⟨ds2, h2, rfl⟩ := Option.map_eq_some_iff.mp hz
  exact spliced_cons (p1 env wr μ μ₀ ow ρ s d1 R h1 E _ fun v h' tk hx r1 => p2 env wr μ μ₀ ow ρ _ ds2 (R.ext hx) h2 E _ fun vs h'' tk' hx' r => hQ _ h'' tk' (hx.trans hx') (.cons (r1.keep hx') r))
theorem r_tup {es : List Expr} {k : Nat} {pos : Pos} {xs : Xs} (hp : ∀ e ∈ es, plainE e) (p : RetsP prog w A h₀ Φ cx rets es xs) : RetP prog w A h₀ Φ cx rets (.Tuple es k pos) (.tup xs) := by
  intro env wr μ μ₀ ow ρ s d R hz E Q hQ
  simp only [ev] at hz
  obtain ⟨ds, h1, hz⟩ := Option.bind_eq_some_iff.mp hz
  split at hz
  · rename_i hl
    cases hz
    refine wpAny_Tuple ?_
    rw [trees_of pos env es hp]
    refine p env wr μ μ₀ ow ρ s ds R h1 E _ fun vs h' tk hx r => ⟨?_, ?_⟩
    · rw [r.length]; unfold sizeLine; (first | lia | omega)
    · exact Res.newTup (fun b hm => R.fr.alive.ext hx b (R.sub b hm)) (fun v h'' tk' e r => hQ v h'' tk' (hx.trans e) r) (by simpa using r)
  · cases hz
theorem s_ret {e : Expr} {x : Mine.X} {pos : Pos} (p : RetP prog w A h₀ Φ cx rets e x) : ExecP prog w A h₀ Φ Ψ cx rets (.Return (some e) pos) (.ret x) := by
  intro env wr μ μ₀ ow ρ s f ρ' R hz E Q hQ
  simp only [ex] at hz
  obtain ⟨d, h1, hz⟩ := Option.map_eq_some_iff.mp hz
  cases hz
  exact wpAny_Return_some (p env wr μ μ₀ ow ρ s d R h1 E _ fun v h' tk hx r => hQ (.ret v) h' tk μ ow (R.ext hx) (Post.ext hx) r)

/-! ### a call that changes its first argument -/
noncomputable def CallsIO (prog : Program) (w : World) (A : Around) (fnAt : Nat → Option (Str × Addr)) (h₀ : Heap) (Ψ : Nat → List D → Option D) : Prop :=
  ∀ f x a d ds d', fnAt f = some (x, a) → Ψ f (d :: ds) = some d' → ∀ (μ : List Addr) (s : Shared) (b : Addr) (vs : List Value) (Q : Value → Shared → Prop) (E : Value → Shared → Prop), Ext h₀ s.heap → Alive s.heap μ → b ∈ μ → h₀.get? b = none → Own prog w s.heap μ b d → Reps prog w s.heap μ vs ds →
    (∀ v h' tk, Own prog w h' μ b d' → (∀ c o, c ≠ b → s.heap.get? c = some o → h'.get? c = some o) → Q v { s with heap := h', toks := tk }) → wpAny (model prog w) A (call (.ref a) (.ref b :: vs)) Q E s

theorem s_callIO (B : Amb prog w A fnAt h₀ Φ) (hio : CallsIO prog w A fnAt h₀ Ψ) {f i : Nat} {fx x : Str} {fa : Addr} {p0 px cpos pos : Pos} {es : List Expr} {xs : Xs} (hf : fnAt f = some (fx, fa)) (hk : kindIn cx.sc fx = some .globalImplicit) (hg : goodName fx = true) (c : Has cx i x) (hi : i ∈ cx.own)
    (hp : ∀ e ∈ (.Name x px :: es : List Expr), plainE e) (p : ListP prog w A h₀ Φ cx es xs) (hform : CallForm fx p0 cpos (.Name x px :: es)) : ExecP prog w A h₀ Φ Ψ cx rets (.Expr (.Call (.Name fx p0) (.Name x px :: es) [] cpos) pos) (.callIO f i xs) := by
  intro env wr μ μ₀ ow ρ s fl ρ' R hz E Q hQ
  simp only [ex] at hz
  obtain ⟨d, h1, hz⟩ := Option.bind_eq_some_iff.mp hz
  obtain ⟨ds, h2, hz⟩ := Option.bind_eq_some_iff.mp hz
  obtain ⟨d', h3, hz⟩ := Option.map_eq_some_iff.mp hz
  cases hz
  refine wpAny_Expr_any ?_ (inter_no R.fr) rfl
  rw [hform env]
  refine wpAny_bind (glob_def B R.fr hf hk (goodName_spec hg).1 ?_)
  rw [trees_of cpos env _ hp]
  obtain ⟨mg, mb, G⟩ := B.gl
  obtain ⟨o, fd, ho, hfd⟩ := G.fns f fx fa hf
  show wpAny _ _ (callWith cpos (.ref fa) [] ((.Name x px :: es).map fun e => (false, eval e env)) []) _ _ _
  refine callWith_function (o := o) (fd := fd) (evalArgs_plain (spliced_cons (own_name R.fr c hi h1 fun a how O => p env wr μ ow ρ s ds R.fr h2 E _ fun vs h' tk hx r => ⟨⟨hx _ _ (R.fr.top _ _ ho), hfd⟩, ?_⟩)))
  refine hio f fx fa d ds d' hf h3 μ { s with heap := h', toks := tk } a vs _ E (R.fr.top.trans hx) (R.fr.alive.ext hx) (R.fr.owned i a how).2.1 (R.ownNew i a how) (O.ext hx) r fun v h5 t5 O5 hk5 => ?_
  have hs : ∀ c o, c ≠ a → h'.get? c = some o → h5.get? c = some o := hk5
  have R1 := R.ext hx
  have F5 : FrOk prog w cx h₀ env wr μ h5 ow (ρ.set i (some d')) := R1.fr.turnE how (R.ownNew i a how) hs O5 ⟨d, h1⟩
  exact hQ .next h5 t5 μ ow (R1.with F5) ((Post.ext hx).trans ⟨fun b o n m e => hs b o (fun q => m i (by rw [q]; exact how)) e, fun b o n e => ⟨hs b o (fun q => n (by rw [q]; exact (R.fr.owned i a how).2.1)) e, n⟩, fun _ m _ => .inl m, fun i b e => .inl ⟨i, e⟩, fun b o e => by
    by_cases q : b = a
    · rw [q]; exact O5.live
    · exact ⟨o, hs b o q e⟩⟩) trivial
end
end Mine
end
section
open PySem PySem.W PyProof.Rows PySem.Calls
set_option maxRecDepth 100000
namespace Mine
section
variable {prog : Program} {w : World} {A : Around} {fnAt : Nat → Option (Str × Addr)} {h₀ : Heap} {Φ Ψ : Nat → List D → Option D} {cx : Cx} {rets : List Nat}
variable {E : Value → Shared → Prop} {s : Shared} {env : Env} {wr μ μ₀ : List Addr} {ow : Nat → Option Addr} {ρ ρ' : Rho} {h h' : Heap}

theorem FrOk.unOwn (F : FrOk prog w cx h₀ env wr μ h ow ρ) (j : Nat) : FrOk prog w cx h₀ env wr μ h (Mine.reOwn ow j none) (ρ.set j none) := by
  refine { F with vis := fun k x hx hb => ?_, owned := fun k a ha => ?_ }
  · obtain ⟨o, hs, hv⟩ := F.vis k x hx hb
    refine ⟨o, hs, fun d hd => ?_⟩
    rcases look_set hd with ⟨_, e⟩ | ⟨ne, e⟩
    · cases e
    · obtain ⟨v, h1, h2⟩ := hv d e
      refine ⟨v, h1, ?_⟩
      unfold Val at h2 ⊢
      split
      · rename_i hj
        rw [if_pos hj] at h2
        obtain ⟨a, e1, e2, e3⟩ := h2
        exact ⟨a, by unfold Mine.reOwn; rw [if_neg ne]; exact e1, e2, e3⟩
      · rename_i hj
        rw [if_neg hj] at h2
        exact h2
  · unfold Mine.reOwn at ha
    by_cases e : k = j
    · rw [if_pos e] at ha; cases ha
    · rw [if_neg e] at ha
      obtain ⟨p1, p2, p3, p4, p5⟩ := F.owned k a ha
      refine ⟨p1, p2, p3, p4, fun l hl => ?_⟩
      unfold Mine.reOwn at hl
      by_cases e' : l = j
      · rw [if_pos e'] at hl; cases hl
      · rw [if_neg e'] at hl; exact p5 l hl

theorem s_move {i j : Nat} {x y : Str} {px py pos : Pos} (c : Can cx i x) (hi : i ∉ cx.own) (cj : Has cx j y) (hj : j ∈ cx.own) (hr : j ∈ rets) : ExecP prog w A h₀ Φ Ψ cx rets (.Assign [.Name x px] (.Name y py) pos) (.move i j) := by
  intro env wr μ μ₀ ow ρ s f ρ' R hz E Q hQ
  simp only [ex] at hz
  obtain ⟨d, h1, hz⟩ := Option.map_eq_some_iff.mp hz
  cases hz
  refine wpAny_Assign_Name (own_name R.fr cj hj h1 fun a how O => ?_) rfl
  obtain ⟨_, haμ, nl, nc, huniq⟩ := R.fr.owned j a how
  obtain ⟨μ', hμ'⟩ : ∃ μ', μ' = μ.filter (fun b => b != a) := ⟨_, rfl⟩
  have inμ : ∀ b, b ∈ μ' ↔ b ∈ μ ∧ b ≠ a := fun b => by rw [hμ', List.mem_filter]; simp
  have ow' : ∀ k b, reOwn ow j none k = some b → k ≠ j ∧ ow k = some b := fun k b e => by
    unfold reOwn at e
    by_cases q : k = j
    · rw [if_pos q] at e; cases e
    · rw [if_neg q] at e; exact ⟨q, e⟩
  have F1 : FrOk prog w cx h₀ env wr μ' s.heap (reOwn ow j none) (ρ.set j none) :=
    (R.fr.unOwn j).move (fun b ob n e => ⟨e, fun hm => n ((inμ b).mp hm).1⟩) R.fr.top (fun _ e => e) (fun _ _ _ _ e => e) (fun _ _ _ _ e => e) ((inμ _).mpr ⟨R.fr.loc, Ne.symm nl⟩) (fun x c hc => (inμ _).mpr ⟨(R.fr.cells x c hc).1, fun q => nc x (q ▸ hc)⟩)
      (fun b hb => (inμ _).mpr ⟨R.fr.wrIn b hb, fun q => R.ownWr j a how (q ▸ hb)⟩) (fun k b hk => (inμ _).mpr ⟨(R.fr.owned k b (ow' k b hk).2).2.1, fun q => (ow' k b hk).1 (huniq k (q ▸ (ow' k b hk).2))⟩) fun b hb => R.fr.alive b ((inμ b).mp hb).1
  have R1 : Run prog w cx rets h₀ env wr μ' μ₀ s.heap (reOwn ow j none) (ρ.set j none) :=
    ⟨F1, fun b hb => (inμ b).mpr ⟨R.sub b hb, fun q => R.ret j a how hr (q ▸ hb)⟩, fun k b hk => R.ret k b (ow' k b hk).2, fun k b hk => R.ownNew k b (ow' k b hk).2, fun k b hk => R.ownWr k b (ow' k b hk).2, fun e k b hk => R.base e k b (ow' k b hk).2⟩
  have P1 : Post wr μ ow s.heap μ' (reOwn ow j none) s.heap := ⟨fun _ _ _ _ e => e, fun b o n e => ⟨e, fun hm => n ((inμ b).mp hm).1⟩, fun b hm _ => by
    by_cases q : b = a
    · exact .inr ⟨j, by rw [q]; exact how⟩
    · exact .inl ((inμ b).mpr ⟨hm, q⟩), fun k b hk => .inl ⟨k, (ow' k b hk).2⟩, fun _ o e => ⟨o, e⟩⟩
  refine R1.fr.assign (s := s) c.st c.name c.set (d := d) (by unfold Val; rw [if_neg hi]; exact O.rep (fun hm => ((inμ a).mp hm).2 rfl) fun b n hm => n ((inμ b).mp hm).1) fun a2 h2 tk2 ha hsb F2 => ?_
  exact hQ .next h2 tk2 _ _ (R1.with F2) (P1.trans (R1.change ha hsb F2)) trivial

/-! ### while -/
theorem s_while {et : Expr} {body : List Stmt} {pos : Pos} {t : T} {xs : List S} (pt : TestP prog w A h₀ Φ cx et t) (p : ExecsP prog w A h₀ Φ Ψ cx rets body xs) : ExecP prog w A h₀ Φ Ψ cx rets (.While et body [] pos) (.while t xs) := by
  intro env wr μ μ₀ ow ρ s f ρ' R hz E Q hQ
  simp only [ex] at hz
  refine wpAny_While ?_
  have loop : ∀ (n : Nat) (μ : List Addr) (ow : Nat → Option Addr) (ρ : Rho) (s : Shared), Run prog w cx rets h₀ env wr μ μ₀ s.heap ow ρ → loopW (evT Φ t) (exs Φ Ψ xs) n ρ = some (f, ρ') →
      (∀ fl h' tk μ' ow', Run prog w cx rets h₀ env wr μ' μ₀ h' ow' ρ' → Post wr μ ow s.heap μ' ow' h' → FlOk prog w h' μ₀ f fl → Q fl { s with heap := h', toks := tk }) →
      codeAny (model prog w) A (.whileLoop et body [] env) (fun r s' => match r with | .ok f => Q f s' | .error e => cameBackBy (model prog w) A env E e s') s := by
    intro n
    induction n with
    | zero => intro μ ow ρ s R hz; simp [loopW] at hz
    | succ n ih =>
      intro μ ow ρ s R hz hQ
      simp only [loopW] at hz
      obtain ⟨c, h1, hz⟩ := Option.bind_eq_some_iff.mp hz
      refine codeAny_of_tree ?_
      show wpAny _ A ((whileTurn et body [] env).onRaise (fun x => do noteFrame x env; theTreesLotGoes x)) _ _ s
      refine wpAny_noted ?_
      simp only [whileTurn]
      refine wpAny_bind (pt env wr μ ow ρ s c R.fr h1 _ _ fun ha ta xa => ?_)
      cases c with
      | false =>
        rw [if_neg Bool.false_ne_true] at hz ⊢
        cases hz
        exact wpAny_bind (wpAny_execs_nil (wpAny_pure (hQ .next ha ta μ ow (R.ext xa) (Post.ext xa) trivial)))
      | true =>
        rw [if_pos rfl] at hz ⊢
        obtain ⟨⟨f1, ρ1⟩, h2, hz⟩ := Option.bind_eq_some_iff.mp hz
        refine wpAny_bind (p env wr μ μ₀ ow ρ _ f1 ρ1 (R.ext xa) h2 _ _ fun fl hb tb μ1 ow1 R1 P1 hf => ?_)
        have P1' := (Post.ext (wr := wr) (μ := μ) (ow := ow) xa).trans P1
        cases f1 with
        | next =>
          cases fl with
          | next => exact wpAny_pure ⟨rfl, ih μ1 ow1 ρ1 { s with heap := hb, toks := tb } R1 hz fun fl h' tk μ' ow' R' P' hf => hQ fl h' tk μ' ow' R' (P1'.trans P') hf⟩
          | _ => exact hf.elim
        | cont =>
          cases fl with
          | cont => exact wpAny_pure ⟨rfl, ih μ1 ow1 ρ1 { s with heap := hb, toks := tb } R1 hz fun fl h' tk μ' ow' R' P' hf => hQ fl h' tk μ' ow' R' (P1'.trans P') hf⟩
          | _ => exact hf.elim
        | brk =>
          cases fl with
          | brk => cases hz; exact wpAny_pure (hQ .next hb tb μ1 ow1 R1 P1' trivial)
          | _ => exact hf.elim
        | ret d =>
          cases fl with
          | ret v => cases hz; exact wpAny_pure (hQ (.ret v) hb tb μ1 ow1 R1 P1' hf)
          | _ => exact hf.elim
  exact loop turns μ ow ρ s R hz hQ

theorem Post.dropE {μ1 μ2 : List Addr} {ow1 : Nat → Option Addr} {h2 h3 : Heap} {C : Addr} (P : Post wr μ ow h μ1 ow1 h2) (hs : ∀ b o, b ≠ C → h2.get? b = some o → h3.get? b = some o) (hC : h.get? C = none) (h12 : ∀ b ∈ μ1, b = C ∨ b ∈ μ2) (h21 : ∀ b ∈ μ2, b ∈ μ1) : Post wr μ ow h μ2 ow1 h3 := by
  have ne : ∀ b o, h.get? b = some o → b ≠ C := fun b o e q => by rw [q, hC] at e; cases e
  refine ⟨fun b o n m e => hs b o (ne b o e) (P.kept b o n m e), fun b o n e => ?_, fun b m al => ?_, P.own, fun b o e => ?_⟩
  · obtain ⟨e1, n1⟩ := P.mu b o n e
    exact ⟨hs b o (ne b o e) e1, fun hm => n1 (h21 b hm)⟩
  · obtain ⟨o, ho⟩ := al
    rcases P.stay b m ⟨o, ho⟩ with q | q
    · rcases h12 b q with q | q
      · exact absurd q (ne b o ho)
      · exact .inl q
    · exact .inr q
  · obtain ⟨o', ho'⟩ := P.live b o e
    exact ⟨o', hs b o' (ne b o e) ho'⟩

theorem Post.touch {μ1 : List Addr} {ow1 : Nat → Option Addr} {hs h h' : Heap} {I : Addr} {T : List Addr} (P : Post wr μ1 ow1 hs μ ow h) (hI : hs.get? I = none) (hT : ∀ b ∈ T, b ∈ wr) (hμ : ∀ b ∈ wr, b ∈ μ1) (hk : ∀ b o, b ∉ I :: T → h.get? b = some o → h'.get? b = some o) (al : ∀ b ∈ I :: T, ∃ o, h'.get? b = some o) : Post wr μ1 ow1 hs μ ow h' := by
  have ne : ∀ b o, hs.get? b = some o → b ≠ I := fun b o e q => by rw [q, hI] at e; cases e
  refine ⟨fun b o n m e => hk b o (fun q => ?_) (P.kept b o n m e), fun b o n e => ?_, P.stay, P.own, fun b o e => ?_⟩
  · rcases List.mem_cons.mp q with q | q
    · exact ne b o e q
    · exact n (hT b q)
  · obtain ⟨e1, n1⟩ := P.mu b o n e
    refine ⟨hk b o (fun q => ?_) e1, n1⟩
    rcases List.mem_cons.mp q with q | q
    · exact ne b o e q
    · exact n (hμ b (hT b q))
  · obtain ⟨o', ho'⟩ := P.live b o e
    by_cases q : b ∈ I :: T
    · exact al b q
    · exact ⟨o', hk b o' q ho'⟩

/-! ### for -/
/-- one turn's taking: the next item goes into the names -/
noncomputable def Takes (prog : Program) (w : World) (A : Around) (cx : Cx) (rets : List Nat) (h₀ : Heap) (env : Env) (wr μb : List Addr) (hp : Heap) (target : Expr) (I : Addr) (fp : List Addr) (ds : List D) (bind : D → Rho → Option Rho) (St : Nat → Heap → Prop) : Prop :=
  ∀ (k : Nat) (s : Shared) (μ : List Addr) (μ₀ : List Addr) (ow : Nat → Option Addr) (ρ ρ1 : Rho) (d : D) (E : Value → Shared → Prop) (Q : Shared → Prop), ds[k]? = some d → bind d ρ = some ρ1 → Run prog w cx rets h₀ env wr μ μ₀ s.heap ow ρ → Apart cx h₀ env wr μ ow I → (∀ b ∈ fp, b ∉ wr ∧ (b = I ∨ b ∉ μ)) →
    (∀ b ob, b ∉ μb → hp.get? b = some ob → s.heap.get? b = some ob ∧ b ∉ μ) → St k s.heap →
    (∀ h' tk, Run prog w cx rets h₀ env wr μ μ₀ h' ow ρ1 → St (k + 1) h' → (∀ b o, b ∉ I :: wr → s.heap.get? b = some o → h'.get? b = some o) → Q { s with heap := h', toks := tk }) →
    wpAny (model prog w) A (pyNext (.ref I)) (fun r s₁ => match r with
      | none => False
      | some v => wpAny (model prog w) A (letOwnedTupleGo target (.ref I) v) (fun _ s₂ => wpAny (model prog w) A (assign target env v) (fun _ s₃ => Q s₃) E s₂) E s₁) E s

theorem for_loop {target : Expr} {body : List Stmt} {xs : List S} {bind : D → Rho → Option Rho} (p : ExecsP prog w A h₀ Φ Ψ cx rets body xs) {hs hp : Heap} {I : Addr} {fp : List Addr} {ds : List D} {St : Nat → Heap → Prop} {μb μ1 : List Addr} {ow1 : Nat → Option Addr}
    (T : Takes prog w A cx rets h₀ env wr μb hp target I fp ds bind St) (hI0 : hs.get? I = none) (hIb : I ∉ μ₀) (hwr : ∀ b ∈ wr, b ∈ μ1) (hIp : hp.get? I = none) (hfr : ∀ i h h', St i h → (∀ b ∈ fp, ∀ o, h.get? b = some o → h'.get? b = some o) → St i h') (hlive : ∀ k h, St k h → ∃ o, h.get? I = some o)
    (hend : ∀ (s : Shared) (Q : Option Value → Shared → Prop) (E : Value → Shared → Prop), St ds.length s.heap → (∀ h' tk, (∀ b o, b ∉ [I] → s.heap.get? b = some o → h'.get? b = some o) → Q none { s with heap := h', toks := tk }) → wpAny (model prog w) A (pyNext (.ref I)) Q E s)
    {R : Result → Shared → Prop} {f : Fl} {ρ' : Rho} {s0 : Shared}
    (hR : ∀ fl h' tk μ' ow', Run prog w cx rets h₀ env wr μ' μ₀ h' ow' ρ' → Post wr μ1 ow1 hs μ' ow' h' → FlOk prog w h' μ₀ f fl → R (.ok fl) { s0 with heap := h', toks := tk }) :
    ∀ (n k : Nat) (s : Shared) (μ : List Addr) (ow : Nat → Option Addr) (ρ : Rho), n = ds.length - k → k ≤ ds.length → (∃ h tk, s = { s0 with heap := h, toks := tk }) → Run prog w cx rets h₀ env wr μ μ₀ s.heap ow ρ → Post wr μ1 ow1 hs μ ow s.heap → Apart cx h₀ env wr μ ow I → (∀ b ∈ fp, b ∉ wr ∧ (∃ o, s.heap.get? b = some o) ∧ (b = I ∨ b ∉ μ)) →
      (∀ b ob, b ∉ μb → hp.get? b = some ob → s.heap.get? b = some ob ∧ b ∉ μ) → St k s.heap → loopF bind (exs Φ Ψ xs) (ds.drop k) ρ = some (f, ρ') → codeAny (model prog w) A (.forLoop target (.ref I) body [] env) R s := by
  intro n
  induction n with
  | zero =>
    rintro k s μ ow ρ hn hk ⟨h, tk, rfl⟩ Rn P Ap hfp mv st hz
    have hk' : k = ds.length := by (first | lia | omega)
    subst hk'
    rw [List.drop_length] at hz
    simp only [loopF, Option.some.injEq, Prod.mk.injEq] at hz
    obtain ⟨rfl, rfl⟩ := hz
    refine codeAny_of_tree ?_
    show wpAny _ A ((forTurn target (.ref I) body [] env).onRaise (fun x => do noteFrame x env; theTreesLotGoes x)) _ _ _
    refine wpAny_noted ?_
    simp only [forTurn]
    refine wpAny_bind (wpAny_standAt (wpAny_bind (wpAny_onRaise (hend _ _ _ st fun h' tk' hk' => wpAny_pure ⟨rfl, codeAny_block (wpAny_execs_nil ?_)⟩))))
    have kp : ∀ b o, b ≠ I → h.get? b = some o → h'.get? b = some o := fun b o nb e => hk' b o (fun q => nb (List.mem_singleton.mp q)) e
    obtain ⟨μ', hμ'⟩ : ∃ μ', μ' = μ.filter (fun b => b != I) := ⟨_, rfl⟩
    have inμ : ∀ b, b ∈ μ' ↔ b ∈ μ ∧ b ≠ I := fun b => by rw [hμ', List.mem_filter]; simp
    have F' : FrOk prog w cx h₀ env wr μ' h' ow ρ :=
      Rn.fr.move (fun b ob n e => ⟨kp b ob (fun q => n (q ▸ Ap.mem)) e, fun hm => n ((inμ b).mp hm).1⟩) (fun b o e => kp b o (fun q => by rw [q, Ap.new] at e; cases e) (Rn.fr.top b o e)) (fun o e => kp _ _ (Ne.symm Ap.nloc) e) (fun x c hc o e => kp _ _ (fun q => Ap.ncell x (q ▸ hc)) e) (fun i a ha o e => kp _ _ (fun q => Ap.now i (q ▸ ha)) e)
        ((inμ _).mpr ⟨Rn.fr.loc, Ne.symm Ap.nloc⟩) (fun x c hc => (inμ _).mpr ⟨(Rn.fr.cells x c hc).1, fun q => Ap.ncell x (q ▸ hc)⟩) (fun b hb => (inμ _).mpr ⟨Rn.fr.wrIn b hb, fun q => Ap.nwr (q ▸ hb)⟩) (fun k b hk => (inμ _).mpr ⟨(Rn.fr.owned k b hk).2.1, fun q => Ap.now k (q ▸ hk)⟩) fun b hb => by
          obtain ⟨o, ho⟩ := Rn.fr.alive b ((inμ b).mp hb).1
          exact ⟨o, kp b o ((inμ b).mp hb).2 ho⟩
    refine hR .next h' tk' μ' ow ⟨F', fun b hb => (inμ b).mpr ⟨Rn.sub b hb, fun q => hIb (q ▸ hb)⟩, Rn.ret, Rn.ownNew, Rn.ownWr, Rn.base⟩ (P.dropE kp hI0 (fun b hb => ?_) fun b hb => ((inμ b).mp hb).1) trivial
    by_cases q : b = I
    · exact .inl q
    · exact .inr ((inμ b).mpr ⟨hb, q⟩)
  | succ n ih =>
    rintro k s μ ow ρ hn hk ⟨h, tk, rfl⟩ Rn P Ap hfp mv st hz
    have hlt : k < ds.length := by (first | lia | omega)
    rw [List.drop_eq_getElem_cons hlt] at hz
    simp only [loopF] at hz
    obtain ⟨ρ1, hb, hz⟩ := Option.bind_eq_some_iff.mp hz
    obtain ⟨⟨f1, ρ2⟩, hx, hz⟩ := Option.bind_eq_some_iff.mp hz
    refine codeAny_of_tree ?_
    show wpAny _ A ((forTurn target (.ref I) body [] env).onRaise (fun x => do noteFrame x env; theTreesLotGoes x)) _ _ _
    refine wpAny_noted ?_
    simp only [forTurn]
    refine wpAny_bind (wpAny_standAt (wpAny_bind (wpAny_onRaise (wpAny_mono (T k { s0 with heap := h, toks := tk } μ μ₀ ow ρ ρ1 ds[k] _ (fun s₃ => wpAny (model prog w) A (execs body env) (fun f => wpAny (model prog w) A (match f with
            | .next | .cont => again (.forLoop target (.ref I) body [] env)
            | .brk => pure (.done .next)
            | .ret v => pure (.done (.ret v))) (fun fin s' => match fin with | .done f => R (.ok f) s' | .again c' => c'.quiet = true ∧ codeAny (model prog w) A c' R s') (notedBy (model prog w) A env fun e s' => R (.error e) s')) (notedBy (model prog w) A env fun e s' => R (.error e) s') s₃) (List.getElem?_eq_getElem hlt) hb Rn Ap (fun b q => ⟨(hfp b q).1, (hfp b q).2.2⟩) mv st fun h1 tk1 R1 st1 hk1 => ?_) (fun r s₁ h₁ => ?_) fun _ _ e => wpAny_standAt e))))
    · refine p env wr μ μ₀ ow ρ1 { s0 with heap := h1, toks := tk1 } f1 ρ2 R1 hx _ _ fun fl h2 tk2 μ2 ow2 R2 P2 hf => ?_
      have P1 : Post wr μ1 ow1 hs μ ow h1 := P.touch hI0 (T := wr) (fun _ q => q) hwr hk1 fun b q => by
        rcases List.mem_cons.mp q with q | q
        · rw [q]; exact hlive _ _ st1
        · exact R1.fr.alive b (R1.fr.wrIn b q)
      have P' := P1.trans P2
      have fpk : ∀ b ∈ fp, (∃ o, h1.get? b = some o) := fun b q => by
        obtain ⟨e1, ⟨o, ho⟩, _⟩ := hfp b q
        by_cases z : b = I
        · rw [z]; exact hlive _ _ st1
        · exact ⟨o, hk1 b o (fun m => (List.mem_cons.mp m).elim z e1) ho⟩
      have nowI : ∀ b ∈ fp, ∀ i, ow i ≠ some b := fun b q i hi => by
        rcases (hfp b q).2.2 with z | z
        · exact Ap.now i (z ▸ hi)
        · exact z (R1.fr.owned i b hi).2.1
      have st2 : St (k + 1) h2 := hfr _ _ _ st1 fun b q o e => P2.kept b o (hfp b q).1 (nowI b q) e
      have now2 : ∀ b ∈ fp, ∀ i, ow2 i ≠ some b := fun b q i hi => by
        rcases P2.own i b hi with ⟨j, hj⟩ | z
        · exact nowI b q j hj
        · obtain ⟨o, ho⟩ := fpk b q; rw [z] at ho; cases ho
      obtain ⟨oI, hoI⟩ := hlive _ _ st1
      have nI2 : ∀ i, ow2 i ≠ some I := fun i hi => by
        rcases P2.own i I hi with ⟨j, hj⟩ | z
        · exact Ap.now j hj
        · rw [z] at hoI; cases hoI
      have Ap2 : Apart cx h₀ env wr μ2 ow2 I := ⟨(P2.stay I Ap.mem ⟨oI, hoI⟩).elim id fun ⟨i, hi⟩ => absurd hi (Ap.now i), Ap.nwr, Ap.nloc, Ap.ncell, nI2, Ap.new⟩
      have fp2 : ∀ b ∈ fp, b ∉ wr ∧ (∃ o, h2.get? b = some o) ∧ (b = I ∨ b ∉ μ2) := fun b q => by
        obtain ⟨o, ho⟩ := fpk b q
        refine ⟨(hfp b q).1, P2.live b o ho, ?_⟩
        rcases (hfp b q).2.2 with z | z
        · exact .inl z
        · exact .inr (P2.mu b o z ho).2
      have mv2 : ∀ b ob, b ∉ μb → hp.get? b = some ob → h2.get? b = some ob ∧ b ∉ μ2 := fun b ob n e => by
        obtain ⟨e1, n1⟩ := mv b ob n e
        exact P2.mu b ob n1 (hk1 b ob (fun m => by
          rcases List.mem_cons.mp m with z | z
          · rw [z, hIp] at e; cases e
          · exact n1 (R1.fr.wrIn b z)) e1)
      have go : loopF bind (exs Φ Ψ xs) (ds.drop (k + 1)) ρ2 = some (f, ρ') → codeAny (model prog w) A (.forLoop target (.ref I) body [] env) R { s0 with heap := h2, toks := tk2 } := fun hz =>
        ih (k + 1) _ μ2 ow2 ρ2 (by (first | lia | omega)) hlt ⟨h2, tk2, rfl⟩ R2 P' Ap2 fp2 mv2 st2 hz
      cases f1 with
      | next =>
        cases fl with
        | next => exact wpAny_pure ⟨rfl, go hz⟩
        | _ => exact hf.elim
      | cont =>
        cases fl with
        | cont => exact wpAny_pure ⟨rfl, go hz⟩
        | _ => exact hf.elim
      | brk =>
        cases fl with
        | brk => cases hz; exact wpAny_pure (hR .next h2 tk2 μ2 ow2 R2 P' trivial)
        | _ => exact hf.elim
      | ret d =>
        cases fl with
        | ret v => cases hz; exact wpAny_pure (hR (.ret v) h2 tk2 μ2 ow2 R2 P' hf)
        | _ => exact hf.elim
    · cases r with
      | none => exact h₁.elim
      | some v => exact wpAny_bind (wpAny_mono h₁ (fun _ s₂ h₂ => wpAny_bind (wpAny_mono h₂ (fun _ s₃ h₃ => wpAny_bind h₃) fun _ _ e => e)) fun _ _ e => e)
end
end Mine
end
section
open PySem PySem.W PyProof.Rows PySem.Calls
set_option maxRecDepth 100000
namespace Mine
section
variable {prog : Program} {w : World} {A : Around} {fnAt : Nat → Option (Str × Addr)} {h₀ : Heap} {Φ Ψ : Nat → List D → Option D} {cx : Cx} {rets : List Nat}
variable {E : Value → Shared → Prop} {s : Shared} {env : Env} {wr μ μ₀ : List Addr} {ow : Nat → Option Addr} {ρ ρ' : Rho} {h h' : Heap}

theorem Run.grow1 (R : Run prog w cx rets h₀ env wr μ μ₀ h ow ρ) {I : Addr} (hx : Ext h h') (hI : h.get? I = none) (al : ∃ o, h'.get? I = some o) : Run prog w cx rets h₀ env wr (I :: μ) μ₀ h' ow ρ ∧ Apart cx h₀ env wr (I :: μ) ow I ∧ Post wr μ ow h (I :: μ) ow h' := by
  have n := R.fresh hI
  refine ⟨⟨R.fr.grow (ν := [I]) hx (fun a ha => by rw [List.mem_singleton.mp ha]; exact hI) (fun a ha => by rw [List.mem_singleton.mp ha]; exact al), fun b hb => .tail _ (R.sub b hb), R.ret, R.ownNew, R.ownWr, R.base⟩,
    ⟨.head _, fun hm => n (R.fr.wrIn _ hm), fun e => n (e ▸ R.fr.loc), fun x hc => n (R.fr.cells x _ hc).1, fun i hi => n (R.fr.owned i _ hi).2.1, none_back R.fr.top hI⟩, ?_⟩
  exact ⟨fun a o _ _ e => hx a o e, fun a o n e => ⟨hx a o e, fun hm => (List.mem_cons.mp hm).elim (fun q => by rw [q, hI] at e; cases e) n⟩, fun a m _ => .inl (.tail _ m), fun j a e => .inl ⟨j, e⟩, fun a o e => ⟨o, hx a o e⟩⟩

theorem s_for1 {i : Nat} {x : Str} {px pos : Pos} {iter : Expr} {body : List Stmt} {it : I} {xs : List S} (c : Can cx i x) (hi : i ∉ cx.own) (p0 : SrcP prog w A h₀ Φ cx iter it true) (hfold : ∀ env x, foldedSetIterable iter env x = pure x) (p : ExecsP prog w A h₀ Φ Ψ cx rets body xs) :
    ExecP prog w A h₀ Φ Ψ cx rets (.For (.Name x px) iter body [] pos) (.for1 i it xs) := by
  intro env wr μ μ₀ ow ρ s f ρ' R hz E Q hQ
  simp only [ex] at hz
  obtain ⟨ds, h1, hz⟩ := Option.bind_eq_some_iff.mp hz
  refine wpAny_For (p0 env wr μ ow ρ s ds R.fr h1 E _ fun I fp St h1 tk1 T => ?_) (hfold env)
  obtain ⟨hp, hxp, hpI, W⟩ := T.W
  have hI := T.fresh
  obtain ⟨R1, Ap, P1⟩ := R.grow1 T.ext hI (T.live 0 _ T.st)
  have nI := R.fresh hI
  have old : ∀ b ∈ fp, b ∉ wr ∧ (∃ o, h1.get? b = some o) ∧ (b = I ∨ b ∉ I :: μ) := fun b hb => by
    rcases T.old b hb with e | ⟨⟨o, ho⟩, e⟩
    · rw [e]; exact ⟨fun hm => nI (R.fr.wrIn _ hm), T.live 0 _ T.st, .inl rfl⟩
    · refine ⟨fun hm => e rfl (R.fr.wrIn b hm), ⟨o, ho⟩, ?_⟩
      by_cases q : b = I
      · exact .inl q
      · exact .inr fun hm => (List.mem_cons.mp hm).elim q (e rfl)
  have TK : Takes prog w A cx rets h₀ env wr μ hp (.Name x px) I fp ds (bind1 i) St := by
    intro k s μk μ₀ ow ρ ρ1 d E Q hk hb R Ap hfp mv st hQ
    simp only [bind1, Option.some.injEq] at hb
    subst hb
    refine W.item k s _ _ (by
      rcases Nat.lt_or_ge k ds.length with q | q
      · exact q
      · rw [List.getElem?_eq_none q] at hk; cases hk) st fun v h2 tk2 hv st2 hk2 => ?_
    obtain ⟨d', hd', rv⟩ := hv
    rw [hk] at hd'; cases hd'
    have F2 := R.fr.touch1 Ap hk2 (T.live _ _ st2)
    have rv2 : Rep prog w h2 μk v d := rv.move fun b ob n e => by
      obtain ⟨e1, n1⟩ := mv b ob n e
      exact ⟨hk2 b ob (fun q => n1 (by rw [List.mem_singleton.mp q]; exact Ap.mem)) e1, n1⟩
    refine wpAny_pure (wpAny_assign_Name (F2.assign (s := { s with heap := h2, toks := tk2 }) c.st c.name c.set (by unfold Val; rw [if_neg hi]; exact rv2) fun a h3 tk3 ha hsb F3 => ?_))
    refine hQ h3 tk3 (R.with F3) (W.frame _ _ _ st2 fun b hb o e => hsb.extBut b o (fun q => (hfp b hb).1 (q ▸ ha)) e) fun b o n e => ?_
    exact hsb.extBut b o (fun q => n (by rw [q]; exact .tail _ ha)) (hk2 b o (fun q => n (by rw [List.mem_singleton.mp q]; exact .head _)) e)
  refine for_loop p TK hI (fun hm => nI (R.sub _ hm)) R.fr.wrIn hpI W.frame T.live (fun s Q E st hQ => W.done s Q E st hQ) (s0 := s) (fun fl h' tk μ' ow' R' P' hf => hQ fl h' tk μ' ow' R' P' hf) _ 0 { s with heap := h1, toks := tk1 } (I :: μ) ow ρ rfl (Nat.zero_le _) ⟨h1, tk1, rfl⟩ R1 P1 Ap old ?_ T.st hz
  exact fun b ob n e => ⟨hxp _ _ e, fun hm => (List.mem_cons.mp hm).elim (fun q => by rw [q, hpI] at e; cases e) n⟩

theorem assign_each : ∀ (is : List Nat) (es : List Expr), NamesOk cx is es → ∀ (s : Shared) (ρ ρ' : Rho) (vs : List Value) (l : List D) (E : Value → Shared → Prop) (Q : Unit → Shared → Prop), Run prog w cx rets h₀ env wr μ μ₀ s.heap ow ρ → Reps prog w s.heap μ vs l → setAll is l ρ = some ρ' →
    (∀ h' tk, Run prog w cx rets h₀ env wr μ μ₀ h' ow ρ' → (∀ b o, b ∉ wr → s.heap.get? b = some o → h'.get? b = some o) → Q () { s with heap := h', toks := tk }) → wpAny (model prog w) A (assignInOrder ((assignEach es env).map (·.2)) vs) Q E s
  | [], [], _, s, ρ, ρ', vs, l, E, Q, R, r, hz, hQ => by
    cases r with
    | nil => simp only [setAll, Option.some.injEq] at hz; subst hz; exact wpAny_pure (hQ s.heap s.toks R (fun _ _ _ e => e))
    | cons _ _ => simp [setAll] at hz
  | i :: is, e :: es, h, s, ρ, ρ', vs, l, E, Q, R, r, hz, hQ => by
    cases e <;> first | exact h.elim | skip
    rename_i x px
    cases r with
    | nil => simp [setAll] at hz
    | cons rv rs =>
      simp only [setAll] at hz
      refine wpAny_assignInOrder_more ?_
      show wpAny (model prog w) A (assign (.Name x px) env _) _ E s
      refine wpAny_assign_Name (R.fr.assign h.1.st h.1.name h.1.set (by unfold Val; rw [if_neg h.2.1]; exact rv) fun a h1 tk1 ha hs F1 => ?_)
      exact assign_each is es h.2.2 { s with heap := h1, toks := tk1 } _ ρ' _ _ E Q (R.with F1) (sameBut_reps hs (R.fr.wrIn a ha) rs) hz fun h' tk R' P' => hQ h' tk R' fun b o n e => P' b o n (hs.extBut b o (fun q => n (q ▸ ha)) e)
  | [], _ :: _, h, _, _, _, _, _, _, _, _, _, _, _ => h.elim
  | _ :: _, [], h, _, _, _, _, _, _, _, _, _, _, _ => h.elim

theorem assign_parts (hA : A.handled = none) {is : List Nat} {es : List Expr} {k : Nat} {tpos : Pos} {a : Addr} {vs : Array Value} {l : List D} {Q : Unit → Shared → Prop} (hn : NamesOk cx is es) (R : Run prog w cx rets h₀ env wr μ μ₀ s.heap ow ρ) (q : s.heap.IsTuple a vs) (rs : Reps prog w s.heap μ vs.toList l) (hz : setAll is l ρ = some ρ')
    (hQ : ∀ h' tk, Run prog w cx rets h₀ env wr μ μ₀ h' ow ρ' → (∀ b o, b ∉ wr → s.heap.get? b = some o → h'.get? b = some o) → Q () { s with heap := h', toks := tk }) : wpAny (model prog w) A (assign (.Tuple es k tpos) env (.ref a)) Q E s := by
  obtain ⟨e1, e2⟩ := names_each (env := env) is es hn
  have hl := rs.length
  have hl2 := setAll_len is l ρ ρ' hz
  refine wpAny_assign_Tuple hA q (by rw [e1, hl2, ← hl]; simp) e2 fun h1 hx => ?_
  have hx1 : Ext s.heap h1 := fun b o e => hx b o (Nat.ne_of_lt (Heap.lt_size e)) e
  refine assign_each is es hn { s with heap := h1 } ρ ρ' _ l E Q (R.ext hx1) (rs.keep hx1) hz fun h' tk R' k' => hQ h' tk R' fun b o n e => k' b o n (hx1 b o e)
end
end Mine
end
section
open PySem PySem.W PyProof.Rows PySem.Calls
set_option maxRecDepth 100000
namespace Mine
section
variable {prog : Program} {w : World} {A : Around} {fnAt : Nat → Option (Str × Addr)} {h₀ : Heap} {Φ Ψ : Nat → List D → Option D} {cx : Cx} {rets : List Nat}
variable {E : Value → Shared → Prop} {s : Shared} {env : Env} {wr μ μ₀ : List Addr} {ow : Nat → Option Addr} {ρ ρ' : Rho} {h h' : Heap}

theorem s_for2 (B : Amb prog w A fnAt h₀ Φ) {i j : Nat} {x y : Str} {px py tpos apos cpos pos : Pos} {k1 : Nat} {o : Expr} {body : List Stmt} {X : Mine.X} {xs : List S} (ci : Can cx i x) (cj : Can cx j y) (hi : i ∉ cx.own) (hj : j ∉ cx.own)
    (hbase : ∀ env, attributeBase o "items" env (eval o env) = eval o env) (hline : (apos.endLine == cpos.line) = true) (n1 : nb X = true) (p0 : EvP prog w A h₀ Φ cx o X) (p : ExecsP prog w A h₀ Φ Ψ cx rets body xs) :
    ExecP prog w A h₀ Φ Ψ cx rets (.For (.Tuple [.Name x px, .Name y py] k1 tpos) (.Call (.Attribute o "items" apos) [] [] cpos) body [] pos) (.for2 i j (.items X) xs) := by
  intro env wr μ μ₀ ow ρ s f ρ' R hz E Q hQ
  simp only [ex, evI] at hz
  obtain ⟨ds, h1, hz⟩ := Option.bind_eq_some_iff.mp hz
  obtain ⟨d1, h2, h1⟩ := Option.bind_eq_some_iff.mp h1
  unfold itemsD at h1
  split at h1
  case h_2 => cases h1
  rename_i l
  cases h1
  refine wpAny_For (wpAny_Call_method0_late (hbase env) hline (p0 env wr μ ow ρ s _ R.fr h2 E _ fun v ha ta xa r kk => ?_)) (fun _ => rfl)
  have := kk n1
  cases this with
  | @dict a kvs l q z n rs =>
  refine ⟨"dict", "dict.items", PySem.F.plainAttrs_dict, PySem.F.slot_dict_items, PySem.F.type_dict_items, q.typeIs, q.mapOf.noDict, callWith_builtin rfl (PySem.evalArgs_none ?_)⟩
  refine call_meetsIn PySem.F.slot_dict_items q.typeIs PySem.F.entry_dict_items (PySem.F.args_dict_items_1 _) (meets_dict_items (intKind prog w) a (by simpa using z)) ⟨⟨kvs, q⟩, ?_⟩
  dsimp only
  generalize hH : ha.push { cls := .type "dict_items", dict := none, data := .fields #[.ref a] } = hb
  have xb : Ext ha hb := by rw [← hH]; exact Ext.push _ _
  have hview : hb.IsItemsView ha.objs.size a := by rw [← hH]; exact ⟨_, Heap.get?_push_size _ rfl, rfl, rfl⟩
  obtain ⟨ep, hat⟩ := (dictOf_at q fun o e => xb _ _ e : hb.DictOf (intKind prog w) a kvs).dictAt
  refine wpAny_pyIter_items hview hat ?_
  dsimp only
  have hne : a ≠ hb.objs.size := Nat.ne_of_lt hat.lt_size
  generalize hH2 : hb.push _ = hc
  generalize hIe : hb.objs.size = I at hne
  have xc : Ext hb hc := by rw [← hH2]; exact Ext.push _ _
  have hIb : hb.get? I = none := by rw [← hIe]; exact none_of_size _
  have hIget : IsItemIter hc I a 0 kvs.length ep .none .none := by rw [← hH2, ← hIe]; exact Heap.get?_push_size _ rfl
  have xs : Ext s.heap hc := (xa.trans xb).trans xc
  have hI : s.heap.get? I = none := none_back (xa.trans xb) hIb
  have W := kti_itemsTurns (prog := prog) (w := w) (A := A) (knd := intKind prog w) (elts := [.Name x px, .Name y py]) (kk := k1) (pos := tpos) B.hA I a hne kvs ep
  obtain ⟨St, hSt⟩ : ∃ St : Nat → Heap → Prop, St = (fun i h => (∃ ok ov, IsItemIter h I a i kvs.length ep ok ov) ∧ h.DictAt (intKind prog w) a kvs ep) := ⟨_, rfl⟩
  have st0 : St 0 hc := by rw [hSt]; exact ⟨⟨_, _, hIget⟩, hat.at' fun o e => xc _ _ e⟩
  have live : ∀ k h, St k h → ∃ o, h.get? I = some o := fun k h st => by rw [hSt] at st; obtain ⟨⟨_, _, e⟩, _⟩ := st; exact ⟨_, e⟩
  rw [← hSt] at W
  obtain ⟨R1, Ap, P1⟩ := R.grow1 xs hI (live 0 _ st0)
  have nI := R.fresh hI
  have old : ∀ b ∈ [I, a], b ∉ wr ∧ (∃ o, hc.get? b = some o) ∧ (b = I ∨ b ∉ I :: μ) := fun b hb' => by
    rcases List.mem_cons.mp hb' with e | hb'
    · rw [e]; exact ⟨fun hm => nI (R.fr.wrIn _ hm), live 0 _ st0, .inl rfl⟩
    · rw [List.mem_singleton.mp hb']
      obtain ⟨o, ho⟩ := dictOf_get q
      exact ⟨fun hm => n (R.fr.wrIn _ hm), ⟨o, xc _ _ (xb _ _ ho)⟩, .inr fun hm => (List.mem_cons.mp hm).elim hne n⟩
  have hlen := rs.length
  have TK : Takes prog w A cx rets h₀ env wr μ ha (.Tuple [.Name x px, .Name y py] k1 tpos) I [I, a] (l.map fun kv => .tup [.int kv.1, kv.2]) (bind2 i j) St := by
    intro k s μk μ₀ ow ρ ρ1 d E Q hk hb R Ap hfp mv st hQ
    refine W.item k s _ _ (by
      rcases Nat.lt_or_ge k kvs.length with q | q
      · exact q
      · rw [List.getElem?_eq_none (by rw [List.length_map]; (first | lia | omega))] at hk; cases hk) st fun v h2 tk2 hmd hk2 => ?_
    refine W.go k v { s with heap := h2, toks := tk2 } _ E hmd fun h3 hP st3 hk3 => ?_
    obtain ⟨T, key, kx, x, rfl, hx, hkey, hT⟩ := hP
    obtain ⟨d', hd', hd1, rv⟩ := rs.at' hx
    obtain ⟨t, rfl⟩ := Value.isInt_shape hkey
    rw [List.getElem?_map, hd'] at hk
    have hk' := Option.some.inj hk
    subst hk'
    have hb' : some ((ρ.set i (some (.int d'.1))).set j (some d'.2)) = some ρ1 := hb
    have k23 : ∀ b o, b ∉ [I] → s.heap.get? b = some o → h3.get? b = some o := fun b o n e => hk3 b o n (hk2 b o n e)
    have F3 := R.fr.touch1 Ap k23 (live _ _ st3)
    have rv3 : Rep prog w h3 μk x d'.2 := rv.move fun b ob n e => by
      obtain ⟨e1, n1⟩ := mv b ob n e
      exact ⟨k23 b ob (fun q => n1 (by rw [List.mem_singleton.mp q]; exact Ap.mem)) e1, n1⟩
    refine assign_parts B.hA (is := [i, j]) ⟨ci, hi, cj, hj, trivial⟩ (s := { s with heap := h3, toks := tk2 }) (R.with F3) hT (l := [.int d'.1, d'.2]) (.cons (by rw [hd1]; exact .int _ t) (.cons rv3 .nil)) hb' fun h4 tk4 R4 hk4 => ?_
    refine hQ h4 tk4 R4 (W.frame _ _ _ st3 fun b hb o e => hk4 b o (hfp b hb).1 e) fun b o n e => hk4 b o (fun q => n (.tail _ q)) (k23 b o (fun q => n (by rw [List.mem_singleton.mp q]; exact .head _)) e)
  refine for_loop p TK hI (fun hm => nI (R.sub _ hm)) R.fr.wrIn (none_back xb hIb) W.frame live (fun s Q E st hQ => W.done s Q E (by rw [List.length_map] at st; rw [hlen]; exact st) hQ) (s0 := s) (fun fl h' tk μ' ow' R' P' hf => hQ fl h' tk μ' ow' R' P' hf) _ 0 { s with heap := hc, toks := ta } (I :: μ) ow ρ rfl (Nat.zero_le _) ⟨hc, ta, rfl⟩ R1 P1 Ap old ?_ st0 hz
  exact fun b ob n e => ⟨xc _ _ (xb _ _ e), fun hm => (List.mem_cons.mp hm).elim (fun q => by rw [q, none_back xb hIb] at e; cases e) n⟩
end
end Mine
end
section
open PySem PySem.W PyProof.Rows PySem.Calls
set_option maxRecDepth 100000
namespace Mine

theorem bindL_not (kindOf : Str → Option NameKind) : ∀ (binds : List (Str × Value)) (m : Str → Option Value) (x : Str), x ∉ binds.map (·.1) → bindL kindOf binds m x = m x
  | [], _, _, _ => rfl
  | (n, v) :: r, m, x, h => by
    unfold bindL
    rw [bindL_not kindOf r _ x fun q => h (.tail _ q)]
    split
    · show (if x = n then some v else m x) = m x
      rw [if_neg fun e => h (by rw [e]; exact .head _)]
    · rfl
theorem bindL_get (kindOf : Str → Option NameKind) : ∀ (binds : List (Str × Value)) (m : Str → Option Value) (x : Str) (v : Value), (binds.map (·.1)).Nodup → (x, v) ∈ binds → kindOf x = some .local → bindL kindOf binds m x = some v
  | (n, v') :: r, m, x, v, hn, h, hk => by
    obtain ⟨h1, h2⟩ := List.nodup_cons.mp hn
    unfold bindL
    rcases List.mem_cons.mp h with q | q
    · cases q
      rw [bindL_not kindOf r _ _ h1, if_pos hk, if_pos rfl]
    · exact bindL_get kindOf r _ x v h2 q hk
theorem bindC_not (kindOf : Str → Option NameKind) : ∀ (binds : List (Str × Value)) (m : Str → Option Value) (x : Str), x ∉ binds.map (·.1) → bindC kindOf binds m x = m x
  | [], _, _, _ => rfl
  | (n, v) :: r, m, x, h => by
    unfold bindC
    rw [bindC_not kindOf r _ x fun q => h (.tail _ q)]
    split
    · rfl
    · show (if x = n then some v else m x) = m x
      rw [if_neg fun e => h (by rw [e]; exact .head _)]
theorem bindC_get (kindOf : Str → Option NameKind) : ∀ (binds : List (Str × Value)) (m : Str → Option Value) (x : Str) (v : Value), (binds.map (·.1)).Nodup → (x, v) ∈ binds → kindOf x ≠ some .local → bindC kindOf binds m x = some v
  | (n, v') :: r, m, x, v, hn, h, hk => by
    obtain ⟨h1, h2⟩ := List.nodup_cons.mp hn
    unfold bindC
    rcases List.mem_cons.mp h with q | q
    · cases q
      rw [bindC_not kindOf r _ _ h1, if_neg hk, if_pos rfl]
    · exact bindC_get kindOf r _ x v h2 q hk

/-- what the def's object and its table of names say -/
structure FnStat (cx : Cx) (fd : FuncData) (body : List Stmt) (size params : Nat) : Prop where
  scope : fd.scope = cx.sc
  kind : cx.sc.kind = .function
  globs : fd.globals = mainGlobals
  blts : fd.builtins = builtinsNs
  clo : fd.closure = []
  body : fd.body = .stmts body
  co : fd.scope.isCoroutine = false
  gen : fd.scope.isGenerator = false
  len : cx.names.length = size
  nodup : cx.names.Nodup
  nofree : ∀ x, (x, NameKind.free) ∉ cx.sc.names
  par : params ≤ size
  bound : ∀ (i : Nat) (x : Str), i < params → cx.names[i]? = some x → kindIn cx.sc x = some .local ∨ kindIn cx.sc x = some .cell
  named : ∀ x, (x, NameKind.cell) ∈ cx.sc.names → x ∈ cx.names
  bind : ∀ vals : List Value, vals.length = params → bindArgs fd ⟨vals, []⟩ = pure ((cx.names.take params).zip vals)

section
variable {prog : Program} {w : World} {cx : Cx} {fd : FuncData} {body : List Stmt} {size params : Nat}

theorem zip_keys {names : List Str} {vals : List Value} (h : names.length = vals.length) : (names.zip vals).map (·.1) = names := by
  rw [List.map_fst_zip (by (first | lia | omega))]
theorem zip_mem {names : List Str} {vals : List Value} {i : Nat} {x : Str} {v : Value} (h1 : names[i]? = some x) (h2 : vals[i]? = some v) : (x, v) ∈ names.zip vals := by
  refine List.mem_iff_getElem?.mpr ⟨i, ?_⟩
  rw [List.getElem?_zip_eq_some]
  exact ⟨h1, h2⟩

theorem FnStat.kinds (S : FnStat cx fd body size params) {k : Nat} {vals : List Value} (hl : vals.length = params) : ∀ x ∈ (cx.names.take params).zip vals, fd.scope.names.lookup x.1 = some .local ∨ (fd.scope.names.lookup x.1 = some .cell ∧ ((cellsFrom k fd.scope.names []).lookup x.1).isSome = true) := by
  intro x hx
  obtain ⟨i, hi⟩ := List.mem_iff_getElem?.mp hx
  rw [List.getElem?_zip_eq_some] at hi
  obtain ⟨h1, h2⟩ := hi
  have hlt : i < params := by
    rcases Nat.lt_or_ge i vals.length with q | q
    · (first | lia | omega)
    · rw [List.getElem?_eq_none q] at h2; cases h2
  rw [List.getElem?_take, if_pos hlt] at h1
  rw [S.scope]
  rcases S.bound i x.1 hlt h1 with q | q
  · exact .inl q
  · refine .inr ⟨q, ?_⟩
    obtain ⟨c, hc⟩ := lookup_of_mem (cellsFrom_get cx.sc.names k [] x.1 (mem_of_lookup q))
    rw [hc]; rfl

noncomputable def wrOf (cx : Cx) (env : Env) : List Addr := env.locals :: cx.names.filterMap fun x => env.cells.lookup x
theorem wrOf_cell {cx : Cx} {env : Env} {a : Addr} (h : a ∈ wrOf cx env) : a = env.locals ∨ ∃ x, env.cells.lookup x = some a := by
  rcases List.mem_cons.mp h with e | h
  · exact .inl e
  · obtain ⟨x, _, hx⟩ := List.mem_filterMap.mp h
    exact .inr ⟨x, hx⟩

theorem start_run (S : FnStat cx fd body size params) {h₀ : Heap} {s s₁ : Shared} {f : Addr} {vals : List Value} {ds : List D} {μ : List Addr} {rets : List Nat} {ow : Nat → Option Addr} (hl : vals.length = params) (hd : ds.length = params)
    (x : InCallC s (callEnvC fd s.heap.objs.size f).locals (bindL (callEnvC fd s.heap.objs.size f).kindOf ((cx.names.take params).zip vals) fun _ => none) (callEnvC fd s.heap.objs.size f).cells (bindC (callEnvC fd s.heap.objs.size f).kindOf ((cx.names.take params).zip vals) fun _ => none) s₁)
    (ht : Ext h₀ s.heap) (al : Alive s.heap μ)
    (hv : ∀ (i : Nat) v d, vals[i]? = some v → ds[i]? = some d → Val prog w cx s.heap μ ow i v d)
    (how : ∀ i a, ow i = some a → i ∈ cx.own ∧ a ∈ μ ∧ h₀.get? a = none ∧ (i ∈ rets → False) ∧ ∀ j, ow j = some a → j = i) :
    Run prog w cx rets h₀ (callEnvC fd s.heap.objs.size f) (wrOf cx (callEnvC fd s.heap.objs.size f)) (wrOf cx (callEnvC fd s.heap.objs.size f) ++ μ) μ s₁.heap ow (ds.map some ++ List.replicate (size - params) none) := by
  obtain ⟨env, he⟩ : ∃ env, env = callEnvC fd s.heap.objs.size f := ⟨_, rfl⟩
  rw [← he] at x ⊢
  have hL : env.locals = s.heap.objs.size := by rw [he]; rfl
  have hcs : env.cells = cellsFrom (s.heap.objs.size + 1) cx.sc.names [] := by rw [he, ← S.scope]; rfl
  have hsc : env.scope = cx.sc := by rw [he, ← S.scope]; rfl
  have hko : ∀ x, env.kindOf x = kindIn cx.sc x := fun x => by rw [← hsc]; rfl
  have hx1 : Ext s.heap s₁.heap := x.toInCall.keep
  have cellC : ∀ y c, env.cells.lookup y = some c → (y, NameKind.cell) ∈ cx.sc.names ∧ env.locals < c ∧ s.heap.get? c = none := fun y c hc => by
    have hm := mem_of_lookup hc
    have hlt := x.above y c hm
    refine ⟨?_, hlt, ?_⟩
    · rw [hcs] at hm
      rcases cellsFrom_has _ _ _ _ _ hm with q | q
      · exact q
      · cases q
    · cases q : s.heap.get? c with
      | none => rfl
      | some o => have := Heap.lt_size q; rw [hL] at hlt; exact absurd this (Nat.not_lt.mpr (Nat.le_of_lt hlt))
  have hLn : s.heap.get? env.locals = none := by rw [hL]; exact none_of_size _
  have wrN : ∀ a ∈ wrOf cx env, s.heap.get? a = none := fun a ha => by
    rcases wrOf_cell ha with e | ⟨y, hy⟩
    · rw [e]; exact hLn
    · exact (cellC y a hy).2.2
  have wrμ : ∀ a ∈ wrOf cx env, a ∉ μ := fun a ha hm => by obtain ⟨o, ho⟩ := al a hm; rw [wrN a ha] at ho; cases ho
  have cellW : ∀ y c, env.cells.lookup y = some c → c ∈ wrOf cx env := fun y c hc => List.mem_cons_of_mem _ (List.mem_filterMap.mpr ⟨y, S.named y (cellC y c hc).1, hc⟩)
  have mv : ∀ b ob, b ∉ μ → s.heap.get? b = some ob → s₁.heap.get? b = some ob ∧ b ∉ wrOf cx env ++ μ := fun b ob n e => ⟨hx1 b ob e, fun hm => (List.mem_append.mp hm).elim (fun q => by rw [wrN b q] at e; cases e) n⟩
  have hnd : (((cx.names.take params).zip vals).map (·.1)).Nodup := by
    rw [zip_keys (by rw [List.length_take, S.len, hl]; exact Nat.min_eq_left S.par)]
    exact S.nodup.sublist (List.take_sublist _ _)
  -- a parameter's value
  have hlook : ∀ (i : Nat) (y : Str) d, cx.names[i]? = some y → look (ds.map some ++ List.replicate (size - params) none) i = some d → ∃ v, (y, v) ∈ (cx.names.take params).zip vals ∧ Val prog w cx s₁.heap (wrOf cx env ++ μ) ow i v d := fun i y d hy hl' => by
    have hi : i < params := by
      rcases Nat.lt_or_ge i params with q | q
      · exact q
      · unfold look at hl'
        rw [List.getElem?_append_right (by rw [List.length_map, hd]; exact q), List.getElem?_replicate] at hl'
        split at hl' <;> cases hl'
    have hdi : ds[i]? = some d := by
      unfold look at hl'
      rw [List.getElem?_append_left (by rw [List.length_map, hd]; exact hi), List.getElem?_map] at hl'
      cases q : ds[i]? with
      | none => rw [q] at hl'; cases hl'
      | some d' => rw [q] at hl'; simpa using hl'
    have hvi : vals[i]? = some vals[i] := List.getElem?_eq_getElem (by (first | lia | omega))
    refine ⟨vals[i], zip_mem (by rw [List.getElem?_take, if_pos hi]; exact hy) hvi, ?_⟩
    have := hv i _ d hvi hdi
    unfold Val at this ⊢
    split
    · rename_i q
      rw [if_pos q] at this
      obtain ⟨a, e1, e2, e3⟩ := this
      exact ⟨a, e1, e2, e3.move (fun ob e => hx1 _ _ e) mv⟩
    · rename_i q
      rw [if_neg q] at this
      exact this.move mv
  refine ⟨{ scope := hsc, kind := S.kind, globs := by rw [he, ← S.globs]; rfl, blts := by rw [he, ← S.blts]; rfl, top := ht.trans hx1, vis := fun i y hy hb => ?_, inj := fun i j y hi hj => ?_, home := fun i y hi hy hset => ?_, cells := fun y c hc => ⟨List.mem_append_left _ (cellW y c hc), Nat.ne_of_gt (cellC y c hc).2.1⟩,
            apart := fun y z c h1 h2 => name_of_addr x.apart (mem_of_lookup h1) (mem_of_lookup h2), loc := List.mem_append_left _ List.mem_cons_self, wrIn := fun a ha => List.mem_append_left _ ha, alive := fun a ha => ?_, owned := fun i a ha => ?_, new := fun a ha => none_back ht (wrN a ha), locNs := ⟨_, x.toInCall.ns⟩ }, fun b hb => List.mem_append_right _ hb, fun i a ha hr => ((how i a ha).2.2.2.1 hr).elim, fun i a ha => (how i a ha).2.2.1, fun i a ha hm => wrμ a hm (how i a ha).2.1, fun _ i a ha => (how i a ha).2.1⟩
  · unfold bears at hb
    cases hk : kindIn cx.sc y with
    | none => rw [hk] at hb; cases hb
    | some k =>
      cases k with
      | «local» =>
        refine ⟨_, .inl ⟨by rw [hko]; exact hk, _, x.toInCall.ns, rfl⟩, fun d hd => ?_⟩
        obtain ⟨v, hm, hval⟩ := hlook i y d hy hd
        exact ⟨v, bindL_get _ _ _ _ _ hnd hm (by rw [hko]; exact hk), hval⟩
      | cell =>
        obtain ⟨c, hc⟩ := lookup_of_mem (cellsFrom_get cx.sc.names (s.heap.objs.size + 1) [] y (mem_of_lookup hk))
        rw [← hcs] at hc
        refine ⟨_, .inr ⟨.inl (by rw [hko]; exact hk), c, hc, x.cell y c hc⟩, fun d hd => ?_⟩
        obtain ⟨v, hm, hval⟩ := hlook i y d hy hd
        exact ⟨v, bindC_get _ _ _ _ _ hnd hm (by rw [hko, hk]; simp), hval⟩
      | free => exact absurd (mem_of_lookup hk) (S.nofree y)
      | _ => (rw [hk] at hb; cases hb)
  · have hi' : i < cx.names.length := by
      rcases Nat.lt_or_ge i cx.names.length with q | q
      · exact q
      · rw [List.getElem?_eq_none q] at hi; cases hi
    exact (List.getElem?_inj hi' S.nodup).mp (hi.trans hj.symm)
  · unfold homeOf
    rw [hko]
    unfold settable at hset
    cases hk : kindIn cx.sc y with
    | none => rw [hk] at hset; cases hset
    | some k =>
      cases k with
      | «local» => exact ⟨_, rfl, List.mem_cons_self⟩
      | cell =>
        obtain ⟨c, hc⟩ := lookup_of_mem (cellsFrom_get cx.sc.names (s.heap.objs.size + 1) [] y (mem_of_lookup hk))
        rw [← hcs] at hc
        exact ⟨c, hc, cellW y c hc⟩
      | _ => (rw [hk] at hset; cases hset)
  · rcases List.mem_append.mp ha with q | q
    · rcases wrOf_cell q with e | ⟨y, hy⟩
      · rw [e]; obtain ⟨o, _, _, ho, _⟩ := x.toInCall.ns; exact ⟨o, ho⟩
      · obtain ⟨o, ho, _⟩ := x.cell y a hy; exact ⟨o, ho⟩
    · exact al.ext hx1 a q
  · obtain ⟨p1, p2, p3, p4, p5⟩ := how i a ha
    exact ⟨p1, List.mem_append_right _ p2, fun e => wrμ _ (List.mem_cons_self) (e ▸ p2), fun y hc => wrμ a (cellW y a hc) p2, p5⟩
end
end Mine
end
section
open PySem PySem.W PyProof.Rows PySem.Calls
set_option maxRecDepth 100000
namespace Mine

noncomputable def phi (n : Nat) : Nat → List D → Option D := fun g as => if 4 ≤ g then (callBoth progF n g as).map (·.1) else none
noncomputable def psi (n : Nat) : Nat → List D → Option D := fun g as => if g < 4 then (callBoth progF n g as).bind fun r => look r.2 0 else none

structure FnOk (prog : Program) (w : World) (fnAt : Nat → Option (Str × Addr)) (h₀ : Heap) (f : Nat) (a : Addr) (fn : Fn) (cx : Cx) (rets : List Nat) (fd : FuncData) (body : List Stmt) : Prop where
  obj : ∃ o, h₀.get? a = some o ∧ o.data = .func fd
  code : h₀.CodeRec fd.code fd.qualname
  stat : FnStat cx fd body fn.size fn.params
  plain : 4 ≤ f → ∀ i, i < fn.params → i ∉ cx.own
  io : f < 4 → rets = [] ∧ 0 ∈ cx.own ∧ 0 < fn.params ∧ ∀ i, 0 < i → i < fn.params → i ∉ cx.own
  body : ∀ A Φ Ψ, Amb prog w A fnAt h₀ Φ → CallsIO prog w A fnAt h₀ Ψ → ExecsP prog w A h₀ Φ Ψ cx rets body fn.body

section
variable {prog : Program} {w : World} {fnAt : Nat → Option (Str × Addr)} {h₀ : Heap}

theorem at_reps {h : Heap} {μ : List Addr} {vs : List Value} {ds : List D} (r : Reps prog w h μ vs ds) {i : Nat} {v : Value} {d : D} (hv : vs[i]? = some v) (hd : ds[i]? = some d) : Rep prog w h μ v d := by
  obtain ⟨v', e, rv⟩ := r.at hd
  rw [hv] at e; cases e; exact rv

theorem call_code (hlim : h₀.NoLimit) {n : Nat} {A : Around} (hdep : A.depth < recursionLimit) (deep : ∀ env : Env, Amb prog w (A.deeper env) fnAt h₀ (phi n) ∧ CallsIO prog w (A.deeper env) fnAt h₀ (psi n)) {f : Nat} {a : Addr} {fn : Fn} {cx : Cx} {rets : List Nat} {fd : FuncData} {body : List Stmt} (hp : progF f = some fn) (K : FnOk prog w fnAt h₀ f a fn cx rets fd body)
    {ds : List D} {d : D} (hz : phi (n + 1) f ds = some d) {μ : List Addr} {s : Shared} {vs : List Value} {Q E : Value → Shared → Prop} (ht : Ext h₀ s.heap) (al : Alive s.heap μ) (r : Reps prog w s.heap μ vs ds) (hQ : Res prog w μ d Q s) :
    codeAny (model prog w) A (.call (.ref a) ⟨vs, []⟩) (fun r s' => match r with | .ok (.ret v) => Q v s' | .ok _ => False | .error e => E e s') s := by
  unfold phi at hz
  split at hz
  case isFalse => cases hz
  rename_i h4
  obtain ⟨⟨d0, ρe⟩, hz2, hde⟩ := Option.map_eq_some_iff.mp hz
  clear hz
  dsimp only at hde
  subst hde
  simp only [callBoth, hp, Option.bind_some] at hz2
  unfold runFn at hz2
  split at hz2
  case isFalse => cases hz2
  rename_i hlen
  obtain ⟨⟨fl, ρ⟩, hx, hz⟩ := Option.bind_eq_some_iff.mp hz2
  obtain ⟨o, ho, hdata⟩ := K.obj
  have hl : vs.length = fn.params := by rw [r.length, hlen]
  refine codeAny_call_cells (body := body) (vals := vs) (binds := (cx.names.take fn.params).zip vs) hdep (ht _ _ ho) hdata (hlim.keeps ht) (K.code.keeps ht) K.stat.body (K.stat.bind vs hl) K.stat.clo (K.stat.kinds hl) (fun s₁ x => ?_) K.stat.co K.stat.gen (by rw [K.stat.scope]; exact K.stat.kind)
  have Rn := start_run (prog := prog) (w := w) (rets := rets) (ow := fun _ => none) (ds := ds) K.stat hl hlen x ht al (fun i v d hv hd => by
    unfold Val
    rw [if_neg (K.plain h4 i (by
      rcases Nat.lt_or_ge i vs.length with q | q
      · (first | lia | omega)
      · rw [List.getElem?_eq_none q] at hv; cases hv))]
    exact at_reps r hv hd) (fun i a h => nomatch h)
  obtain ⟨hh, tk, rfl⟩ := x.toInCall.same
  have hx1 : Ext s.heap hh := x.toInCall.keep
  obtain ⟨B', IO'⟩ := deep (callEnvC fd s.heap.objs.size a)
  refine K.body _ (phi n) (psi n) B' IO' _ _ _ μ _ _ _ fl ρ Rn hx _ _ fun fl' h' tk' μ' ow' R' P' hf' => ?_
  have hxx : Ext s.heap h' := fun b ob e => P'.kept b ob (fun hm => by
    have := none_back (h := s.heap) (h' := s.heap) (Ext.refl _) (b := b) (by
      rcases wrOf_cell hm with q | ⟨y, hy⟩
      · rw [q]; exact none_of_size _
      · have := x.above y b (mem_of_lookup hy)
        cases q : s.heap.get? b with
        | none => rfl
        | some o => exact absurd (Heap.lt_size q) (Nat.not_lt.mpr (Nat.le_of_lt this)))
    rw [this] at e; cases e) (fun i => by simp) (hx1 b ob e)
  cases fl with
  | ret d1 =>
    cases fl' with
    | ret v => cases hz; exact hQ v h' tk' hxx hf'
    | _ => exact hf'.elim
  | next =>
    cases fl' with
    | next => cases hz; exact hQ .none h' tk' hxx .none
    | _ => exact hf'.elim
  | brk => cases hz
  | cont => cases hz

theorem calls_ok (hG : ∃ mg mb, Gl fnAt h₀ mg mb) (hlim : h₀.NoLimit) (FN : ∀ f x a, fnAt f = some (x, a) → ∃ fn cx rets fd body, progF f = some fn ∧ FnOk prog w fnAt h₀ f a fn cx rets fd body) :
    ∀ (n : Nat) (A : Around), A.handled = none → A.depth + n < recursionLimit → A.units + 3 * n + 16 < cLine → CallsOk prog w A fnAt h₀ (phi n) ∧ CallsIO prog w A fnAt h₀ (psi n) := by
  intro n
  induction n with
  | zero =>
    intro A _ _ _
    constructor
    · intro f x a ds d hf hz
      unfold phi at hz
      split at hz <;> simp [callBoth] at hz
    · intro f x a d ds d' hf hz
      unfold psi at hz
      split at hz <;> simp [callBoth] at hz
  | succ n ih =>
    intro A hA hdep hun
    have deep : ∀ env : Env, Amb prog w (A.deeper env) fnAt h₀ (phi n) ∧ CallsIO prog w (A.deeper env) fnAt h₀ (psi n) := fun env => by
      obtain ⟨c1, c2⟩ := ih (A.deeper env) hA (by show A.depth + 1 + n < _; (first | lia | omega)) (by show A.units + 3 + 3 * n + 16 < _; (first | lia | omega))
      exact ⟨⟨hA, by show A.units + 3 + 16 < _; (first | lia | omega), hG, c1⟩, c2⟩
    constructor
    · intro f x a ds d hf hz μ s vs Q E ht al r hQ
      obtain ⟨fn, cx, rets, fd, body, hp, K⟩ := FN f x a hf
      exact wpAny_call (call_code hlim (by (first | lia | omega)) deep hp K hz ht al r hQ)
    · intro f x a d0 ds d' hf hz μ s b vs Q E ht al hb hbn O r hQ
      obtain ⟨fn, cx, rets, fd, body, hp, K⟩ := FN f x a hf
      unfold psi at hz
      split at hz
      case isFalse => cases hz
      rename_i h4
      obtain ⟨⟨d1, ρe⟩, hz, hlk⟩ := Option.bind_eq_some_iff.mp hz
      simp only [callBoth, hp, Option.bind_some] at hz
      unfold runFn at hz
      split at hz
      case isFalse => cases hz
      rename_i hlen
      obtain ⟨⟨fl, ρ⟩, hx, hz⟩ := Option.bind_eq_some_iff.mp hz
      obtain ⟨o, ho, hdata⟩ := K.obj
      obtain ⟨hrets, h0own, hpar, hown⟩ := K.io h4
      have hl : (Value.ref b :: vs).length = fn.params := by rw [← hlen]; simp [r.length]
      have hrho : ρe = ρ := by
        cases fl <;> first | (cases hz; rfl) | cases hz
      subst hrho
      refine wpAny_call (codeAny_call_cells (body := body) (vals := .ref b :: vs) (binds := (cx.names.take fn.params).zip (.ref b :: vs)) (by (first | lia | omega)) (ht _ _ ho) hdata (hlim.keeps ht) (K.code.keeps ht) K.stat.body (K.stat.bind _ hl) K.stat.clo (K.stat.kinds hl) (fun s₁ x => ?_) K.stat.co K.stat.gen (by rw [K.stat.scope]; exact K.stat.kind))
      have Rn := start_run (prog := prog) (w := w) (rets := rets) (ow := fun i => if i = 0 then some b else none) (ds := d0 :: ds) K.stat hl hlen x ht al (fun i v d hv hd => by
        unfold Val
        cases i with
        | zero =>
          rw [if_pos h0own]
          simp only [List.getElem?_cons_zero, Option.some.injEq] at hv hd
          subst hv; subst hd
          exact ⟨b, rfl, rfl, O⟩
        | succ i =>
          rw [if_neg (hown (i + 1) (Nat.succ_pos _) (by
            rcases Nat.lt_or_ge (i + 1) (Value.ref b :: vs).length with q | q
            · (first | lia | omega)
            · rw [List.getElem?_eq_none q] at hv; cases hv))]
          simp only [List.getElem?_cons_succ] at hv hd
          exact at_reps r hv hd) (fun i a h => by
            by_cases q : i = 0
            · simp only [q, if_true, Option.some.injEq] at h
              subst h
              refine ⟨q ▸ h0own, hb, hbn, (fun hr => by rw [hrets] at hr; cases hr), fun j hj => ?_⟩
              by_cases q' : j = 0
              · rw [q, q']
              · simp [q'] at hj
            · simp [q] at h)
      obtain ⟨hh, tk, rfl⟩ := x.toInCall.same
      have hx1 : Ext s.heap hh := x.toInCall.keep
      obtain ⟨B', IO'⟩ := deep (callEnvC fd s.heap.objs.size a)
      refine K.body _ (phi n) (psi n) B' IO' _ _ _ μ _ _ _ fl ρe Rn hx _ _ fun fl' h' tk' μ' ow' R' P' hf' => ?_
      have fin : ∀ v, Q v { s with heap := h', toks := tk' } := fun v => by
        obtain ⟨ob, hob⟩ := O.live
        -- the owned thing is still b
        obtain ⟨y, hy⟩ : ∃ y, cx.names[0]? = some y := ⟨cx.names[0]'(by rw [K.stat.len]; have := K.stat.par; (first | lia | omega)), List.getElem?_eq_getElem _⟩
        have hbear : bears cx.sc y = true := by
          unfold bears
          rcases K.stat.bound 0 y hpar hy with q | q <;> rw [q]
        obtain ⟨o2, _, hv⟩ := R'.fr.vis 0 y hy hbear
        obtain ⟨v2, _, hval⟩ := hv d' hlk
        unfold Val at hval
        rw [if_pos h0own] at hval
        obtain ⟨c, hc, _, OO⟩ := hval
        have hcb : c = b := by
          rcases P'.own 0 c hc with ⟨j, hj⟩ | q
          · by_cases q' : j = 0
            · simp only [q', if_true, Option.some.injEq] at hj; exact hj.symm
            · simp [q'] at hj
          · obtain ⟨o3, ho3⟩ := al c (R'.base hrets 0 c hc)
            rw [hx1 _ _ ho3] at q; cases q
        subst hcb
        refine hQ v h' tk' (OO.move (fun _ e => e) fun e ob n q => ⟨q, fun hm => n (R'.sub e hm)⟩) fun e ob ne q => P'.kept e ob (fun hm => ?_) (fun i hi => ?_) (hx1 e ob q)
        · rcases wrOf_cell hm with z | ⟨y, hy⟩
          · rw [z, show (callEnvC fd s.heap.objs.size a).locals = s.heap.objs.size from rfl, none_of_size] at q; cases q
          · have := x.above y e (mem_of_lookup hy)
            exact absurd (Heap.lt_size q) (Nat.not_lt.mpr (Nat.le_of_lt this))
        · by_cases q' : i = 0
          · simp only [q', if_true, Option.some.injEq] at hi; exact ne hi.symm
          · simp [q'] at hi
      cases fl with
      | ret d2 =>
        cases fl' with
        | ret v => exact fin v
        | _ => exact hf'.elim
      | next =>
        cases fl' with
        | next => exact fin .none
        | _ => exact hf'.elim
      | brk => cases hz
      | cont => cases hz
end
end Mine
end
section
open PySem PySem.W PyProof.Rows PySem.Calls
set_option maxRecDepth 100000
namespace Mine

noncomputable def compOkB (cx : Cx) (scope : Scope) (tg : List Nat) : Bool :=
  decide ((scope.names.map (·.1)).Nodup) && (scope.names.all fun p => !(p.2 == NameKind.free) || ((kindIn cx.sc p.1 == some .cell || kindIn cx.sc p.1 == some .free) && cx.names.contains p.1)) &&
  ((List.range cx.names.length).all fun i => match cx.names[i]? with | some x => !(kindIn scope x == some .local || kindIn scope x == some .cell) || tg.contains i | none => true) &&
  (tg.all fun i => match cx.names[i]? with | some x => (kindIn scope x == some .local || kindIn scope x == some .cell) | none => true) && decide tg.Nodup
theorem compOk_of {cx : Cx} {scope : Scope} {tg : List Nat} (hk : scope.kind = .function) (h : compOkB cx scope tg = true) : CompOk cx scope tg := by
  unfold compOkB at h
  simp only [Bool.and_eq_true, decide_eq_true_eq, List.all_eq_true] at h
  obtain ⟨⟨⟨⟨h1, h2⟩, h3⟩, h4⟩, h5⟩ := h
  refine ⟨hk, h1, fun x hx => ?_, fun x hx => ?_, fun i x hi hx => ?_, fun i x hi hx => ?_, h5⟩
  · have := h2 (x, .free) hx
    simp at this
    exact this.1
  · have := h2 (x, .free) hx
    simp at this
    obtain ⟨i, hi⟩ := List.mem_iff_getElem?.mp this.2
    exact ⟨i, hi⟩
  · have hlt : i < cx.names.length := by
      rcases Nat.lt_or_ge i cx.names.length with q | q
      · exact q
      · rw [List.getElem?_eq_none q] at hi; cases hi
    have := h3 i (List.mem_range.mpr hlt)
    rw [hi] at this
    simp only [Bool.or_eq_true, Bool.not_eq_true', beq_iff_eq] at this
    rcases this with q | q
    · rcases hx with e | e <;> simp [e] at q
    · simpa using q
  · have := h4 i hi
    rw [hx] at this
    simpa using this

theorem swaps_list {cx : Cx} {elt : Expr} {gs : List Comprehension} {scope : Scope} {p1 px pos : Pos} {x : Str} (hk : cx.sc.kind = .function) (hl : kindIn cx.sc x = some .local) (h : (px.line == p1.line && !(scope.names.any fun (n, k) => n == x && (k == .local || k == .cell))) = true) :
    swaps cx (.ListComp elt gs scope p1) x px pos := by
  intro env he
  show pure (env.blockKind == .function && env.kindOf x == some .local && px.line == p1.line && !(scope.names.any fun (n, k) => n == x && (k == .local || k == .cell))) = pure true
  have e1 : env.blockKind = .function := by unfold Env.blockKind; rw [he, hk]; rfl
  have e2 : env.kindOf x = some .local := by rw [← hl, ← he]; rfl
  rw [e1, e2, Bool.and_assoc, h]
  rfl
theorem swaps_dict {cx : Cx} {kx vx : Expr} {gs : List Comprehension} {scope : Scope} {p1 px pos : Pos} {x : Str} (hk : cx.sc.kind = .function) (hl : kindIn cx.sc x = some .local) (h : (px.line == p1.line && !(scope.names.any fun (n, k) => n == x && (k == .local || k == .cell))) = true) :
    swaps cx (.DictComp kx vx gs scope p1) x px pos := by
  intro env he
  show pure (env.blockKind == .function && env.kindOf x == some .local && px.line == p1.line && !(scope.names.any fun (n, k) => n == x && (k == .local || k == .cell))) = pure true
  have e1 : env.blockKind = .function := by unfold Env.blockKind; rw [he, hk]; rfl
  have e2 : env.kindOf x = some .local := by rw [← hl, ← he]; rfl
  rw [e1, e2, Bool.and_assoc, h]
  rfl
theorem noswap_list {cx : Cx} {elt : Expr} {gs : List Comprehension} {scope : Scope} {p1 px pos : Pos} {x : Str} (hl : (kindIn cx.sc x == some .local) = false) :
    ∀ env, env.scope = cx.sc → swapsWith (.ListComp elt gs scope p1) (some (.Name x px)) pos.line env = pure false := by
  intro env he
  show pure (env.blockKind == .function && env.kindOf x == some .local && px.line == p1.line && !(scope.names.any fun (n, k) => n == x && (k == .local || k == .cell))) = pure false
  have e2 : (env.kindOf x == some .local) = false := by rw [← hl, ← he]; rfl
  rw [e2, Bool.and_false]; rfl

theorem all_nil : ∀ e ∈ ([] : List Expr), plainE e := fun _ h => nomatch h
theorem all_cons {a : Expr} {r : List Expr} (h : plainE a) (h' : ∀ e ∈ r, plainE e) : ∀ e ∈ a :: r, plainE e := fun e he => (List.mem_cons.mp he).elim (fun q => q ▸ h) (h' e)

theorem noswap_dict {cx : Cx} {kx vx : Expr} {gs : List Comprehension} {scope : Scope} {p1 px pos : Pos} {x : Str} (hl : (kindIn cx.sc x == some .local) = false) :
    ∀ env, env.scope = cx.sc → swapsWith (.DictComp kx vx gs scope p1) (some (.Name x px)) pos.line env = pure false := by
  intro env he
  show pure (env.blockKind == .function && env.kindOf x == some .local && px.line == p1.line && !(scope.names.any fun (n, k) => n == x && (k == .local || k == .cell))) = pure false
  have e2 : (env.kindOf x == some .local) = false := by rw [← hl, ← he]; rfl
  rw [e2, Bool.and_false]; rfl
theorem swapped_two {cx : Cx} {x y u v : Str} {px py pu pv tpos vpos : Pos} {k k2 : Nat} (hk : cx.sc.kind = .function) (hx : kindIn cx.sc x = some .local) (hy : kindIn cx.sc y = some .local) (hp : (py.line == px.line) = true) (hd : (x == y) = false) (hu : (u == ("__debug__" : Str)) = false) :
    ∀ env, env.scope = cx.sc → swappedStores [.Tuple [.Name x px, .Name y py] k tpos] (.Tuple [.Name u pu, .Name v pv] k2 vpos) env = pure (some [x, y]) := by
  intro env he
  have e1 : env.blockKind = .function := by unfold Env.blockKind; rw [he, hk]; rfl
  have e2 : env.kindOf x = some .local := by rw [← hx, ← he]; rfl
  have e3 : env.kindOf y = some .local := by rw [← hy, ← he]; rfl
  have hpe : py.line = px.line := by simpa using hp
  have hd' : ¬ (x = y) := by simpa using hd
  have hu' : ¬ (u = ("__debug__" : Str)) := by simpa using hu
  have hd2 : ¬ (y = x) := fun q => hd' q.symm
  have f1 : ∀ (a : Str) (p : Pos), foldedForSure 8 (.Name a p) = false := fun _ _ => rfl
  have f2 : ∀ (a : Str) (p : Pos), constantsAlone 8 (.Name a p) = (a == ("__debug__" : Str)) := fun _ _ => rfl
  have f3 : ∀ (a : Str) (p : Pos), Expr.pos (.Name a p) = p := fun _ _ => rfl
  unfold swappedStores
  simp [e1, e2, e3, f3, hpe, List.eraseDups_cons, hd', hd2, f1, f2, hu']

noncomputable def stmtOf (k : Nat) : Option Stmt := (PySem.Challenge.pw_pg0164_01.main.body.filter fun | .FunctionDef .. => true | _ => false)[k]?
noncomputable def bodyOf (k : Nat) : List Stmt := match stmtOf k with | some (.FunctionDef _ _ body _ _ _ _ _ _ _) => body | _ => []
noncomputable def scopeOf (k : Nat) : Scope := match stmtOf k with | some (.FunctionDef _ _ _ _ _ _ sc _ _ _) => sc | _ => PySem.Challenge.pw_pg0164_01.main.scope
noncomputable def fnTab (ad : Nat → Addr) : Nat → Option (Str × Addr)
  | 0 => some ("heapreplace", ad 0)
  | 1 => some ("heapify", ad 1)
  | 2 => some ("_siftdown", ad 2)
  | 3 => some ("_siftup", ad 3)
  | 4 => some ("add_func_stats", ad 4)
  | 5 => some ("add_callers", ad 5)
  | 6 => some ("count_calls", ad 6)
  | 7 => some ("_substitution_cost", ad 7)
  | 8 => some ("_levenshtein_distance", ad 8)
  | 9 => some ("_law_word", ad 9)
  | 10 => some ("_law_spread", ad 10)
  | 11 => some ("_law_price", ad 11)
  | 12 => some ("_law_table", ad 12)
  | 13 => some ("_law_plain", ad 13)
  | 14 => some ("_law_choices", ad 14)
  | 15 => some ("_law_cover", ad 15)
  | 16 => some ("_law_apart", ad 16)
  | 17 => some ("law", ad 17)
  | _ => none
noncomputable def cx_heapreplace : Cx := ⟨n_heapreplace, o_heapreplace, List.range 3, scopeOf 0⟩
noncomputable def cx_heapify : Cx := ⟨n_heapify, o_heapify, List.range 3, scopeOf 1⟩
noncomputable def cx_siftdown : Cx := ⟨n_siftdown, o_siftdown, List.range 6, scopeOf 2⟩
noncomputable def cx_siftup : Cx := ⟨n_siftup, o_siftup, List.range 7, scopeOf 3⟩
noncomputable def cx_add_func_stats : Cx := ⟨n_add_func_stats, o_add_func_stats, List.range 12, scopeOf 4⟩
noncomputable def cx_add_callers : Cx := ⟨n_add_callers, o_add_callers, List.range 5, scopeOf 5⟩
noncomputable def cx_count_calls : Cx := ⟨n_count_calls, o_count_calls, List.range 3, scopeOf 6⟩
noncomputable def cx_substitution_cost : Cx := ⟨n_substitution_cost, o_substitution_cost, List.range 2, scopeOf 7⟩
noncomputable def cx_levenshtein_distance : Cx := ⟨n_levenshtein_distance, o_levenshtein_distance, List.range 14, scopeOf 8⟩
noncomputable def cx_law_word : Cx := ⟨n_law_word, o_law_word, List.range 2, scopeOf 9⟩
noncomputable def cx_law_spread : Cx := ⟨n_law_spread, o_law_spread, List.range 15, scopeOf 10⟩
noncomputable def cx_law_price : Cx := ⟨n_law_price, o_law_price, List.range 7, scopeOf 11⟩
noncomputable def cx_law_table : Cx := ⟨n_law_table, o_law_table, List.range 5, scopeOf 12⟩
noncomputable def cx_law_plain : Cx := ⟨n_law_plain, o_law_plain, List.range 17, scopeOf 13⟩
noncomputable def cx_law_choices : Cx := ⟨n_law_choices, o_law_choices, List.range 6, scopeOf 14⟩
noncomputable def cx_law_cover : Cx := ⟨n_law_cover, o_law_cover, List.range 5, scopeOf 15⟩
noncomputable def cx_law_apart : Cx := ⟨n_law_apart, o_law_apart, List.range 6, scopeOf 16⟩
noncomputable def cx_law : Cx := ⟨n_law, o_law, List.range 13, scopeOf 17⟩
end Mine
end
section
open PySem PySem.W PyProof.Rows PySem.Calls
set_option maxRecDepth 100000
namespace Mine
theorem d_heapreplace {prog : Program} {w : World} {ad : Nat → Addr} {h₀ : Heap} {A : Around} {Φ Ψ : Nat → List D → Option D} (B : Amb prog w A (fnTab ad) h₀ Φ) (IO : CallsIO prog w A (fnTab ad) h₀ Ψ) :
    ExecsP prog w A h₀ Φ Ψ cx_heapreplace [] (bodyOf 0) f_heapreplace.body :=
  (x_cons (s_assign ⟨rfl, by decide, by decide +kernel⟩ (by decide) (p_sub (fun _ _ => rfl) (p_bor rfl (by decide +kernel) (by decide +kernel)) (p_int)) rfl (fun _ _ => rfl))
  (x_cons (s_setAt ⟨rfl, by decide +kernel, by decide +kernel⟩ (by decide) (p_int) (p_var rfl (by decide +kernel) (by decide +kernel) (by decide)) rfl (fun _ => rfl))
  (x_cons (s_callIO B IO (f := 3) rfl (by decide +kernel) (by decide +kernel) ⟨rfl, by decide +kernel, by decide +kernel⟩ (by decide) (all_cons (fun _ _ => rfl) (all_cons (fun _ _ => rfl) (all_nil))) (l_cons (p_int) rfl (l_nil)) (fun _ => rfl))
  (x_cons (s_ret (r_plain (p_var rfl (by decide +kernel) (by decide +kernel) (by decide)) rfl))
  x_nil))))
theorem d_heapify {prog : Program} {w : World} {ad : Nat → Addr} {h₀ : Heap} {A : Around} {Φ Ψ : Nat → List D → Option D} (B : Amb prog w A (fnTab ad) h₀ Φ) (IO : CallsIO prog w A (fnTab ad) h₀ Ψ) :
    ExecsP prog w A h₀ Φ Ψ cx_heapify [] (bodyOf 1) f_heapify.body :=
  (x_cons (s_assign ⟨rfl, by decide, by decide +kernel⟩ (by decide) (p_len B (by decide +kernel) (fun _ _ => rfl) (fun _ => rfl) (p_bor rfl (by decide +kernel) (by decide +kernel))) rfl (fun _ _ => rfl))
  (x_cons (s_for1 ⟨rfl, by decide, by decide +kernel⟩ (by decide) (s_rev B (by decide +kernel) (by decide +kernel) (fun _ _ => rfl) (fun _ => rfl) (fun _ => rfl) (p_bin (op := .fdiv) (p_var rfl (by decide +kernel) (by decide +kernel) (by decide)) (p_int))) (fun _ _ => rfl)
   (x_cons (s_callIO B IO (f := 3) rfl (by decide +kernel) (by decide +kernel) ⟨rfl, by decide +kernel, by decide +kernel⟩ (by decide) (all_cons (fun _ _ => rfl) (all_cons (fun _ _ => rfl) (all_nil))) (l_cons (p_var rfl (by decide +kernel) (by decide +kernel) (by decide)) rfl (l_nil)) (fun _ => rfl))
   x_nil))
  x_nil))
theorem d_siftdown {prog : Program} {w : World} {ad : Nat → Addr} {h₀ : Heap} {A : Around} {Φ Ψ : Nat → List D → Option D} (B : Amb prog w A (fnTab ad) h₀ Φ) (IO : CallsIO prog w A (fnTab ad) h₀ Ψ) :
    ExecsP prog w A h₀ Φ Ψ cx_siftdown [] (bodyOf 2) f_siftdown.body :=
  (x_cons (s_assign ⟨rfl, by decide, by decide +kernel⟩ (by decide) (p_sub (fun _ _ => rfl) (p_bor rfl (by decide +kernel) (by decide +kernel)) (p_var rfl (by decide +kernel) (by decide +kernel) (by decide))) rfl (fun _ _ => rfl))
  (x_cons (s_while (t_cmp B (op := .gt) rfl (p_var rfl (by decide +kernel) (by decide +kernel) (by decide)) (p_var rfl (by decide +kernel) (by decide +kernel) (by decide)))
   (x_cons (s_assign ⟨rfl, by decide, by decide +kernel⟩ (by decide) (p_bin (op := .shr) (p_bin (op := .sub) (p_var rfl (by decide +kernel) (by decide +kernel) (by decide)) (p_int)) (p_int)) rfl (fun _ _ => rfl))
   (x_cons (s_assign ⟨rfl, by decide, by decide +kernel⟩ (by decide) (p_sub (fun _ _ => rfl) (p_bor rfl (by decide +kernel) (by decide +kernel)) (p_var rfl (by decide +kernel) (by decide +kernel) (by decide))) rfl (fun _ _ => rfl))
   (x_cons (s_ite (t_cmp B (op := .lt) rfl (p_var rfl (by decide +kernel) (by decide +kernel) (by decide)) (p_var rfl (by decide +kernel) (by decide +kernel) (by decide)))
    (x_cons (s_setAt ⟨rfl, by decide +kernel, by decide +kernel⟩ (by decide) (p_var rfl (by decide +kernel) (by decide +kernel) (by decide)) (p_var rfl (by decide +kernel) (by decide +kernel) (by decide)) rfl (fun _ => rfl))
    (x_cons (s_assign ⟨rfl, by decide, by decide +kernel⟩ (by decide) (p_var rfl (by decide +kernel) (by decide +kernel) (by decide)) rfl (fun _ _ => rfl))
    (x_cons s_cont
    x_nil)))
    x_nil)
   (x_cons s_brk
   x_nil)))))
  (x_cons (s_setAt ⟨rfl, by decide +kernel, by decide +kernel⟩ (by decide) (p_var rfl (by decide +kernel) (by decide +kernel) (by decide)) (p_var rfl (by decide +kernel) (by decide +kernel) (by decide)) rfl (fun _ => rfl))
  x_nil)))
theorem d_siftup {prog : Program} {w : World} {ad : Nat → Addr} {h₀ : Heap} {A : Around} {Φ Ψ : Nat → List D → Option D} (B : Amb prog w A (fnTab ad) h₀ Φ) (IO : CallsIO prog w A (fnTab ad) h₀ Ψ) :
    ExecsP prog w A h₀ Φ Ψ cx_siftup [] (bodyOf 3) f_siftup.body :=
  (x_cons (s_assign ⟨rfl, by decide, by decide +kernel⟩ (by decide) (p_len B (by decide +kernel) (fun _ _ => rfl) (fun _ => rfl) (p_bor rfl (by decide +kernel) (by decide +kernel))) rfl (fun _ _ => rfl))
  (x_cons (s_assign ⟨rfl, by decide, by decide +kernel⟩ (by decide) (p_var rfl (by decide +kernel) (by decide +kernel) (by decide)) rfl (fun _ _ => rfl))
  (x_cons (s_assign ⟨rfl, by decide, by decide +kernel⟩ (by decide) (p_sub (fun _ _ => rfl) (p_bor rfl (by decide +kernel) (by decide +kernel)) (p_var rfl (by decide +kernel) (by decide +kernel) (by decide))) rfl (fun _ _ => rfl))
  (x_cons (s_assign ⟨rfl, by decide, by decide +kernel⟩ (by decide) (p_bin (op := .add) (p_bin (op := .mul) (p_int) (p_var rfl (by decide +kernel) (by decide +kernel) (by decide))) (p_int)) rfl (fun _ _ => rfl))
  (x_cons (s_while (t_cmp B (op := .lt) rfl (p_var rfl (by decide +kernel) (by decide +kernel) (by decide)) (p_var rfl (by decide +kernel) (by decide +kernel) (by decide)))
   (x_cons (s_assign ⟨rfl, by decide, by decide +kernel⟩ (by decide) (p_bin (op := .add) (p_var rfl (by decide +kernel) (by decide +kernel) (by decide)) (p_int)) rfl (fun _ _ => rfl))
   (x_cons (s_ite (t_and (a_cons (t_cmp B (op := .lt) rfl (p_var rfl (by decide +kernel) (by decide +kernel) (by decide)) (p_var rfl (by decide +kernel) (by decide +kernel) (by decide))) (a_cons (t_not (t_cmp B (op := .lt) rfl (p_sub (fun _ _ => rfl) (p_bor rfl (by decide +kernel) (by decide +kernel)) (p_var rfl (by decide +kernel) (by decide +kernel) (by decide))) (p_sub (fun _ _ => rfl) (p_bor rfl (by decide +kernel) (by decide +kernel)) (p_var rfl (by decide +kernel) (by decide +kernel) (by decide))))) (a_nil))))
    (x_cons (s_assign ⟨rfl, by decide, by decide +kernel⟩ (by decide) (p_var rfl (by decide +kernel) (by decide +kernel) (by decide)) rfl (fun _ _ => rfl))
    x_nil)
    x_nil)
   (x_cons (s_setAt ⟨rfl, by decide +kernel, by decide +kernel⟩ (by decide) (p_var rfl (by decide +kernel) (by decide +kernel) (by decide)) (p_sub (fun _ _ => rfl) (p_bor rfl (by decide +kernel) (by decide +kernel)) (p_var rfl (by decide +kernel) (by decide +kernel) (by decide))) rfl (fun _ => rfl))
   (x_cons (s_assign ⟨rfl, by decide, by decide +kernel⟩ (by decide) (p_var rfl (by decide +kernel) (by decide +kernel) (by decide)) rfl (fun _ _ => rfl))
   (x_cons (s_assign ⟨rfl, by decide, by decide +kernel⟩ (by decide) (p_bin (op := .add) (p_bin (op := .mul) (p_int) (p_var rfl (by decide +kernel) (by decide +kernel) (by decide))) (p_int)) rfl (fun _ _ => rfl))
   x_nil))))))
  (x_cons (s_setAt ⟨rfl, by decide +kernel, by decide +kernel⟩ (by decide) (p_var rfl (by decide +kernel) (by decide +kernel) (by decide)) (p_var rfl (by decide +kernel) (by decide +kernel) (by decide)) rfl (fun _ => rfl))
  (x_cons (s_callIO B IO (f := 2) rfl (by decide +kernel) (by decide +kernel) ⟨rfl, by decide +kernel, by decide +kernel⟩ (by decide) (all_cons (fun _ _ => rfl) (all_cons (fun _ _ => rfl) (all_cons (fun _ _ => rfl) (all_nil)))) (l_cons (p_var rfl (by decide +kernel) (by decide +kernel) (by decide)) rfl (l_cons (p_var rfl (by decide +kernel) (by decide +kernel) (by decide)) rfl (l_nil))) (fun _ => rfl))
  x_nil)))))))
theorem d_add_func_stats {prog : Program} {w : World} {ad : Nat → Addr} {h₀ : Heap} {A : Around} {Φ Ψ : Nat → List D → Option D} (B : Amb prog w A (fnTab ad) h₀ Φ) (IO : CallsIO prog w A (fnTab ad) h₀ Ψ) :
    ExecsP prog w A h₀ Φ Ψ cx_add_func_stats o_add_func_stats (bodyOf 4) f_add_func_stats.body :=
  (x_cons (s_unpack B.hA ⟨⟨rfl, by decide, by decide +kernel⟩, by decide, ⟨⟨rfl, by decide, by decide +kernel⟩, by decide, ⟨⟨rfl, by decide, by decide +kernel⟩, by decide, ⟨⟨rfl, by decide, by decide +kernel⟩, by decide, ⟨⟨rfl, by decide, by decide +kernel⟩, by decide, trivial⟩⟩⟩⟩⟩ (p_var rfl (by decide +kernel) (by decide +kernel) (by decide)) rfl (fun _ => rfl) (fun _ => rfl))
  (x_cons (s_unpack B.hA ⟨⟨rfl, by decide, by decide +kernel⟩, by decide, ⟨⟨rfl, by decide, by decide +kernel⟩, by decide, ⟨⟨rfl, by decide, by decide +kernel⟩, by decide, ⟨⟨rfl, by decide, by decide +kernel⟩, by decide, ⟨⟨rfl, by decide, by decide +kernel⟩, by decide, trivial⟩⟩⟩⟩⟩ (p_var rfl (by decide +kernel) (by decide +kernel) (by decide)) rfl (fun _ => rfl) (fun _ => rfl))
  (x_cons (s_ret (r_plain (p_tup (all_cons (fun _ _ => rfl) (all_cons (fun _ _ => rfl) (all_cons (fun _ _ => rfl) (all_cons (fun _ _ => rfl) (all_cons (fun _ _ => rfl) (all_nil)))))) (l_cons (p_bin (op := .add) (p_var rfl (by decide +kernel) (by decide +kernel) (by decide)) (p_var rfl (by decide +kernel) (by decide +kernel) (by decide))) rfl (l_cons (p_bin (op := .add) (p_var rfl (by decide +kernel) (by decide +kernel) (by decide)) (p_var rfl (by decide +kernel) (by decide +kernel) (by decide))) rfl (l_cons (p_bin (op := .add) (p_var rfl (by decide +kernel) (by decide +kernel) (by decide)) (p_var rfl (by decide +kernel) (by decide +kernel) (by decide))) rfl (l_cons (p_bin (op := .add) (p_var rfl (by decide +kernel) (by decide +kernel) (by decide)) (p_var rfl (by decide +kernel) (by decide +kernel) (by decide))) rfl (l_cons (p_call B (f := 5) rfl (by decide +kernel) (by decide +kernel) (all_cons (fun _ _ => rfl) (all_cons (fun _ _ => rfl) (all_nil))) (l_cons (p_var rfl (by decide +kernel) (by decide +kernel) (by decide)) rfl (l_cons (p_var rfl (by decide +kernel) (by decide +kernel) (by decide)) rfl (l_nil))) (fun _ => rfl)) rfl (l_nil))))))) rfl))
  x_nil)))
theorem d_add_callers {prog : Program} {w : World} {ad : Nat → Addr} {h₀ : Heap} {A : Around} {Φ Ψ : Nat → List D → Option D} (B : Amb prog w A (fnTab ad) h₀ Φ) (IO : CallsIO prog w A (fnTab ad) h₀ Ψ) :
    ExecsP prog w A h₀ Φ Ψ cx_add_callers o_add_callers (bodyOf 5) f_add_callers.body :=
  (x_cons (s_own ⟨rfl, by decide, by decide +kernel⟩ (by decide) (by decide) (n_dict0 B) (fun _ _ => rfl))
  (x_cons (s_for2 B ⟨rfl, by decide, by decide +kernel⟩ ⟨rfl, by decide, by decide +kernel⟩ (by decide) (by decide) (fun _ => rfl) rfl rfl (p_var rfl (by decide +kernel) (by decide +kernel) (by decide))
   (x_cons (s_setAt ⟨rfl, by decide +kernel, by decide +kernel⟩ (by decide) (p_var rfl (by decide +kernel) (by decide +kernel) (by decide)) (p_var rfl (by decide +kernel) (by decide +kernel) (by decide)) rfl (fun _ => rfl))
   x_nil))
  (x_cons (s_for2 B ⟨rfl, by decide, by decide +kernel⟩ ⟨rfl, by decide, by decide +kernel⟩ (by decide) (by decide) (fun _ => rfl) rfl rfl (p_var rfl (by decide +kernel) (by decide +kernel) (by decide))
   (x_cons (s_ite (t_in B rfl (p_var rfl (by decide +kernel) (by decide +kernel) (by decide)) (p_bor rfl (by decide +kernel) (by decide +kernel)))
    (x_cons (s_ite (t_isTup B (by decide +kernel) (by decide +kernel) (fun _ _ => rfl) (fun _ => rfl) (fun _ => rfl) (p_var rfl (by decide +kernel) (by decide +kernel) (by decide)))
     (x_cons s_stuck
     x_nil)
     (x_cons (s_augAt (op := .add) ⟨rfl, by decide +kernel, by decide +kernel⟩ (by decide) (p_var rfl (by decide +kernel) (by decide +kernel) (by decide)) rfl (p_var rfl (by decide +kernel) (by decide +kernel) (by decide)) (fun _ _ _ => rfl))
     x_nil))
    x_nil)
    (x_cons (s_setAt ⟨rfl, by decide +kernel, by decide +kernel⟩ (by decide) (p_var rfl (by decide +kernel) (by decide +kernel) (by decide)) (p_var rfl (by decide +kernel) (by decide +kernel) (by decide)) rfl (fun _ => rfl))
    x_nil))
   x_nil))
  (x_cons (s_ret (r_own ⟨rfl, by decide +kernel, by decide +kernel⟩ (by decide) (by decide)))
  x_nil))))
theorem d_count_calls {prog : Program} {w : World} {ad : Nat → Addr} {h₀ : Heap} {A : Around} {Φ Ψ : Nat → List D → Option D} (B : Amb prog w A (fnTab ad) h₀ Φ) (IO : CallsIO prog w A (fnTab ad) h₀ Ψ) :
    ExecsP prog w A h₀ Φ Ψ cx_count_calls o_count_calls (bodyOf 6) f_count_calls.body :=
  (x_cons (s_assign ⟨rfl, by decide, by decide +kernel⟩ (by decide) (p_int) rfl (fun _ _ => rfl))
  (x_cons (s_for1 ⟨rfl, by decide, by decide +kernel⟩ (by decide) (s_values B (fun _ => rfl) rfl rfl (p_var rfl (by decide +kernel) (by decide +kernel) (by decide))) (fun _ _ => rfl)
   (x_cons (s_aug (op := .add) ⟨rfl, by decide, by decide +kernel⟩ (by decide +kernel) (by decide) (p_var rfl (by decide +kernel) (by decide +kernel) (by decide)))
   x_nil))
  (x_cons (s_ret (r_plain (p_var rfl (by decide +kernel) (by decide +kernel) (by decide)) rfl))
  x_nil)))
theorem d_substitution_cost {prog : Program} {w : World} {ad : Nat → Addr} {h₀ : Heap} {A : Around} {Φ Ψ : Nat → List D → Option D} (B : Amb prog w A (fnTab ad) h₀ Φ) (IO : CallsIO prog w A (fnTab ad) h₀ Ψ) :
    ExecsP prog w A h₀ Φ Ψ cx_substitution_cost o_substitution_cost (bodyOf 7) f_substitution_cost.body :=
  (x_cons (s_ite (t_cmp B (op := .eq) rfl (p_var rfl (by decide +kernel) (by decide +kernel) (by decide)) (p_var rfl (by decide +kernel) (by decide +kernel) (by decide)))
   (x_cons (s_ret (r_plain (p_int) rfl))
   x_nil)
   x_nil)
  (x_cons (s_ite (t_cmp B (op := .eq) rfl (p_lower (fun _ => rfl) rfl (p_var rfl (by decide +kernel) (by decide +kernel) (by decide))) (p_lower (fun _ => rfl) rfl (p_var rfl (by decide +kernel) (by decide +kernel) (by decide))))
   (x_cons (s_ret (r_plain (p_glob B (by decide +kernel) (by decide +kernel) (by decide +kernel)) rfl))
   x_nil)
   x_nil)
  (x_cons (s_ret (r_plain (p_glob B (by decide +kernel) (by decide +kernel) (by decide +kernel)) rfl))
  x_nil)))
theorem d_levenshtein_distance {prog : Program} {w : World} {ad : Nat → Addr} {h₀ : Heap} {A : Around} {Φ Ψ : Nat → List D → Option D} (B : Amb prog w A (fnTab ad) h₀ Φ) (IO : CallsIO prog w A (fnTab ad) h₀ Ψ) :
    ExecsP prog w A h₀ Φ Ψ cx_levenshtein_distance o_levenshtein_distance (bodyOf 8) f_levenshtein_distance.body :=
  (x_cons (s_ite (t_cmp B (op := .eq) rfl (p_var rfl (by decide +kernel) (by decide +kernel) (by decide)) (p_var rfl (by decide +kernel) (by decide +kernel) (by decide)))
   (x_cons (s_ret (r_plain (p_int) rfl))
   x_nil)
   x_nil)
  (x_cons (s_assign ⟨rfl, by decide, by decide +kernel⟩ (by decide) (p_int) rfl (fun _ _ => rfl))
  (x_cons (s_while (t_and (a_cons (t_truth (fun _ => rfl) (p_from (p_var rfl (by decide +kernel) (by decide +kernel) (by decide)) (p_var rfl (by decide +kernel) (by decide +kernel) (by decide)))) (a_cons (t_truth (fun _ => rfl) (p_from (p_var rfl (by decide +kernel) (by decide +kernel) (by decide)) (p_var rfl (by decide +kernel) (by decide +kernel) (by decide)))) (a_cons (t_cmp B (op := .eq) rfl (p_sub (fun _ _ => rfl) (p_var rfl (by decide +kernel) (by decide +kernel) (by decide)) (p_var rfl (by decide +kernel) (by decide +kernel) (by decide))) (p_sub (fun _ _ => rfl) (p_var rfl (by decide +kernel) (by decide +kernel) (by decide)) (p_var rfl (by decide +kernel) (by decide +kernel) (by decide)))) (a_nil)))))
   (x_cons (s_aug (op := .add) ⟨rfl, by decide, by decide +kernel⟩ (by decide +kernel) (by decide) (p_int))
   x_nil))
  (x_cons (s_assign ⟨rfl, by decide, by decide +kernel⟩ (by decide) (p_from (p_var rfl (by decide +kernel) (by decide +kernel) (by decide)) (p_var rfl (by decide +kernel) (by decide +kernel) (by decide))) rfl (fun _ _ => rfl))
  (x_cons (s_assign ⟨rfl, by decide, by decide +kernel⟩ (by decide) (p_from (p_var rfl (by decide +kernel) (by decide +kernel) (by decide)) (p_var rfl (by decide +kernel) (by decide +kernel) (by decide))) rfl (fun _ _ => rfl))
  (x_cons (s_assign ⟨rfl, by decide, by decide +kernel⟩ (by decide) (p_int) rfl (fun _ _ => rfl))
  (x_cons (s_while (t_and (a_cons (t_truth (fun _ => rfl) (p_upto (p_var rfl (by decide +kernel) (by decide +kernel) (by decide)) (p_orx (p_var rfl (by decide +kernel) (by decide +kernel) (by decide)) (p_none) rfl rfl))) (a_cons (t_truth (fun _ => rfl) (p_upto (p_var rfl (by decide +kernel) (by decide +kernel) (by decide)) (p_orx (p_var rfl (by decide +kernel) (by decide +kernel) (by decide)) (p_none) rfl rfl))) (a_cons (t_cmp B (op := .eq) rfl (p_sub (fun _ _ => rfl) (p_var rfl (by decide +kernel) (by decide +kernel) (by decide)) (p_bin (op := .sub) (p_var rfl (by decide +kernel) (by decide +kernel) (by decide)) (p_int))) (p_sub (fun _ _ => rfl) (p_var rfl (by decide +kernel) (by decide +kernel) (by decide)) (p_bin (op := .sub) (p_var rfl (by decide +kernel) (by decide +kernel) (by decide)) (p_int)))) (a_nil)))))
   (x_cons (s_aug (op := .sub) ⟨rfl, by decide, by decide +kernel⟩ (by decide +kernel) (by decide) (p_int))
   x_nil))
  (x_cons (s_assign ⟨rfl, by decide, by decide +kernel⟩ (by decide) (p_upto (p_var rfl (by decide +kernel) (by decide +kernel) (by decide)) (p_orx (p_var rfl (by decide +kernel) (by decide +kernel) (by decide)) (p_none) rfl rfl)) rfl (fun _ _ => rfl))
  (x_cons (s_assign ⟨rfl, by decide, by decide +kernel⟩ (by decide) (p_upto (p_var rfl (by decide +kernel) (by decide +kernel) (by decide)) (p_orx (p_var rfl (by decide +kernel) (by decide +kernel) (by decide)) (p_none) rfl rfl)) rfl (fun _ _ => rfl))
  (x_cons (s_ite (t_or (o_cons (t_not (t_truth (fun _ => rfl) (p_var rfl (by decide +kernel) (by decide +kernel) (by decide)))) (o_cons (t_not (t_truth (fun _ => rfl) (p_var rfl (by decide +kernel) (by decide +kernel) (by decide)))) (o_nil))))
   (x_cons (s_ret (r_plain (p_bin (op := .mul) (p_glob B (by decide +kernel) (by decide +kernel) (by decide +kernel)) (p_bin (op := .add) (p_len B (by decide +kernel) (fun _ _ => rfl) (fun _ => rfl) (p_var rfl (by decide +kernel) (by decide +kernel) (by decide))) (p_len B (by decide +kernel) (fun _ _ => rfl) (fun _ => rfl) (p_var rfl (by decide +kernel) (by decide +kernel) (by decide))))) rfl))
   x_nil)
   x_nil)
  (x_cons (s_ite (t_or (o_cons (t_cmp B (op := .gt) rfl (p_len B (by decide +kernel) (fun _ _ => rfl) (fun _ => rfl) (p_var rfl (by decide +kernel) (by decide +kernel) (by decide))) (p_glob B (by decide +kernel) (by decide +kernel) (by decide +kernel))) (o_cons (t_cmp B (op := .gt) rfl (p_len B (by decide +kernel) (fun _ _ => rfl) (fun _ => rfl) (p_var rfl (by decide +kernel) (by decide +kernel) (by decide))) (p_glob B (by decide +kernel) (by decide +kernel) (by decide +kernel))) (o_nil))))
   (x_cons (s_ret (r_plain (p_bin (op := .add) (p_var rfl (by decide +kernel) (by decide +kernel) (by decide)) (p_int)) rfl))
   x_nil)
   x_nil)
  (x_cons (s_ite (t_cmp B (op := .lt) rfl (p_len B (by decide +kernel) (fun _ _ => rfl) (fun _ => rfl) (p_var rfl (by decide +kernel) (by decide +kernel) (by decide))) (p_len B (by decide +kernel) (fun _ _ => rfl) (fun _ => rfl) (p_var rfl (by decide +kernel) (by decide +kernel) (by decide))))
   (x_cons (s_swap B.hA ⟨rfl, by decide, by decide +kernel⟩ ⟨rfl, by decide, by decide +kernel⟩ (by decide) (by decide) (by decide) (p_var rfl (by decide +kernel) (by decide +kernel) (by decide)) (p_var rfl (by decide +kernel) (by decide +kernel) (by decide)) rfl rfl (fun _ _ => rfl) (fun _ _ => rfl) (fun _ => rfl) (swapped_two rfl (by decide +kernel) (by decide +kernel) rfl (by decide +kernel) (by decide +kernel)))
   x_nil)
   x_nil)
  (x_cons (s_ite (t_cmp B (op := .gt) rfl (p_bin (op := .mul) (p_bin (op := .sub) (p_len B (by decide +kernel) (fun _ _ => rfl) (fun _ => rfl) (p_var rfl (by decide +kernel) (by decide +kernel) (by decide))) (p_len B (by decide +kernel) (fun _ _ => rfl) (fun _ => rfl) (p_var rfl (by decide +kernel) (by decide +kernel) (by decide)))) (p_glob B (by decide +kernel) (by decide +kernel) (by decide +kernel))) (p_var rfl (by decide +kernel) (by decide +kernel) (by decide)))
   (x_cons (s_ret (r_plain (p_bin (op := .add) (p_var rfl (by decide +kernel) (by decide +kernel) (by decide)) (p_int)) rfl))
   x_nil)
   x_nil)
  (x_cons (s_own ⟨rfl, by decide, by decide +kernel⟩ (by decide) (by decide) (n_range3 B (by decide +kernel) (by decide +kernel) (fun _ _ => rfl) (fun _ _ => rfl) (fun _ _ => rfl) (fun _ => rfl) (fun _ => rfl) (p_glob B (by decide +kernel) (by decide +kernel) (by decide +kernel)) (p_bin (op := .mul) (p_glob B (by decide +kernel) (by decide +kernel) (by decide +kernel)) (p_bin (op := .add) (p_len B (by decide +kernel) (fun _ _ => rfl) (fun _ => rfl) (p_var rfl (by decide +kernel) (by decide +kernel) (by decide))) (p_int))) (p_glob B (by decide +kernel) (by decide +kernel) (by decide +kernel))) (fun _ _ => rfl))
  (x_cons (s_assign ⟨rfl, by decide, by decide +kernel⟩ (by decide) (p_int) rfl (fun _ _ => rfl))
  (x_cons (s_for1 ⟨rfl, by decide, by decide +kernel⟩ (by decide) (s_range1 B (by decide +kernel) (fun _ _ => rfl) (fun _ => rfl) (p_len B (by decide +kernel) (fun _ _ => rfl) (fun _ => rfl) (p_var rfl (by decide +kernel) (by decide +kernel) (by decide)))) (fun _ _ => rfl)
   (x_cons (s_assign ⟨rfl, by decide, by decide +kernel⟩ (by decide) (p_sub (fun _ _ => rfl) (p_var rfl (by decide +kernel) (by decide +kernel) (by decide)) (p_var rfl (by decide +kernel) (by decide +kernel) (by decide))) rfl (fun _ _ => rfl))
   (x_cons (s_two ⟨rfl, by decide, by decide +kernel⟩ ⟨rfl, by decide, by decide +kernel⟩ (by decide) (by decide) (p_bin (op := .mul) (p_var rfl (by decide +kernel) (by decide +kernel) (by decide)) (p_glob B (by decide +kernel) (by decide +kernel) (by decide +kernel))) rfl (fun _ => rfl))
   (x_cons (s_assign ⟨rfl, by decide, by decide +kernel⟩ (by decide) (p_int) rfl (fun _ _ => rfl))
   (x_cons (s_for1 ⟨rfl, by decide, by decide +kernel⟩ (by decide) (s_range1 B (by decide +kernel) (fun _ _ => rfl) (fun _ => rfl) (p_len B (by decide +kernel) (fun _ _ => rfl) (fun _ => rfl) (p_var rfl (by decide +kernel) (by decide +kernel) (by decide)))) (fun _ _ => rfl)
    (x_cons (s_assign ⟨rfl, by decide, by decide +kernel⟩ (by decide) (p_bin (op := .add) (p_var rfl (by decide +kernel) (by decide +kernel) (by decide)) (p_call B (f := 7) rfl (by decide +kernel) (by decide +kernel) (all_cons (fun _ _ => rfl) (all_cons (fun _ _ => rfl) (all_nil))) (l_cons (p_var rfl (by decide +kernel) (by decide +kernel) (by decide)) rfl (l_cons (p_sub (fun _ _ => rfl) (p_var rfl (by decide +kernel) (by decide +kernel) (by decide)) (p_var rfl (by decide +kernel) (by decide +kernel) (by decide))) rfl (l_nil))) (fun _ => rfl))) rfl (fun _ _ => rfl))
    (x_cons (s_assign ⟨rfl, by decide, by decide +kernel⟩ (by decide) (p_sub (fun _ _ => rfl) (p_bor rfl (by decide +kernel) (by decide +kernel)) (p_var rfl (by decide +kernel) (by decide +kernel) (by decide))) rfl (fun _ _ => rfl))
    (x_cons (s_assign ⟨rfl, by decide, by decide +kernel⟩ (by decide) (p_bin (op := .add) (p_min2 B (by decide +kernel) (fun _ _ => rfl) (fun _ _ => rfl) (fun _ => rfl) (p_var rfl (by decide +kernel) (by decide +kernel) (by decide)) (p_var rfl (by decide +kernel) (by decide +kernel) (by decide))) (p_glob B (by decide +kernel) (by decide +kernel) (by decide +kernel))) rfl (fun _ _ => rfl))
    (x_cons (s_assign ⟨rfl, by decide, by decide +kernel⟩ (by decide) (p_min2 B (by decide +kernel) (fun _ _ => rfl) (fun _ _ => rfl) (fun _ => rfl) (p_var rfl (by decide +kernel) (by decide +kernel) (by decide)) (p_var rfl (by decide +kernel) (by decide +kernel) (by decide))) rfl (fun _ _ => rfl))
    (x_cons (s_setAt ⟨rfl, by decide +kernel, by decide +kernel⟩ (by decide) (p_var rfl (by decide +kernel) (by decide +kernel) (by decide)) (p_var rfl (by decide +kernel) (by decide +kernel) (by decide)) rfl (fun _ => rfl))
    (x_cons (s_ite (t_cmp B (op := .lt) rfl (p_var rfl (by decide +kernel) (by decide +kernel) (by decide)) (p_var rfl (by decide +kernel) (by decide +kernel) (by decide)))
     (x_cons (s_assign ⟨rfl, by decide, by decide +kernel⟩ (by decide) (p_var rfl (by decide +kernel) (by decide +kernel) (by decide)) rfl (fun _ _ => rfl))
     x_nil)
     x_nil)
    x_nil)))))))
   (x_cons (s_ite (t_cmp B (op := .gt) rfl (p_var rfl (by decide +kernel) (by decide +kernel) (by decide)) (p_var rfl (by decide +kernel) (by decide +kernel) (by decide)))
    (x_cons (s_ret (r_plain (p_bin (op := .add) (p_var rfl (by decide +kernel) (by decide +kernel) (by decide)) (p_int)) rfl))
    x_nil)
    x_nil)
   x_nil))))))
  (x_cons (s_ret (r_plain (p_var rfl (by decide +kernel) (by decide +kernel) (by decide)) rfl))
  x_nil)))))))))))))))))
theorem d_law_word {prog : Program} {w : World} {ad : Nat → Addr} {h₀ : Heap} {A : Around} {Φ Ψ : Nat → List D → Option D} (B : Amb prog w A (fnTab ad) h₀ Φ) (IO : CallsIO prog w A (fnTab ad) h₀ Ψ) :
    ExecsP prog w A h₀ Φ Ψ cx_law_word o_law_word (bodyOf 9) f_law_word.body :=
  (x_cons (s_ret (r_plain (p_join (fun _ => rfl) rfl (fun _ _ => rfl) (p_str) (p_new (n_comp B ⟨compOk_of rfl (by decide +kernel), ⟨true, (s_seq B (fun _ => rfl) (p_tup (all_cons (fun _ _ => rfl) (all_cons (fun _ _ => rfl) (all_cons (fun _ _ => rfl) (all_nil)))) (l_cons (p_int) rfl (l_cons (p_int) rfl (l_cons (p_int) rfl (l_nil))))))⟩, (fun _ _ => rfl), ⟨⟨_, _, rfl, rfl, (by decide), (by decide +kernel), (by decide)⟩, rfl, (i_nil)⟩, trivial, (p_sub (fun _ _ => rfl) (p_new (n_list (all_cons (fun _ _ => rfl) (all_cons (fun _ _ => rfl) (all_cons (fun _ _ => rfl) (all_cons (fun _ _ => rfl) (all_nil))))) (l_cons (p_str) rfl (l_cons (p_str) rfl (l_cons (p_str) rfl (l_cons (p_str) rfl (l_nil))))))) (p_bin (op := .mod) (p_bin (op := .fdiv) (p_bin (op := .mod) (p_var rfl (by decide +kernel) (by decide +kernel) (by decide)) (p_int)) (p_var rfl (by decide +kernel) (by decide +kernel) (by decide))) (p_int))), rfl⟩))) rfl))
  x_nil)
theorem d_law_spread {prog : Program} {w : World} {ad : Nat → Addr} {h₀ : Heap} {A : Around} {Φ Ψ : Nat → List D → Option D} (B : Amb prog w A (fnTab ad) h₀ Φ) (IO : CallsIO prog w A (fnTab ad) h₀ Ψ) :
    ExecsP prog w A h₀ Φ Ψ cx_law_spread o_law_spread (bodyOf 10) f_law_spread.body :=
  (x_cons (s_useLo B ⟨rfl, by decide, by decide +kernel⟩ (fun _ => by decide) ⟨compOk_of rfl (by decide +kernel), ⟨true, (s_seq B (fun _ => rfl) (p_var rfl (by decide +kernel) (by decide +kernel) (by decide)))⟩, (fun _ _ => rfl), ⟨⟨_, _, rfl, rfl, (by decide), (by decide +kernel), (by decide)⟩, rfl, (i_nil)⟩, trivial, (p_tup (all_cons (fun _ _ => rfl) (all_cons (fun _ _ => rfl) (all_nil))) (l_cons (p_call B (f := 8) rfl (by decide +kernel) (by decide +kernel) (all_cons (fun _ _ => rfl) (all_cons (fun _ _ => rfl) (all_cons (fun _ _ => rfl) (all_nil)))) (l_cons (p_sub (fun _ _ => rfl) (p_var rfl (by decide +kernel) (by decide +kernel) (by decide)) (p_var rfl (by decide +kernel) (by decide +kernel) (by decide))) rfl (l_cons (p_var rfl (by decide +kernel) (by decide +kernel) (by decide)) rfl (l_cons (p_int) rfl (l_nil)))) (fun _ => rfl)) rfl (l_cons (p_var rfl (by decide +kernel) (by decide +kernel) (by decide)) rfl (l_nil)))), rfl⟩ (swaps_list rfl (by decide +kernel) (by decide +kernel)))
  (x_cons (s_own ⟨rfl, by decide, by decide +kernel⟩ (by decide) (by decide) (n_dict1 B (p_var rfl (by decide +kernel) (by decide +kernel) (by decide)) (p_tup (all_cons (fun _ _ => rfl) (all_cons (fun _ _ => rfl) (all_cons (fun _ _ => rfl) (all_cons (fun _ _ => rfl) (all_cons (fun _ _ => rfl) (all_nil)))))) (l_cons (p_int) rfl (l_cons (p_int) rfl (l_cons (p_int) rfl (l_cons (p_int) rfl (l_cons (p_new (n_dict0 B)) rfl (l_nil))))))) rfl) (fun _ _ => rfl))
  (x_cons (s_own ⟨rfl, by decide, by decide +kernel⟩ (by decide) (by decide) (n_list (all_nil) (l_nil)) (fun _ _ => rfl))
  (x_cons (s_for1 ⟨rfl, by decide, by decide +kernel⟩ (by decide) (s_range1 B (by decide +kernel) (fun _ _ => rfl) (fun _ => rfl) (p_len B (by decide +kernel) (fun _ _ => rfl) (fun _ => rfl) (p_var rfl (by decide +kernel) (by decide +kernel) (by decide)))) (fun _ _ => rfl)
   (x_cons (s_assign ⟨rfl, by decide, by decide +kernel⟩ (by decide) (p_sub (fun _ _ => rfl) (p_sub (fun _ _ => rfl) (p_bor rfl (by decide +kernel) (by decide +kernel)) (p_var rfl (by decide +kernel) (by decide +kernel) (by decide))) (p_int)) rfl (fun _ _ => rfl))
   (x_cons (s_setAt ⟨rfl, by decide +kernel, by decide +kernel⟩ (by decide) (p_var rfl (by decide +kernel) (by decide +kernel) (by decide)) (p_call B (f := 4) rfl (by decide +kernel) (by decide +kernel) (all_cons (fun _ _ => rfl) (all_cons (fun _ _ => rfl) (all_nil))) (l_cons (p_sub (fun _ _ => rfl) (p_bor rfl (by decide +kernel) (by decide +kernel)) (p_var rfl (by decide +kernel) (by decide +kernel) (by decide))) rfl (l_cons (p_tup (all_cons (fun _ _ => rfl) (all_cons (fun _ _ => rfl) (all_cons (fun _ _ => rfl) (all_cons (fun _ _ => rfl) (all_cons (fun _ _ => rfl) (all_nil)))))) (l_cons (p_int) rfl (l_cons (p_int) rfl (l_cons (p_var rfl (by decide +kernel) (by decide +kernel) (by decide)) rfl (l_cons (p_bin (op := .mul) (p_var rfl (by decide +kernel) (by decide +kernel) (by decide)) (p_var rfl (by decide +kernel) (by decide +kernel) (by decide))) rfl (l_cons (p_new (n_dict1 B (p_var rfl (by decide +kernel) (by decide +kernel) (by decide)) (p_int) rfl)) rfl (l_nil))))))) rfl (l_nil))) (fun _ => rfl)) rfl (fun _ => rfl))
   (x_cons (s_append ⟨rfl, by decide +kernel, by decide +kernel⟩ (by decide) (fun _ => rfl) rfl (fun _ _ => rfl) (p_tup (all_cons (fun _ _ => rfl) (all_cons (fun _ _ => rfl) (all_nil))) (l_cons (p_neg (p_var rfl (by decide +kernel) (by decide +kernel) (by decide))) rfl (l_cons (p_var rfl (by decide +kernel) (by decide +kernel) (by decide)) rfl (l_nil)))) rfl)
   x_nil))))
  (x_cons (s_callIO B IO (f := 1) rfl (by decide +kernel) (by decide +kernel) ⟨rfl, by decide +kernel, by decide +kernel⟩ (by decide) (all_cons (fun _ _ => rfl) (all_nil)) (l_nil) (fun _ => rfl))
  (x_cons (s_own ⟨rfl, by decide, by decide +kernel⟩ (by decide) (by decide) (n_list (all_cons (fun _ _ => rfl) (all_nil)) (l_cons (p_tup (all_cons (fun _ _ => rfl) (all_cons (fun _ _ => rfl) (all_nil))) (l_cons (p_var rfl (by decide +kernel) (by decide +kernel) (by decide)) rfl (l_cons (p_neg (p_sub (fun _ _ => rfl) (p_sub (fun _ _ => rfl) (p_bor rfl (by decide +kernel) (by decide +kernel)) (p_int)) (p_int))) rfl (l_nil)))) rfl (l_nil))) (fun _ _ => rfl))
  (x_cons (s_while (t_and (a_cons (t_cmp B (op := .lt) rfl (p_len B (by decide +kernel) (fun _ _ => rfl) (fun _ => rfl) (p_bor rfl (by decide +kernel) (by decide +kernel))) (p_var rfl (by decide +kernel) (by decide +kernel) (by decide))) (a_cons (t_cmp B (op := .lt) rfl (p_sub (fun _ _ => rfl) (p_sub (fun _ _ => rfl) (p_bor rfl (by decide +kernel) (by decide +kernel)) (p_int)) (p_int)) (p_int)) (a_nil))))
   (x_cons (s_assign ⟨rfl, by decide, by decide +kernel⟩ (by decide) (p_sub (fun _ _ => rfl) (p_sub (fun _ _ => rfl) (p_bor rfl (by decide +kernel) (by decide +kernel)) (p_int)) (p_int)) rfl (fun _ _ => rfl))
   (x_cons (s_useD B ⟨rfl, by decide, by decide +kernel⟩ (fun h => absurd h (by decide)) ⟨compOk_of rfl (by decide +kernel), ⟨false, (s_seq B (fun h => nomatch h) (p_bor rfl (by decide +kernel) (by decide +kernel)))⟩, (fun _ _ => rfl), ⟨⟨_, _, rfl, rfl, (by decide), (by decide +kernel), (by decide)⟩, rfl, (i_nil)⟩, (p_sub (fun _ _ => rfl) (p_var rfl (by decide +kernel) (by decide +kernel) (by decide)) (p_int)), (p_call B (f := 8) rfl (by decide +kernel) (by decide +kernel) (all_cons (fun _ _ => rfl) (all_cons (fun _ _ => rfl) (all_cons (fun _ _ => rfl) (all_nil)))) (l_cons (p_sub (fun _ _ => rfl) (p_var rfl (by decide +kernel) (by decide +kernel) (by decide)) (p_sub (fun _ _ => rfl) (p_var rfl (by decide +kernel) (by decide +kernel) (by decide)) (p_int))) rfl (l_cons (p_sub (fun _ _ => rfl) (p_var rfl (by decide +kernel) (by decide +kernel) (by decide)) (p_var rfl (by decide +kernel) (by decide +kernel) (by decide))) rfl (l_cons (p_int) rfl (l_nil)))) (fun _ => rfl)), rfl⟩ (swaps_dict rfl (by decide +kernel) (by decide +kernel)))
   (x_cons (s_setAt ⟨rfl, by decide +kernel, by decide +kernel⟩ (by decide) (p_var rfl (by decide +kernel) (by decide +kernel) (by decide)) (p_tup (all_cons (fun _ _ => rfl) (all_cons (fun _ _ => rfl) (all_cons (fun _ _ => rfl) (all_cons (fun _ _ => rfl) (all_cons (fun _ _ => rfl) (all_nil)))))) (l_cons (p_int) rfl (l_cons (p_int) rfl (l_cons (p_int) rfl (l_cons (p_int) rfl (l_cons (p_new (n_dict0 B)) rfl (l_nil))))))) rfl (fun _ => rfl))
   (x_cons (s_for1 ⟨rfl, by decide, by decide +kernel⟩ (by decide) (s_range1 B (by decide +kernel) (fun _ _ => rfl) (fun _ => rfl) (p_len B (by decide +kernel) (fun _ _ => rfl) (fun _ => rfl) (p_var rfl (by decide +kernel) (by decide +kernel) (by decide)))) (fun _ _ => rfl)
    (x_cons (s_unpack B.hA ⟨⟨rfl, by decide, by decide +kernel⟩, by decide, ⟨⟨rfl, by decide, by decide +kernel⟩, by decide, trivial⟩⟩ (p_sub (fun _ _ => rfl) (p_bor rfl (by decide +kernel) (by decide +kernel)) (p_var rfl (by decide +kernel) (by decide +kernel) (by decide))) rfl (fun _ => rfl) (fun _ => rfl))
    (x_cons (s_ite (t_cmp B (op := .lt) rfl (p_sub (fun _ _ => rfl) (p_var rfl (by decide +kernel) (by decide +kernel) (by decide)) (p_var rfl (by decide +kernel) (by decide +kernel) (by decide))) (p_bin (op := .mul) (p_int) (p_var rfl (by decide +kernel) (by decide +kernel) (by decide))))
     (x_cons (s_assign ⟨rfl, by decide, by decide +kernel⟩ (by decide) (p_call B (f := 8) rfl (by decide +kernel) (by decide +kernel) (all_cons (fun _ _ => rfl) (all_cons (fun _ _ => rfl) (all_cons (fun _ _ => rfl) (all_nil)))) (l_cons (p_sub (fun _ _ => rfl) (p_var rfl (by decide +kernel) (by decide +kernel) (by decide)) (p_var rfl (by decide +kernel) (by decide +kernel) (by decide))) rfl (l_cons (p_sub (fun _ _ => rfl) (p_var rfl (by decide +kernel) (by decide +kernel) (by decide)) (p_var rfl (by decide +kernel) (by decide +kernel) (by decide))) rfl (l_cons (p_bin (op := .sub) (p_var rfl (by decide +kernel) (by decide +kernel) (by decide)) (p_int)) rfl (l_nil)))) (fun _ => rfl)) rfl (fun _ _ => rfl))
     (x_cons (s_ite (t_cmp B (op := .lt) rfl (p_var rfl (by decide +kernel) (by decide +kernel) (by decide)) (p_var rfl (by decide +kernel) (by decide +kernel) (by decide)))
      (x_cons (s_setAt ⟨rfl, by decide +kernel, by decide +kernel⟩ (by decide) (p_var rfl (by decide +kernel) (by decide +kernel) (by decide)) (p_tup (all_cons (fun _ _ => rfl) (all_cons (fun _ _ => rfl) (all_nil))) (l_cons (p_var rfl (by decide +kernel) (by decide +kernel) (by decide)) rfl (l_cons (p_var rfl (by decide +kernel) (by decide +kernel) (by decide)) rfl (l_nil)))) rfl (fun _ => rfl))
      (x_cons (s_setAt ⟨rfl, by decide +kernel, by decide +kernel⟩ (by decide) (p_var rfl (by decide +kernel) (by decide +kernel) (by decide)) (p_call B (f := 4) rfl (by decide +kernel) (by decide +kernel) (all_cons (fun _ _ => rfl) (all_cons (fun _ _ => rfl) (all_nil))) (l_cons (p_sub (fun _ _ => rfl) (p_bor rfl (by decide +kernel) (by decide +kernel)) (p_var rfl (by decide +kernel) (by decide +kernel) (by decide))) rfl (l_cons (p_tup (all_cons (fun _ _ => rfl) (all_cons (fun _ _ => rfl) (all_cons (fun _ _ => rfl) (all_cons (fun _ _ => rfl) (all_cons (fun _ _ => rfl) (all_nil)))))) (l_cons (p_neg (p_int)) rfl (l_cons (p_int) rfl (l_cons (p_neg (p_var rfl (by decide +kernel) (by decide +kernel) (by decide))) rfl (l_cons (p_bin (op := .mul) (p_neg (p_var rfl (by decide +kernel) (by decide +kernel) (by decide))) (p_var rfl (by decide +kernel) (by decide +kernel) (by decide))) rfl (l_cons (p_new (n_dict1 B (p_var rfl (by decide +kernel) (by decide +kernel) (by decide)) (p_neg (p_int)) rfl)) rfl (l_nil))))))) rfl (l_nil))) (fun _ => rfl)) rfl (fun _ => rfl))
      (x_cons (s_setAt ⟨rfl, by decide +kernel, by decide +kernel⟩ (by decide) (p_var rfl (by decide +kernel) (by decide +kernel) (by decide)) (p_call B (f := 4) rfl (by decide +kernel) (by decide +kernel) (all_cons (fun _ _ => rfl) (all_cons (fun _ _ => rfl) (all_nil))) (l_cons (p_sub (fun _ _ => rfl) (p_bor rfl (by decide +kernel) (by decide +kernel)) (p_var rfl (by decide +kernel) (by decide +kernel) (by decide))) rfl (l_cons (p_tup (all_cons (fun _ _ => rfl) (all_cons (fun _ _ => rfl) (all_cons (fun _ _ => rfl) (all_cons (fun _ _ => rfl) (all_cons (fun _ _ => rfl) (all_nil)))))) (l_cons (p_int) rfl (l_cons (p_int) rfl (l_cons (p_var rfl (by decide +kernel) (by decide +kernel) (by decide)) rfl (l_cons (p_bin (op := .mul) (p_var rfl (by decide +kernel) (by decide +kernel) (by decide)) (p_var rfl (by decide +kernel) (by decide +kernel) (by decide))) rfl (l_cons (p_new (n_dict1 B (p_var rfl (by decide +kernel) (by decide +kernel) (by decide)) (p_int) rfl)) rfl (l_nil))))))) rfl (l_nil))) (fun _ => rfl)) rfl (fun _ => rfl))
      x_nil)))
      x_nil)
     x_nil))
     x_nil)
    x_nil)))
   (x_cons (s_while (t_cmp B (op := .ne) rfl (p_neg (p_sub (fun _ _ => rfl) (p_sub (fun _ _ => rfl) (p_bor rfl (by decide +kernel) (by decide +kernel)) (p_int)) (p_int))) (p_sub (fun _ _ => rfl) (p_sub (fun _ _ => rfl) (p_bor rfl (by decide +kernel) (by decide +kernel)) (p_sub (fun _ _ => rfl) (p_sub (fun _ _ => rfl) (p_bor rfl (by decide +kernel) (by decide +kernel)) (p_int)) (p_int))) (p_int)))
    (x_cons (s_callIO B IO (f := 0) rfl (by decide +kernel) (by decide +kernel) ⟨rfl, by decide +kernel, by decide +kernel⟩ (by decide) (all_cons (fun _ _ => rfl) (all_cons (fun _ _ => rfl) (all_nil))) (l_cons (p_tup (all_cons (fun _ _ => rfl) (all_cons (fun _ _ => rfl) (all_nil))) (l_cons (p_neg (p_sub (fun _ _ => rfl) (p_sub (fun _ _ => rfl) (p_bor rfl (by decide +kernel) (by decide +kernel)) (p_sub (fun _ _ => rfl) (p_sub (fun _ _ => rfl) (p_bor rfl (by decide +kernel) (by decide +kernel)) (p_int)) (p_int))) (p_int))) rfl (l_cons (p_sub (fun _ _ => rfl) (p_sub (fun _ _ => rfl) (p_bor rfl (by decide +kernel) (by decide +kernel)) (p_int)) (p_int)) rfl (l_nil)))) rfl (l_nil)) (fun _ => rfl))
    x_nil))
   (x_cons (s_append ⟨rfl, by decide +kernel, by decide +kernel⟩ (by decide) (fun _ => rfl) rfl (fun _ _ => rfl) (p_tup (all_cons (fun _ _ => rfl) (all_cons (fun _ _ => rfl) (all_nil))) (l_cons (p_var rfl (by decide +kernel) (by decide +kernel) (by decide)) rfl (l_cons (p_neg (p_sub (fun _ _ => rfl) (p_sub (fun _ _ => rfl) (p_bor rfl (by decide +kernel) (by decide +kernel)) (p_int)) (p_int))) rfl (l_nil)))) rfl)
   x_nil)))))))
  (x_cons (s_ret (r_tup (all_cons (fun _ _ => rfl) (all_cons (fun _ _ => rfl) (all_cons (fun _ _ => rfl) (all_nil)))) (rl_cons (r_own ⟨rfl, by decide +kernel, by decide +kernel⟩ (by decide) (by decide)) (rl_cons (r_own ⟨rfl, by decide +kernel, by decide +kernel⟩ (by decide) (by decide)) (rl_cons (r_own ⟨rfl, by decide +kernel, by decide +kernel⟩ (by decide) (by decide)) (rl_nil))))))
  x_nil))))))))
theorem d_law_price {prog : Program} {w : World} {ad : Nat → Addr} {h₀ : Heap} {A : Around} {Φ Ψ : Nat → List D → Option D} (B : Amb prog w A (fnTab ad) h₀ Φ) (IO : CallsIO prog w A (fnTab ad) h₀ Ψ) :
    ExecsP prog w A h₀ Φ Ψ cx_law_price o_law_price (bodyOf 11) f_law_price.body :=
  (x_cons (s_useL B ⟨rfl, by decide, by decide +kernel⟩ (fun h => absurd h (by decide)) ⟨compOk_of rfl (by decide +kernel), ⟨true, (s_range1 B (by decide +kernel) (fun _ _ => rfl) (fun _ => rfl) (p_bin (op := .add) (p_len B (by decide +kernel) (fun _ _ => rfl) (fun _ => rfl) (p_var rfl (by decide +kernel) (by decide +kernel) (by decide))) (p_int)))⟩, (fun _ _ => rfl), ⟨⟨_, _, rfl, rfl, (by decide), (by decide +kernel), (by decide)⟩, rfl, (i_nil)⟩, trivial, (p_bin (op := .mul) (p_int) (p_var rfl (by decide +kernel) (by decide +kernel) (by decide))), rfl⟩ (swaps_list rfl (by decide +kernel) (by decide +kernel)))
  (x_cons (s_for1 ⟨rfl, by decide, by decide +kernel⟩ (by decide) (s_seq B (fun _ => rfl) (p_var rfl (by decide +kernel) (by decide +kernel) (by decide))) (fun _ _ => rfl)
   (x_cons (s_own ⟨rfl, by decide, by decide +kernel⟩ (by decide) (by decide) (n_list (all_cons (fun _ _ => rfl) (all_nil)) (l_cons (p_bin (op := .add) (p_sub (fun _ _ => rfl) (p_var rfl (by decide +kernel) (by decide +kernel) (by decide)) (p_int)) (p_int)) rfl (l_nil))) (fun _ _ => rfl))
   (x_cons (s_for1 ⟨rfl, by decide, by decide +kernel⟩ (by decide) (s_range1 B (by decide +kernel) (fun _ _ => rfl) (fun _ => rfl) (p_len B (by decide +kernel) (fun _ _ => rfl) (fun _ => rfl) (p_var rfl (by decide +kernel) (by decide +kernel) (by decide)))) (fun _ _ => rfl)
    (x_cons (s_assign ⟨rfl, by decide, by decide +kernel⟩ (by decide) (p_ite (t_cmp B (op := .eq) rfl (p_sub (fun _ _ => rfl) (p_var rfl (by decide +kernel) (by decide +kernel) (by decide)) (p_var rfl (by decide +kernel) (by decide +kernel) (by decide))) (p_var rfl (by decide +kernel) (by decide +kernel) (by decide))) (p_int) (p_ite (t_cmp B (op := .eq) rfl (p_lower (fun _ => rfl) rfl (p_sub (fun _ _ => rfl) (p_var rfl (by decide +kernel) (by decide +kernel) (by decide)) (p_var rfl (by decide +kernel) (by decide +kernel) (by decide)))) (p_lower (fun _ => rfl) rfl (p_var rfl (by decide +kernel) (by decide +kernel) (by decide)))) (p_int) (p_int) rfl rfl) rfl rfl) rfl (fun _ _ => rfl))
    (x_cons (s_append ⟨rfl, by decide +kernel, by decide +kernel⟩ (by decide) (fun _ => rfl) rfl (fun _ _ => rfl) (p_min3 B (by decide +kernel) (fun _ _ => rfl) (fun _ _ => rfl) (fun _ _ => rfl) (fun _ => rfl) (p_bin (op := .add) (p_sub (fun _ _ => rfl) (p_var rfl (by decide +kernel) (by decide +kernel) (by decide)) (p_var rfl (by decide +kernel) (by decide +kernel) (by decide))) (p_var rfl (by decide +kernel) (by decide +kernel) (by decide))) (p_bin (op := .add) (p_sub (fun _ _ => rfl) (p_var rfl (by decide +kernel) (by decide +kernel) (by decide)) (p_bin (op := .add) (p_var rfl (by decide +kernel) (by decide +kernel) (by decide)) (p_int))) (p_int)) (p_bin (op := .add) (p_sub (fun _ _ => rfl) (p_bor rfl (by decide +kernel) (by decide +kernel)) (p_var rfl (by decide +kernel) (by decide +kernel) (by decide))) (p_int))) rfl)
    x_nil)))
   (x_cons (s_move ⟨rfl, by decide, by decide +kernel⟩ (by decide) ⟨rfl, by decide +kernel, by decide +kernel⟩ (by decide) (by decide))
   x_nil))))
  (x_cons (s_ret (r_plain (p_sub (fun _ _ => rfl) (p_var rfl (by decide +kernel) (by decide +kernel) (by decide)) (p_neg (p_int))) rfl))
  x_nil)))
theorem d_law_table {prog : Program} {w : World} {ad : Nat → Addr} {h₀ : Heap} {A : Around} {Φ Ψ : Nat → List D → Option D} (B : Amb prog w A (fnTab ad) h₀ Φ) (IO : CallsIO prog w A (fnTab ad) h₀ Ψ) :
    ExecsP prog w A h₀ Φ Ψ cx_law_table o_law_table (bodyOf 12) f_law_table.body :=
  (x_cons (s_assign ⟨rfl, by decide, by decide +kernel⟩ (by decide) (p_len B (by decide +kernel) (fun _ _ => rfl) (fun _ => rfl) (p_var rfl (by decide +kernel) (by decide +kernel) (by decide))) rfl (fun _ _ => rfl))
  (x_cons (s_assign ⟨rfl, by decide, by decide +kernel⟩ (by decide) (p_new (n_comp B ⟨compOk_of rfl (by decide +kernel), ⟨true, (s_range1 B (by decide +kernel) (fun _ _ => rfl) (fun _ => rfl) (p_var rfl (by decide +kernel) (by decide +kernel) (by decide)))⟩, (fun _ _ => rfl), ⟨⟨_, _, rfl, rfl, (by decide), (by decide +kernel), (by decide)⟩, rfl, (i_nil)⟩, trivial, (p_new (n_comp B ⟨compOk_of rfl (by decide +kernel), ⟨true, (s_range1 B (by decide +kernel) (fun _ _ => rfl) (fun _ => rfl) (p_var rfl (by decide +kernel) (by decide +kernel) (by decide)))⟩, (fun _ _ => rfl), ⟨⟨_, _, rfl, rfl, (by decide), (by decide +kernel), (by decide)⟩, rfl, (i_nil)⟩, trivial, (p_call B (f := 11) rfl (by decide +kernel) (by decide +kernel) (all_cons (fun _ _ => rfl) (all_cons (fun _ _ => rfl) (all_nil))) (l_cons (p_sub (fun _ _ => rfl) (p_var rfl (by decide +kernel) (by decide +kernel) (by decide)) (p_var rfl (by decide +kernel) (by decide +kernel) (by decide))) rfl (l_cons (p_sub (fun _ _ => rfl) (p_var rfl (by decide +kernel) (by decide +kernel) (by decide)) (p_var rfl (by decide +kernel) (by decide +kernel) (by decide))) rfl (l_nil))) (fun _ => rfl)), rfl⟩)), rfl⟩)) rfl (noswap_list (by decide +kernel)))
  (x_cons (s_ret (r_plain (p_new (n_comp B ⟨compOk_of rfl (by decide +kernel), ⟨true, (s_range1 B (by decide +kernel) (fun _ _ => rfl) (fun _ => rfl) (p_var rfl (by decide +kernel) (by decide +kernel) (by decide)))⟩, (fun _ _ => rfl), ⟨⟨_, _, rfl, rfl, (by decide), (by decide +kernel), (by decide)⟩, rfl, (i_nil)⟩, trivial, (p_new (n_comp B ⟨compOk_of rfl (by decide +kernel), ⟨true, (s_range1 B (by decide +kernel) (fun _ _ => rfl) (fun _ => rfl) (p_var rfl (by decide +kernel) (by decide +kernel) (by decide)))⟩, (fun _ _ => rfl), ⟨⟨_, _, rfl, rfl, (by decide), (by decide +kernel), (by decide)⟩, rfl, (i_nil)⟩, trivial, (p_ite (t_cmp B (op := .ne) rfl (p_var rfl (by decide +kernel) (by decide +kernel) (by decide)) (p_var rfl (by decide +kernel) (by decide +kernel) (by decide))) (p_sub (fun _ _ => rfl) (p_sub (fun _ _ => rfl) (p_var rfl (by decide +kernel) (by decide +kernel) (by decide)) (p_max2 B (by decide +kernel) (fun _ _ => rfl) (fun _ _ => rfl) (fun _ => rfl) (p_var rfl (by decide +kernel) (by decide +kernel) (by decide)) (p_var rfl (by decide +kernel) (by decide +kernel) (by decide)))) (p_min2 B (by decide +kernel) (fun _ _ => rfl) (fun _ _ => rfl) (fun _ => rfl) (p_var rfl (by decide +kernel) (by decide +kernel) (by decide)) (p_var rfl (by decide +kernel) (by decide +kernel) (by decide)))) (p_int) rfl rfl), rfl⟩)), rfl⟩)) rfl))
  x_nil)))
theorem d_law_plain {prog : Program} {w : World} {ad : Nat → Addr} {h₀ : Heap} {A : Around} {Φ Ψ : Nat → List D → Option D} (B : Amb prog w A (fnTab ad) h₀ Φ) (IO : CallsIO prog w A (fnTab ad) h₀ Ψ) :
    ExecsP prog w A h₀ Φ Ψ cx_law_plain o_law_plain (bodyOf 13) f_law_plain.body :=
  (x_cons (s_own ⟨rfl, by decide, by decide +kernel⟩ (by decide) (by decide) (n_list (all_cons (fun _ _ => rfl) (all_nil)) (l_cons (p_var rfl (by decide +kernel) (by decide +kernel) (by decide)) rfl (l_nil))) (fun _ _ => rfl))
  (x_cons (s_own ⟨rfl, by decide, by decide +kernel⟩ (by decide) (by decide) (n_list (all_nil) (l_nil)) (fun _ _ => rfl))
  (x_cons (s_while (t_cmp B (op := .lt) rfl (p_len B (by decide +kernel) (fun _ _ => rfl) (fun _ => rfl) (p_bor rfl (by decide +kernel) (by decide +kernel))) (p_len B (by decide +kernel) (fun _ _ => rfl) (fun _ => rfl) (p_bor rfl (by decide +kernel) (by decide +kernel))))
   (x_cons (s_assign ⟨rfl, by decide, by decide +kernel⟩ (by decide) (p_new (n_comp B ⟨compOk_of rfl (by decide +kernel), ⟨true, (s_seq B (fun _ => rfl) (p_var rfl (by decide +kernel) (by decide +kernel) (by decide)))⟩, (fun _ _ => rfl), ⟨⟨_, _, rfl, rfl, (by decide), (by decide +kernel), (by decide)⟩, rfl, (i_nil)⟩, trivial, (p_minL B (by decide +kernel) (fun _ _ => rfl) (fun _ => rfl) (p_new (n_comp B ⟨compOk_of rfl (by decide +kernel), ⟨false, (s_seq B (fun h => nomatch h) (p_bor rfl (by decide +kernel) (by decide +kernel)))⟩, (fun _ _ => rfl), ⟨⟨_, _, rfl, rfl, (by decide), (by decide +kernel), (by decide)⟩, rfl, (i_nil)⟩, trivial, (p_sub (fun _ _ => rfl) (p_var rfl (by decide +kernel) (by decide +kernel) (by decide)) (p_var rfl (by decide +kernel) (by decide +kernel) (by decide))), rfl⟩))), rfl⟩)) rfl (noswap_list (by decide +kernel)))
   (x_cons (s_append ⟨rfl, by decide +kernel, by decide +kernel⟩ (by decide) (fun _ => rfl) rfl (fun _ _ => rfl) (p_tup (all_cons (fun _ _ => rfl) (all_cons (fun _ _ => rfl) (all_nil))) (l_cons (p_sub (fun _ _ => rfl) (p_bor rfl (by decide +kernel) (by decide +kernel)) (p_neg (p_int))) rfl (l_cons (p_maxL B (by decide +kernel) (fun _ _ => rfl) (fun _ => rfl) (p_var rfl (by decide +kernel) (by decide +kernel) (by decide))) rfl (l_nil)))) rfl)
   (x_cons (s_ite (t_and (a_cons (t_cmp B (op := .lt) rfl (p_len B (by decide +kernel) (fun _ _ => rfl) (fun _ => rfl) (p_bor rfl (by decide +kernel) (by decide +kernel))) (p_var rfl (by decide +kernel) (by decide +kernel) (by decide))) (a_cons (t_cmp B (op := .gt) rfl (p_maxL B (by decide +kernel) (fun _ _ => rfl) (fun _ => rfl) (p_var rfl (by decide +kernel) (by decide +kernel) (by decide))) (p_int)) (a_nil))))
    (x_cons (s_append ⟨rfl, by decide +kernel, by decide +kernel⟩ (by decide) (fun _ => rfl) rfl (fun _ _ => rfl) (p_index (fun _ => rfl) rfl (fun _ _ => rfl) (p_var rfl (by decide +kernel) (by decide +kernel) (by decide)) (p_maxL B (by decide +kernel) (fun _ _ => rfl) (fun _ => rfl) (p_var rfl (by decide +kernel) (by decide +kernel) (by decide)))) rfl)
    x_nil)
    x_nil)
   x_nil))))
  (x_cons (s_assign ⟨rfl, by decide, by decide +kernel⟩ (by decide) (p_new (n_comp B ⟨compOk_of rfl (by decide +kernel), ⟨true, (s_range1 B (by decide +kernel) (fun _ _ => rfl) (fun _ => rfl) (p_len B (by decide +kernel) (fun _ _ => rfl) (fun _ => rfl) (p_var rfl (by decide +kernel) (by decide +kernel) (by decide))))⟩, (fun _ _ => rfl), ⟨⟨_, _, rfl, rfl, (by decide), (by decide +kernel), (by decide)⟩, rfl, (i_nil)⟩, trivial, (p_tup (all_cons (fun _ _ => rfl) (all_cons (fun _ _ => rfl) (all_nil))) (l_cons (p_sub (fun _ _ => rfl) (p_var rfl (by decide +kernel) (by decide +kernel) (by decide)) (p_var rfl (by decide +kernel) (by decide +kernel) (by decide))) rfl (l_cons (p_sub (fun _ _ => rfl) (p_new (n_comp B ⟨compOk_of rfl (by decide +kernel), ⟨false, (s_seq B (fun h => nomatch h) (p_bor rfl (by decide +kernel) (by decide +kernel)))⟩, (fun _ _ => rfl), ⟨⟨_, _, rfl, rfl, (by decide), (by decide +kernel), (by decide)⟩, rfl, (i_cons (t_cmp B (op := .eq) rfl (p_sub (fun _ _ => rfl) (p_sub (fun _ _ => rfl) (p_var rfl (by decide +kernel) (by decide +kernel) (by decide)) (p_var rfl (by decide +kernel) (by decide +kernel) (by decide))) (p_var rfl (by decide +kernel) (by decide +kernel) (by decide))) (p_sub (fun _ _ => rfl) (p_var rfl (by decide +kernel) (by decide +kernel) (by decide)) (p_var rfl (by decide +kernel) (by decide +kernel) (by decide)))) (i_nil))⟩, trivial, (p_var rfl (by decide +kernel) (by decide +kernel) (by decide)), rfl⟩)) (p_int)) rfl (l_nil)))), rfl⟩)) rfl (noswap_list (by decide +kernel)))
  (x_cons (s_own ⟨rfl, by decide, by decide +kernel⟩ (by decide) (by decide) (n_dict0 B) (fun _ _ => rfl))
  (x_cons (s_for1 ⟨rfl, by decide, by decide +kernel⟩ (by decide) (s_range1 B (by decide +kernel) (fun _ _ => rfl) (fun _ => rfl) (p_len B (by decide +kernel) (fun _ _ => rfl) (fun _ => rfl) (p_bor rfl (by decide +kernel) (by decide +kernel)))) (fun _ _ => rfl)
   (x_cons (s_assign ⟨rfl, by decide, by decide +kernel⟩ (by decide) (p_sub (fun _ _ => rfl) (p_bor rfl (by decide +kernel) (by decide +kernel)) (p_var rfl (by decide +kernel) (by decide +kernel) (by decide))) rfl (fun _ _ => rfl))
   (x_cons (s_useL B ⟨rfl, by decide, by decide +kernel⟩ (fun h => absurd h (by decide)) ⟨compOk_of rfl (by decide +kernel), ⟨true, (s_range1 B (by decide +kernel) (fun _ _ => rfl) (fun _ => rfl) (p_len B (by decide +kernel) (fun _ _ => rfl) (fun _ => rfl) (p_var rfl (by decide +kernel) (by decide +kernel) (by decide))))⟩, (fun _ _ => rfl), ⟨⟨_, _, rfl, rfl, (by decide), (by decide +kernel), (by decide)⟩, rfl, (i_cons (t_cmp B (op := .eq) rfl (p_new (n_comp B ⟨compOk_of rfl (by decide +kernel), ⟨true, (s_seq B (fun _ => rfl) (p_upto (p_bor rfl (by decide +kernel) (by decide +kernel)) (p_var rfl (by decide +kernel) (by decide +kernel) (by decide))))⟩, (fun _ _ => rfl), ⟨⟨_, _, rfl, rfl, (by decide), (by decide +kernel), (by decide)⟩, rfl, (i_cons (t_cmp B (op := .le) rfl (p_sub (fun _ _ => rfl) (p_sub (fun _ _ => rfl) (p_var rfl (by decide +kernel) (by decide +kernel) (by decide)) (p_var rfl (by decide +kernel) (by decide +kernel) (by decide))) (p_var rfl (by decide +kernel) (by decide +kernel) (by decide))) (p_sub (fun _ _ => rfl) (p_sub (fun _ _ => rfl) (p_var rfl (by decide +kernel) (by decide +kernel) (by decide)) (p_var rfl (by decide +kernel) (by decide +kernel) (by decide))) (p_var rfl (by decide +kernel) (by decide +kernel) (by decide)))) (i_nil))⟩, trivial, (p_var rfl (by decide +kernel) (by decide +kernel) (by decide)), rfl⟩)) (p_new (n_list (all_nil) (l_nil)))) (i_nil))⟩, trivial, (p_var rfl (by decide +kernel) (by decide +kernel) (by decide)), rfl⟩ (swaps_list rfl (by decide +kernel) (by decide +kernel)))
   (x_cons (s_useL B ⟨rfl, by decide, by decide +kernel⟩ (fun h => absurd h (by decide)) ⟨compOk_of rfl (by decide +kernel), ⟨true, (s_seq B (fun _ => rfl) (p_var rfl (by decide +kernel) (by decide +kernel) (by decide)))⟩, (fun _ _ => rfl), ⟨⟨_, _, rfl, rfl, (by decide), (by decide +kernel), (by decide)⟩, rfl, (i_cons (t_cmp B (op := .eq) rfl (p_sub (fun _ _ => rfl) (p_sub (fun _ _ => rfl) (p_var rfl (by decide +kernel) (by decide +kernel) (by decide)) (p_var rfl (by decide +kernel) (by decide +kernel) (by decide))) (p_int)) (p_var rfl (by decide +kernel) (by decide +kernel) (by decide))) (i_nil))⟩, trivial, (p_sub (fun _ _ => rfl) (p_sub (fun _ _ => rfl) (p_var rfl (by decide +kernel) (by decide +kernel) (by decide)) (p_var rfl (by decide +kernel) (by decide +kernel) (by decide))) (p_int)), rfl⟩ (swaps_list rfl (by decide +kernel) (by decide +kernel)))
   (x_cons (s_useD B ⟨rfl, by decide, by decide +kernel⟩ (fun h => absurd h (by decide)) ⟨compOk_of rfl (by decide +kernel), ⟨true, (s_seq B (fun _ => rfl) (p_var rfl (by decide +kernel) (by decide +kernel) (by decide)))⟩, (fun _ _ => rfl), ⟨⟨_, _, rfl, rfl, (by decide), (by decide +kernel), (by decide)⟩, rfl, (i_nil)⟩, (p_var rfl (by decide +kernel) (by decide +kernel) (by decide)), (p_ite (t_cmp B (op := .eq) rfl (p_sub (fun _ _ => rfl) (p_sub (fun _ _ => rfl) (p_var rfl (by decide +kernel) (by decide +kernel) (by decide)) (p_var rfl (by decide +kernel) (by decide +kernel) (by decide))) (p_int)) (p_var rfl (by decide +kernel) (by decide +kernel) (by decide))) (p_int) (p_int) rfl rfl), rfl⟩ (swaps_dict rfl (by decide +kernel) (by decide +kernel)))
   (x_cons (s_setAt ⟨rfl, by decide +kernel, by decide +kernel⟩ (by decide) (p_var rfl (by decide +kernel) (by decide +kernel) (by decide)) (p_tup (all_cons (fun _ _ => rfl) (all_cons (fun _ _ => rfl) (all_cons (fun _ _ => rfl) (all_cons (fun _ _ => rfl) (all_cons (fun _ _ => rfl) (all_nil)))))) (l_cons (p_len B (by decide +kernel) (fun _ _ => rfl) (fun _ => rfl) (p_var rfl (by decide +kernel) (by decide +kernel) (by decide))) rfl (l_cons (p_len B (by decide +kernel) (fun _ _ => rfl) (fun _ => rfl) (p_var rfl (by decide +kernel) (by decide +kernel) (by decide))) rfl (l_cons (p_sumL B (by decide +kernel) (fun _ _ => rfl) (fun _ => rfl) (p_var rfl (by decide +kernel) (by decide +kernel) (by decide))) rfl (l_cons (p_sumL B (by decide +kernel) (fun _ _ => rfl) (fun _ => rfl) (p_new (n_comp B ⟨compOk_of rfl (by decide +kernel), ⟨true, (s_seq B (fun _ => rfl) (p_var rfl (by decide +kernel) (by decide +kernel) (by decide)))⟩, (fun _ _ => rfl), ⟨⟨_, _, rfl, rfl, (by decide), (by decide +kernel), (by decide)⟩, rfl, (i_nil)⟩, trivial, (p_bin (op := .mul) (p_var rfl (by decide +kernel) (by decide +kernel) (by decide)) (p_var rfl (by decide +kernel) (by decide +kernel) (by decide))), rfl⟩))) rfl (l_cons (p_var rfl (by decide +kernel) (by decide +kernel) (by decide)) rfl (l_nil))))))) rfl (fun _ => rfl))
   x_nil))))))
  (x_cons (s_ret (r_tup (all_cons (fun _ _ => rfl) (all_cons (fun _ _ => rfl) (all_cons (fun _ _ => rfl) (all_nil)))) (rl_cons (r_own ⟨rfl, by decide +kernel, by decide +kernel⟩ (by decide) (by decide)) (rl_cons (r_plain (p_var rfl (by decide +kernel) (by decide +kernel) (by decide)) rfl) (rl_cons (r_own ⟨rfl, by decide +kernel, by decide +kernel⟩ (by decide) (by decide)) (rl_nil))))))
  x_nil)))))))
theorem d_law_choices {prog : Program} {w : World} {ad : Nat → Addr} {h₀ : Heap} {A : Around} {Φ Ψ : Nat → List D → Option D} (B : Amb prog w A (fnTab ad) h₀ Φ) (IO : CallsIO prog w A (fnTab ad) h₀ Ψ) :
    ExecsP prog w A h₀ Φ Ψ cx_law_choices o_law_choices (bodyOf 14) f_law_choices.body :=
  (x_cons (s_assign ⟨rfl, by decide, by decide +kernel⟩ (by decide) (p_new (n_list (all_cons (fun _ _ => rfl) (all_nil)) (l_cons (p_new (n_list (all_nil) (l_nil))) rfl (l_nil)))) rfl (fun _ _ => rfl))
  (x_cons (s_for1 ⟨rfl, by decide, by decide +kernel⟩ (by decide) (s_range1 B (by decide +kernel) (fun _ _ => rfl) (fun _ => rfl) (p_var rfl (by decide +kernel) (by decide +kernel) (by decide))) (fun _ _ => rfl)
   (x_cons (s_useL B ⟨rfl, by decide, by decide +kernel⟩ (fun h => absurd h (by decide)) ⟨compOk_of rfl (by decide +kernel), ⟨true, (s_seq B (fun _ => rfl) (p_var rfl (by decide +kernel) (by decide +kernel) (by decide)))⟩, (fun _ _ => rfl), ⟨⟨_, _, rfl, rfl, (by decide), (by decide +kernel), (by decide)⟩, rfl, (i_nil)⟩, ⟨⟨⟨_, _, rfl, rfl, (by decide), (by decide +kernel), (by decide)⟩, rfl, (i_nil)⟩, (s_range2 B (by decide +kernel) (fun _ _ => rfl) (fun _ _ => rfl) (fun _ => rfl) (p_ite (t_truth (fun _ => rfl) (p_var rfl (by decide +kernel) (by decide +kernel) (by decide))) (p_bin (op := .add) (p_sub (fun _ _ => rfl) (p_var rfl (by decide +kernel) (by decide +kernel) (by decide)) (p_neg (p_int))) (p_int)) (p_int) rfl rfl) (p_var rfl (by decide +kernel) (by decide +kernel) (by decide))), (fun _ _ => rfl), trivial⟩, (p_bin (op := .add) (p_var rfl (by decide +kernel) (by decide +kernel) (by decide)) (p_new (n_list (all_cons (fun _ _ => rfl) (all_nil)) (l_cons (p_var rfl (by decide +kernel) (by decide +kernel) (by decide)) rfl (l_nil))))), rfl⟩ (swaps_list rfl (by decide +kernel) (by decide +kernel)))
   x_nil))
  (x_cons (s_ret (r_plain (p_var rfl (by decide +kernel) (by decide +kernel) (by decide)) rfl))
  x_nil)))
theorem d_law_cover {prog : Program} {w : World} {ad : Nat → Addr} {h₀ : Heap} {A : Around} {Φ Ψ : Nat → List D → Option D} (B : Amb prog w A (fnTab ad) h₀ Φ) (IO : CallsIO prog w A (fnTab ad) h₀ Ψ) :
    ExecsP prog w A h₀ Φ Ψ cx_law_cover o_law_cover (bodyOf 15) f_law_cover.body :=
  (x_cons (s_ret (r_plain (p_minL B (by decide +kernel) (fun _ _ => rfl) (fun _ => rfl) (p_new (n_comp B ⟨compOk_of rfl (by decide +kernel), ⟨true, (s_seq B (fun _ => rfl) (p_call B (f := 14) rfl (by decide +kernel) (by decide +kernel) (all_cons (fun _ _ => rfl) (all_cons (fun _ _ => rfl) (all_nil))) (l_cons (p_len B (by decide +kernel) (fun _ _ => rfl) (fun _ => rfl) (p_var rfl (by decide +kernel) (by decide +kernel) (by decide))) rfl (l_cons (p_var rfl (by decide +kernel) (by decide +kernel) (by decide)) rfl (l_nil))) (fun _ => rfl)))⟩, (fun _ _ => rfl), ⟨⟨_, _, rfl, rfl, (by decide), (by decide +kernel), (by decide)⟩, rfl, (i_nil)⟩, trivial, (p_maxL B (by decide +kernel) (fun _ _ => rfl) (fun _ => rfl) (p_new (n_comp B ⟨compOk_of rfl (by decide +kernel), ⟨true, (s_seq B (fun _ => rfl) (p_var rfl (by decide +kernel) (by decide +kernel) (by decide)))⟩, (fun _ _ => rfl), ⟨⟨_, _, rfl, rfl, (by decide), (by decide +kernel), (by decide)⟩, rfl, (i_nil)⟩, trivial, (p_minL B (by decide +kernel) (fun _ _ => rfl) (fun _ => rfl) (p_new (n_comp B ⟨compOk_of rfl (by decide +kernel), ⟨true, (s_seq B (fun _ => rfl) (p_var rfl (by decide +kernel) (by decide +kernel) (by decide)))⟩, (fun _ _ => rfl), ⟨⟨_, _, rfl, rfl, (by decide), (by decide +kernel), (by decide)⟩, rfl, (i_nil)⟩, trivial, (p_sub (fun _ _ => rfl) (p_var rfl (by decide +kernel) (by decide +kernel) (by decide)) (p_var rfl (by decide +kernel) (by decide +kernel) (by decide))), rfl⟩))), rfl⟩))), rfl⟩))) rfl))
  x_nil)
theorem d_law_apart {prog : Program} {w : World} {ad : Nat → Addr} {h₀ : Heap} {A : Around} {Φ Ψ : Nat → List D → Option D} (B : Amb prog w A (fnTab ad) h₀ Φ) (IO : CallsIO prog w A (fnTab ad) h₀ Ψ) :
    ExecsP prog w A h₀ Φ Ψ cx_law_apart o_law_apart (bodyOf 16) f_law_apart.body :=
  (x_cons (s_assign ⟨rfl, by decide, by decide +kernel⟩ (by decide) (p_call B (f := 14) rfl (by decide +kernel) (by decide +kernel) (all_cons (fun _ _ => rfl) (all_cons (fun _ _ => rfl) (all_nil))) (l_cons (p_len B (by decide +kernel) (fun _ _ => rfl) (fun _ => rfl) (p_var rfl (by decide +kernel) (by decide +kernel) (by decide))) rfl (l_cons (p_var rfl (by decide +kernel) (by decide +kernel) (by decide)) rfl (l_nil))) (fun _ => rfl)) rfl (fun _ _ => rfl))
  (x_cons (s_ret (r_plain (p_maxL B (by decide +kernel) (fun _ _ => rfl) (fun _ => rfl) (p_new (n_comp B ⟨compOk_of rfl (by decide +kernel), ⟨true, (s_seq B (fun _ => rfl) (p_var rfl (by decide +kernel) (by decide +kernel) (by decide)))⟩, (fun _ _ => rfl), ⟨⟨_, _, rfl, rfl, (by decide), (by decide +kernel), (by decide)⟩, rfl, (i_nil)⟩, trivial, (p_minL B (by decide +kernel) (fun _ _ => rfl) (fun _ => rfl) (p_new (n_comp B ⟨compOk_of rfl (by decide +kernel), ⟨true, (s_seq B (fun _ => rfl) (p_var rfl (by decide +kernel) (by decide +kernel) (by decide)))⟩, (fun _ _ => rfl), ⟨⟨_, _, rfl, rfl, (by decide), (by decide +kernel), (by decide)⟩, rfl, (i_nil)⟩, ⟨⟨⟨_, _, rfl, rfl, (by decide), (by decide +kernel), (by decide)⟩, rfl, (i_cons (t_cmp B (op := .lt) rfl (p_var rfl (by decide +kernel) (by decide +kernel) (by decide)) (p_var rfl (by decide +kernel) (by decide +kernel) (by decide))) (i_nil))⟩, (s_seq B (fun _ => rfl) (p_var rfl (by decide +kernel) (by decide +kernel) (by decide))), (fun _ _ => rfl), trivial⟩, (p_sub (fun _ _ => rfl) (p_sub (fun _ _ => rfl) (p_var rfl (by decide +kernel) (by decide +kernel) (by decide)) (p_var rfl (by decide +kernel) (by decide +kernel) (by decide))) (p_var rfl (by decide +kernel) (by decide +kernel) (by decide))), rfl⟩))), rfl⟩))) rfl))
  x_nil))
theorem d_law {prog : Program} {w : World} {ad : Nat → Addr} {h₀ : Heap} {A : Around} {Φ Ψ : Nat → List D → Option D} (B : Amb prog w A (fnTab ad) h₀ Φ) (IO : CallsIO prog w A (fnTab ad) h₀ Ψ) :
    ExecsP prog w A h₀ Φ Ψ cx_law o_law (bodyOf 17) f_law.body :=
  (x_cons (s_useL B ⟨rfl, by decide, by decide +kernel⟩ (fun h => absurd h (by decide)) ⟨compOk_of rfl (by decide +kernel), ⟨true, (s_seq B (fun _ => rfl) (p_upto (p_bin (op := .add) (p_upto (p_var rfl (by decide +kernel) (by decide +kernel) (by decide)) (p_int)) (p_new (n_list (all_cons (fun _ _ => rfl) (all_cons (fun _ _ => rfl) (all_cons (fun _ _ => rfl) (all_cons (fun _ _ => rfl) (all_cons (fun _ _ => rfl) (all_nil)))))) (l_cons (p_int) rfl (l_cons (p_int) rfl (l_cons (p_int) rfl (l_cons (p_int) rfl (l_cons (p_int) rfl (l_nil))))))))) (p_ite (t_cmp B (op := .lt) rfl (p_len B (by decide +kernel) (fun _ _ => rfl) (fun _ => rfl) (p_var rfl (by decide +kernel) (by decide +kernel) (by decide))) (p_int)) (p_int) (p_int) rfl rfl)))⟩, (fun _ _ => rfl), ⟨⟨_, _, rfl, rfl, (by decide), (by decide +kernel), (by decide)⟩, rfl, (i_nil)⟩, trivial, (p_call B (f := 9) rfl (by decide +kernel) (by decide +kernel) (all_cons (fun _ _ => rfl) (all_nil)) (l_cons (p_var rfl (by decide +kernel) (by decide +kernel) (by decide)) rfl (l_nil)) (fun _ => rfl)), rfl⟩ (swaps_list rfl (by decide +kernel) (by decide +kernel)))
  (x_cons (s_assign ⟨rfl, by decide, by decide +kernel⟩ (by decide) (p_bin (op := .mod) (p_sumL B (by decide +kernel) (fun _ _ => rfl) (fun _ => rfl) (p_upto (p_var rfl (by decide +kernel) (by decide +kernel) (by decide)) (p_int))) (p_len B (by decide +kernel) (fun _ _ => rfl) (fun _ => rfl) (p_var rfl (by decide +kernel) (by decide +kernel) (by decide)))) rfl (fun _ _ => rfl))
  (x_cons (s_unpack B.hA ⟨⟨rfl, by decide, by decide +kernel⟩, by decide, ⟨⟨rfl, by decide, by decide +kernel⟩, by decide, ⟨⟨rfl, by decide, by decide +kernel⟩, by decide, trivial⟩⟩⟩ (p_call B (f := 10) rfl (by decide +kernel) (by decide +kernel) (all_cons (fun _ _ => rfl) (all_cons (fun _ _ => rfl) (all_cons (fun _ _ => rfl) (all_nil)))) (l_cons (p_var rfl (by decide +kernel) (by decide +kernel) (by decide)) rfl (l_cons (p_var rfl (by decide +kernel) (by decide +kernel) (by decide)) rfl (l_cons (p_int) rfl (l_nil)))) (fun _ => rfl)) rfl (fun _ => rfl) (fun _ => rfl))
  (x_cons (s_assign ⟨rfl, by decide, by decide +kernel⟩ (by decide) (p_call B (f := 12) rfl (by decide +kernel) (by decide +kernel) (all_cons (fun _ _ => rfl) (all_nil)) (l_cons (p_var rfl (by decide +kernel) (by decide +kernel) (by decide)) rfl (l_nil)) (fun _ => rfl)) rfl (fun _ _ => rfl))
  (x_cons (s_ite (t_cmp B (op := .ne) rfl (p_tup (all_cons (fun _ _ => rfl) (all_cons (fun _ _ => rfl) (all_cons (fun _ _ => rfl) (all_nil)))) (l_cons (p_var rfl (by decide +kernel) (by decide +kernel) (by decide)) rfl (l_cons (p_var rfl (by decide +kernel) (by decide +kernel) (by decide)) rfl (l_cons (p_var rfl (by decide +kernel) (by decide +kernel) (by decide)) rfl (l_nil))))) (p_call B (f := 13) rfl (by decide +kernel) (by decide +kernel) (all_cons (fun _ _ => rfl) (all_cons (fun _ _ => rfl) (all_cons (fun _ _ => rfl) (all_nil)))) (l_cons (p_var rfl (by decide +kernel) (by decide +kernel) (by decide)) rfl (l_cons (p_var rfl (by decide +kernel) (by decide +kernel) (by decide)) rfl (l_cons (p_int) rfl (l_nil)))) (fun _ => rfl)))
   (x_cons (s_ret (r_plain (p_bool) rfl))
   x_nil)
   x_nil)
  (x_cons (s_ite (t_cmp B (op := .ne) rfl (p_sumL B (by decide +kernel) (fun _ _ => rfl) (fun _ => rfl) (p_new (n_comp B ⟨compOk_of rfl (by decide +kernel), ⟨true, (s_seq B (fun _ => rfl) (p_var rfl (by decide +kernel) (by decide +kernel) (by decide)))⟩, (fun _ _ => rfl), ⟨⟨_, _, rfl, rfl, (by decide), (by decide +kernel), (by decide)⟩, rfl, (i_nil)⟩, trivial, (p_call B (f := 6) rfl (by decide +kernel) (by decide +kernel) (all_cons (fun _ _ => rfl) (all_nil)) (l_cons (p_sub (fun _ _ => rfl) (p_sub (fun _ _ => rfl) (p_var rfl (by decide +kernel) (by decide +kernel) (by decide)) (p_var rfl (by decide +kernel) (by decide +kernel) (by decide))) (p_int)) rfl (l_nil)) (fun _ => rfl)), rfl⟩))) (p_len B (by decide +kernel) (fun _ _ => rfl) (fun _ => rfl) (p_var rfl (by decide +kernel) (by decide +kernel) (by decide))))
   (x_cons (s_ret (r_plain (p_bool) rfl))
   x_nil)
   x_nil)
  (x_cons (s_for1 ⟨rfl, by decide, by decide +kernel⟩ (by decide) (s_range2 B (by decide +kernel) (fun _ _ => rfl) (fun _ _ => rfl) (fun _ => rfl) (p_int) (p_bin (op := .add) (p_len B (by decide +kernel) (fun _ _ => rfl) (fun _ => rfl) (p_var rfl (by decide +kernel) (by decide +kernel) (by decide))) (p_int))) (fun _ _ => rfl)
   (x_cons (s_assign ⟨rfl, by decide, by decide +kernel⟩ (by decide) (p_sub (fun _ _ => rfl) (p_sub (fun _ _ => rfl) (p_var rfl (by decide +kernel) (by decide +kernel) (by decide)) (p_bin (op := .sub) (p_var rfl (by decide +kernel) (by decide +kernel) (by decide)) (p_int))) (p_int)) rfl (fun _ _ => rfl))
   (x_cons (s_assign ⟨rfl, by decide, by decide +kernel⟩ (by decide) (p_call B (f := 15) rfl (by decide +kernel) (by decide +kernel) (all_cons (fun _ _ => rfl) (all_cons (fun _ _ => rfl) (all_nil))) (l_cons (p_var rfl (by decide +kernel) (by decide +kernel) (by decide)) rfl (l_cons (p_var rfl (by decide +kernel) (by decide +kernel) (by decide)) rfl (l_nil))) (fun _ => rfl)) rfl (fun _ _ => rfl))
   (x_cons (s_assign ⟨rfl, by decide, by decide +kernel⟩ (by decide) (p_call B (f := 16) rfl (by decide +kernel) (by decide +kernel) (all_cons (fun _ _ => rfl) (all_cons (fun _ _ => rfl) (all_nil))) (l_cons (p_var rfl (by decide +kernel) (by decide +kernel) (by decide)) rfl (l_cons (p_bin (op := .add) (p_var rfl (by decide +kernel) (by decide +kernel) (by decide)) (p_int)) rfl (l_nil))) (fun _ => rfl)) rfl (fun _ _ => rfl))
   (x_cons (s_ite (t_not (t_and (a_cons (t_cmp2 B (op1 := .le) (op2 := .le) rfl (p_var rfl (by decide +kernel) (by decide +kernel) (by decide)) (p_var rfl (by decide +kernel) (by decide +kernel) (by decide)) (p_bin (op := .mul) (p_int) (p_var rfl (by decide +kernel) (by decide +kernel) (by decide)))) (a_cons (t_cmp2 B (op1 := .le) (op2 := .le) rfl (p_var rfl (by decide +kernel) (by decide +kernel) (by decide)) (p_var rfl (by decide +kernel) (by decide +kernel) (by decide)) (p_bin (op := .mul) (p_int) (p_var rfl (by decide +kernel) (by decide +kernel) (by decide)))) (a_nil)))))
    (x_cons (s_ret (r_plain (p_bool) rfl))
    x_nil)
    x_nil)
   x_nil)))))
  (x_cons (s_ret (r_plain (p_bool) rfl))
  x_nil))))))))
end Mine
end
section
open PySem PySem.W PyProof.Rows
set_option maxRecDepth 100000
set_option maxHeartbeats 8000000
namespace Mine
noncomputable def keepAt (l : List Stmt) (ns : List Nat) : List Stmt := ns.filterMap fun i => l[i]?
noncomputable def qv : Program := { PySem.Challenge.pw_pg0164_01 with main := { PySem.Challenge.pw_pg0164_01.main with body := keepAt PySem.Challenge.pw_pg0164_01.main.body [1, 2, 3, 4, 6, 7, 8, 10, 11, 12, 13, 14, 16, 17, 18, 19, 20, 21, 22, 23, 24] } }
noncomputable def rR : OpenRow := PySem.Challenge.rw_pg0164_01.row
theorem both_true {a b : Bool} (x : a = true) (y : b = true) : (a && b) = true := by rw [x, y]; rfl
theorem said : PySem.Challenge.rw_pg0164_01.wellSaid = true := by
  delta OpenLaw.wellSaid OpenRow.wellSaid OpenRow.partSaid looksOpen
  repeat' (with_reducible refine both_true ?_ ?_)
  all_goals decide +kernel
end Mine
end
section
open PySem PySem.W PyProof.Rows
set_option maxRecDepth 100000
set_option maxHeartbeats 8000000
namespace Mine
theorem left : LeftO rR.prog qv [] (fun s => xlAt qv [] s && recOk rR.toRowW.records s) Hook.none.obs Hook.none.val 1334 := fun w => by kernel_rfl
end Mine
end
section
open PySem PySem.W PyProof.Rows PySem.Calls
set_option maxRecDepth 100000
namespace Mine

noncomputable def statB (cx : Cx) (params : Nat) : Bool := decide cx.names.Nodup && (cx.sc.names.all fun p => !(p.2 == NameKind.free)) &&
  ((List.range params).all fun i => match cx.names[i]? with | some x => (kindIn cx.sc x == some .local || kindIn cx.sc x == some .cell) | none => true) && (cx.sc.names.all fun p => !(p.2 == NameKind.cell) || cx.names.contains p.1)
theorem stat_of {cx : Cx} {fd : FuncData} {body : List Stmt} {size params : Nat} (hB : statB cx params = true) (h1 : fd.scope = cx.sc) (h2 : cx.sc.kind = .function) (h3 : fd.globals = mainGlobals) (h4 : fd.builtins = builtinsNs) (h5 : fd.closure = []) (h6 : fd.body = .stmts body) (h7 : fd.scope.isCoroutine = false) (h8 : fd.scope.isGenerator = false)
    (h9 : cx.names.length = size) (h10 : params ≤ size) (h11 : ∀ vals : List Value, vals.length = params → bindArgs fd ⟨vals, []⟩ = pure ((cx.names.take params).zip vals)) : FnStat cx fd body size params := by
  unfold statB at hB
  simp only [Bool.and_eq_true, decide_eq_true_eq, List.all_eq_true] at hB
  obtain ⟨⟨⟨b1, b2⟩, b3⟩, b4⟩ := hB
  refine ⟨h1, h2, h3, h4, h5, h6, h7, h8, h9, b1, fun x hx => ?_, h10, fun i x hi hx => ?_, fun x hx => ?_, h11⟩
  · have := b2 (x, .free) hx
    simp at this
  · have := b3 i (List.mem_range.mpr hi)
    rw [hx] at this
    simpa using this
  · have := b4 (x, .cell) hx
    simpa using this

noncomputable def fnName : Nat → Str
  | 0 => "heapreplace"
  | 1 => "heapify"
  | 2 => "_siftdown"
  | 3 => "_siftup"
  | 4 => "add_func_stats"
  | 5 => "add_callers"
  | 6 => "count_calls"
  | 7 => "_substitution_cost"
  | 8 => "_levenshtein_distance"
  | 9 => "_law_word"
  | 10 => "_law_spread"
  | 11 => "_law_price"
  | 12 => "_law_table"
  | 13 => "_law_plain"
  | 14 => "_law_choices"
  | 15 => "_law_cover"
  | 16 => "_law_apart"
  | 17 => "law"
  | _ => ""
noncomputable def adOf (mg : Str → Option Value) (k : Nat) : Addr := match mg (fnName k) with | some (.ref a) => a | _ => 0

/-- the def of number k, as the top holds it -/
structure DefAt (h : Heap) (a : Addr) (d : DefRec) : Prop where
  it : ∃ o pm code doc, h.get? a = some o ∧ o.data = .func (docDef d.name d.params d.body d.scope pm code doc) ∧ h.CodeRec code d.name

noncomputable def recAt (k : Nat) : DefRec := match (recsOf qv)[k]? with | some d => d | none => ⟨"", { posonlyargs := [], args := [], vararg := none, kwonlyargs := [], kw_defaults := [], kwarg := none, defaults := [] }, [], scopeOf 0, { line := 0, col := 0, endLine := 0, endCol := 0 }⟩
theorem rec_ok : ((List.range 18).all fun k => ((recsOf qv)[k]?).isSome && (recAt k).name == fnName k) = true := by decide +kernel
theorem vals0 {l : List Value} (e : l.length = 0) : l = [] := List.length_eq_zero_iff.mp e
theorem valsS {l : List Value} {n : Nat} (e : l.length = n + 1) : ∃ a r, l = a :: r ∧ r.length = n := by
  cases l with
  | nil => cases e
  | cons a r => exact ⟨a, r, rfl, Nat.succ.inj e⟩
theorem vals1 {P : List Value → Prop} (h : ∀ a, P [a]) (l : List Value) (e : l.length = 1) : P l := by
  obtain ⟨a, r, rfl, e1⟩ := valsS e; rw [vals0 e1]; exact h a
theorem vals2 {P : List Value → Prop} (h : ∀ a b, P [a, b]) (l : List Value) (e : l.length = 2) : P l := by
  obtain ⟨a, r, rfl, e1⟩ := valsS e; exact vals1 (P := fun l => P (a :: l)) (h a) r e1
theorem vals3 {P : List Value → Prop} (h : ∀ a b c, P [a, b, c]) (l : List Value) (e : l.length = 3) : P l := by
  obtain ⟨a, r, rfl, e1⟩ := valsS e; exact vals2 (P := fun l => P (a :: l)) (h a) r e1
noncomputable def ioB (k params : Nat) (own rets : List Nat) : Bool := if k < 4 then rets.isEmpty && own.contains 0 && decide (0 < params) && ((List.range params).all fun i => decide (i = 0) || !own.contains i) else (List.range params).all fun i => !own.contains i
section
variable {loose : List Str} {mean : ExcName → Option Value} {mg mb : Str → Option Value} {h : Heap}
theorem def_at (T : Top qv loose mean mg mb h) {k : Nat} (hk : k < 18) : mg (fnName k) = some (.ref (adOf mg k)) ∧ DefAt h (adOf mg k) (recAt k) := by
  have hb := List.all_eq_true.mp rec_ok k (List.mem_range.mpr hk)
  simp only [Bool.and_eq_true] at hb
  obtain ⟨d, hd⟩ := Option.isSome_iff_exists.mp hb.1
  have hr : recAt k = d := by unfold recAt; rw [hd]
  have hn : d.name = fnName k := by rw [← hr]; exact eq_of_beq hb.2
  obtain ⟨a, o, pm, code, doc, h1, h2, h3, h4⟩ := T.fn d (List.mem_of_getElem? hd)
  rw [hn] at h1
  have : adOf mg k = a := by unfold adOf; rw [h1]
  rw [this, hr]
  exact ⟨h1, o, pm, code, doc, h2, h3, h4⟩
noncomputable def OkAt (prog : Program) (w : World) (ad : Nat → Addr) (h : Heap) (k : Nat) : Prop := ∃ fn cx rets fd body, progF k = some fn ∧ FnOk prog w (fnTab ad) h k (ad k) fn cx rets fd body
theorem ok_of {prog : Program} {w : World} {ad : Nat → Addr} {k : Nat} {d : DefRec} {fn : Fn} {cx : Cx} {rets : List Nat} {body : List Stmt} (D : DefAt h (ad k) d) (hp : progF k = some fn) (hs : d.scope = cx.sc) (hk : cx.sc.kind = .function) (hb : d.body = body) (hc : d.scope.isCoroutine = false) (hg : d.scope.isGenerator = false)
    (hl : cx.names.length = fn.size) (hle : Nat.ble fn.params fn.size = true) (hB : statB cx fn.params = true) (hio : ioB k fn.params cx.own rets = true)
    (hbind : ∀ (pm code doc : Value) (vals : List Value), vals.length = fn.params → bindArgs (docDef d.name d.params d.body d.scope pm code doc) ⟨vals, []⟩ = pure ((cx.names.take fn.params).zip vals))
    (hx : ∀ A Φ Ψ, Amb prog w A (fnTab ad) h Φ → CallsIO prog w A (fnTab ad) h Ψ → ExecsP prog w A h Φ Ψ cx rets body fn.body) : OkAt prog w ad h k := by
  obtain ⟨o, pm, code, doc, h2, h3, h4⟩ := D.it
  refine ⟨fn, cx, rets, _, body, hp, ⟨o, h2, h3⟩, h4, stat_of hB hs hk rfl rfl rfl (by rw [← hb]; rfl) hc hg hl (Nat.le_of_ble_eq_true hle) (hbind pm code doc), fun h4 i hi => ?_, fun h4 => ?_, hx⟩
  · unfold ioB at hio
    rw [if_neg (Nat.not_lt.mpr h4)] at hio
    have := List.all_eq_true.mp hio i (List.mem_range.mpr hi)
    simpa using this
  · unfold ioB at hio
    rw [if_pos h4] at hio
    simp only [Bool.and_eq_true, List.isEmpty_iff, decide_eq_true_eq, List.contains_iff_mem, List.all_eq_true, List.mem_range] at hio
    refine ⟨hio.1.1.1, hio.1.1.2, hio.1.2, fun i i0 hi => ?_⟩
    have := hio.2 i hi
    simp only [Bool.or_eq_true, decide_eq_true_eq] at this
    rcases this with e | e
    · exact absurd e (Nat.ne_of_gt i0)
    · simpa using e

theorem ok_heapreplace {prog : Program} {w : World} {ad : Nat → Addr} (D : DefAt h (ad 0) (recAt 0)) : OkAt prog w ad h 0 :=
  ok_of (fn := f_heapreplace) (cx := cx_heapreplace) (rets := []) (body := bodyOf 0) D rfl rfl rfl rfl rfl rfl rfl rfl (by decide +kernel) (by decide +kernel) (fun _ _ _ => vals2 fun _ _ => rfl) fun A Φ Ψ B IO => d_heapreplace B IO
theorem ok_heapify {prog : Program} {w : World} {ad : Nat → Addr} (D : DefAt h (ad 1) (recAt 1)) : OkAt prog w ad h 1 :=
  ok_of (fn := f_heapify) (cx := cx_heapify) (rets := []) (body := bodyOf 1) D rfl rfl rfl rfl rfl rfl rfl rfl (by decide +kernel) (by decide +kernel) (fun _ _ _ => vals1 fun _ => rfl) fun A Φ Ψ B IO => d_heapify B IO
theorem ok_siftdown {prog : Program} {w : World} {ad : Nat → Addr} (D : DefAt h (ad 2) (recAt 2)) : OkAt prog w ad h 2 :=
  ok_of (fn := f_siftdown) (cx := cx_siftdown) (rets := []) (body := bodyOf 2) D rfl rfl rfl rfl rfl rfl rfl rfl (by decide +kernel) (by decide +kernel) (fun _ _ _ => vals3 fun _ _ _ => rfl) fun A Φ Ψ B IO => d_siftdown B IO
theorem ok_siftup {prog : Program} {w : World} {ad : Nat → Addr} (D : DefAt h (ad 3) (recAt 3)) : OkAt prog w ad h 3 :=
  ok_of (fn := f_siftup) (cx := cx_siftup) (rets := []) (body := bodyOf 3) D rfl rfl rfl rfl rfl rfl rfl rfl (by decide +kernel) (by decide +kernel) (fun _ _ _ => vals2 fun _ _ => rfl) fun A Φ Ψ B IO => d_siftup B IO
theorem ok_add_func_stats {prog : Program} {w : World} {ad : Nat → Addr} (D : DefAt h (ad 4) (recAt 4)) : OkAt prog w ad h 4 :=
  ok_of (fn := f_add_func_stats) (cx := cx_add_func_stats) (rets := o_add_func_stats) (body := bodyOf 4) D rfl rfl rfl rfl rfl rfl rfl rfl (by decide +kernel) (by decide +kernel) (fun _ _ _ => vals2 fun _ _ => rfl) fun A Φ Ψ B IO => d_add_func_stats B IO
theorem ok_add_callers {prog : Program} {w : World} {ad : Nat → Addr} (D : DefAt h (ad 5) (recAt 5)) : OkAt prog w ad h 5 :=
  ok_of (fn := f_add_callers) (cx := cx_add_callers) (rets := o_add_callers) (body := bodyOf 5) D rfl rfl rfl rfl rfl rfl rfl rfl (by decide +kernel) (by decide +kernel) (fun _ _ _ => vals2 fun _ _ => rfl) fun A Φ Ψ B IO => d_add_callers B IO
theorem ok_count_calls {prog : Program} {w : World} {ad : Nat → Addr} (D : DefAt h (ad 6) (recAt 6)) : OkAt prog w ad h 6 :=
  ok_of (fn := f_count_calls) (cx := cx_count_calls) (rets := o_count_calls) (body := bodyOf 6) D rfl rfl rfl rfl rfl rfl rfl rfl (by decide +kernel) (by decide +kernel) (fun _ _ _ => vals1 fun _ => rfl) fun A Φ Ψ B IO => d_count_calls B IO
theorem ok_substitution_cost {prog : Program} {w : World} {ad : Nat → Addr} (D : DefAt h (ad 7) (recAt 7)) : OkAt prog w ad h 7 :=
  ok_of (fn := f_substitution_cost) (cx := cx_substitution_cost) (rets := o_substitution_cost) (body := bodyOf 7) D rfl rfl rfl rfl rfl rfl rfl rfl (by decide +kernel) (by decide +kernel) (fun _ _ _ => vals2 fun _ _ => rfl) fun A Φ Ψ B IO => d_substitution_cost B IO
theorem ok_levenshtein_distance {prog : Program} {w : World} {ad : Nat → Addr} (D : DefAt h (ad 8) (recAt 8)) : OkAt prog w ad h 8 :=
  ok_of (fn := f_levenshtein_distance) (cx := cx_levenshtein_distance) (rets := o_levenshtein_distance) (body := bodyOf 8) D rfl rfl rfl rfl rfl rfl rfl rfl (by decide +kernel) (by decide +kernel) (fun _ _ _ => vals3 fun _ _ _ => rfl) fun A Φ Ψ B IO => d_levenshtein_distance B IO
theorem ok_law_word {prog : Program} {w : World} {ad : Nat → Addr} (D : DefAt h (ad 9) (recAt 9)) : OkAt prog w ad h 9 :=
  ok_of (fn := f_law_word) (cx := cx_law_word) (rets := o_law_word) (body := bodyOf 9) D rfl rfl rfl rfl rfl rfl rfl rfl (by decide +kernel) (by decide +kernel) (fun _ _ _ => vals1 fun _ => rfl) fun A Φ Ψ B IO => d_law_word B IO
theorem ok_law_spread {prog : Program} {w : World} {ad : Nat → Addr} (D : DefAt h (ad 10) (recAt 10)) : OkAt prog w ad h 10 :=
  ok_of (fn := f_law_spread) (cx := cx_law_spread) (rets := o_law_spread) (body := bodyOf 10) D rfl rfl rfl rfl rfl rfl rfl rfl (by decide +kernel) (by decide +kernel) (fun _ _ _ => vals3 fun _ _ _ => rfl) fun A Φ Ψ B IO => d_law_spread B IO
theorem ok_law_price {prog : Program} {w : World} {ad : Nat → Addr} (D : DefAt h (ad 11) (recAt 11)) : OkAt prog w ad h 11 :=
  ok_of (fn := f_law_price) (cx := cx_law_price) (rets := o_law_price) (body := bodyOf 11) D rfl rfl rfl rfl rfl rfl rfl rfl (by decide +kernel) (by decide +kernel) (fun _ _ _ => vals2 fun _ _ => rfl) fun A Φ Ψ B IO => d_law_price B IO
theorem ok_law_table {prog : Program} {w : World} {ad : Nat → Addr} (D : DefAt h (ad 12) (recAt 12)) : OkAt prog w ad h 12 :=
  ok_of (fn := f_law_table) (cx := cx_law_table) (rets := o_law_table) (body := bodyOf 12) D rfl rfl rfl rfl rfl rfl rfl rfl (by decide +kernel) (by decide +kernel) (fun _ _ _ => vals1 fun _ => rfl) fun A Φ Ψ B IO => d_law_table B IO
theorem ok_law_plain {prog : Program} {w : World} {ad : Nat → Addr} (D : DefAt h (ad 13) (recAt 13)) : OkAt prog w ad h 13 :=
  ok_of (fn := f_law_plain) (cx := cx_law_plain) (rets := o_law_plain) (body := bodyOf 13) D rfl rfl rfl rfl rfl rfl rfl rfl (by decide +kernel) (by decide +kernel) (fun _ _ _ => vals3 fun _ _ _ => rfl) fun A Φ Ψ B IO => d_law_plain B IO
theorem ok_law_choices {prog : Program} {w : World} {ad : Nat → Addr} (D : DefAt h (ad 14) (recAt 14)) : OkAt prog w ad h 14 :=
  ok_of (fn := f_law_choices) (cx := cx_law_choices) (rets := o_law_choices) (body := bodyOf 14) D rfl rfl rfl rfl rfl rfl rfl rfl (by decide +kernel) (by decide +kernel) (fun _ _ _ => vals2 fun _ _ => rfl) fun A Φ Ψ B IO => d_law_choices B IO
theorem ok_law_cover {prog : Program} {w : World} {ad : Nat → Addr} (D : DefAt h (ad 15) (recAt 15)) : OkAt prog w ad h 15 :=
  ok_of (fn := f_law_cover) (cx := cx_law_cover) (rets := o_law_cover) (body := bodyOf 15) D rfl rfl rfl rfl rfl rfl rfl rfl (by decide +kernel) (by decide +kernel) (fun _ _ _ => vals2 fun _ _ => rfl) fun A Φ Ψ B IO => d_law_cover B IO
theorem ok_law_apart {prog : Program} {w : World} {ad : Nat → Addr} (D : DefAt h (ad 16) (recAt 16)) : OkAt prog w ad h 16 :=
  ok_of (fn := f_law_apart) (cx := cx_law_apart) (rets := o_law_apart) (body := bodyOf 16) D rfl rfl rfl rfl rfl rfl rfl rfl (by decide +kernel) (by decide +kernel) (fun _ _ _ => vals2 fun _ _ => rfl) fun A Φ Ψ B IO => d_law_apart B IO
theorem ok_law {prog : Program} {w : World} {ad : Nat → Addr} (D : DefAt h (ad 17) (recAt 17)) : OkAt prog w ad h 17 :=
  ok_of (fn := f_law) (cx := cx_law) (rets := o_law) (body := bodyOf 17) D rfl rfl rfl rfl rfl rfl rfl rfl (by decide +kernel) (by decide +kernel) (fun _ _ _ => vals1 fun _ => rfl) fun A Φ Ψ B IO => d_law B IO
end
end Mine
end
section
open PySem PySem.W PyProof.Rows PySem.Calls
set_option maxRecDepth 100000
namespace Mine
section
variable {loose : List Str} {mean : ExcName → Option Value} {mg mb : Str → Option Value} {h : Heap}

theorem fnTab_of {ad : Nat → Addr} : ∀ {f : Nat} {x : Str} {a : Addr}, fnTab ad f = some (x, a) → f < 18 ∧ x = fnName f ∧ a = ad f := by
  intro f x a hf
  have hl : f < 18 := by
    rcases Nat.lt_or_ge f 18 with q | q
    · exact q
    · obtain ⟨n, rfl⟩ := Nat.exists_eq_add_of_le' q
      cases hf
  have e : ∀ f, f < 18 → fnTab ad f = some (fnName f, ad f) := fun f hf => match f, hf with
    | 0, _ => rfl
    | 1, _ => rfl
    | 2, _ => rfl
    | 3, _ => rfl
    | 4, _ => rfl
    | 5, _ => rfl
    | 6, _ => rfl
    | 7, _ => rfl
    | 8, _ => rfl
    | 9, _ => rfl
    | 10, _ => rfl
    | 11, _ => rfl
    | 12, _ => rfl
    | 13, _ => rfl
    | 14, _ => rfl
    | 15, _ => rfl
    | 16, _ => rfl
    | 17, _ => rfl
    | n + 18, q => (Nat.not_lt.mpr (Nat.le_add_left 18 n) q).elim
  rw [e f hl] at hf
  cases hf
  exact ⟨hl, rfl, rfl⟩
theorem ok_at (T : Top qv loose mean mg mb h) {prog : Program} {w : World} : ∀ f, f < 18 → OkAt prog w (adOf mg) h f
  | 0, q => ok_heapreplace (def_at T q).2
  | 1, q => ok_heapify (def_at T q).2
  | 2, q => ok_siftdown (def_at T q).2
  | 3, q => ok_siftup (def_at T q).2
  | 4, q => ok_add_func_stats (def_at T q).2
  | 5, q => ok_add_callers (def_at T q).2
  | 6, q => ok_count_calls (def_at T q).2
  | 7, q => ok_substitution_cost (def_at T q).2
  | 8, q => ok_levenshtein_distance (def_at T q).2
  | 9, q => ok_law_word (def_at T q).2
  | 10, q => ok_law_spread (def_at T q).2
  | 11, q => ok_law_price (def_at T q).2
  | 12, q => ok_law_table (def_at T q).2
  | 13, q => ok_law_plain (def_at T q).2
  | 14, q => ok_law_choices (def_at T q).2
  | 15, q => ok_law_cover (def_at T q).2
  | 16, q => ok_law_apart (def_at T q).2
  | 17, q => ok_law (def_at T q).2
  | n + 18, q => (Nat.not_lt.mpr (Nat.le_add_left 18 n) q).elim
theorem ok_all (T : Top qv loose mean mg mb h) {prog : Program} {w : World} : ∀ f x a, fnTab (adOf mg) f = some (x, a) → ∃ fn cx rets fd body, progF f = some fn ∧ FnOk prog w (fnTab (adOf mg)) h f a fn cx rets fd body := by
  intro f x a hf
  obtain ⟨hl, _, e⟩ := fnTab_of hf
  rw [e]
  exact ok_at T f hl
theorem def_mg (T : Top qv loose mean mg mb h) : ∀ f x a, fnTab (adOf mg) f = some (x, a) → mg x = some (.ref a) ∧ ∃ o fd, h.get? a = some o ∧ o.data = .func fd := by
  intro f x a hf
  obtain ⟨hl, e1, e2⟩ := fnTab_of hf
  rw [e1, e2]
  obtain ⟨h1, D⟩ := def_at T hl
  obtain ⟨o, pm, code, doc, h2, h3, _⟩ := D.it
  exact ⟨h1, o, _, h2, h3⟩

theorem const_int (T : Top qv loose mean mg mb h) {x : Str} {i : Int} (e : valOf qv x = some (.int i)) : ∃ t, mg x = some (.int i t) := by
  obtain ⟨v, h1, h2⟩ := T.const x _ e
  have := h2 h
  cases this with
  | int i t => exact ⟨t, h1⟩

theorem gl_of (T : Top qv (looseW qv []) mean mg mb h) : Gl (fnTab (adOf mg)) h mg mb := by
  refine ⟨T.g, T.b, fun f x a hf => (def_mg T f x a hf).1, fun f x a hf => (def_mg T f x a hf).2, fun x i hx => ?_, fun x v hx => ?_, ?_⟩
  · simp only [usedConsts, List.mem_cons, Prod.mk.injEq, List.not_mem_nil, or_false] at hx
    rcases hx with ⟨rfl, rfl⟩ | ⟨rfl, rfl⟩ | ⟨rfl, rfl⟩ <;> exact const_int T rfl
  · simp only [usedBlts, List.mem_cons, Prod.mk.injEq, List.not_mem_nil, or_false] at hx
    rcases hx with ⟨rfl, rfl⟩ | ⟨rfl, rfl⟩ | ⟨rfl, rfl⟩ | ⟨rfl, rfl⟩ | ⟨rfl, rfl⟩ | ⟨rfl, rfl⟩ | ⟨rfl, rfl⟩ | ⟨rfl, rfl⟩ | ⟨rfl, rfl⟩ <;>
      exact ⟨T.free _ (by decide +kernel) (by decide +kernel) (by decide +kernel) (by decide +kernel) (by decide +kernel), (T.builtins _ (by decide +kernel)).trans (by kernel_rfl)⟩
  · obtain ⟨mc, ⟨o, _, _, ho, _⟩, _⟩ := T.nolimit
    exact ⟨o, ho⟩
end
end Mine
end
section
open PySem PySem.W PyProof.Rows PySem.Calls
set_option maxRecDepth 100000
namespace Mine

theorem ints_reps {prog : Program} {w : World} {h : Heap} {μ : List Addr} {vs : List Value} {ns : List Int} (x : IntsAre vs ns) : Reps prog w h μ vs (ns.map D.int) := by
  induction x with
  | nil => exact .nil
  | cons n t _ ih => exact .cons (.int n t) ih

theorem law_call {prog : Program} {w : World} {mean : ExcName → Option Value} {mg mb : Str → Option Value} {s : Shared} (T : Top qv (looseW qv []) mean mg mb s.heap) {ns : List Int} {l : Addr} {vs : List Value}
    (p : s.heap.PlainList l vs.toArray) (hI : IntsAre vs ns) (hlaw : ∃ ρ, callBoth progF 9 17 [.list (ns.map .int)] = some (.bool true, ρ)) {R : Result → Shared → Prop} (hR : ∀ h' tk, Ext s.heap h' → R (.ok (.ret (.bool true))) { s with heap := h', toks := tk }) :
    codeAny (model prog w) callerA (.call (.ref (adOf mg 17)) ⟨[.ref l], []⟩) R s := by
  have hG : ∃ mg' mb', Gl (fnTab (adOf mg)) s.heap mg' mb' := ⟨mg, mb, gl_of T⟩
  have FN := fun f x a hf => ok_all (prog := prog) (w := w) T f x a hf
  have deep : ∀ env : Env, Amb prog w (callerA.deeper env) (fnTab (adOf mg)) s.heap (phi 8) ∧ CallsIO prog w (callerA.deeper env) (fnTab (adOf mg)) s.heap (psi 8) := fun env => by
    obtain ⟨c1, c2⟩ := calls_ok hG T.nolimit FN 8 (callerA.deeper env) rfl (by show 1 + claimMargin + 1 + 8 < recursionLimit; decide) (by show 4 + 3 + 3 * 8 + 16 < cLine; decide)
    exact ⟨⟨rfl, by show 4 + 3 + 16 < cLine; decide, hG, c1⟩, c2⟩
  obtain ⟨fn, cx, rets, fd, body, hp, K⟩ := FN 17 _ _ rfl
  obtain ⟨ρ, hlaw⟩ := hlaw
  refine codeAny_mono (call_code (n := 8) (μ := []) (ds := [.list (ns.map .int)]) (d := .bool true) (Q := fun v s' => v = .bool true ∧ ∃ h' tk, s' = { s with heap := h', toks := tk } ∧ Ext s.heap h') (E := fun _ _ => False) T.nolimit (by show 1 + claimMargin < recursionLimit; decide) deep hp K ?_ (Ext.refl _) (fun a ha => nomatch ha) (.cons (.list p (fun h => nomatch h) (by simpa using ints_reps hI)) .nil) fun v h' tk hx r => ?_) fun r s' hr => ?_
  · unfold phi
    rw [if_pos (by decide), hlaw]; rfl
  · cases r with
    | bool b => exact ⟨rfl, h', tk, rfl, hx⟩
  · cases r with
    | error e => exact hr.elim
    | ok f =>
      cases f with
      | ret v => obtain ⟨rfl, h', tk, rfl, hx⟩ := hr; exact hR h' tk hx
      | _ => exact hr.elim
end Mine
end
section
open PySem
set_option maxRecDepth 100000
namespace Mine
theorem aug_add (a b : Int) : augD .add (.int a) (.int b) = some (.int (a + b)) := rfl
theorem aug_sub (a b : Int) : augD .sub (.int a) (.int b) = some (.int (a - b)) := rfl

theorem loop_rel {bind : D → Rho → Option Rho} {body : Rho → Option (Fl × Rho)} {Inv : Nat → Rho → Prop} (ds : List D)
    (step : ∀ k d ρ, ds[k]? = some d → Inv k ρ → ∃ ρ1 ρ2, bind d ρ = some ρ1 ∧ (body ρ1 = some (.next, ρ2) ∨ body ρ1 = some (.cont, ρ2)) ∧ Inv (k + 1) ρ2) :
    ∀ (n k : Nat) (ρ : Rho), n = ds.length - k → k ≤ ds.length → Inv k ρ → ∃ ρ', loopF bind body (ds.drop k) ρ = some (.next, ρ') ∧ Inv ds.length ρ' := by
  intro n
  induction n with
  | zero =>
    intro k ρ hn hk hI
    have : k = ds.length := by (first | lia | omega)
    subst this
    exact ⟨ρ, by rw [List.drop_length]; rfl, hI⟩
  | succ n ih =>
    intro k ρ hn hk hI
    have hlt : k < ds.length := by (first | lia | omega)
    obtain ⟨ρ1, ρ2, h1, h2, h3⟩ := step k ds[k] ρ (List.getElem?_eq_getElem hlt) hI
    obtain ⟨ρ', h4, h5⟩ := ih (k + 1) ρ2 (by (first | lia | omega)) hlt h3
    refine ⟨ρ', ?_, h5⟩
    rw [List.drop_eq_getElem_cons hlt]
    unfold loopF
    rw [h1]
    simp only [Option.bind_some]
    rcases h2 with h2 | h2 <;> (rw [h2]; exact h4)
theorem loop_all {bind : D → Rho → Option Rho} {body : Rho → Option (Fl × Rho)} {Inv : Nat → Rho → Prop} (ds : List D)
    (step : ∀ k d ρ, ds[k]? = some d → Inv k ρ → ∃ ρ1 ρ2, bind d ρ = some ρ1 ∧ (body ρ1 = some (.next, ρ2) ∨ body ρ1 = some (.cont, ρ2)) ∧ Inv (k + 1) ρ2) {ρ : Rho} (h0 : Inv 0 ρ) : ∃ ρ', loopF bind body ds ρ = some (.next, ρ') ∧ Inv ds.length ρ' := by
  have := loop_rel ds step ds.length 0 ρ (by (first | lia | omega)) (Nat.zero_le _) h0
  simpa using this
theorem rangeD_get {a : Int} {n k : Nat} {d : D} (h : (rangeD a n)[k]? = some d) : k < n ∧ d = .int (a + k) := by
  unfold rangeD at h
  rw [List.getElem?_map] at h
  rcases Nat.lt_or_ge k n with q | q
  · rw [List.getElem?_range q] at h
    exact ⟨q, (Option.some.inj h).symm⟩
  · rw [List.getElem?_eq_none (by simpa using q)] at h; cases h
theorem rangeD_length (a : Int) (n : Nat) : (rangeD a n).length = n := by simp [rangeD]

/-! ### lists of il -/
noncomputable def il (l : List Int) : List D := l.map .int
theorem il_len (l : List Int) : (il l).length = l.length := by simp [il]
theorem place_nat {k n : Nat} (h : k < n) (hn : n ≤ 1000) : place (k : Int) n = some k := by
  unfold place
  rw [if_pos hn, if_pos (by (first | lia | omega)), if_pos (by (first | lia | omega))]
  simp
theorem sub_list {l : List D} {k : Nat} {d : D} (h : l[k]? = some d) (hn : l.length ≤ 1000) : subD (.list l) (.int k) = some d := by
  have hk : k < l.length := by
    rcases Nat.lt_or_ge k l.length with q | q
    · exact q
    · rw [List.getElem?_eq_none q] at h; cases h
  show (place (k : Int) l.length).bind _ = _
  rw [place_nat hk hn]
  exact h
theorem sub_il {l : List Int} {k : Nat} {i : Int} (h : l[k]? = some i) (hn : l.length ≤ 1000) : subD (.list (il l)) (.int k) = some (.int i) :=
  sub_list (by unfold il; rw [List.getElem?_map, h]; rfl) (by rw [il_len]; exact hn)
theorem sub_last {l : List D} (d : D) (hn : l.length < 1000) : subD (.list (l ++ [d])) (.int (-1)) = some d := by
  show (place (-1) (l ++ [d]).length).bind _ = _
  unfold place
  rw [if_pos (by simp; (first | lia | omega)), if_neg (by decide), if_pos (by simp; (first | lia | omega))]
  have : ((-1 : Int) + ((l ++ [d]).length : Nat)).toNat = l.length := by simp; (first | lia | omega)
  rw [this]
  simp
theorem intsOf_il : ∀ l : List Int, intsOf (il l) = some l
  | [] => rfl
  | i :: r => by
    have := intsOf_il r
    unfold il at this ⊢
    simp only [List.map_cons, intsOf, this]; rfl

/-! ### comprehensions -/
theorem flatM_map {α β : Type} {f : D → Option (List α)} (ds : List β) (toD : β → D) (g : β → List α) (h : ∀ b ∈ ds, f (toD b) = some (g b)) : flatM (ds.map toD) f = some (ds.flatMap g) := by
  induction ds with
  | nil => rfl
  | cons b r ih =>
    simp only [List.map_cons, flatM, h b (.head _), Option.bind_some, ih fun b hb => h b (.tail _ hb), Option.map_some, List.flatMap_cons]
theorem flatM_one {β : Type} {f : D → Option (List D)} (ds : List β) (toD : β → D) (g : β → D) (h : ∀ b ∈ ds, f (toD b) = some [g b]) : flatM (ds.map toD) f = some (ds.map g) := by
  rw [flatM_map ds toD (fun b => [g b]) h]
  simp [List.flatMap_singleton']
  induction ds with
  | nil => rfl
  | cons b r ih => simp_all
theorem flatM_range {f : D → Option (List D)} (a : Int) (n : Nat) (g : Nat → D) (h : ∀ k, k < n → f (.int (a + k)) = some [g k]) : flatM (rangeD a n) f = some ((List.range n).map g) := by
  unfold rangeD
  exact flatM_one (List.range n) (fun k : Nat => D.int (a + k)) g fun b hb => h b (List.mem_range.mp hb)
end Mine
end
section
open PySem
set_option maxRecDepth 100000
namespace Mine

noncomputable def low (c : Nat) : Nat := if 65 ≤ c ∧ c ≤ 90 then c + 32 else c
noncomputable def sgn (c : Nat) : D := .str ⟨#[c]⟩
noncomputable def wd (l : List Nat) : D := .str ⟨l.toArray⟩
noncomputable def cost (x y : Nat) : Int := if x = y then 0 else if low x = low y then 1 else 2

theorem str1_beq (c d : Nat) : ((⟨#[c]⟩ : Str) == ⟨#[d]⟩) = decide (c = d) := by
  by_cases h : c = d
  · subst h; simp
  · simp only [h, decide_false]
    exact beq_eq_false_iff_ne.mpr fun e => h (by injection e with e; simpa using e)
theorem eq_sgn (c d : Nat) : cmpD .eq (sgn c) (sgn d) = some (decide (c = d)) := by
  show some ((⟨#[c]⟩ : Str) == ⟨#[d]⟩) = _
  rw [str1_beq]
theorem low_sgn {c : Nat} (h : c < 128) : lowerD (sgn c) = some (sgn (low c)) := by
  unfold sgn lowerD low
  simp [h]
theorem sub_wd {l : List Nat} {k : Nat} {c : Nat} (h : l[k]? = some c) (hn : l.length ≤ 1000) : subD (wd l) (.int k) = some (sgn c) := by
  have hk : k < l.length := by
    rcases Nat.lt_or_ge k l.length with q | q
    · exact q
    · rw [List.getElem?_eq_none q] at h; cases h
  show (place (k : Int) l.toArray.size).bind _ = _
  rw [place_nat (by simpa using hk) (by simpa using hn)]
  simp [h, sgn]
theorem len_wd {l : List Nat} (hn : l.length ≤ 1000) : lenD (wd l) = some (.int l.length) := by
  show (if l.toArray.size ≤ 1000 then _ else _) = _
  rw [if_pos (by simpa using hn)]; simp
theorem seq_wd {l : List Nat} (h : ∀ c ∈ l, c < 128) : seqD (wd l) = some (l.map sgn) := by
  show (if (l.toArray.toList.all (· < 128)) = true then _ else _) = _
  rw [if_pos (by simpa using h)]; rfl

noncomputable def min3 (a b c : Int) : Int := let m := if b < a then b else a; if c < m then c else m
noncomputable def rowGo : Int → List Int → List Int → List Int
  | p, r0 :: r1 :: R, c :: cs => let x := min3 (r0 + c) (r1 + 2) (p + 2); x :: rowGo x (r1 :: R) cs
  | _, _, _ => []
noncomputable def rowStep (R cs : List Int) : List Int := match R with | [] => [] | r :: _ => (r + 2) :: rowGo (r + 2) R cs
theorem rowGo_len : ∀ (cs R : List Int) (p : Int), R.length = cs.length + 1 → (rowGo p R cs).length = cs.length
  | [], R, p, _ => by cases R with | nil => rfl | cons a R => cases R <;> rfl
  | c :: cs, r0 :: r1 :: R, p, h => by
    simp only [rowGo, List.length_cons]
    rw [rowGo_len cs (r1 :: R) _ (by simpa using h)]
  | c :: cs, [r], p, h => by simp at h
  | c :: cs, [], p, h => by simp at h
theorem rowGo_get : ∀ (cs R : List Int) (p : Int) (k : Nat) (c r r' q : Int), cs[k]? = some c → R[k]? = some r → R[k + 1]? = some r' → (p :: rowGo p R cs)[k]? = some q → (rowGo p R cs)[k]? = some (min3 (r + c) (r' + 2) (q + 2))
  | [], _, _, _, _, _, _, _, h, _, _, _ => by simp at h
  | c0 :: cs, r0 :: r1 :: R, p, 0, c, r, r', q, h1, h2, h3, h4 => by simp at h1 h2 h3 h4; subst h1 h2 h3 h4; rfl
  | c0 :: cs, r0 :: r1 :: R, p, k + 1, c, r, r', q, h1, h2, h3, h4 => by
    simp only [rowGo, List.getElem?_cons_succ] at h1 h2 h3 h4 ⊢
    exact rowGo_get cs (r1 :: R) _ k c r r' q h1 h2 h3 h4
  | _ :: _, [_], _, k, _, _, _, _, _, _, h3, _ => by simp at h3
  | _ :: _, [], _, k, _, _, _, _, _, h2, _, _ => by simp at h2
theorem rowStep_len {R cs : List Int} (h : R.length = cs.length + 1) : (rowStep R cs).length = cs.length + 1 := by
  cases R with
  | nil => simp at h
  | cons r R => simp only [rowStep, List.length_cons]; rw [rowGo_len cs (r :: R) _ h]
theorem rowStep_get {R cs : List Int} {k : Nat} {c r r' q : Int} (h1 : cs[k]? = some c) (h2 : R[k]? = some r) (h3 : R[k + 1]? = some r') (h4 : (rowStep R cs)[k]? = some q) : (rowStep R cs)[k + 1]? = some (min3 (r + c) (r' + 2) (q + 2)) := by
  cases R with
  | nil => simp at h2
  | cons r0 R =>
    simp only [rowStep, List.getElem?_cons_succ] at h4 ⊢
    exact rowGo_get cs (r0 :: R) _ k c r r' q h1 h2 h3 h4

noncomputable def row0 (n : Nat) : List Int := (List.range (n + 1)).map fun k : Nat => 2 * (k : Int)
noncomputable def costs (two : List Nat) (s : Nat) : List Int := two.map fun c => cost c s
noncomputable def rows (one two : List Nat) : List Int := one.foldl (fun R s => rowStep R (costs two s)) (row0 two.length)
noncomputable def P (one two : List Nat) : Int := (rows one two).getLastD 0

theorem foldl_len (two : List Nat) : ∀ (one : List Nat) (R : List Int), R.length = two.length + 1 → (one.foldl (fun R s => rowStep R (costs two s)) R).length = two.length + 1
  | [], _, h => h
  | s :: r, R, h => foldl_len two r _ (by rw [rowStep_len (by simpa [costs] using h)]; simp [costs])
theorem rows_len (one two : List Nat) : (rows one two).length = two.length + 1 := foldl_len two one _ (by simp [row0])

theorem small_of {i : Int} (h1 : -1000000 ≤ i) (h2 : i ≤ 1000000) : small i = true := by
  unfold small big; simp only [Bool.and_eq_true, decide_eq_true_eq]; (first | lia | omega)
theorem range1_nat {n : Nat} (h : n ≤ 1000) : range1D (.int (n : Int)) = some (rangeD 0 n) := by
  show (if -1000 ≤ (n : Int) ∧ (n : Int) ≤ 1000 then _ else _) = _
  rw [if_pos (by (first | lia | omega))]; simp
theorem bi_add (a b : Int) : binop .add (.int a) (.int b) = some (.int (a + b)) := rfl
theorem bi_sub (a b : Int) : binop .sub (.int a) (.int b) = some (.int (a - b)) := rfl
theorem bi_mul {a b : Int} (h : (small a && small b) = true) : binop .mul (.int a) (.int b) = some (.int (a * b)) := if_pos h

section
variable (Φ Ψ : Nat → List D → Option D)
theorem price_turn {one two : List Nat} {R : List Int} {s : Nat} (h1 : two.length ≤ 100) (h2 : ∀ c ∈ two, c < 128) (hs : s < 128) (hR : R.length = two.length + 1) (g3 g4 g5 g6 : Option D) :
    ∃ g5' g6', exs Φ Ψ [.own 4 (.list (.cons (.bin .add (.sub (.var 2) (.int 0)) (.int 2)) (.nil))),
     .for1 5 (.range1 (.len (.var 1)))
      [.assign 6 (.ite (.cmp .eq (.sub (.var 1) (.var 5)) (.var 3)) (.int 0) (.ite (.cmp .eq (.lower (.sub (.var 1) (.var 5))) (.lower (.var 3))) (.int 1) (.int 2))),
       .append 4 (.min3 (.bin .add (.sub (.var 2) (.var 5)) (.var 6)) (.bin .add (.sub (.var 2) (.bin .add (.var 5) (.int 1))) (.int 2)) (.bin .add (.sub (.bor 4) (.var 5)) (.int 2)))],
     .move 2 4] [some (wd one), some (wd two), some (.list (il R)), some (sgn s), g4, g5, g6] = some (.next, [some (wd one), some (wd two), some (.list (il (rowStep R (costs two s)))), some (sgn s), none, g5', g6']) := by
  obtain ⟨r0, R', hR0⟩ : ∃ r0 R', R = r0 :: R' := by
    cases R with
    | nil => simp at hR
    | cons a b => exact ⟨a, b, rfl⟩
  have hlen : R.length ≤ 1000 := by (first | lia | omega)
  have e0 : subD (.list (il R)) (.int 0) = some (.int r0) := sub_il (k := 0) (by rw [hR0]; rfl) hlen
  obtain ⟨N, hN⟩ : ∃ N, N = rowStep R (costs two s) := ⟨_, rfl⟩
  have hNl : N.length = two.length + 1 := by rw [hN, rowStep_len (by simpa [costs] using hR)]; simp [costs]
  have hN0 : N[0]? = some (r0 + 2) := by rw [hN, hR0]; rfl
  -- the inner loop
  have inner : ∃ ρ', loopF (bind1 5) (exs Φ Ψ [.assign 6 (.ite (.cmp .eq (.sub (.var 1) (.var 5)) (.var 3)) (.int 0) (.ite (.cmp .eq (.lower (.sub (.var 1) (.var 5))) (.lower (.var 3))) (.int 1) (.int 2))),
       .append 4 (.min3 (.bin .add (.sub (.var 2) (.var 5)) (.var 6)) (.bin .add (.sub (.var 2) (.bin .add (.var 5) (.int 1))) (.int 2)) (.bin .add (.sub (.bor 4) (.var 5)) (.int 2)))]) (rangeD 0 two.length) [some (wd one), some (wd two), some (.list (il R)), some (sgn s), some (.list (il [r0 + 2])), g5, g6] = some (.next, ρ') ∧
      (∃ a b, ρ' = [some (wd one), some (wd two), some (.list (il R)), some (sgn s), some (.list (il (N.take ((rangeD 0 two.length).length + 1)))), a, b]) := by
    refine loop_all (Inv := fun k ρ => ∃ a b, ρ = [some (wd one), some (wd two), some (.list (il R)), some (sgn s), some (.list (il (N.take (k + 1)))), a, b]) _ (fun k d ρ hd hI => ?_) ⟨g5, g6, ?_⟩
    · obtain ⟨a, b, rfl⟩ := hI
      obtain ⟨hk, rfl⟩ := rangeD_get hd
      have hc : two[k]? = some two[k] := List.getElem?_eq_getElem hk
      have hr : R[k]? = some (R[k]'(by (first | lia | omega))) := List.getElem?_eq_getElem _
      have hr' : R[k + 1]? = some (R[k + 1]'(by (first | lia | omega))) := List.getElem?_eq_getElem _
      have hq : N[k]? = some (N[k]'(by (first | lia | omega))) := List.getElem?_eq_getElem _
      have hcs : (costs two s)[k]? = some (cost two[k] s) := by unfold costs; rw [List.getElem?_map, hc]; rfl
      have hnext := rowStep_get hcs hr hr' (by rw [← hN]; exact hq)
      rw [← hN] at hnext
      have e1 := sub_wd hc (by (first | lia | omega))
      have e2 := sub_il hr hlen
      have e3 := sub_il hr' hlen
      have e4 : subD (.list (il (N.take (k + 1)))) (.int (k : Int)) = some (.int (N[k]'(by (first | lia | omega)))) := sub_il (by rw [List.getElem?_take, if_pos (by (first | lia | omega))]; exact hq) (by simp; (first | lia | omega))
      have hlt : two[k] < 128 := h2 _ (List.getElem_mem _)
      refine ⟨[some (wd one), some (wd two), some (.list (il R)), some (sgn s), some (.list (il (N.take (k + 1)))), some (.int (k : Int)), b], [some (wd one), some (wd two), some (.list (il R)), some (sgn s), some (.list (il (N.take (k + 2)))), some (.int (k : Int)), some (.int (cost two[k] s))], by simp [bind1], .inl ?_, some (.int k), some (.int (cost two[k] s)), rfl⟩
      have hcost : ev Φ (.ite (.cmp .eq (.sub (.var 1) (.var 5)) (.var 3)) (.int 0) (.ite (.cmp .eq (.lower (.sub (.var 1) (.var 5))) (.lower (.var 3))) (.int 1) (.int 2))) [some (wd one), some (wd two), some (.list (il R)), some (sgn s), some (.list (il (N.take (k + 1)))), some (.int (k : Int)), b] = some (.int (cost two[k] s)) := by
        simp only [ev, evT, look, List.getElem?_cons_zero, List.getElem?_cons_succ, Option.join_some, Option.bind_some, e1, eq_sgn, low_sgn hlt, low_sgn hs]
        unfold cost
        by_cases q : two[k] = s
        · simp [q]
        · by_cases q2 : low two[k] = low s <;> simp [q, q2]
      have htake : N.take (k + 1) ++ [min3 (R[k] + cost two[k] s) (R[k + 1] + 2) (N[k] + 2)] = N.take (k + 2) := by
        rw [List.take_add_one (i := k + 1), hnext]; rfl
      rw [exs, ex, hcost]
      simp only [Option.map_some, Option.bind_some, List.set_cons_succ, List.set_cons_zero]
      rw [exs, ex]
      have hk1 : ((k : Int) + 1) = ((k + 1 : Nat) : Int) := by (first | lia | omega)
      simp only [ev, look, List.getElem?_cons_zero, List.getElem?_cons_succ, Option.join_some, Option.bind_some, e2, e4, bi_add, hk1, e3, min3D, appendD, il_len, List.length_take]
      rw [if_pos (by (first | lia | omega))]
      simp only [Option.map_some, Option.bind_some, List.set_cons_succ, List.set_cons_zero]
      rw [exs]
      rw [← htake]
      simp [il, min3]
    · have : N.take 1 = [r0 + 2] := by
        rw [List.take_add_one, hN0]; rfl
      rw [Nat.zero_add, this]
  obtain ⟨ρ', hin, a, b, rfl⟩ := inner
  have hfull : N.take ((rangeD 0 two.length).length + 1) = N := List.take_of_length_le (by rw [rangeD_length, hNl]; exact Nat.le_refl _)
  rw [hfull] at hin
  refine ⟨a, b, ?_⟩
  rw [← hN]
  have hr1 : range1D (.int (two.length : Int)) = some (rangeD 0 two.length) := range1_nat (by (first | lia | omega))
  have hfirst : ex Φ Ψ (.own 4 (.list (.cons (.bin .add (.sub (.var 2) (.int 0)) (.int 2)) (.nil)))) [some (wd one), some (wd two), some (.list (il R)), some (sgn s), g4, g5, g6] = some (.next, [some (wd one), some (wd two), some (.list (il R)), some (sgn s), some (.list (il [r0 + 2])), g5, g6]) := by
    simp only [ex, evF, evs, ev, look, List.getElem?_cons_zero, List.getElem?_cons_succ, Option.join_some, Option.bind_some, e0, bi_add, Option.map_some, List.set_cons_succ, List.set_cons_zero, List.length_cons, List.length_nil]
    rfl
  rw [exs, hfirst]
  simp only [Option.bind_some]
  rw [exs, ex]
  simp only [evI, ev, look, List.getElem?_cons_zero, List.getElem?_cons_succ, Option.join_some, Option.bind_some, len_wd (show two.length ≤ 1000 by (first | lia | omega)), hr1, hin]
  simp [exs, ex, look]

theorem price_run {one two : List Nat} (h0 : one.length ≤ 100) (h1 : two.length ≤ 100) (h2 : ∀ c ∈ two, c < 128) (h3 : ∀ c ∈ one, c < 128) : ∃ ρ, runFn Φ Ψ f_law_price [wd one, wd two] = some (.int (P one two), ρ) := by
  have hrow : evF Φ (.comp (.bin .mul (.int 2) (.var 5)) (.cons 5 (.range1 (.bin .add (.len (.var 1)) (.int 1))) (.nil) (.nil))) [some (wd one), some (wd two), none, none, none, none, none] = some (.list (il (row0 two.length))) := by
    have hr1 : range1D (.int ((two.length : Int) + 1)) = some (rangeD 0 (two.length + 1)) := range1_nat (n := two.length + 1) (by (first | lia | omega))
    simp only [evF, evGs, evI, ev, look, clear, List.getElem?_cons_zero, List.getElem?_cons_succ, Option.join_some, Option.bind_some, len_wd (show two.length ≤ 1000 by (first | lia | omega)), bi_add, hr1, rangeD_length]
    rw [if_pos (by (first | lia | omega))]
    rw [flatM_range 0 (two.length + 1) (fun k => .int (2 * (k : Int))) (fun k hk => by
      have hs : (small 2 && small (k : Int)) = true := by rw [small_of (by (first | lia | omega)) (by (first | lia | omega)), small_of (by (first | lia | omega)) (by (first | lia | omega))]; rfl
      simp only [evAnd, Option.bind_some, if_true, ev, look, List.getElem?_set_self, List.set_cons_succ, List.set_cons_zero, List.getElem?_cons_zero, List.getElem?_cons_succ, Option.join_some, Int.zero_add, bi_mul hs, Option.map_some])]
    simp only [Option.bind_some]
    rw [if_pos (by simp; (first | lia | omega))]
    simp [il, row0]
  have outer : ∃ ρ', loopF (bind1 3) (exs Φ Ψ [.own 4 (.list (.cons (.bin .add (.sub (.var 2) (.int 0)) (.int 2)) (.nil))),
     .for1 5 (.range1 (.len (.var 1)))
      [.assign 6 (.ite (.cmp .eq (.sub (.var 1) (.var 5)) (.var 3)) (.int 0) (.ite (.cmp .eq (.lower (.sub (.var 1) (.var 5))) (.lower (.var 3))) (.int 1) (.int 2))),
       .append 4 (.min3 (.bin .add (.sub (.var 2) (.var 5)) (.var 6)) (.bin .add (.sub (.var 2) (.bin .add (.var 5) (.int 1))) (.int 2)) (.bin .add (.sub (.bor 4) (.var 5)) (.int 2)))],
     .move 2 4]) (one.map sgn) [some (wd one), some (wd two), some (.list (il (row0 two.length))), none, none, none, none] = some (.next, ρ') ∧
      (∃ a b c d, ρ' = [some (wd one), some (wd two), some (.list (il ((one.take (one.map sgn).length).foldl (fun R s => rowStep R (costs two s)) (row0 two.length)))), a, b, c, d]) := by
    refine loop_all (Inv := fun k ρ => ∃ a b c d, ρ = [some (wd one), some (wd two), some (.list (il ((one.take k).foldl (fun R s => rowStep R (costs two s)) (row0 two.length)))), a, b, c, d]) _ (fun k d ρ hd hI => ?_) ⟨none, none, none, none, by simp⟩
    obtain ⟨a, b, c, e, rfl⟩ := hI
    rw [List.getElem?_map] at hd
    obtain ⟨s, hs, rfl⟩ := Option.map_eq_some_iff.mp hd
    obtain ⟨g5, g6, ht⟩ := price_turn Φ Ψ (one := one) (two := two) (R := (one.take k).foldl (fun R s => rowStep R (costs two s)) (row0 two.length)) (s := s) h1 h2 (h3 s (List.mem_of_getElem? hs)) (foldl_len two _ _ (by simp [row0])) none b c e
    refine ⟨_, _, rfl, .inl ht, some (sgn s), none, g5, g6, ?_⟩
    rw [List.take_add_one, hs]
    simp
  obtain ⟨ρ', ho, a, b, c, d, rfl⟩ := outer
  have hfull : one.take (one.map sgn).length = one := List.take_of_length_le (by simp)
  rw [hfull] at ho
  unfold runFn
  rw [if_pos (show [wd one, wd two].length = f_law_price.params from rfl)]
  unfold f_law_price b_law_price
  dsimp only
  have hinit : (([wd one, wd two].map some ++ List.replicate (7 - 2) none : Rho)) = [some (wd one), some (wd two), none, none, none, none, none] := rfl
  have hl := rows_len one two
  obtain ⟨L, x, hL⟩ : ∃ L x, rows one two = L ++ [x] := ⟨(rows one two).dropLast, (rows one two).getLast (fun e => by rw [e] at hl; simp at hl), (List.dropLast_concat_getLast _).symm⟩
  have hP : P one two = x := by unfold P; rw [hL]; simp
  have hLl : L.length = two.length := by rw [hL] at hl; simpa using hl
  rw [hinit, exs, ex]
  simp only [ev, hrow, Option.map_some, Option.bind_some, List.set_cons_succ, List.set_cons_zero]
  rw [exs, ex]
  simp only [evI, ev, look, List.getElem?_cons_zero, List.getElem?_cons_succ, Option.join_some, Option.bind_some, seq_wd h3, ho]
  have hrows : il (one.foldl (fun R s => rowStep R (costs two s)) (row0 two.length)) = il L ++ [.int x] := by
    have : one.foldl (fun R s => rowStep R (costs two s)) (row0 two.length) = L ++ [x] := hL
    rw [this]; simp [il]
  rw [hrows]
  have hret : exs Φ Ψ [.ret (.sub (.var 2) (.neg (.int 1)))] [some (wd one), some (wd two), some (.list (il L ++ [.int x])), a, b, c, d] = some (.ret (.int (P one two)), [some (wd one), some (wd two), some (.list (il L ++ [.int x])), a, b, c, d]) := by
    rw [exs, ex]
    simp only [ev, look, List.getElem?_cons_zero, List.getElem?_cons_succ, Option.join_some, Option.bind_some, negD]
    rw [show (-(1 : Int)) = -1 from rfl, sub_last _ (by rw [il_len]; (first | lia | omega)), hP]
    rfl
  exact ⟨_, by rw [hret]; rfl⟩
end
end Mine
end
section
open PySem
set_option maxRecDepth 100000
namespace Mine

noncomputable def mn2 (a b : Int) : Int := if b < a then b else a
abbrev LSt := List Int × Int × Int × Int
noncomputable def levStep (cs : List Int) (st : LSt) (k : Nat) : LSt :=
  let r := st.1.getD k 0
  let x := mn2 (mn2 st.2.2.1 r + 2) (st.2.1 + cs.getD k 0)
  (st.1.set k x, r, x, if x < st.2.2.2 then x else st.2.2.2)
noncomputable def levInner (cs : List Int) (n : Nat) (st : LSt) : LSt := (List.range n).foldl (levStep cs) st
noncomputable def bigI : Int := 9223372036854775807
noncomputable def levFor (a : List Nat) (mc : Int) : List Nat → Nat → List Int → Int → Int
  | [], _, _, res => res
  | c :: bs, j, row, _ =>
    let st := levInner (a.map fun x => cost c x) a.length (row, (j : Int) * 2, (j : Int) * 2, bigI)
    if mc < st.2.2.2 then mc + 1 else levFor a mc bs (j + 1) st.1 st.2.2.1
noncomputable def comPre : List Nat → List Nat → Nat
  | x :: a, y :: b => if x = y then comPre a b + 1 else 0
  | _, _ => 0
noncomputable def lev0 (a b : List Nat) (mc : Int) : Int :=
  if mc < ((b.length : Int) - a.length) * 2 then mc + 1 else levFor a mc b 0 ((List.range a.length).map fun k : Nat => 2 + 2 * (k : Int)) 0
noncomputable def lev1 (a b : List Nat) (mc : Int) : Int :=
  if a = [] ∨ b = [] then 2 * ((a.length : Int) + b.length) else if b.length < a.length then lev0 b a mc else lev0 a b mc
noncomputable def lev2 (a b : List Nat) (mc : Int) : Int :=
  let s := comPre a.reverse b.reverse
  lev1 (a.take (a.length - s)) (b.take (b.length - s)) mc
noncomputable def levN (a b : List Nat) (mc : Int) : Int :=
  if a = b then 0 else let p := comPre a b; lev2 (a.drop p) (b.drop p) mc

theorem levInner_succ (cs : List Int) (n : Nat) (st : LSt) : levInner cs (n + 1) st = levStep cs (levInner cs n st) n := by
  unfold levInner; rw [List.range_succ, List.foldl_append]; rfl
theorem levInner_len (cs : List Int) : ∀ (n : Nat) (st : LSt), (levInner cs n st).1.length = st.1.length
  | 0, _ => rfl
  | n + 1, st => by rw [levInner_succ]; simp only [levStep, List.length_set]; exact levInner_len cs n st

noncomputable def wordL (x : Nat) : List Nat :=
  let sg := fun k : Nat => match k % 4 with | 1 => [97] | 2 => [65] | 3 => [98] | _ => ([] : List Nat)
  sg x ++ sg (x / 4) ++ sg (x / 16)
noncomputable def levGood (a b : List Nat) : Bool :=
  let p := P a b
  levN a b 99 == p && P b a == p && (List.range 6).all fun f => let l := levN a b (f : Int); if p < (f : Int) + 1 then l == p else decide ((f : Int) + 1 ≤ l)
noncomputable def words40 : List (List Nat) := ((List.range 64).map wordL).eraseDups

theorem mn2_run (a b : Int) : min2D (.int a) (.int b) = some (.int (mn2 a b)) := rfl
theorem lt_run (a b : Int) : cmpD .lt (.int a) (.int b) = some (decide (a < b)) := rfl
theorem gt_run (a b : Int) : cmpD .gt (.int a) (.int b) = some (decide (b < a)) := rfl
theorem getD_get {l : List Int} {k : Nat} (h : k < l.length) : l[k]? = some (l.getD k 0) := by
  rw [List.getElem?_eq_getElem h, List.getD_eq_getElem?_getD, List.getElem?_eq_getElem h]; rfl
theorem store_il {l : List Int} {k : Nat} {x : Int} (h : k < l.length) (hn : l.length ≤ 1000) : storeD (.list (il l)) (.int (k : Int)) (.int x) = some (.list (il (l.set k x))) := by
  show (if 0 ≤ (k : Int) ∧ (k : Int) < (il l).length ∧ (il l).length ≤ 1000 then _ else _) = _
  rw [if_pos (by rw [il_len]; (first | lia | omega))]
  simp [il, List.map_set]

section
variable (Φ Ψ : Nat → List D → Option D)
theorem sub_cost_run {x y : Nat} (hx : x < 128) (hy : y < 128) : ∃ ρ, runFn Φ Ψ f_substitution_cost [sgn x, sgn y] = some (.int (cost x y), ρ) := by
  unfold runFn
  rw [if_pos (show [sgn x, sgn y].length = f_substitution_cost.params from rfl)]
  unfold f_substitution_cost b_substitution_cost
  dsimp only
  have hinit : (([sgn x, sgn y].map some ++ List.replicate (2 - 2) none : Rho)) = [some (sgn x), some (sgn y)] := rfl
  rw [hinit]
  have e1 : evT Φ (.cmp .eq (.var 0) (.var 1)) [some (sgn x), some (sgn y)] = some (decide (x = y)) := by
    simp only [evT, ev, look, List.getElem?_cons_zero, List.getElem?_cons_succ, Option.join_some, Option.bind_some, eq_sgn]
  have e2 : evT Φ (.cmp .eq (.lower (.var 0)) (.lower (.var 1))) [some (sgn x), some (sgn y)] = some (decide (low x = low y)) := by
    simp only [evT, ev, look, List.getElem?_cons_zero, List.getElem?_cons_succ, Option.join_some, Option.bind_some, low_sgn hx, low_sgn hy, eq_sgn]
  refine ⟨[some (sgn x), some (sgn y)], ?_⟩
  rw [exs, ex, e1]
  unfold cost
  by_cases h1 : x = y
  · simp [h1, exs, ex, ev]
  · simp only [h1, decide_false, Option.bind_some, Bool.false_eq_true, if_false]
    rw [exs]
    simp only [Option.bind_some]
    rw [exs, ex, e2]
    by_cases h2 : low x = low y
    · simp [h2, exs, ex, ev]
    · simp [h2, exs, ex, ev]

noncomputable def levBody : List S := [.assign 12 (.bin .add (.var 9) (.call 7 (.cons (.var 8) (.cons (.sub (.var 0) (.var 11)) (.nil))))),
       .assign 9 (.sub (.bor 5) (.var 11)),
       .assign 13 (.bin .add (.min2 (.var 6) (.var 9)) (.glob "_MOVE_COST" 2)),
       .assign 6 (.min2 (.var 13) (.var 12)),
       .setAt 5 (.var 11) (.var 6),
       .ite (.cmp .lt (.var 6) (.var 10))
        [.assign 10 (.var 6)]
        []]
theorem lev_inner (hΦ : ∀ x y, x < 128 → y < 128 → Φ 7 [sgn x, sgn y] = some (.int (cost x y))) {a : List Nat} {c : Nat} {row : List Int} (ha : a.length ≤ 100) (ha2 : ∀ x ∈ a, x < 128) (hc : c < 128) (hrow : row.length = a.length) (B M p q j : Option D) (dist res mn : Int) (g11 g12 g13 : Option D) :
    ∃ g11' g12' g13', loopF (bind1 11) (exs Φ Ψ levBody) (rangeD 0 a.length) [some (wd a), B, M, p, q, some (.list (il row)), some (.int res), j, some (sgn c), some (.int dist), some (.int mn), g11, g12, g13] =
      some (.next, [some (wd a), B, M, p, q, some (.list (il (levInner (a.map fun x => cost c x) a.length (row, dist, res, mn)).1)), some (.int (levInner (a.map fun x => cost c x) a.length (row, dist, res, mn)).2.2.1), j, some (sgn c),
        some (.int (levInner (a.map fun x => cost c x) a.length (row, dist, res, mn)).2.1), some (.int (levInner (a.map fun x => cost c x) a.length (row, dist, res, mn)).2.2.2), g11', g12', g13']) := by
  obtain ⟨cs, hcs⟩ : ∃ cs, cs = a.map fun x => cost c x := ⟨_, rfl⟩
  rw [← hcs]
  obtain ⟨st, hst⟩ : ∃ st : Nat → LSt, st = fun k => levInner cs k (row, dist, res, mn) := ⟨_, rfl⟩
  have hs0 : st 0 = (row, dist, res, mn) := by rw [hst]; rfl
  have hsl : ∀ k, (st k).1.length = a.length := fun k => by rw [hst]; simp only [levInner_len]; exact hrow
  have hss : ∀ k, st (k + 1) = levStep cs (st k) k := fun k => by rw [hst]; exact levInner_succ cs k _
  have hfin : levInner cs a.length (row, dist, res, mn) = st a.length := by rw [hst]
  rw [hfin]
  have main := loop_all (bind := bind1 11) (body := exs Φ Ψ levBody) (Inv := fun k ρ => ∃ g11 g12 g13, ρ = [some (wd a), B, M, p, q, some (.list (il (st k).1)), some (.int (st k).2.2.1), j, some (sgn c), some (.int (st k).2.1), some (.int (st k).2.2.2), g11, g12, g13])
    (rangeD 0 a.length) (fun k d ρ hd hI => ?_) (ρ := [some (wd a), B, M, p, q, some (.list (il row)), some (.int res), j, some (sgn c), some (.int dist), some (.int mn), g11, g12, g13]) ⟨g11, g12, g13, by rw [hs0]⟩
  · obtain ⟨ρ', h1, g1, g2, g3, rfl⟩ := main
    rw [rangeD_length] at h1
    exact ⟨g1, g2, g3, h1⟩
  · obtain ⟨g1, g2, g3, rfl⟩ := hI
    obtain ⟨hk, rfl⟩ := rangeD_get hd
    rw [Int.zero_add]
    have hak : a[k]? = some a[k] := List.getElem?_eq_getElem hk
    have e1 := sub_wd hak (by (first | lia | omega))
    have hlt : a[k] < 128 := ha2 _ (List.getElem_mem _)
    have e2 := hΦ c a[k] hc hlt
    have hcsk : cs.getD k 0 = cost c a[k] := by rw [hcs, List.getD_eq_getElem?_getD, List.getElem?_map, hak]; rfl
    have e3 := sub_il (getD_get (l := (st k).1) (by rw [hsl]; exact hk)) (by rw [hsl]; (first | lia | omega))
    have e4 := fun x : Int => store_il (l := (st k).1) (k := k) (x := x) (by rw [hsl]; exact hk) (by rw [hsl]; (first | lia | omega))
    obtain ⟨r, hr⟩ : ∃ r, r = (st k).1.getD k 0 := ⟨_, rfl⟩
    rw [← hr] at e3
    obtain ⟨x, hx⟩ : ∃ x, x = mn2 (mn2 (st k).2.2.1 r + 2) ((st k).2.1 + cost c a[k]) := ⟨_, rfl⟩
    have hstep : st (k + 1) = ((st k).1.set k x, r, x, if x < (st k).2.2.2 then x else (st k).2.2.2) := by
      rw [hss]; simp only [levStep, hcsk, ← hr, ← hx]
    refine ⟨_, [some (wd a), B, M, p, q, some (.list (il (st (k + 1)).1)), some (.int (st (k + 1)).2.2.1), j, some (sgn c), some (.int (st (k + 1)).2.1), some (.int (st (k + 1)).2.2.2), some (.int (k : Int)), some (.int ((st k).2.1 + cost c a[k])), some (.int (mn2 (st k).2.2.1 r + 2))], rfl, .inl ?_, _, _, _, rfl⟩
    rw [hstep]
    simp only [List.set_cons_succ, List.set_cons_zero]
    unfold levBody
    have lk : ∀ (i : Nat) (ρ : Rho) (d : D), ρ[i]? = some (some d) → look ρ i = some d := fun i ρ d h => by unfold look; rw [h]; rfl
    rw [exs, ex]
    simp only [ev, evs, look, List.getElem?_cons_zero, List.getElem?_cons_succ, Option.join_some, Option.bind_some, Option.map_some, e1, e2, bi_add, List.set_cons_succ, List.set_cons_zero]
    rw [exs, ex]
    simp only [ev, evs, look, List.getElem?_cons_zero, List.getElem?_cons_succ, Option.join_some, Option.bind_some, Option.map_some, e3, List.set_cons_succ, List.set_cons_zero]
    rw [exs, ex]
    simp only [ev, evs, look, List.getElem?_cons_zero, List.getElem?_cons_succ, Option.join_some, Option.bind_some, Option.map_some, mn2_run, bi_add, List.set_cons_succ, List.set_cons_zero]
    rw [exs, ex]
    simp only [ev, evs, look, List.getElem?_cons_zero, List.getElem?_cons_succ, Option.join_some, Option.bind_some, Option.map_some, mn2_run, ← hx, List.set_cons_succ, List.set_cons_zero]
    rw [exs, ex]
    simp only [ev, evs, look, List.getElem?_cons_zero, List.getElem?_cons_succ, Option.join_some, Option.bind_some, Option.map_some, e4, List.set_cons_succ, List.set_cons_zero]
    rw [exs, ex]
    simp only [ev, evT, look, List.getElem?_cons_zero, List.getElem?_cons_succ, Option.join_some, Option.bind_some, lt_run]
    by_cases hlt2 : x < (st k).2.2.2
    · simp [hlt2, exs, ex, ev, look]
    · simp [hlt2, exs]
end
end Mine
end
section
open PySem
set_option maxRecDepth 100000
namespace Mine
section
variable (Φ Ψ : Nat → List D → Option D)

noncomputable def levOuter : List S := [.assign 8 (.sub (.var 1) (.var 7)),
     .two 9 6 (.bin .mul (.var 7) (.glob "_MOVE_COST" 2)),
     .assign 10 (.int 9223372036854775807),
     .for1 11 (.range1 (.len (.var 0))) levBody,
     .ite (.cmp .gt (.var 10) (.var 2))
      [.ret (.bin .add (.var 2) (.int 1))]
      []]
theorem lev_for (hΦ : ∀ x y, x < 128 → y < 128 → Φ 7 [sgn x, sgn y] = some (.int (cost x y))) {a b : List Nat} (ha : a.length ≤ 100) (hb : b.length ≤ 100) (ha2 : ∀ x ∈ a, x < 128) (hb2 : ∀ x ∈ b, x < 128) (mc : Int) (p q : Option D) :
    ∀ (n j : Nat) (row : List Int) (res : Int) (g7 g8 g9 g10 g11 g12 g13 : Option D), n = b.length - j → j ≤ b.length → row.length = a.length →
      ∃ fl ρ', loopF (bind1 7) (exs Φ Ψ levOuter) ((rangeD 0 b.length).drop j) [some (wd a), some (wd b), some (.int mc), p, q, some (.list (il row)), some (.int res), g7, g8, g9, g10, g11, g12, g13] = some (fl, ρ') ∧
        ((fl = .ret (.int (levFor a mc (b.drop j) j row res))) ∨ (fl = .next ∧ look ρ' 6 = some (.int (levFor a mc (b.drop j) j row res)))) := by
  intro n
  induction n with
  | zero =>
    intro j row res g7 g8 g9 g10 g11 g12 g13 hn hj hrow
    have : j = b.length := by (first | lia | omega)
    subst this
    rw [List.drop_of_length_le (by rw [rangeD_length]; exact Nat.le_refl _), List.drop_length]
    exact ⟨.next, _, rfl, .inr ⟨rfl, rfl⟩⟩
  | succ n ih =>
    intro j row res g7 g8 g9 g10 g11 g12 g13 hn hj hrow
    have hlt : j < b.length := by (first | lia | omega)
    have hr : (rangeD 0 b.length)[j]? = some (.int (j : Int)) := by rw [show (j : Int) = 0 + (j : Int) from by (first | lia | omega)]; unfold rangeD; simp [hlt]
    have hjl : j < (rangeD 0 b.length).length := by rw [rangeD_length]; exact hlt
    rw [List.drop_eq_getElem_cons hjl]
    have hgj : (rangeD 0 b.length)[j] = .int (j : Int) := by rw [List.getElem?_eq_getElem hjl] at hr; exact Option.some.inj hr
    rw [hgj]
    have hbj : b[j]? = some b[j] := List.getElem?_eq_getElem hlt
    have hdrop : b.drop j = b[j] :: b.drop (j + 1) := List.drop_eq_getElem_cons hlt
    rw [hdrop]
    have hcl : b[j] < 128 := hb2 _ (List.getElem_mem _)
    obtain ⟨st, hst⟩ : ∃ st, st = levInner (a.map fun x => cost b[j] x) a.length (row, (j : Int) * 2, (j : Int) * 2, bigI) := ⟨_, rfl⟩
    have hlevFor : levFor a mc (b[j] :: b.drop (j + 1)) j row res = if mc < st.2.2.2 then mc + 1 else levFor a mc (b.drop (j + 1)) (j + 1) st.1 st.2.2.1 := by
      rw [hst]; rfl
    rw [hlevFor]
    obtain ⟨h11, h12, h13, hin⟩ := lev_inner Φ Ψ hΦ (a := a) (c := b[j]) (row := row) ha ha2 hcl hrow (some (wd b)) (some (.int mc)) p q (some (.int (j : Int))) ((j : Int) * 2) ((j : Int) * 2) bigI g11 g12 g13
    rw [← hst] at hin
    have hsm : (small (j : Int) && small 2) = true := by rw [small_of (by (first | lia | omega)) (by (first | lia | omega)), small_of (by (first | lia | omega)) (by (first | lia | omega))]; rfl
    have e1 := sub_wd hbj (by (first | lia | omega))
    have body : exs Φ Ψ levOuter [some (wd a), some (wd b), some (.int mc), p, q, some (.list (il row)), some (.int res), some (.int (j : Int)), g8, g9, g10, g11, g12, g13] =
        exs Φ Ψ [.ite (.cmp .gt (.var 10) (.var 2)) [.ret (.bin .add (.var 2) (.int 1))] []] [some (wd a), some (wd b), some (.int mc), p, q, some (.list (il st.1)), some (.int st.2.2.1), some (.int (j : Int)), some (sgn b[j]), some (.int st.2.1), some (.int st.2.2.2), h11, h12, h13] := by
      unfold levOuter
      rw [exs, ex]
      simp only [ev, look, List.getElem?_cons_zero, List.getElem?_cons_succ, Option.join_some, Option.bind_some, Option.map_some, e1, List.set_cons_succ, List.set_cons_zero]
      rw [exs, ex]
      simp only [ev, look, List.getElem?_cons_zero, List.getElem?_cons_succ, Option.join_some, Option.bind_some, Option.map_some, bi_mul hsm, List.set_cons_succ, List.set_cons_zero]
      rw [exs, ex]
      simp only [ev, Option.bind_some, Option.map_some, List.set_cons_succ, List.set_cons_zero]
      rw [exs, ex]
      simp only [evI, ev, look, List.getElem?_cons_zero, List.getElem?_cons_succ, Option.join_some, Option.bind_some, len_wd (show a.length ≤ 1000 by (first | lia | omega)), range1_nat (show a.length ≤ 1000 by (first | lia | omega))]
      rw [show (9223372036854775807 : Int) = bigI from rfl, hin]
      rfl
    unfold loopF
    simp only [bind1, Option.bind_some, List.set_cons_succ, List.set_cons_zero]
    rw [body, exs, ex]
    simp only [evT, ev, look, List.getElem?_cons_zero, List.getElem?_cons_succ, Option.join_some, Option.bind_some, gt_run]
    by_cases hm : mc < st.2.2.2
    · simp only [hm, decide_true, if_true]
      refine ⟨.ret (.int (mc + 1)), [some (wd a), some (wd b), some (.int mc), p, q, some (.list (il st.1)), some (.int st.2.2.1), some (.int (j : Int)), some (sgn b[j]), some (.int st.2.1), some (.int st.2.2.2), h11, h12, h13], ?_, .inl rfl⟩
      simp [exs, ex, ev, look, bi_add]
    · simp only [hm, decide_false, Bool.false_eq_true, if_false]
      obtain ⟨fl, ρ', h1, h2⟩ := ih (j + 1) st.1 st.2.2.1 (some (.int (j : Int))) (some (sgn b[j])) (some (.int st.2.1)) (some (.int st.2.2.2)) h11 h12 h13 (by (first | lia | omega)) hlt (by rw [hst, levInner_len]; exact hrow)
      refine ⟨fl, ρ', ?_, h2⟩
      rw [exs]
      simp only [Option.bind_some]
      rw [exs]
      exact h1
end
end Mine
end
section
open PySem
set_option maxRecDepth 100000
namespace Mine
section
variable (Φ Ψ : Nat → List D → Option D)

theorem own_range3 {a b c : X} {ρ : Rho} {i : Nat} {x y z : D} {l : List D} (h1 : ev Φ a ρ = some x) (h2 : ev Φ b ρ = some y) (h3 : ev Φ c ρ = some z) (h : range3D x y z = some l) :
    ex Φ Ψ (.own i (.range3 a b c)) ρ = some (.next, ρ.set i (some (.list l))) := by
  rw [ex, evF, h1, Option.bind_some, h2, Option.bind_some, h3, Option.bind_some, h]
  rfl
theorem l1t {a : List Nat} (h : a.length ≤ 40) (r : Rho) : ev Φ (.bin .mul (.glob "_MOVE_COST" 2) (.bin .add (.len (.var 0)) (.int 1))) (some (wd a) :: r) = some (.int (2 * ((a.length : Int) + 1))) := by
  have la := len_wd (show a.length ≤ 1000 by (first | lia | omega))
  have hs2 : (small 2 && small ((a.length : Int) + 1)) = true := by rw [small_of (by (first | lia | omega)) (by (first | lia | omega)), small_of (by (first | lia | omega)) (by (first | lia | omega))]; rfl
  have l0 : ev Φ (.bin .add (.len (.var 0)) (.int 1)) (some (wd a) :: r) = some (.int ((a.length : Int) + 1)) := by
    simp only [ev, look, List.getElem?_cons_zero, Option.join_some, Option.bind_some, la, bi_add]
  have g2 : ev Φ (.glob "_MOVE_COST" 2) (some (wd a) :: r) = some (.int 2) := by rw [ev]
  rw [ev, g2, l0, Option.bind_some, Option.bind_some]
  exact bi_mul hs2
noncomputable def levT0 : List S := [.ite (.cmp .gt (.bin .mul (.bin .sub (.len (.var 1)) (.len (.var 0))) (.glob "_MOVE_COST" 2)) (.var 2))
    [.ret (.bin .add (.var 2) (.int 1))]
    [],
   .own 5 (.range3 (.glob "_MOVE_COST" 2) (.bin .mul (.glob "_MOVE_COST" 2) (.bin .add (.len (.var 0)) (.int 1))) (.glob "_MOVE_COST" 2)),
   .assign 6 (.int 0),
   .for1 7 (.range1 (.len (.var 1))) levOuter,
   .ret (.var 6)]
noncomputable def levT1 : List S := [.ite (.or (.cons (.not (.truth (.var 0))) (.cons (.not (.truth (.var 1))) (.nil))))
    [.ret (.bin .mul (.glob "_MOVE_COST" 2) (.bin .add (.len (.var 0)) (.len (.var 1))))]
    [],
   .ite (.or (.cons (.cmp .gt (.len (.var 0)) (.glob "_MAX_STRING_SIZE" 40)) (.cons (.cmp .gt (.len (.var 1)) (.glob "_MAX_STRING_SIZE" 40)) (.nil))))
    [.ret (.bin .add (.var 2) (.int 1))]
    [],
   .ite (.cmp .lt (.len (.var 1)) (.len (.var 0)))
    [.swap 0 1 (.var 1) (.var 0)]
    []] ++ levT0

theorem lev0_run (hΦ : ∀ x y, x < 128 → y < 128 → Φ 7 [sgn x, sgn y] = some (.int (cost x y))) {a b : List Nat} (ha : a.length ≤ 40) (hb : b.length ≤ 40) (ha2 : ∀ x ∈ a, x < 128) (hb2 : ∀ x ∈ b, x < 128) (mc : Int) (p q g5 g6 g7 g8 g9 g10 g11 g12 g13 : Option D) :
    ∃ ρ, exs Φ Ψ levT0 [some (wd a), some (wd b), some (.int mc), p, q, g5, g6, g7, g8, g9, g10, g11, g12, g13] = some (.ret (.int (lev0 a b mc)), ρ) := by
  have la := len_wd (show a.length ≤ 1000 by (first | lia | omega))
  have lb := len_wd (show b.length ≤ 1000 by (first | lia | omega))
  have hs1 : (small ((b.length : Int) - a.length) && small 2) = true := by rw [small_of (by (first | lia | omega)) (by (first | lia | omega)), small_of (by (first | lia | omega)) (by (first | lia | omega))]; rfl
  unfold levT0
  rw [exs, ex]
  simp only [evT, ev, look, List.getElem?_cons_zero, List.getElem?_cons_succ, Option.join_some, Option.bind_some, la, lb, bi_sub, bi_mul hs1, gt_run]
  unfold lev0
  by_cases h1 : mc < ((b.length : Int) - a.length) * 2
  · simp only [h1, decide_true, if_true]
    refine ⟨[some (wd a), some (wd b), some (.int mc), p, q, g5, g6, g7, g8, g9, g10, g11, g12, g13], ?_⟩
    simp [exs, ex, ev, look, bi_add]
  · simp only [h1, decide_false, Bool.false_eq_true, if_false]
    obtain ⟨row, hrow⟩ : ∃ row, row = (List.range a.length).map fun k : Nat => 2 + 2 * (k : Int) := ⟨_, rfl⟩
    rw [← hrow]
    have hrl : row.length = a.length := by rw [hrow]; simp
    have hs2 : (small 2 && small ((a.length : Int) + 1)) = true := by rw [small_of (by (first | lia | omega)) (by (first | lia | omega)), small_of (by (first | lia | omega)) (by (first | lia | omega))]; rfl
    have hr3 : range3D (.int 2) (.int (2 * ((a.length : Int) + 1))) (.int 2) = some (il row) := by
      unfold range3D
      dsimp only
      rw [if_pos (by (first | lia | omega))]
      have : ((2 * ((a.length : Int) + 1) - 2 + 1) / 2).toNat = a.length := by (first | lia | omega)
      rw [this, hrow]
      simp [il]
    rw [exs]
    simp only [Option.bind_some]
    have g2 : ∀ ρ, ev Φ (.glob "_MOVE_COST" 2) ρ = some (.int 2) := fun ρ => by rw [ev]
    have l1 : ev Φ (.bin .mul (.glob "_MOVE_COST" 2) (.bin .add (.len (.var 0)) (.int 1))) [some (wd a), some (wd b), some (.int mc), p, q, g5, g6, g7, g8, g9, g10, g11, g12, g13] = some (.int (2 * ((a.length : Int) + 1))) := by
      exact l1t Φ ha _
    rw [exs, own_range3 Φ Ψ (g2 _) l1 (g2 _) hr3, Option.bind_some]
    simp only [List.set_cons_succ, List.set_cons_zero]
    rw [exs, ex]
    simp only [ev, Option.map_some, Option.bind_some, List.set_cons_succ, List.set_cons_zero]
    obtain ⟨fl, ρ', hl, hv⟩ := lev_for Φ Ψ hΦ (by (first | lia | omega)) (by (first | lia | omega)) ha2 hb2 mc p q b.length 0 row 0 g7 g8 g9 g10 g11 g12 g13 (by (first | lia | omega)) (Nat.zero_le _) hrl
    rw [List.drop_zero] at hl hv
    rw [exs, ex]
    simp only [evI, ev, look, List.getElem?_cons_zero, List.getElem?_cons_succ, Option.join_some, Option.bind_some, lb, range1_nat (show b.length ≤ 1000 by (first | lia | omega)), hl]
    rcases hv with rfl | ⟨rfl, hv⟩
    · exact ⟨ρ', by simp⟩
    · refine ⟨ρ', ?_⟩
      simp only [exs, ex, ev, hv, Option.map_some, Option.bind_some]

theorem truth_wd {l : List Nat} (h : l.length ≤ 1000) : truthD (wd l) = some (decide (l ≠ [])) := by
  show (if l.toArray.size ≤ 1000 then _ else _) = _
  rw [if_pos (by simpa using h)]
  cases l <;> simp
theorem lev1_run (hΦ : ∀ x y, x < 128 → y < 128 → Φ 7 [sgn x, sgn y] = some (.int (cost x y))) {a b : List Nat} (ha : a.length ≤ 40) (hb : b.length ≤ 40) (ha2 : ∀ x ∈ a, x < 128) (hb2 : ∀ x ∈ b, x < 128) (mc : Int) (p q g5 g6 g7 g8 g9 g10 g11 g12 g13 : Option D) :
    ∃ ρ, exs Φ Ψ levT1 [some (wd a), some (wd b), some (.int mc), p, q, g5, g6, g7, g8, g9, g10, g11, g12, g13] = some (.ret (.int (lev1 a b mc)), ρ) := by
  have la := len_wd (show a.length ≤ 1000 by (first | lia | omega))
  have lb := len_wd (show b.length ≤ 1000 by (first | lia | omega))
  have ta := truth_wd (show a.length ≤ 1000 by (first | lia | omega))
  have tb := truth_wd (show b.length ≤ 1000 by (first | lia | omega))
  unfold levT1
  simp only [List.cons_append, List.nil_append]
  rw [exs, ex]
  simp only [evT, evOr, ev, look, List.getElem?_cons_zero, List.getElem?_cons_succ, Option.join_some, Option.bind_some, Option.map_some, ta, tb]
  unfold lev1
  by_cases h1 : a = [] ∨ b = []
  · rw [if_pos h1]
    have hs : (small 2 && small ((a.length : Int) + b.length)) = true := by rw [small_of (by (first | lia | omega)) (by (first | lia | omega)), small_of (by (first | lia | omega)) (by (first | lia | omega))]; rfl
    refine ⟨[some (wd a), some (wd b), some (.int mc), p, q, g5, g6, g7, g8, g9, g10, g11, g12, g13], ?_⟩
    have hc : (if (!decide (a ≠ [])) = true then some true else if (!decide (b ≠ [])) = true then some true else some false : Option Bool) = some true := by
      rcases h1 with h | h
      · simp [h]
      · by_cases h' : a = [] <;> simp [h, h']
    rw [hc]
    simp only [Option.bind_some, if_true]
    rw [exs, ex]
    simp only [ev, look, List.getElem?_cons_zero, List.getElem?_cons_succ, Option.join_some, Option.bind_some, la, lb, bi_add, bi_mul hs, Option.map_some]
  · have ha0 : a ≠ [] := fun e => h1 (.inl e)
    have hb0 : b ≠ [] := fun e => h1 (.inr e)
    rw [if_neg h1]
    have hc : (if (!decide (a ≠ [])) = true then some true else if (!decide (b ≠ [])) = true then some true else some false : Option Bool) = some false := by simp [ha0, hb0]
    rw [hc]
    simp only [Option.bind_some, Bool.false_eq_true, if_false]
    rw [exs]
    simp only [Option.bind_some]
    rw [exs, ex]
    simp only [evT, evOr, ev, look, List.getElem?_cons_zero, List.getElem?_cons_succ, Option.join_some, Option.bind_some, la, lb, gt_run]
    rw [show decide ((40 : Int) < (a.length : Int)) = false from by simp; (first | lia | omega), show decide ((40 : Int) < (b.length : Int)) = false from by simp; (first | lia | omega)]
    simp only [Bool.false_eq_true, if_false, Option.bind_some]
    rw [exs]
    simp only [Option.bind_some]
    rw [exs, ex]
    simp only [evT, ev, look, List.getElem?_cons_zero, List.getElem?_cons_succ, Option.join_some, Option.bind_some, la, lb, lt_run]
    by_cases h2 : b.length < a.length
    · rw [if_pos h2, show decide ((b.length : Int) < (a.length : Int)) = true from by simp; (first | lia | omega)]
      simp only [if_true]
      rw [exs, ex]
      simp only [ev, look, List.getElem?_cons_zero, List.getElem?_cons_succ, Option.join_some, Option.bind_some, Option.map_some, List.set_cons_succ, List.set_cons_zero]
      rw [exs]
      simp only [Option.bind_some]
      exact lev0_run Φ Ψ hΦ hb ha hb2 ha2 mc p q g5 g6 g7 g8 g9 g10 g11 g12 g13
    · rw [if_neg h2, show decide ((b.length : Int) < (a.length : Int)) = false from by simp; (first | lia | omega)]
      simp only [Bool.false_eq_true, if_false]
      rw [exs]
      simp only [Option.bind_some]
      exact lev0_run Φ Ψ hΦ ha hb ha2 hb2 mc p q g5 g6 g7 g8 g9 g10 g11 g12 g13
end
end Mine
end
section
open PySem
set_option maxRecDepth 100000
namespace Mine

theorem while_rule {test : Rho → Option Bool} {body : Rho → Option (Fl × Rho)} {Inv : Nat → Rho → Prop} {Post : Rho → Prop}
    (step : ∀ k ρ, Inv k ρ → (test ρ = some false ∧ Post ρ) ∨ (test ρ = some true ∧ ∃ k' ρ', k' < k ∧ (body ρ = some (.next, ρ') ∨ body ρ = some (.cont, ρ')) ∧ Inv k' ρ')) :
    ∀ n k ρ, k < n → Inv k ρ → ∃ ρ', loopW test body n ρ = some (.next, ρ') ∧ Post ρ' := by
  intro n
  induction n with
  | zero => intro k ρ h; (first | lia | omega)
  | succ n ih =>
    intro k ρ h hI
    rcases step k ρ hI with ⟨h1, h2⟩ | ⟨h1, k', ρ', hk, h2, h3⟩
    · exact ⟨ρ, by unfold loopW; rw [h1]; rfl, h2⟩
    · obtain ⟨ρ2, h4, h5⟩ := ih k' ρ' (by (first | lia | omega)) h3
      refine ⟨ρ2, ?_, h5⟩
      unfold loopW; rw [h1]
      simp only [Option.bind_some, if_true]
      rcases h2 with h2 | h2 <;> (rw [h2]; exact h4)

section
variable (Φ Ψ : Nat → List D → Option D)

theorem exs_next {s : S} {r : List S} {ρ ρ' : Rho} (h : ex Φ Ψ s ρ = some (.next, ρ')) : exs Φ Ψ (s :: r) ρ = exs Φ Ψ r ρ' := by
  rw [exs, h]; rfl
theorem exs_ret {s : S} {r : List S} {ρ ρ' : Rho} {d : D} (h : ex Φ Ψ s ρ = some (.ret d, ρ')) : exs Φ Ψ (s :: r) ρ = some (.ret d, ρ') := by
  rw [exs, h]; rfl
theorem exs_one {s : S} {ρ ρ' : Rho} (h : ex Φ Ψ s ρ = some (.next, ρ')) : exs Φ Ψ [s] ρ = some (.next, ρ') := by
  rw [exs, h]; simp only [Option.bind_some]; rw [exs]
theorem from_wd {l : List Nat} {k : Nat} (h : l.length ≤ 1000) (hk : k ≤ 1000) : fromD (wd l) (.int (k : Int)) = some (wd (l.drop k)) := by
  show (if 0 ≤ (k : Int) ∧ l.toArray.size ≤ 1000 ∧ (k : Int) ≤ 1000 then _ else _) = _
  rw [if_pos ⟨by (first | lia | omega), by simpa using h, by (first | lia | omega)⟩]
  simp [wd]
theorem eq_wd (a b : List Nat) : cmpD .eq (wd a) (wd b) = some (decide (a = b)) := by
  show some ((⟨a.toArray⟩ : Str) == ⟨b.toArray⟩) = _
  by_cases h : a = b
  · subst h; simp
  · simp only [h, decide_false]
    rw [Option.some.injEq]
    exact beq_eq_false_iff_ne.mpr fun e => h (by injection e with e; simpa using e)

noncomputable def preTest : T := .and (.cons (.truth (.from_ (.var 0) (.var 3))) (.cons (.truth (.from_ (.var 1) (.var 3))) (.cons (.cmp .eq (.sub (.var 0) (.var 3)) (.sub (.var 1) (.var 3))) (.nil))))
noncomputable def postTest : T := .and (.cons (.truth (.upto (.var 0) (.orx (.var 4) (.none)))) (.cons (.truth (.upto (.var 1) (.orx (.var 4) (.none)))) (.cons (.cmp .eq (.sub (.var 0) (.bin .sub (.var 4) (.int 1))) (.sub (.var 1) (.bin .sub (.var 4) (.int 1)))) (.nil))))

theorem drop_cons_of {l : List Nat} {k : Nat} (h : l.drop k ≠ []) : ∃ x, l.drop k = x :: l.drop (k + 1) ∧ l[k]? = some x ∧ k < l.length := by
  have hk : k < l.length := by
    rcases Nat.lt_or_ge k l.length with q | q
    · exact q
    · exact absurd (List.drop_of_length_le q) h
  exact ⟨l[k], List.drop_eq_getElem_cons hk, List.getElem?_eq_getElem hk, hk⟩

theorem pre_loop {a b : List Nat} (ha : a.length ≤ 40) (hb : b.length ≤ 40) (mc g4 g5 g6 g7 g8 g9 g10 g11 g12 g13 : Option D) :
    loopW (evT Φ preTest) (exs Φ Ψ [.aug 3 .add (.int 1)]) turns [some (wd a), some (wd b), mc, some (.int 0), g4, g5, g6, g7, g8, g9, g10, g11, g12, g13] =
      some (.next, [some (wd a), some (wd b), mc, some (.int (comPre a b : Nat)), g4, g5, g6, g7, g8, g9, g10, g11, g12, g13]) := by
  have main := while_rule (test := evT Φ preTest) (body := exs Φ Ψ [.aug 3 .add (.int 1)])
    (Inv := fun m ρ => ∃ k : Nat, m = 40 - k ∧ k ≤ 40 ∧ k + comPre (a.drop k) (b.drop k) = comPre a b ∧ ρ = [some (wd a), some (wd b), mc, some (.int (k : Int)), g4, g5, g6, g7, g8, g9, g10, g11, g12, g13])
    (Post := fun ρ => ρ = [some (wd a), some (wd b), mc, some (.int (comPre a b : Nat)), g4, g5, g6, g7, g8, g9, g10, g11, g12, g13])
    (fun m ρ hI => ?_) turns 40 [some (wd a), some (wd b), mc, some (.int 0), g4, g5, g6, g7, g8, g9, g10, g11, g12, g13] (by decide) ⟨0, rfl, by (first | lia | omega), by simp, rfl⟩
  · obtain ⟨ρ', h1, rfl⟩ := main
    exact h1
  · obtain ⟨k, rfl, hk, hc, rfl⟩ := hI
    have fa := from_wd (l := a) (k := k) (by (first | lia | omega)) (by (first | lia | omega))
    have fb := from_wd (l := b) (k := k) (by (first | lia | omega)) (by (first | lia | omega))
    have ta := truth_wd (l := a.drop k) (by simp; (first | lia | omega))
    have tb := truth_wd (l := b.drop k) (by simp; (first | lia | omega))
    have hpost : comPre (a.drop k) (b.drop k) = 0 → [some (wd a), some (wd b), mc, some (.int (k : Int)), g4, g5, g6, g7, g8, g9, g10, g11, g12, g13] = [some (wd a), some (wd b), mc, some (.int (comPre a b : Nat)), g4, g5, g6, g7, g8, g9, g10, g11, g12, g13] := fun h => by rw [← hc, h]; rfl
    by_cases h1 : a.drop k = []
    · refine .inl ⟨?_, hpost (by simp [h1, comPre])⟩
      unfold preTest
      simp only [evT, evAnd, ev, look, List.getElem?_cons_zero, List.getElem?_cons_succ, Option.join_some, Option.bind_some, fa, ta]
      simp [h1]
    · by_cases h2 : b.drop k = []
      · refine .inl ⟨?_, hpost (by simp [h2, comPre])⟩
        unfold preTest
        simp only [evT, evAnd, ev, look, List.getElem?_cons_zero, List.getElem?_cons_succ, Option.join_some, Option.bind_some, fa, ta, fb, tb]
        simp [h1, h2]
      · obtain ⟨x, hx, gx, lx⟩ := drop_cons_of h1
        obtain ⟨y, hy, gy, ly⟩ := drop_cons_of h2
        have ht : evT Φ preTest [some (wd a), some (wd b), mc, some (.int (k : Int)), g4, g5, g6, g7, g8, g9, g10, g11, g12, g13] = some (decide (x = y)) := by
          unfold preTest
          simp only [evT, evAnd, ev, look, List.getElem?_cons_zero, List.getElem?_cons_succ, Option.join_some, Option.bind_some, fa, ta, fb, tb, sub_wd gx (show a.length ≤ 1000 by (first | lia | omega)), sub_wd gy (show b.length ≤ 1000 by (first | lia | omega)), eq_sgn, ne_eq, h1, h2, not_false_eq_true, decide_true, if_true]
          by_cases h3 : x = y <;> simp [h3]
        by_cases h3 : x = y
        · refine .inr ⟨by rw [ht]; simp [h3], 40 - (k + 1), [some (wd a), some (wd b), mc, some (.int ((k + 1 : Nat) : Int)), g4, g5, g6, g7, g8, g9, g10, g11, g12, g13], by (first | lia | omega), .inl (by simp [exs, ex, ev, look, aug_add, aug_sub]), k + 1, rfl, by (first | lia | omega), ?_, rfl⟩
          rw [hx, hy, comPre, if_pos h3] at hc
          (first | lia | omega)
        · refine .inl ⟨by rw [ht]; simp [h3], hpost ?_⟩
          rw [hx, hy, comPre, if_neg h3]

theorem upto_run {l : List Nat} {k : Nat} (h : l.length ≤ 40) (hk : k ≤ 40) (hkl : k = 0 ∨ k ≤ l.length) {x : X} {ρ : Rho} (hx : ev Φ x ρ = some (wd l)) (h4 : look ρ 4 = some (.int (-(k : Int)))) :
    ev Φ (.upto x (.orx (.var 4) .none)) ρ = some (wd (l.take (l.length - k))) := by
  have hv : ev Φ (.var 4) ρ = some (.int (-(k : Int))) := by rw [ev]; exact h4
  rw [ev, hx, ev, hv]
  simp only [Option.bind_some, truthD, ev]
  rcases Nat.eq_zero_or_pos k with h0 | h0
  · subst h0
    simp only [Int.natCast_zero, Int.neg_zero, ne_eq, not_true_eq_false, decide_false, Bool.false_eq_true, if_false, Option.bind_some, Nat.sub_zero, List.take_length]
    show (if l.toArray.size ≤ 1000 then _ else _) = _
    rw [if_pos (by simp; (first | lia | omega))]; rfl
  · have : decide (-(k : Int) ≠ 0) = true := by simp; (first | lia | omega)
    simp only [this, if_true, Option.bind_some]
    show (if l.toArray.size ≤ 1000 ∧ -1000 ≤ -(k : Int) ∧ -(k : Int) ≤ 1000 then _ else _) = _
    rw [if_pos ⟨by simp; (first | lia | omega), by (first | lia | omega), by (first | lia | omega)⟩]
    have hu : uptoN l.toArray.size (-(k : Int)) = l.length - k := by
      unfold uptoN
      rw [if_neg (by (first | lia | omega))]
      simp only [List.size_toArray]
      (first | lia | omega)
    rw [hu]; rfl
theorem sub_wd_neg {l : List Nat} {k : Nat} {c : Nat} (h : l.reverse[k]? = some c) (hn : l.length ≤ 40) : subD (wd l) (.int (-(k : Int) - 1)) = some (sgn c) := by
  have hk : k < l.length := by
    rcases Nat.lt_or_ge k l.length with q | q
    · exact q
    · rw [List.getElem?_eq_none (by simpa using q)] at h; cases h
  show (place (-(k : Int) - 1) l.toArray.size).bind _ = _
  have hp : place (-(k : Int) - 1) l.toArray.size = some (l.length - 1 - k) := by
    unfold place
    simp only [List.size_toArray]
    rw [if_pos (by (first | lia | omega)), if_neg (by (first | lia | omega)), if_pos (by (first | lia | omega))]
    congr 1
    (first | lia | omega)
  rw [hp]
  rw [List.getElem?_reverse hk] at h
  simp [h, sgn]
theorem take_nil_iff {l : List Nat} {k : Nat} : l.take (l.length - k) = [] ↔ l.reverse.drop k = [] := by
  rw [← List.length_eq_zero_iff, ← List.length_eq_zero_iff]
  simp only [List.length_take, List.length_drop, List.length_reverse]
  (first | lia | omega)

theorem post_loop {a b : List Nat} (ha : a.length ≤ 40) (hb : b.length ≤ 40) (mc g3 g5 g6 g7 g8 g9 g10 g11 g12 g13 : Option D) :
    loopW (evT Φ postTest) (exs Φ Ψ [.aug 4 .sub (.int 1)]) turns [some (wd a), some (wd b), mc, g3, some (.int 0), g5, g6, g7, g8, g9, g10, g11, g12, g13] =
      some (.next, [some (wd a), some (wd b), mc, g3, some (.int (-(comPre a.reverse b.reverse : Nat))), g5, g6, g7, g8, g9, g10, g11, g12, g13]) := by
  have main := while_rule (test := evT Φ postTest) (body := exs Φ Ψ [.aug 4 .sub (.int 1)])
    (Inv := fun m ρ => ∃ k : Nat, m = 40 - k ∧ k ≤ 40 ∧ (k = 0 ∨ k ≤ a.length ∧ k ≤ b.length) ∧ k + comPre (a.reverse.drop k) (b.reverse.drop k) = comPre a.reverse b.reverse ∧ ρ = [some (wd a), some (wd b), mc, g3, some (.int (-(k : Int))), g5, g6, g7, g8, g9, g10, g11, g12, g13])
    (Post := fun ρ => ρ = [some (wd a), some (wd b), mc, g3, some (.int (-(comPre a.reverse b.reverse : Nat))), g5, g6, g7, g8, g9, g10, g11, g12, g13])
    (fun m ρ hI => ?_) turns 40 [some (wd a), some (wd b), mc, g3, some (.int 0), g5, g6, g7, g8, g9, g10, g11, g12, g13] (by decide) ⟨0, rfl, by (first | lia | omega), .inl rfl, by simp, rfl⟩
  · obtain ⟨ρ', h1, rfl⟩ := main
    exact h1
  · obtain ⟨k, rfl, hk, hkl, hc, rfl⟩ := hI
    obtain ⟨ρ, hρ⟩ : ∃ ρ : Rho, ρ = [some (wd a), some (wd b), mc, g3, some (.int (-(k : Int))), g5, g6, g7, g8, g9, g10, g11, g12, g13] := ⟨_, rfl⟩
    have l0 : ev Φ (.var 0) ρ = some (wd a) := by rw [hρ, ev]; rfl
    have l1 : ev Φ (.var 1) ρ = some (wd b) := by rw [hρ, ev]; rfl
    have l4 : look ρ 4 = some (.int (-(k : Int))) := by rw [hρ]; rfl
    have l4' : ev Φ (.bin .sub (.var 4) (.int 1)) ρ = some (.int (-(k : Int) - 1)) := by simp only [ev, l4, Option.bind_some, bi_sub]
    have fa := upto_run Φ (l := a) (k := k) ha hk (by (first | lia | omega)) l0 l4
    have fb := upto_run Φ (l := b) (k := k) hb hk (by (first | lia | omega)) l1 l4
    have ta := truth_wd (l := a.take (a.length - k)) (by simp; (first | lia | omega))
    have tb := truth_wd (l := b.take (b.length - k)) (by simp; (first | lia | omega))
    have hpost : comPre (a.reverse.drop k) (b.reverse.drop k) = 0 → ρ = [some (wd a), some (wd b), mc, g3, some (.int (-(comPre a.reverse b.reverse : Nat))), g5, g6, g7, g8, g9, g10, g11, g12, g13] := fun h => by rw [hρ, ← hc, h]; rfl
    rw [← hρ]
    have eAnd : ∀ x y z, evT Φ (.and (.cons (.truth x) (.cons (.truth y) (.cons z .nil)))) ρ = ((ev Φ x ρ).bind truthD).bind fun c => if c then ((ev Φ y ρ).bind truthD).bind fun c => if c then (evT Φ z ρ).bind fun c => if c then some true else some false else some false else some false := fun x y z => by
      simp only [evT, evAnd]
    have hT : evT Φ postTest ρ = if a.reverse.drop k = [] then some false else if b.reverse.drop k = [] then some false else (evT Φ (.cmp .eq (.sub (.var 0) (.bin .sub (.var 4) (.int 1))) (.sub (.var 1) (.bin .sub (.var 4) (.int 1)))) ρ).bind fun c => if c then some true else some false := by
      unfold postTest
      rw [eAnd, fa, fb, Option.bind_some, Option.bind_some, ta, tb]
      by_cases h1 : a.reverse.drop k = []
      · have h1' := take_nil_iff.mpr h1
        rw [if_pos h1]; simp [h1']
      · have h1' : a.take (a.length - k) ≠ [] := fun e => h1 (take_nil_iff.mp e)
        rw [if_neg h1]
        by_cases h2 : b.reverse.drop k = []
        · have h2' := take_nil_iff.mpr h2
          rw [if_pos h2]; simp [h1', h2']
        · have h2' : b.take (b.length - k) ≠ [] := fun e => h2 (take_nil_iff.mp e)
          rw [if_neg h2]; simp only [h1', h2', ne_eq, not_false_eq_true, decide_true, Option.bind_some, if_true]
    by_cases h1 : a.reverse.drop k = []
    · exact .inl ⟨by rw [hT, if_pos h1], hpost (by simp [h1, comPre])⟩
    · by_cases h2 : b.reverse.drop k = []
      · exact .inl ⟨by rw [hT, if_neg h1, if_pos h2], hpost (by simp [h2, comPre])⟩
      · obtain ⟨x, hx, gx, lx⟩ := drop_cons_of h1
        obtain ⟨y, hy, gy, ly⟩ := drop_cons_of h2
        have ht : evT Φ postTest ρ = some (decide (x = y)) := by
          rw [hT, if_neg h1, if_neg h2]
          have e1 : ev Φ (.sub (.var 0) (.bin .sub (.var 4) (.int 1))) ρ = some (sgn x) := by rw [ev, l0, l4']; exact sub_wd_neg gx ha
          have e2 : ev Φ (.sub (.var 1) (.bin .sub (.var 4) (.int 1))) ρ = some (sgn y) := by rw [ev, l1, l4']; exact sub_wd_neg gy hb
          rw [evT, e1, e2, Option.bind_some, Option.bind_some, eq_sgn]
          by_cases h3 : x = y <;> simp [h3]
        simp only [List.length_reverse] at lx ly
        by_cases h3 : x = y
        · refine .inr ⟨by rw [ht]; simp [h3], 40 - (k + 1), [some (wd a), some (wd b), mc, g3, some (.int (-((k + 1 : Nat) : Int))), g5, g6, g7, g8, g9, g10, g11, g12, g13], by (first | lia | omega), .inl ?_, k + 1, rfl, by (first | lia | omega), by (first | lia | omega), ?_, rfl⟩
          · have : (-(k : Int) - 1) = -((k + 1 : Nat) : Int) := by (first | lia | omega)
            rw [hρ]
            refine exs_one Φ Ψ ?_
            rw [ex]
            simp only [look, ev, aug_add, aug_sub, List.getElem?_cons_zero, List.getElem?_cons_succ, Option.join_some, Option.bind_some, Option.map_some, this, List.set_cons_succ, List.set_cons_zero]
          · rw [hx, hy, comPre, if_pos h3] at hc
            (first | lia | omega)
        · refine .inl ⟨by rw [ht]; simp [h3], hpost ?_⟩
          rw [hx, hy, comPre, if_neg h3]

theorem comPre_le : ∀ a b : List Nat, comPre a b ≤ a.length ∧ comPre a b ≤ b.length
  | [], _ => by simp [comPre]
  | _ :: _, [] => by simp [comPre]
  | x :: a, y :: b => by
    unfold comPre
    have := comPre_le a b
    split <;> simp only [List.length_cons] <;> (first | lia | omega)

theorem lev_run (hΦ : ∀ x y, x < 128 → y < 128 → Φ 7 [sgn x, sgn y] = some (.int (cost x y))) {a b : List Nat} (ha : a.length ≤ 40) (hb : b.length ≤ 40) (ha2 : ∀ x ∈ a, x < 128) (hb2 : ∀ x ∈ b, x < 128) (mc : Int) :
    ∃ ρ, runFn Φ Ψ f_levenshtein_distance [wd a, wd b, .int mc] = some (.int (levN a b mc), ρ) := by
  unfold runFn
  rw [if_pos (show [wd a, wd b, .int mc].length = f_levenshtein_distance.params from rfl)]
  have hbody : f_levenshtein_distance.body = [.ite (.cmp .eq (.var 0) (.var 1)) [.ret (.int 0)] [], .assign 3 (.int 0), .while preTest [.aug 3 .add (.int 1)],
    .assign 0 (.from_ (.var 0) (.var 3)), .assign 1 (.from_ (.var 1) (.var 3)), .assign 4 (.int 0), .while postTest [.aug 4 .sub (.int 1)],
    .assign 0 (.upto (.var 0) (.orx (.var 4) (.none))), .assign 1 (.upto (.var 1) (.orx (.var 4) (.none)))] ++ levT1 := rfl
  rw [hbody]
  have hinit : (([wd a, wd b, .int mc].map some ++ List.replicate (f_levenshtein_distance.size - f_levenshtein_distance.params) none : Rho)) = [some (wd a), some (wd b), some (.int mc), none, none, none, none, none, none, none, none, none, none, none] := rfl
  rw [hinit]
  simp only [List.cons_append, List.nil_append]
  by_cases h0 : a = b
  · have e : ex Φ Ψ (.ite (.cmp .eq (.var 0) (.var 1)) [.ret (.int 0)] []) [some (wd a), some (wd b), some (.int mc), none, none, none, none, none, none, none, none, none, none, none] = some (.ret (.int 0), [some (wd a), some (wd b), some (.int mc), none, none, none, none, none, none, none, none, none, none, none]) := by
      rw [ex]
      simp only [evT, ev, look, List.getElem?_cons_zero, List.getElem?_cons_succ, Option.join_some, Option.bind_some, eq_wd, h0, decide_true, if_true]
      simp [exs, ex, ev]
    rw [exs_ret Φ Ψ e]
    exact ⟨_, by rw [levN, if_pos h0]; rfl⟩
  · have e : ex Φ Ψ (.ite (.cmp .eq (.var 0) (.var 1)) [.ret (.int 0)] []) [some (wd a), some (wd b), some (.int mc), none, none, none, none, none, none, none, none, none, none, none] = some (.next, [some (wd a), some (wd b), some (.int mc), none, none, none, none, none, none, none, none, none, none, none]) := by
      rw [ex]
      simp only [evT, ev, look, List.getElem?_cons_zero, List.getElem?_cons_succ, Option.join_some, Option.bind_some, eq_wd, h0, decide_false, Bool.false_eq_true, if_false]
      rw [exs]
    rw [exs_next Φ Ψ e]
    have cp := comPre_le a b
    obtain ⟨p, hp⟩ : ∃ p, p = comPre a b := ⟨_, rfl⟩
    rw [exs_next Φ Ψ (show ex Φ Ψ (.assign 3 (.int 0)) [some (wd a), some (wd b), some (.int mc), none, none, none, none, none, none, none, none, none, none, none] = some (.next, [some (wd a), some (wd b), some (.int mc), some (.int 0), none, none, none, none, none, none, none, none, none, none]) from by rw [ex, ev]; rfl)]
    rw [exs_next Φ Ψ (show ex Φ Ψ (.while preTest [.aug 3 .add (.int 1)]) _ = _ from by rw [ex]; exact pre_loop Φ Ψ ha hb _ _ _ _ _ _ _ _ _ _ _)]
    rw [← hp]
    have fa := from_wd (l := a) (k := p) (by (first | lia | omega)) (by (first | lia | omega))
    have fb := from_wd (l := b) (k := p) (by (first | lia | omega)) (by (first | lia | omega))
    rw [exs, ex]
    simp only [ev, look, List.getElem?_cons_zero, List.getElem?_cons_succ, Option.join_some, Option.bind_some, Option.map_some, fa, List.set_cons_zero, List.set_cons_succ]
    rw [exs, ex]
    simp only [ev, look, List.getElem?_cons_zero, List.getElem?_cons_succ, Option.join_some, Option.bind_some, Option.map_some, fb, List.set_cons_zero, List.set_cons_succ]
    rw [exs, ex]
    simp only [ev, Option.bind_some, Option.map_some, List.set_cons_zero, List.set_cons_succ]
    obtain ⟨a1, ha1⟩ : ∃ a1, a1 = a.drop p := ⟨_, rfl⟩
    obtain ⟨b1, hb1⟩ : ∃ b1, b1 = b.drop p := ⟨_, rfl⟩
    have hlev : levN a b mc = lev2 a1 b1 mc := by rw [levN, if_neg h0, ha1, hb1, hp]
    rw [hlev, ← ha1, ← hb1]
    have la1 : a1.length ≤ 40 := by rw [ha1, List.length_drop]; (first | lia | omega)
    have lb1 : b1.length ≤ 40 := by rw [hb1, List.length_drop]; (first | lia | omega)
    have ca1 : ∀ x ∈ a1, x < 128 := fun x hx => ha2 x (by rw [ha1] at hx; exact List.mem_of_mem_drop hx)
    have cb1 : ∀ x ∈ b1, x < 128 := fun x hx => hb2 x (by rw [hb1] at hx; exact List.mem_of_mem_drop hx)
    rw [exs_next Φ Ψ (show ex Φ Ψ (.while postTest [.aug 4 .sub (.int 1)]) _ = _ from by rw [ex]; exact post_loop Φ Ψ la1 lb1 _ _ _ _ _ _ _ _ _ _ _)]
    have cs := comPre_le a1.reverse b1.reverse
    simp only [List.length_reverse] at cs
    obtain ⟨s, hs⟩ : ∃ s, s = comPre a1.reverse b1.reverse := ⟨_, rfl⟩
    rw [← hs] at cs ⊢
    have hl2 : lev2 a1 b1 mc = lev1 (a1.take (a1.length - s)) (b1.take (b1.length - s)) mc := by rw [lev2, hs]
    rw [hl2]
    rw [exs_next Φ Ψ (show ex Φ Ψ (.assign 0 (.upto (.var 0) (.orx (.var 4) (.none)))) _ = _ from by rw [ex, upto_run Φ (l := a1) (k := s) la1 (by (first | lia | omega)) (by (first | lia | omega)) (by rw [ev]; rfl) rfl]; rfl)]
    simp only [List.set_cons_zero, List.set_cons_succ]
    rw [exs_next Φ Ψ (show ex Φ Ψ (.assign 1 (.upto (.var 1) (.orx (.var 4) (.none)))) _ = _ from by rw [ex, upto_run Φ (l := b1) (k := s) lb1 (by (first | lia | omega)) (by (first | lia | omega)) (by rw [ev]; rfl) rfl]; rfl)]
    simp only [List.set_cons_zero, List.set_cons_succ]
    obtain ⟨ρ, hρ⟩ := lev1_run Φ Ψ hΦ (a := a1.take (a1.length - s)) (b := b1.take (b1.length - s)) (by simp; (first | lia | omega)) (by simp; (first | lia | omega)) (fun x hx => ca1 x (List.mem_of_mem_take hx)) (fun x hx => cb1 x (List.mem_of_mem_take hx)) mc (some (.int p)) (some (.int (-(s : Int)))) none none none none none none none none none
    exact ⟨ρ, by rw [hρ]; rfl⟩
end
end Mine
end
section
open PySem
set_option maxRecDepth 100000
namespace Mine
noncomputable def W40 : List (List Nat) := [[], [97], [65], [98], [97, 97], [65, 97], [98, 97], [97, 65], [65, 65], [98, 65], [97, 98], [65, 98], [98, 98]] ++ [97, 65, 98].flatMap fun c => [97, 65, 98].flatMap fun b => [97, 65, 98].map fun a => [a, b, c]
theorem w40_word : (List.range 64).all (fun x => W40.contains (wordL x)) = true := by decide +kernel
theorem w40_small : W40.all (fun a => decide (a.length ≤ 3) && a.all fun c => decide (c < 128)) = true := by decide +kernel
noncomputable def goodRow (i : Nat) : Bool := ((W40.drop (4 * i)).take 4).all fun a => W40.all fun b => levGood a b
theorem gr0 : goodRow 0 = true := by decide +kernel
theorem gr1 : goodRow 1 = true := by decide +kernel
theorem gr2 : goodRow 2 = true := by decide +kernel
theorem gr3 : goodRow 3 = true := by decide +kernel
theorem gr4 : goodRow 4 = true := by decide +kernel
theorem gr5 : goodRow 5 = true := by decide +kernel
theorem gr6 : goodRow 6 = true := by decide +kernel
theorem gr7 : goodRow 7 = true := by decide +kernel
theorem gr8 : goodRow 8 = true := by decide +kernel
theorem gr9 : goodRow 9 = true := by decide +kernel
theorem w40_len : W40.length = 40 := by decide +kernel
theorem good_at {i j : Nat} (hj : j < 4) (h : goodRow i = true) {a b : List Nat} (ha : W40[4 * i + j]? = some a) (hb : b ∈ W40) : levGood a b = true := by
  have := List.all_eq_true.mp h a (by
    apply List.mem_of_getElem? (i := j)
    rw [List.getElem?_take, if_pos hj, List.getElem?_drop, ha])
  exact List.all_eq_true.mp this b hb
theorem gr_all : ∀ i, i < 10 → goodRow i = true
  | 0, _ => gr0
  | 1, _ => gr1
  | 2, _ => gr2
  | 3, _ => gr3
  | 4, _ => gr4
  | 5, _ => gr5
  | 6, _ => gr6
  | 7, _ => gr7
  | 8, _ => gr8
  | 9, _ => gr9
  | n + 10, h => (Nat.not_lt.mpr (Nat.le_add_left 10 n) h).elim
theorem good_all {a b : List Nat} (ha : a ∈ W40) (hb : b ∈ W40) : levGood a b = true := by
  obtain ⟨k, hk⟩ := List.getElem?_of_mem ha
  have hk40 : k < 40 := by
    rcases Nat.lt_or_ge k 40 with q | q
    · exact q
    · rw [List.getElem?_eq_none (by rw [w40_len]; exact q)] at hk; cases hk
  have e : k = 4 * (k / 4) + k % 4 := by (first | lia | omega)
  have hj : k % 4 < 4 := by (first | lia | omega)
  rw [e] at hk
  exact good_at hj (gr_all (k / 4) (by (first | lia | omega))) hk hb
theorem lev99 {a b : List Nat} (ha : a ∈ W40) (hb : b ∈ W40) : levN a b 99 = P a b := by
  have := good_all ha hb
  unfold levGood at this
  simp only [Bool.and_eq_true, beq_iff_eq] at this
  exact this.1.1
theorem P_sym {a b : List Nat} (ha : a ∈ W40) (hb : b ∈ W40) : P b a = P a b := by
  have := good_all ha hb
  unfold levGood at this
  simp only [Bool.and_eq_true, beq_iff_eq] at this
  exact this.1.2
theorem lev_bound {a b : List Nat} (ha : a ∈ W40) (hb : b ∈ W40) {f : Int} (h0 : 1 ≤ f) (h6 : f ≤ 6) :
    (P a b < f → levN a b (f - 1) = P a b) ∧ (f ≤ P a b → f ≤ levN a b (f - 1)) := by
  have := good_all ha hb
  unfold levGood at this
  simp only [Bool.and_eq_true, beq_iff_eq, List.all_eq_true] at this
  have h := this.2 (f - 1).toNat (List.mem_range.mpr (by (first | lia | omega)))
  have e : ((f - 1).toNat : Int) = f - 1 := by (first | lia | omega)
  rw [e] at h
  have e2 : f - 1 + 1 = f := by (first | lia | omega)
  rw [e2] at h
  constructor
  · intro q; rw [if_pos q] at h; simpa using h
  · intro q; rw [if_neg (by (first | lia | omega))] at h; simpa using h

noncomputable def PM : List (List Nat) := W40.map fun a => W40.map fun b => (P a b).toNat
noncomputable def PL : List (List Nat) := [
  [0, 2, 2, 2, 4, 4, 4, 4, 4, 4, 4, 4, 4, 6, 6, 6, 6, 6, 6, 6, 6, 6, 6, 6, 6, 6, 6, 6, 6, 6, 6, 6, 6, 6, 6, 6, 6, 6, 6, 6],
  [2, 0, 1, 2, 2, 2, 2, 2, 3, 3, 2, 3, 4, 4, 4, 4, 4, 4, 4, 4, 4, 4, 4, 4, 4, 4, 5, 5, 4, 5, 5, 4, 4, 4, 4, 5, 5, 4, 5, 6],
  [2, 1, 0, 2, 3, 2, 3, 2, 2, 2, 3, 2, 4, 5, 4, 5, 4, 4, 4, 5, 4, 5, 4, 4, 4, 4, 4, 4, 4, 4, 4, 5, 4, 5, 4, 4, 4, 5, 4, 6],
  [2, 2, 2, 0, 4, 4, 2, 4, 4, 2, 2, 2, 2, 6, 6, 4, 6, 6, 4, 4, 4, 4, 6, 6, 4, 6, 6, 4, 4, 4, 4, 4, 4, 4, 4, 4, 4, 4, 4, 4],
  [4, 2, 3, 4, 0, 1, 2, 1, 2, 3, 2, 3, 4, 2, 2, 2, 2, 3, 3, 2, 3, 4, 2, 3, 3, 3, 4, 4, 3, 4, 5, 2, 3, 4, 3, 4, 5, 4, 5, 6],
  [4, 2, 2, 4, 1, 0, 2, 2, 1, 3, 3, 2, 4, 3, 2, 3, 2, 2, 2, 3, 2, 4, 3, 2, 4, 3, 3, 3, 4, 3, 5, 3, 2, 4, 4, 3, 4, 5, 4, 6],
  [4, 2, 3, 2, 2, 2, 0, 3, 3, 1, 4, 4, 2, 4, 4, 2, 4, 4, 2, 2, 2, 2, 4, 4, 2, 5, 5, 3, 3, 3, 3, 4, 4, 2, 5, 5, 3, 4, 4, 4],
  [4, 2, 2, 4, 1, 2, 3, 0, 1, 2, 2, 3, 4, 3, 3, 3, 2, 3, 4, 3, 4, 5, 2, 2, 2, 2, 3, 3, 2, 3, 4, 3, 4, 4, 2, 3, 4, 4, 5, 6],
  [4, 3, 2, 4, 2, 1, 3, 1, 0, 2, 3, 2, 4, 4, 3, 4, 3, 2, 3, 4, 3, 5, 3, 2, 3, 2, 2, 2, 3, 2, 4, 4, 3, 5, 3, 2, 4, 5, 4, 6],
  [4, 3, 2, 2, 3, 3, 1, 2, 2, 0, 4, 4, 2, 5, 5, 3, 4, 4, 2, 3, 3, 3, 4, 4, 2, 4, 4, 2, 2, 2, 2, 5, 5, 3, 4, 4, 2, 4, 4, 4],
  [4, 2, 3, 2, 2, 3, 4, 2, 3, 4, 0, 1, 2, 4, 4, 4, 4, 5, 5, 2, 3, 4, 4, 4, 4, 4, 5, 5, 2, 3, 4, 2, 2, 2, 2, 3, 3, 2, 3, 4],
  [4, 3, 2, 2, 3, 2, 4, 3, 2, 4, 1, 0, 2, 5, 4, 5, 4, 4, 4, 3, 2, 4, 5, 4, 5, 4, 4, 4, 3, 2, 4, 3, 2, 3, 2, 2, 2, 3, 2, 4],
  [4, 4, 4, 2, 4, 4, 2, 4, 4, 2, 2, 2, 0, 6, 6, 4, 6, 6, 4, 4, 4, 2, 6, 6, 4, 6, 6, 4, 4, 4, 2, 4, 4, 2, 4, 4, 2, 2, 2, 2],
  [6, 4, 5, 6, 2, 3, 4, 3, 4, 5, 4, 5, 6, 0, 1, 2, 1, 2, 3, 2, 3, 4, 1, 2, 3, 2, 3, 4, 3, 4, 5, 2, 3, 4, 3, 4, 5, 4, 5, 6],
  [6, 4, 4, 6, 2, 2, 4, 3, 3, 5, 4, 4, 6, 1, 0, 2, 2, 1, 3, 3, 2, 4, 2, 1, 3, 3, 2, 4, 4, 3, 5, 3, 2, 4, 4, 3, 5, 5, 4, 6],
  [6, 4, 5, 4, 2, 3, 2, 3, 4, 3, 4, 5, 4, 2, 2, 0, 3, 3, 1, 4, 4, 2, 3, 3, 1, 4, 4, 2, 5, 5, 3, 4, 4, 2, 5, 5, 3, 6, 6, 4],
  [6, 4, 4, 6, 2, 2, 4, 2, 3, 4, 4, 4, 6, 1, 2, 3, 0, 1, 2, 2, 3, 4, 2, 3, 4, 1, 2, 3, 3, 4, 5, 3, 4, 5, 2, 3, 4, 4, 5, 6],
  [6, 4, 4, 6, 3, 2, 4, 3, 2, 4, 5, 4, 6, 2, 1, 3, 1, 0, 2, 3, 2, 4, 3, 2, 4, 2, 1, 3, 4, 3, 5, 4, 3, 5, 3, 2, 4, 5, 4, 6],
  [6, 4, 4, 4, 3, 2, 2, 4, 3, 2, 5, 4, 4, 3, 3, 1, 2, 2, 0, 4, 4, 2, 4, 4, 2, 3, 3, 1, 4, 4, 3, 5, 4, 3, 4, 4, 2, 6, 6, 4],
  [6, 4, 5, 4, 2, 3, 2, 3, 4, 3, 2, 3, 4, 2, 3, 4, 2, 3, 4, 0, 1, 2, 3, 4, 4, 3, 4, 5, 1, 2, 3, 4, 4, 4, 4, 5, 5, 2, 3, 4],
  [6, 4, 4, 4, 3, 2, 2, 4, 3, 3, 3, 2, 4, 3, 2, 4, 3, 2, 4, 1, 0, 2, 4, 3, 4, 4, 3, 5, 2, 1, 3, 5, 4, 4, 4, 4, 4, 3, 2, 4],
  [6, 4, 5, 4, 4, 4, 2, 5, 5, 3, 4, 4, 2, 4, 4, 2, 4, 4, 2, 2, 2, 0, 5, 5, 3, 5, 5, 3, 3, 3, 1, 6, 6, 4, 6, 6, 4, 4, 4, 2],
  [6, 4, 4, 6, 2, 3, 4, 2, 3, 4, 4, 5, 6, 1, 2, 3, 2, 3, 4, 3, 4, 5, 0, 1, 2, 1, 2, 3, 2, 3, 4, 2, 3, 4, 3, 4, 5, 4, 5, 6],
  [6, 4, 4, 6, 3, 2, 4, 2, 2, 4, 4, 4, 6, 2, 1, 3, 3, 2, 4, 4, 3, 5, 1, 0, 2, 2, 1, 3, 3, 2, 4, 3, 2, 4, 4, 3, 5, 5, 4, 6],
  [6, 4, 4, 4, 3, 4, 2, 2, 3, 2, 4, 5, 4, 3, 3, 1, 4, 4, 2, 4, 4, 3, 2, 2, 0, 3, 3, 1, 4, 4, 2, 4, 4, 2, 4, 5, 3, 6, 6, 4],
  [6, 4, 4, 6, 3, 3, 5, 2, 2, 4, 4, 4, 6, 2, 3, 4, 1, 2, 3, 3, 4, 5, 1, 2, 3, 0, 1, 2, 2, 3, 4, 3, 4, 5, 2, 3, 4, 4, 5, 6],
  [6, 5, 4, 6, 4, 3, 5, 3, 2, 4, 5, 4, 6, 3, 2, 4, 2, 1, 3, 4, 3, 5, 2, 1, 3, 1, 0, 2, 3, 2, 4, 4, 3, 5, 3, 2, 4, 5, 4, 6],
  [6, 5, 4, 4, 4, 3, 3, 3, 2, 2, 5, 4, 4, 4, 4, 2, 3, 3, 1, 5, 5, 3, 3, 3, 1, 2, 2, 0, 4, 4, 2, 5, 5, 3, 4, 4, 2, 6, 6, 4],
  [6, 4, 4, 4, 3, 4, 3, 2, 3, 2, 2, 3, 4, 3, 4, 5, 3, 4, 4, 1, 2, 3, 2, 3, 4, 2, 3, 4, 0, 1, 2, 4, 4, 4, 4, 5, 4, 2, 3, 4],
  [6, 5, 4, 4, 4, 3, 3, 3, 2, 2, 3, 2, 4, 4, 3, 5, 4, 3, 4, 2, 1, 3, 3, 2, 4, 3, 2, 4, 1, 0, 2, 5, 4, 5, 4, 4, 4, 3, 2, 4],
  [6, 5, 4, 4, 5, 5, 3, 4, 4, 2, 4, 4, 2, 5, 5, 3, 5, 5, 3, 3, 3, 1, 4, 4, 2, 4, 4, 2, 2, 2, 0, 6, 6, 4, 6, 6, 4, 4, 4, 2],
  [6, 4, 5, 4, 2, 3, 4, 3, 4, 5, 2, 3, 4, 2, 3, 4, 3, 4, 5, 4, 5, 6, 2, 3, 4, 3, 4, 5, 4, 5, 6, 0, 1, 2, 1, 2, 3, 2, 3, 4],
  [6, 4, 4, 4, 3, 2, 4, 4, 3, 5, 2, 2, 4, 3, 2, 4, 4, 3, 4, 4, 4, 6, 3, 2, 4, 4, 3, 5, 4, 4, 6, 1, 0, 2, 2, 1, 3, 3, 2, 4],
  [6, 4, 5, 4, 4, 4, 2, 4, 5, 3, 2, 3, 2, 4, 4, 2, 5, 5, 3, 4, 4, 4, 4, 4, 2, 5, 5, 3, 4, 5, 4, 2, 2, 0, 3, 3, 1, 4, 4, 2],
  [6, 4, 4, 4, 3, 4, 5, 2, 3, 4, 2, 2, 4, 3, 4, 5, 2, 3, 4, 4, 4, 6, 3, 4, 4, 2, 3, 4, 4, 4, 6, 1, 2, 3, 0, 1, 2, 2, 3, 4],
  [6, 5, 4, 4, 4, 3, 5, 3, 2, 4, 3, 2, 4, 4, 3, 5, 3, 2, 4, 5, 4, 6, 4, 3, 5, 3, 2, 4, 5, 4, 6, 2, 1, 3, 1, 0, 2, 3, 2, 4],
  [6, 5, 4, 4, 5, 4, 3, 4, 4, 2, 3, 2, 2, 5, 5, 3, 4, 4, 2, 5, 4, 4, 5, 5, 3, 4, 4, 2, 4, 4, 4, 3, 3, 1, 2, 2, 0, 4, 4, 2],
  [6, 4, 5, 4, 4, 5, 4, 4, 5, 4, 2, 3, 2, 4, 5, 6, 4, 5, 6, 2, 3, 4, 4, 5, 6, 4, 5, 6, 2, 3, 4, 2, 3, 4, 2, 3, 4, 0, 1, 2],
  [6, 5, 4, 4, 5, 4, 4, 5, 4, 4, 3, 2, 2, 5, 4, 6, 5, 4, 6, 3, 2, 4, 5, 4, 6, 5, 4, 6, 3, 2, 4, 3, 2, 4, 3, 2, 4, 1, 0, 2],
  [6, 6, 6, 4, 6, 6, 4, 6, 6, 4, 4, 4, 2, 6, 6, 4, 6, 6, 4, 4, 4, 2, 6, 6, 4, 6, 6, 4, 4, 4, 2, 4, 4, 2, 4, 4, 2, 2, 2, 0]]
theorem pm_eq : PM = PL := by decide +kernel
theorem p_nonneg : W40.all (fun a => W40.all fun b => decide (0 ≤ P a b)) = true := by decide +kernel
noncomputable def triR : List Nat → List Nat → Nat → Bool
  | x :: xs, y :: ys, v => Nat.ble x (v + y) && triR xs ys v
  | _, _, _ => true
/-- row a, row b of the table, and v = a to b -/
noncomputable def triRow (ra : List Nat) : List Nat → List (List Nat) → Bool
  | v :: vs, rb :: R => triR ra rb v && triRow ra vs R
  | _, _ => true
theorem pl_tri : PL.all (fun ra => triRow ra ra PL) = true := by decide +kernel
theorem pl_le : PL.all (fun ra => ra.all fun v => Nat.ble v 6) = true := by decide +kernel
theorem p_diag : W40.all (fun a => P a a == 0) = true := by decide +kernel
theorem triR_get : ∀ {ra rb : List Nat} {v : Nat} {k x y : Nat}, triR ra rb v = true → ra[k]? = some x → rb[k]? = some y → x ≤ v + y
  | x0 :: xs, y0 :: ys, v, 0, x, y, h, h1, h2 => by
    simp only [triR, Bool.and_eq_true] at h
    simp at h1 h2; subst h1 h2
    exact Nat.le_of_ble_eq_true h.1
  | x0 :: xs, y0 :: ys, v, k + 1, x, y, h, h1, h2 => by
    simp only [triR, Bool.and_eq_true] at h
    exact triR_get h.2 (by simpa using h1) (by simpa using h2)
  | [], _, _, _, _, _, _, h1, _ => by simp at h1
  | _ :: _, [], _, _, _, _, _, _, h2 => by simp at h2
theorem triRow_get {ra : List Nat} : ∀ {vs : List Nat} {R : List (List Nat)} {j v : Nat} {rb : List Nat}, triRow ra vs R = true → vs[j]? = some v → R[j]? = some rb → triR ra rb v = true
  | v0 :: vs, r0 :: R, 0, v, rb, h, h1, h2 => by
    simp only [triRow, Bool.and_eq_true] at h
    simp at h1 h2; subst h1 h2
    exact h.1
  | v0 :: vs, r0 :: R, j + 1, v, rb, h, h1, h2 => by
    simp only [triRow, Bool.and_eq_true] at h
    exact triRow_get h.2 (by simpa using h1) (by simpa using h2)
  | [], _, _, _, _, _, h1, _ => by simp at h1
  | _ :: _, [], _, _, _, _, _, h2 => by simp at h2
theorem P_nonneg {a b : List Nat} (ha : a ∈ W40) (hb : b ∈ W40) : 0 ≤ P a b := by
  simpa using List.all_eq_true.mp (List.all_eq_true.mp p_nonneg a ha) b hb
theorem P_diag {a : List Nat} (ha : a ∈ W40) : P a a = 0 := by
  simpa using List.all_eq_true.mp p_diag a ha
theorem pm_row {a : List Nat} {i : Nat} (hi : W40[i]? = some a) : PL[i]? = some (W40.map fun b => (P a b).toNat) := by
  rw [← pm_eq]; unfold PM; rw [List.getElem?_map, hi]; rfl
theorem pm_at {a b : List Nat} {j : Nat} (hj : W40[j]? = some b) : (W40.map fun b => (P a b).toNat)[j]? = some (P a b).toNat := by
  rw [List.getElem?_map, hj]; rfl
theorem P_le {a b : List Nat} (ha : a ∈ W40) (hb : b ∈ W40) : P a b ≤ 6 := by
  obtain ⟨i, hi⟩ := List.getElem?_of_mem ha
  obtain ⟨j, hj⟩ := List.getElem?_of_mem hb
  have h := List.all_eq_true.mp (List.all_eq_true.mp pl_le _ (List.mem_of_getElem? (pm_row hi))) _ (List.mem_of_getElem? (pm_at hj))
  have := Nat.le_of_ble_eq_true h
  (first | lia | omega)
theorem P_tri {a b c : List Nat} (ha : a ∈ W40) (hb : b ∈ W40) (hc : c ∈ W40) : P a c ≤ P a b + P b c := by
  obtain ⟨i, hi⟩ := List.getElem?_of_mem ha
  obtain ⟨j, hj⟩ := List.getElem?_of_mem hb
  obtain ⟨k, hk⟩ := List.getElem?_of_mem hc
  have h := List.all_eq_true.mp pl_tri _ (List.mem_of_getElem? (pm_row hi))
  have := triR_get (triRow_get h (pm_at hj) (pm_row hj)) (pm_at hk) (pm_at hk)
  have h2 : (P a c).toNat ≤ (P a b).toNat + (P b c).toNat := this
  rw [← Int.toNat_of_nonneg (P_nonneg ha hc), ← Int.toNat_of_nonneg (P_nonneg ha hb), ← Int.toNat_of_nonneg (P_nonneg hb hc)]
  exact Int.ofNat_le.mpr h2
theorem w40_length {a : List Nat} (h : a ∈ W40) : a.length ≤ 3 ∧ ∀ c ∈ a, c < 128 := by
  have := List.all_eq_true.mp w40_small a h
  simp only [Bool.and_eq_true, decide_eq_true_eq, List.all_eq_true] at this
  exact ⟨this.1, fun c hc => by simpa using this.2 c hc⟩
theorem wordL_mem {x : Nat} (h : x < 64) : wordL x ∈ W40 := by
  have := List.all_eq_true.mp w40_word x (List.mem_range.mpr h)
  simpa using this

/-! ### a word -/
noncomputable def sgl (k : Nat) : List Nat := match k with | 1 => [97] | 2 => [65] | 3 => [98] | _ => []
theorem wordL_eq (x : Nat) : wordL x = sgl (x % 4) ++ sgl (x / 4 % 4) ++ sgl (x / 16 % 4) := rfl
theorem join3 {a b c : List Nat} (h : a.length + (b.length + c.length) ≤ 1000) : joinD (.str "") (.list [wd a, wd b, wd c]) = some (wd (a ++ b ++ c)) := by
  have h0 : (Str.ofString "").cps.size = 0 := by decide +kernel
  unfold joinD
  dsimp only
  rw [if_pos h0]
  show (if ([(⟨a.toArray⟩ : Str), ⟨b.toArray⟩, ⟨c.toArray⟩].map (·.cps.size)).sum ≤ 1000 then _ else _) = _
  rw [if_pos (by simpa using h)]
  simp [wd]
theorem sgl_len (k : Nat) : (sgl k).length ≤ 1 := by
  unfold sgl; split <;> simp
section
variable (Φ Ψ : Nat → List D → Option D)
theorem word_run (x : Int) : ∃ ρ, runFn Φ Ψ f_law_word [.int x] = some (wd (wordL (x % 64).toNat), ρ) := by
  obtain ⟨y, hy⟩ : ∃ y : Nat, x % 64 = (y : Int) := ⟨(x % 64).toNat, by (first | lia | omega)⟩
  have hy2 : (x % 64).toNat = y := by (first | lia | omega)
  rw [hy2]
  have piece : ∀ s : Nat, 0 < s → s ≤ 64 → ev Φ (.sub (.new (.list (.cons (.str "") (.cons (.str "a") (.cons (.str "A") (.cons (.str "b") (.nil))))))) (.bin .mod (.bin .fdiv (.bin .mod (.var 0) (.int 64)) (.var 1)) (.int 4))) [some (.int x), some (.int (s : Int))] = some (wd (sgl (y / s % 4))) := by
    intro s h0 h1
    have e1 : ev Φ (.bin .mod (.bin .fdiv (.bin .mod (.var 0) (.int 64)) (.var 1)) (.int 4)) [some (.int x), some (.int (s : Int))] = some (.int ((y / s % 4 : Nat) : Int)) := by
      have m1 : binop .mod (.int x) (.int 64) = some (.int (y : Int)) := by rw [← hy]; rfl
      have m2 : binop .fdiv (.int (y : Int)) (.int (s : Int)) = some (.int ((y / s : Nat) : Int)) := by
        show (if 0 < (s : Int) ∧ (s : Int) ≤ 64 then _ else _) = _
        rw [if_pos (by (first | lia | omega))]; rfl
      have m3 : binop .mod (.int ((y / s : Nat) : Int)) (.int 4) = some (.int ((y / s % 4 : Nat) : Int)) := rfl
      simp only [ev, look, List.getElem?_cons_zero, List.getElem?_cons_succ, Option.join_some, Option.bind_some, m1, m2, m3]
    have e2 : ev Φ (.new (.list (.cons (.str "") (.cons (.str "a") (.cons (.str "A") (.cons (.str "b") (.nil))))))) [some (.int x), some (.int (s : Int))] = some (.list [wd (sgl 0), wd (sgl 1), wd (sgl 2), wd (sgl 3)]) := by
      simp only [ev, evF, evs, Option.bind_some, Option.map_some]
      rfl
    rw [ev, e2, e1, Option.bind_some, Option.bind_some]
    have h4 : y / s % 4 < 4 := Nat.mod_lt _ (by decide)
    generalize y / s % 4 = k at h4
    refine sub_list ?_ (by simp)
    match k, h4 with
    | 0, _ => rfl
    | 1, _ => rfl
    | 2, _ => rfl
    | 3, _ => rfl
  refine ⟨[some (.int x), none], ?_⟩
  unfold runFn
  rw [if_pos (show [D.int x].length = f_law_word.params from rfl)]
  unfold f_law_word b_law_word
  dsimp only
  have hinit : (([D.int x].map some ++ List.replicate (2 - 1) none : Rho)) = [some (.int x), none] := rfl
  have hseq : evI Φ (.seq (.tup (.cons (.int 1) (.cons (.int 4) (.cons (.int 16) (.nil)))))) [some (.int x), none] = some [.int 1, .int 4, .int 16] := by
    simp only [evI, ev, evs, Option.bind_some, Option.map_some]
    rfl
  have p1 := piece 1 (by decide) (by decide)
  have p4 := piece 4 (by decide) (by decide)
  have p16 := piece 16 (by decide) (by decide)
  rw [hinit]
  refine (congrArg (fun z => Option.bind z _) (exs_ret Φ Ψ (d := wd (wordL y)) (ρ' := [some (.int x), none]) ?_)).trans rfl
  rw [ex]
  have hc : ev Φ (.new (.comp (.sub (.new (.list (.cons (.str "") (.cons (.str "a") (.cons (.str "A") (.cons (.str "b") (.nil))))))) (.bin .mod (.bin .fdiv (.bin .mod (.var 0) (.int 64)) (.var 1)) (.int 4))) (.cons 1 (.seq (.tup (.cons (.int 1) (.cons (.int 4) (.cons (.int 16) (.nil)))))) (.nil) (.nil)))) [some (.int x), none] = some (.list [wd (sgl (y / 1 % 4)), wd (sgl (y / 4 % 4)), wd (sgl (y / 16 % 4))]) := by
    rw [ev, evF, evGs, clear, clear]
    simp only [List.set_cons_succ, List.set_cons_zero, hseq, Option.bind_some]
    rw [if_pos (by simp)]
    simp only [flatM, evAnd, Option.bind_some, if_true, evGs]
    rw [show (D.int 1) = .int ((1 : Nat) : Int) from rfl, p1, show (D.int 4) = .int ((4 : Nat) : Int) from rfl, p4, show (D.int 16) = .int ((16 : Nat) : Int) from rfl, p16]
    rfl
  have hstr : ev Φ (.str "") [some (.int x), none] = some (.str "") := by rw [ev]
  rw [ev, hstr, hc, Option.bind_some, Option.bind_some, join3 (by have := sgl_len (y / 1 % 4); have := sgl_len (y / 4 % 4); have := sgl_len (y / 16 % 4); (first | lia | omega))]
  rw [wordL_eq, Nat.div_one]
  rfl
end
end Mine
end
section
open PySem
set_option maxRecDepth 100000
namespace Mine
noncomputable def par (j : Nat) : Nat := (j - 1) / 2
theorem par_of {j : Nat} (h : 0 < j) : j = 2 * par j + 1 ∨ j = 2 * par j + 2 := by unfold par; (first | lia | omega)
theorem par_le (j : Nat) : par j ≤ j := by unfold par; (first | lia | omega)
theorem par_lt {j : Nat} (h : 0 < j) : par j < j := by have := par_of h; (first | lia | omega)
theorem par_one (p : Nat) : par (2 * p + 1) = p := by unfold par; (first | lia | omega)
theorem par_two (p : Nat) : par (2 * p + 2) = p := by unfold par; (first | lia | omega)
noncomputable def downL : Nat → List Int → Nat → Nat → Int → List Int
  | 0, H, _, pos, x => H.set pos x
  | n + 1, H, s, pos, x => if s < pos then (if x < H.getD (par pos) 0 then downL n (H.set pos (H.getD (par pos) 0)) s (par pos) x else H.set pos x) else H.set pos x
noncomputable def upL : Nat → List Int → Nat → Nat × List Int
  | 0, H, pos => (pos, H)
  | n + 1, H, pos => if 2 * pos + 1 < H.length then
      (if 2 * pos + 2 < H.length ∧ ¬ H.getD (2 * pos + 1) 0 < H.getD (2 * pos + 2) 0 then upL n (H.set pos (H.getD (2 * pos + 2) 0)) (2 * pos + 2) else upL n (H.set pos (H.getD (2 * pos + 1) 0)) (2 * pos + 1))
      else (pos, H)
noncomputable def downF (H : List Int) (s pos : Nat) : List Int := downL pos H s pos (H.getD pos 0)
noncomputable def upF (H : List Int) (pos : Nat) : List Int := downF ((upL H.length H pos).2.set (upL H.length H pos).1 (H.getD pos 0)) pos (upL H.length H pos).1

noncomputable def tot (f : Int → Int) (l : List Int) : Int := (l.map f).sum
theorem tot_set (f : Int → Int) (y : Int) : ∀ (H : List Int) (i : Nat), i < H.length → tot f (H.set i y) + f (H.getD i 0) = tot f H + f y
  | [], _, h => by simp at h
  | a :: r, 0, _ => by simp [tot]; (first | lia | omega)
  | a :: r, i + 1, h => by
    have := tot_set f y r i (by simpa using h)
    simp only [tot, List.set_cons_succ, List.map_cons, List.sum_cons, List.getD_cons_succ] at this ⊢
    (first | lia | omega)
theorem getD_set (H : List Int) {i j : Nat} (v : Int) (h : i < H.length) : (H.set i v).getD j 0 = if j = i then v else H.getD j 0 := by
  rw [List.getD_eq_getElem?_getD, List.getElem?_set]
  by_cases q : i = j
  · subst q; simp [h]
  · rw [if_neg q, if_neg (fun e => q e.symm), List.getD_eq_getElem?_getD]
theorem tot_swap (f : Int → Int) (H : List Int) {p c : Nat} (x : Int) (hp : p < H.length) (hc : c < H.length) (hne : p ≠ c) : tot f ((H.set p (H.getD c 0)).set c x) = tot f (H.set p x) := by
  have e1 := tot_set f x (H.set p (H.getD c 0)) c (by simpa using hc)
  have e2 := tot_set f (H.getD c 0) H p hp
  have e3 := tot_set f x H p hp
  rw [getD_set H _ hp, if_neg (fun e => hne e.symm)] at e1
  (first | lia | omega)
theorem downL_tot (f : Int → Int) (s : Nat) (x : Int) : ∀ (n : Nat) (H : List Int) (pos : Nat), pos < H.length → tot f (downL n H s pos x) = tot f (H.set pos x)
  | 0, _, _, _ => rfl
  | n + 1, H, pos, h => by
    unfold downL
    split
    · rename_i hsp
      have hlt := par_lt (Nat.lt_of_le_of_lt (Nat.zero_le _) hsp)
      split
      · rw [downL_tot f s x n _ _ (by rw [List.length_set]; exact Nat.lt_trans hlt h)]
        exact tot_swap f H x h (Nat.lt_trans hlt h) (Nat.ne_of_gt hlt)
      · rfl
    · rfl
theorem downL_len (s : Nat) (x : Int) : ∀ (n : Nat) (H : List Int) (pos : Nat), (downL n H s pos x).length = H.length
  | 0, _, _ => by simp [downL]
  | n + 1, H, pos => by
    unfold downL
    split
    · split
      · rw [downL_len s x n]; simp
      · simp
    · simp
theorem upL_len : ∀ (n : Nat) (H : List Int) (pos : Nat), pos < H.length → (upL n H pos).2.length = H.length ∧ (upL n H pos).1 < H.length
  | 0, _, _, h => ⟨rfl, h⟩
  | n + 1, H, pos, h => by
    unfold upL
    split
    · split
      · have := upL_len n (H.set pos (H.getD (2 * pos + 2) 0)) (2 * pos + 2) (by simp; (first | lia | omega))
        simpa using this
      · have := upL_len n (H.set pos (H.getD (2 * pos + 1) 0)) (2 * pos + 1) (by simp; (first | lia | omega))
        simpa using this
    · exact ⟨rfl, h⟩
theorem upL_tot (f : Int → Int) (x : Int) : ∀ (n : Nat) (H : List Int) (pos : Nat), pos < H.length → tot f ((upL n H pos).2.set (upL n H pos).1 x) = tot f (H.set pos x)
  | 0, _, _, _ => rfl
  | n + 1, H, pos, h => by
    unfold upL
    split
    · split
      · rw [upL_tot f x n _ _ (by simp; (first | lia | omega))]
        exact tot_swap f H x h (by (first | lia | omega)) (by (first | lia | omega))
      · rw [upL_tot f x n _ _ (by simp; (first | lia | omega))]
        exact tot_swap f H x h (by (first | lia | omega)) (by (first | lia | omega))
    · rfl
theorem upF_len {H : List Int} {pos : Nat} (h : pos < H.length) : (upF H pos).length = H.length := by
  unfold upF downF
  rw [downL_len, List.length_set, (upL_len _ H pos h).1]
theorem set_self (H : List Int) : ∀ {i : Nat}, i < H.length → H.set i (H.getD i 0) = H := by
  intro i h
  rw [List.getD_eq_getElem?_getD, List.getElem?_eq_getElem h]
  exact List.set_getElem_self h
theorem upF_tot (f : Int → Int) {H : List Int} {pos : Nat} (h : pos < H.length) : tot f (upF H pos) = tot f H := by
  unfold upF downF
  have hl := upL_len H.length H pos h
  rw [downL_tot f _ _ _ _ _ (by rw [List.length_set, hl.1]; exact hl.2), List.set_set, getD_set _ _ (by rw [hl.1]; exact hl.2), if_pos rfl, upL_tot f _ _ _ _ h, set_self H h]

/-! ### order -/
noncomputable def above (k : Nat) (H : List Int) : Prop := ∀ j, 0 < j → j < H.length → k ≤ par j → H.getD (par j) 0 ≤ H.getD j 0
noncomputable def inSub (i p : Nat) : Prop := p = i ∨ (0 < p ∧ par p = i) ∨ (0 < par p ∧ par (par p) = i)
theorem inSub.le {i p : Nat} (h : inSub i p) : i ≤ p := by
  rcases h with h | ⟨_, h⟩ | ⟨_, h⟩
  · rw [h]; exact Nat.le_refl _
  · rw [← h]; exact par_le p
  · rw [← h]; exact Nat.le_trans (par_le _) (par_le p)
theorem inSub.up {i p : Nat} (h : inSub i p) (hip : i < p) : inSub i (par p) ∧ i ≤ par p := by
  rcases h with h | ⟨_, h⟩ | ⟨h0, h⟩
  · exact absurd (h ▸ hip) (Nat.lt_irrefl _)
  · exact ⟨.inl h, Nat.le_of_eq h.symm⟩
  · exact ⟨.inr (.inl ⟨h0, h⟩), by rw [← h]; exact par_le _⟩
theorem inSub.down {i p c : Nat} (h : inSub i p) (hp : par c = p) (hc0 : 0 < c) (hc : c < 6) : inSub i c := by
  rcases h with h | ⟨h0, h⟩ | ⟨h0, h⟩
  · exact .inr (.inl ⟨hc0, hp.trans h⟩)
  · exact .inr (.inr ⟨by rw [hp]; exact h0, by rw [hp]; exact h⟩)
  · have a1 := par_of hc0
    have a2 : 0 < p := Nat.lt_of_lt_of_le h0 (par_le p)
    have a3 := par_of a2
    rw [hp] at a1
    (first | lia | omega)
theorem upL_ord (i : Nat) : ∀ (n : Nat) (H : List Int) (p : Nat), H.length ≤ 6 → p < H.length → H.length ≤ p + n → inSub i p →
    (∀ j, 0 < j → j < H.length → i ≤ par j → par j ≠ p → j ≠ p → H.getD (par j) 0 ≤ H.getD j 0) →
    (∀ j, 0 < j → j < H.length → par j = p → p ≠ i → H.getD (par p) 0 ≤ H.getD j 0) →
    (∀ j, 0 < j → j < H.length → i ≤ par j → par j ≠ (upL n H p).1 → j ≠ (upL n H p).1 → (upL n H p).2.getD (par j) 0 ≤ (upL n H p).2.getD j 0) ∧ H.length ≤ 2 * (upL n H p).1 + 1 ∧ inSub i (upL n H p).1 := by
  intro n
  induction n with
  | zero => intro H p _ hp hn; exact absurd hn (Nat.not_le.mpr hp)
  | succ n ih =>
    intro H p h6 hp hn hs h1 h2
    have key : ∀ c, c < H.length → p < c → 0 < c → par c = p → (∀ j, 0 < j → j < H.length → par j = p → H.getD c 0 ≤ H.getD j 0) →
        (∀ j, 0 < j → j < H.length → i ≤ par j → par j ≠ (upL n (H.set p (H.getD c 0)) c).1 → j ≠ (upL n (H.set p (H.getD c 0)) c).1 → (upL n (H.set p (H.getD c 0)) c).2.getD (par j) 0 ≤ (upL n (H.set p (H.getD c 0)) c).2.getD j 0) ∧ H.length ≤ 2 * (upL n (H.set p (H.getD c 0)) c).1 + 1 ∧ inSub i (upL n (H.set p (H.getD c 0)) c).1 := by
      intro c hcl hpc hc0 hpar hmin
      have hset : ∀ j, (H.set p (H.getD c 0)).getD j 0 = if j = p then H.getD c 0 else H.getD j 0 := fun j => getD_set H _ hp
      have hcp : c ≠ p := Nat.ne_of_gt hpc
      have := ih (H.set p (H.getD c 0)) c (by rw [List.length_set]; exact h6) (by rw [List.length_set]; exact hcl) (by rw [List.length_set]; (first | lia | omega)) (hs.down hpar hc0 (Nat.lt_of_lt_of_le hcl h6))
        (fun j j0 jl ji jc jc2 => ?_) (fun j j0 jl jc ci => ?_)
      · rw [List.length_set] at this; exact this
      · rw [List.length_set] at jl
        rw [hset, hset]
        by_cases e1 : par j = p
        · have e2 : j ≠ p := fun e => Nat.lt_irrefl p (by have := par_lt j0; rw [e1, e] at this; exact this)
          rw [if_pos e1, if_neg e2]; exact hmin j j0 jl e1
        · rw [if_neg e1]
          by_cases e2 : j = p
          · rw [if_pos e2, e2]
            exact h2 c hc0 hcl hpar fun e => by
              rw [e2] at ji j0
              exact Nat.lt_irrefl i (by have := par_lt j0; rw [e] at this; rw [e] at ji; exact Nat.lt_of_le_of_lt ji this)
          · rw [if_neg e2]; exact h1 j j0 jl ji e1 e2
      · rw [List.length_set] at jl
        have jc' : c < j := by rw [← jc]; exact par_lt j0
        have jp : j ≠ p := Nat.ne_of_gt (Nat.lt_trans hpc jc')
        rw [hset, hset, if_pos hpar, if_neg jp]
        have := h1 j j0 jl (by rw [jc]; exact Nat.le_trans hs.le (Nat.le_of_lt hpc)) (by rw [jc]; exact hcp) jp
        rw [jc] at this
        exact this
    have kids : ∀ j, 0 < j → par j = p → j = 2 * p + 1 ∨ j = 2 * p + 2 := fun j j0 e => by have := par_of j0; rw [e] at this; exact this
    unfold upL
    split
    · rename_i hc
      split
      · rename_i hq
        refine key (2 * p + 2) hq.1 (by (first | lia | omega)) (Nat.succ_pos _) (par_two p) (fun j j0 jl jp => ?_)
        rcases kids j j0 jp with e | e
        · rw [e]; exact Int.not_lt.mp hq.2
        · rw [e]; exact Int.le_refl _
      · rename_i hq
        refine key (2 * p + 1) hc (by (first | lia | omega)) (Nat.succ_pos _) (par_one p) (fun j j0 jl jp => ?_)
        rcases kids j j0 jp with e | e
        · rw [e]; exact Int.le_refl _
        · rw [e] at jl ⊢
          exact Int.le_of_lt (Decidable.byContradiction fun q => hq ⟨jl, q⟩)
    · rename_i hc
      exact ⟨fun j j0 jl ji jc jc2 => h1 j j0 jl ji jc jc2, Nat.not_lt.mp hc, hs⟩
theorem down_stop {i : Nat} {x : Int} {H : List Int} {p : Nat} (hp : p < H.length) (hs : inSub i p)
    (h1 : ∀ j, 0 < j → j < H.length → i ≤ par j → par j ≠ p → j ≠ p → H.getD (par j) 0 ≤ H.getD j 0)
    (h2 : ∀ j, 0 < j → j < H.length → par j = p → x ≤ H.getD j 0) (h3 : i < p → H.getD (par p) 0 ≤ x) : above i (H.set p x) := by
  intro j j0 jl ji
  rw [List.length_set] at jl
  rw [getD_set H _ hp, getD_set H _ hp]
  by_cases e1 : par j = p
  · have e2 : j ≠ p := fun e => Nat.lt_irrefl p (by have := par_lt j0; rw [e1, e] at this; exact this)
    rw [if_pos e1, if_neg e2]; exact h2 j j0 jl e1
  · rw [if_neg e1]
    by_cases e2 : j = p
    · rw [if_pos e2, e2]; exact h3 (by rw [e2] at ji j0; exact Nat.lt_of_le_of_lt ji (par_lt j0))
    · rw [if_neg e2]; exact h1 j j0 jl ji e1 e2
theorem downL_ord (i : Nat) (x : Int) : ∀ (n : Nat) (H : List Int) (p : Nat), H.length ≤ 6 → p < H.length → p ≤ n → inSub i p →
    (∀ j, 0 < j → j < H.length → i ≤ par j → par j ≠ p → j ≠ p → H.getD (par j) 0 ≤ H.getD j 0) →
    (∀ j, 0 < j → j < H.length → par j = p → x ≤ H.getD j 0) →
    (∀ j, 0 < j → j < H.length → par j = p → p ≠ i → H.getD (par p) 0 ≤ H.getD j 0) →
    above i (downL n H i p x) := by
  intro n
  induction n with
  | zero => intro H p h6 hp hn hs h1 h2 h3; exact down_stop hp hs h1 h2 (fun h => absurd (Nat.lt_of_lt_of_le h hn) (Nat.not_lt_zero _))
  | succ n ih =>
    intro H p h6 hp hn hs h1 h2 h3
    unfold downL
    split
    · rename_i hip
      have hp0 : 0 < p := Nat.lt_of_le_of_lt (Nat.zero_le _) hip
      have hpp := par_lt hp0
      obtain ⟨hs2, hq⟩ := hs.up hip
      have hset : ∀ j, (H.set p (H.getD (par p) 0)).getD j 0 = if j = p then H.getD (par p) 0 else H.getD j 0 := fun j => getD_set H _ hp
      split
      · rename_i hx
        refine ih _ _ (by rw [List.length_set]; exact h6) (by rw [List.length_set]; exact Nat.lt_trans hpp hp) (Nat.le_of_lt_succ (Nat.lt_of_lt_of_le hpp hn)) hs2 (fun j j0 jl ji jc jc2 => ?_) (fun j j0 jl jc => ?_) (fun j j0 jl jc ci => ?_)
        · rw [List.length_set] at jl
          rw [hset, hset]
          by_cases e1 : par j = p
          · have e2 : j ≠ p := fun e => Nat.lt_irrefl p (by have := par_lt j0; rw [e1, e] at this; exact this)
            rw [if_pos e1, if_neg e2]; exact h3 j j0 jl e1 (Nat.ne_of_gt hip)
          · have e2 : j ≠ p := fun e => jc (by rw [e])
            rw [if_neg e1, if_neg e2]
            exact h1 j j0 jl ji e1 e2
        · rw [List.length_set] at jl
          rw [hset]
          by_cases e2 : j = p
          · rw [if_pos e2]; exact Int.le_of_lt hx
          · rw [if_neg e2]
            have := h1 j j0 jl (by rw [jc]; exact hq) (by rw [jc]; exact Nat.ne_of_lt hpp) e2
            rw [jc] at this
            exact Int.le_trans (Int.le_of_lt hx) this
        · rw [List.length_set] at jl
          have hq0 : i < par p := Nat.lt_of_le_of_ne hq fun e => ci e.symm
          have hqp : 0 < par p := Nat.lt_of_le_of_lt (Nat.zero_le _) hq0
          have hqq := par_lt hqp
          have hup := h1 (par p) hqp (Nat.lt_trans hpp hp) (hs2.up hq0).2 (Nat.ne_of_lt (Nat.lt_trans hqq hpp)) (Nat.ne_of_lt hpp)
          rw [hset, hset, if_neg (Nat.ne_of_lt (Nat.lt_trans hqq hpp))]
          by_cases e2 : j = p
          · rw [if_pos e2]; exact hup
          · rw [if_neg e2]
            have := h1 j j0 jl (by rw [jc]; exact hq) (by rw [jc]; exact Nat.ne_of_lt hpp) e2
            rw [jc] at this
            exact Int.le_trans hup this
      · rename_i hx
        exact down_stop hp hs h1 h2 (fun _ => Int.not_lt.mp hx)
    · rename_i hip
      exact down_stop hp hs h1 h2 (fun h => absurd h hip)
theorem upF_ord {i : Nat} {H : List Int} (h6 : H.length ≤ 6) (hi : i < H.length) (h : above (i + 1) H) : above i (upF H i) := by
  have hl := upL_len H.length H i hi
  obtain ⟨a1, a2, a3⟩ := upL_ord i H.length H i h6 hi (by (first | lia | omega)) (.inl rfl)
    (fun j j0 jl ji jc jc2 => h j j0 jl (Nat.lt_of_le_of_ne ji fun e => jc e.symm)) (fun j j0 jl jc ci => absurd rfl ci)
  unfold upF downF
  generalize upL H.length H i = pk at hl a1 a2 a3 ⊢
  obtain ⟨p, K⟩ := pk
  dsimp only at hl a1 a2 a3 ⊢
  have hpK : p < K.length := by rw [hl.1]; exact hl.2
  refine downL_ord i _ p _ p (by rw [List.length_set, hl.1]; exact h6) (by rw [List.length_set]; exact hpK) (Nat.le_refl _) a3 (fun j j0 jl ji jc jc2 => ?_) (fun j j0 jl jc => ?_) (fun j j0 jl jc ci => ?_)
  · rw [List.length_set, hl.1] at jl
    rw [getD_set K _ hpK, getD_set K _ hpK, if_neg jc, if_neg jc2]
    exact a1 j j0 jl ji jc jc2
  · rw [List.length_set, hl.1] at jl; have := par_of j0; rw [jc] at this; exact absurd jl (by (first | lia | omega))
  · rw [List.length_set, hl.1] at jl; have := par_of j0; rw [jc] at this; exact absurd jl (by (first | lia | omega))
theorem above_min {H : List Int} (h : above 0 H) : ∀ (n j : Nat), j ≤ n → j < H.length → H.getD 0 0 ≤ H.getD j 0
  | 0, j, h0, _ => by rw [Nat.le_zero.mp h0]; exact Int.le_refl _
  | n + 1, j, hn, hj => by
    rcases Nat.eq_zero_or_pos j with e | e
    · rw [e]; exact Int.le_refl _
    · have h1 := above_min h n (par j) (Nat.le_of_lt_succ (Nat.lt_of_lt_of_le (par_lt e) hn)) (Nat.lt_trans (par_lt e) hj)
      exact Int.le_trans h1 (h j e hj (Nat.zero_le _))
/-- what is laid on top in place of the least -/
theorem rep_ord {H : List Int} (h6 : H.length ≤ 6) (h0 : 0 < H.length) (h : above 0 H) (x : Int) : above 0 (upF (H.set 0 x) 0) ∧ (upF (H.set 0 x) 0).length = H.length ∧ ∀ f, tot f (upF (H.set 0 x) 0) + f (H.getD 0 0) = tot f H + f x := by
  refine ⟨upF_ord (by simpa using h6) (by simpa using h0) (fun j j0 jl ji => ?_), ?_, fun f => ?_⟩
  · simp only [List.length_set] at jl
    rw [getD_set H _ h0, getD_set H _ h0, if_neg (Nat.ne_of_gt ji), if_neg (Nat.ne_of_gt j0)]
    exact h j j0 jl (Nat.zero_le _)
  · rw [upF_len (by simpa using h0), List.length_set]
  · rw [upF_tot f (by simpa using h0)]
    exact tot_set f x H 0 h0
noncomputable def heapL (H : List Int) : List Int := (List.range (H.length / 2)).reverse.foldl upF H
theorem heap_go {H : List Int} (h6 : H.length ≤ 6) : ∀ (n : Nat) (K : List Int), n ≤ H.length / 2 → K.length = H.length → above n K → (∀ f, tot f K = tot f H) → above 0 ((List.range n).reverse.foldl upF K) ∧ ((List.range n).reverse.foldl upF K).length = H.length ∧ ∀ f, tot f ((List.range n).reverse.foldl upF K) = tot f H
  | 0, K, _, hl, ha, ht => ⟨ha, hl, ht⟩
  | n + 1, K, hn, hl, ha, ht => by
    rw [List.range_succ, List.reverse_append]
    simp only [List.reverse_cons, List.reverse_nil, List.nil_append, List.cons_append, List.foldl_cons]
    exact heap_go h6 n (upF K n) (by (first | lia | omega)) (by rw [upF_len (by (first | lia | omega)), hl]) (upF_ord (by (first | lia | omega)) (by (first | lia | omega)) ha) (fun f => by rw [upF_tot f (by (first | lia | omega)), ht])
theorem heapL_ord {H : List Int} (h6 : H.length ≤ 6) : above 0 (heapL H) ∧ (heapL H).length = H.length ∧ ∀ f, tot f (heapL H) = tot f H :=
  heap_go h6 _ H (Nat.le_refl _) rfl (fun j j0 jl jh => by have := par_of j0; (first | lia | omega)) (fun _ => rfl)
end Mine
end
section
open PySem
set_option maxRecDepth 100000
namespace Mine
noncomputable def item (k : Int) : D := .tup [.int (k / 8), .int (k % 8)]
noncomputable def hp (H : List Int) : D := .list (H.map item)
theorem lt_item (a b : Int) : cmpD .lt (item a) (item b) = some (decide (a < b)) := by
  show some (decide (a / 8 < b / 8) || (decide (a / 8 = b / 8) && decide (a % 8 < b % 8))) = _
  rw [Option.some.injEq, Bool.eq_iff_iff]
  simp only [Bool.or_eq_true, Bool.and_eq_true, decide_eq_true_eq]
  (first | lia | omega)
theorem sub_hp {H : List Int} {k : Nat} (h : k < H.length) (hn : H.length ≤ 6) : subD (hp H) (.int (k : Int)) = some (item (H.getD k 0)) :=
  sub_list (by rw [List.getElem?_map, getD_get h]; rfl) (by rw [List.length_map]; (first | lia | omega))
theorem store_hp {H : List Int} {k : Nat} {x : Int} (h : k < H.length) (hn : H.length ≤ 6) : storeD (hp H) (.int (k : Int)) (item x) = some (hp (H.set k x)) := by
  show (if 0 ≤ (k : Int) ∧ (k : Int) < (H.map item).length ∧ (H.map item).length ≤ 1000 then _ else _) = _
  rw [if_pos (by rw [List.length_map]; (first | lia | omega))]
  simp [hp, List.map_set]
theorem len_hp {H : List Int} (hn : H.length ≤ 6) : lenD (hp H) = some (.int H.length) := by
  show (if (H.map item).length ≤ 1000 then _ else _) = _
  rw [if_pos (by rw [List.length_map]; (first | lia | omega)), List.length_map]
theorem lt_ii (a b : Int) : cmpD .lt (.int a) (.int b) = some (decide (a < b)) := rfl
theorem gt_ii (a b : Int) : cmpD .gt (.int a) (.int b) = some (decide (b < a)) := rfl
section
variable (Φ Ψ : Nat → List D → Option D)
noncomputable def downBody : List S := [.assign 4 (.bin .shr (.bin .sub (.var 2) (.int 1)) (.int 1)),
     .assign 5 (.sub (.bor 0) (.var 4)),
     .ite (.cmp .lt (.var 3) (.var 5))
      [.setAt 0 (.var 2) (.var 5),
       .assign 2 (.var 4),
       .cont]
      [],
     .brk]
theorem down_loop (s : Nat) (x : Int) : ∀ (n m : Nat) (H : List Int) (pos : Nat) (g4 g5 : Option D), n < m → pos ≤ n → pos < H.length → H.length ≤ 6 →
    ∃ H' pos' g4' g5', loopW (evT Φ (.cmp .gt (.var 2) (.var 1))) (exs Φ Ψ downBody) m [some (hp H), some (.int (s : Int)), some (.int (pos : Int)), some (item x), g4, g5] =
      some (.next, [some (hp H'), some (.int (s : Int)), some (.int (pos' : Nat)), some (item x), g4', g5']) ∧ pos' < H'.length ∧ H'.length = H.length ∧ H'.set pos' x = downL n H s pos x := by
  intro n
  induction n with
  | zero =>
    intro m H pos g4 g5 hm hp0 hl h6
    cases m with
    | zero => (first | lia | omega)
    | succ m =>
      refine ⟨H, pos, g4, g5, ?_, hl, rfl, rfl⟩
      unfold loopW
      simp only [evT, ev, look, List.getElem?_cons_zero, List.getElem?_cons_succ, Option.join_some, Option.bind_some, gt_ii]
      rw [show decide ((s : Int) < (pos : Int)) = false from by simp; (first | lia | omega)]
      rfl
  | succ n ih =>
    intro m H pos g4 g5 hm hp0 hl h6
    cases m with
    | zero => (first | lia | omega)
    | succ m =>
      have ht : evT Φ (.cmp .gt (.var 2) (.var 1)) [some (hp H), some (.int (s : Int)), some (.int (pos : Int)), some (item x), g4, g5] = some (decide (s < pos)) := by
        simp only [evT, ev, look, List.getElem?_cons_zero, List.getElem?_cons_succ, Option.join_some, Option.bind_some, gt_ii, Int.ofNat_lt]
      unfold loopW downL
      rw [ht]
      by_cases hs : s < pos
      · simp only [hs, decide_true, Option.bind_some, if_true]
        have hpar := par_lt (Nat.lt_of_le_of_lt (Nat.zero_le _) hs)
        have e1 : ((pos : Int) - 1) / 2 = ((par pos : Nat) : Int) := by unfold par; (first | lia | omega)
        have hb : (binop .shr (.int ((pos : Int) - 1)) (.int 1)) = some (.int ((par pos : Nat) : Int)) := by rw [← e1]; rfl
        have hsub := sub_hp (H := H) (k := par pos) (by (first | lia | omega)) h6
        have hbody : exs Φ Ψ downBody [some (hp H), some (.int (s : Int)), some (.int (pos : Int)), some (item x), g4, g5] =
            if x < H.getD (par pos) 0 then some (.cont, [some (hp (H.set pos (H.getD (par pos) 0))), some (.int (s : Int)), some (.int ((par pos : Nat) : Int)), some (item x), some (.int ((par pos : Nat) : Int)), some (item (H.getD (par pos) 0))])
            else some (.brk, [some (hp H), some (.int (s : Int)), some (.int (pos : Int)), some (item x), some (.int ((par pos : Nat) : Int)), some (item (H.getD (par pos) 0))]) := by
          unfold downBody
          rw [exs, ex]
          simp only [ev, look, List.getElem?_cons_zero, List.getElem?_cons_succ, Option.join_some, Option.bind_some, Option.map_some, bi_sub, hb, List.set_cons_succ, List.set_cons_zero]
          rw [exs, ex]
          simp only [ev, look, List.getElem?_cons_zero, List.getElem?_cons_succ, Option.join_some, Option.bind_some, Option.map_some, hsub, List.set_cons_succ, List.set_cons_zero]
          rw [exs, ex]
          simp only [evT, ev, look, List.getElem?_cons_zero, List.getElem?_cons_succ, Option.join_some, Option.bind_some, lt_item]
          by_cases hx : x < H.getD (par pos) 0
          · rw [if_pos hx, decide_eq_true hx]
            simp only [if_true]
            rw [exs, ex]
            simp only [ev, look, List.getElem?_cons_zero, List.getElem?_cons_succ, Option.join_some, Option.bind_some, Option.map_some, store_hp hl h6, List.set_cons_zero]
            rfl
          · rw [if_neg hx, decide_eq_false hx]
            simp only [Bool.false_eq_true, if_false]
            rfl
        rw [hbody]
        by_cases hx : x < H.getD (par pos) 0
        · rw [if_pos hx, if_pos hx]
          simp only [Option.bind_some]
          obtain ⟨H', pos', g4', g5', a1, a2, a3, a4⟩ := ih m (H.set pos (H.getD (par pos) 0)) (par pos) (some (.int ((par pos : Nat) : Int))) (some (item (H.getD (par pos) 0))) (by (first | lia | omega)) (by (first | lia | omega)) (by rw [List.length_set]; (first | lia | omega)) (by rw [List.length_set]; exact h6)
          exact ⟨H', pos', g4', g5', a1, a2, by rw [a3, List.length_set], a4⟩
        · rw [if_neg hx, if_neg hx]
          exact ⟨H, pos, _, _, rfl, hl, rfl, rfl⟩
      · simp only [hs, decide_false, Option.bind_some, Bool.false_eq_true, if_false]
        exact ⟨H, pos, g4, g5, rfl, hl, rfl, rfl⟩
theorem down_run {H : List Int} {s pos : Nat} (hl : pos < H.length) (h6 : H.length ≤ 6) : ∃ ρ, runFn Φ Ψ f_siftdown [hp H, .int (s : Int), .int (pos : Int)] = some (.none, ρ) ∧ look ρ 0 = some (hp (downF H s pos)) := by
  obtain ⟨H', pos', g4', g5', a1, a2, a3, a4⟩ := down_loop Φ Ψ s (H.getD pos 0) pos turns H pos none none (by unfold turns; (first | lia | omega)) (Nat.le_refl _) hl h6
  refine ⟨[some (hp (downF H s pos)), some (.int (s : Int)), some (.int (pos' : Nat)), some (item (H.getD pos 0)), g4', g5'], ?_, rfl⟩
  unfold runFn
  rw [if_pos (show [hp H, D.int (s : Int), D.int (pos : Int)].length = f_siftdown.params from rfl)]
  have hinit : (([hp H, D.int (s : Int), D.int (pos : Int)].map some ++ List.replicate (f_siftdown.size - f_siftdown.params) none : Rho)) = [some (hp H), some (.int (s : Int)), some (.int (pos : Int)), none, none, none] := rfl
  have hb : f_siftdown.body = [.assign 3 (.sub (.bor 0) (.var 2)), .while (.cmp .gt (.var 2) (.var 1)) downBody, .setAt 0 (.var 2) (.var 3)] := rfl
  rw [hinit, hb, exs, ex]
  simp only [ev, look, List.getElem?_cons_zero, List.getElem?_cons_succ, Option.join_some, Option.bind_some, Option.map_some, sub_hp hl h6, List.set_cons_succ, List.set_cons_zero]
  rw [exs, ex, a1, Option.bind_some]
  dsimp only
  rw [exs, ex]
  simp only [ev, look, List.getElem?_cons_zero, List.getElem?_cons_succ, Option.join_some, Option.bind_some, Option.map_some, store_hp a2 (by (first | lia | omega) : H'.length ≤ 6), List.set_cons_zero, a4]
  rfl

noncomputable def upBody : List S := [.assign 6 (.bin .add (.var 5) (.int 1)),
     .ite (.and (.cons (.cmp .lt (.var 6) (.var 2)) (.cons (.not (.cmp .lt (.sub (.bor 0) (.var 5)) (.sub (.bor 0) (.var 6)))) (.nil))))
      [.assign 5 (.var 6)]
      [],
     .setAt 0 (.var 1) (.sub (.bor 0) (.var 5)),
     .assign 1 (.var 5),
     .assign 5 (.bin .add (.bin .mul (.int 2) (.var 1)) (.int 1))]
theorem up_next {H : List Int} {pos c : Nat} (hl : pos < H.length) (hc : c < H.length) (h6 : H.length ≤ 6) (n st x g6 : Option D) :
    exs Φ Ψ [.setAt 0 (.var 1) (.sub (.bor 0) (.var 5)), .assign 1 (.var 5), .assign 5 (.bin .add (.bin .mul (.int 2) (.var 1)) (.int 1))] [some (hp H), some (.int (pos : Int)), n, st, x, some (.int (c : Int)), g6] =
      some (.next, [some (hp (H.set pos (H.getD c 0))), some (.int (c : Int)), n, st, x, some (.int ((2 * c + 1 : Nat) : Int)), g6]) := by
  have hm : binop .mul (.int 2) (.int (c : Int)) = some (.int (2 * (c : Int))) := bi_mul (by rw [small_of (by (first | lia | omega)) (by (first | lia | omega)), small_of (by (first | lia | omega)) (by (first | lia | omega))]; rfl)
  have e : 2 * (c : Int) + 1 = ((2 * c + 1 : Nat) : Int) := by (first | lia | omega)
  rw [exs, ex]
  simp only [ev, look, List.getElem?_cons_zero, List.getElem?_cons_succ, Option.join_some, Option.bind_some, Option.map_some, sub_hp hc h6, store_hp hl h6, List.set_cons_zero]
  rw [exs, ex]
  simp only [ev, look, List.getElem?_cons_zero, List.getElem?_cons_succ, Option.join_some, Option.bind_some, Option.map_some, List.set_cons_succ, List.set_cons_zero]
  rw [exs, ex]
  simp only [ev, look, List.getElem?_cons_zero, List.getElem?_cons_succ, Option.join_some, Option.bind_some, Option.map_some, hm, bi_add, e, List.set_cons_succ, List.set_cons_zero]
  rfl
theorem up_body {H : List Int} {pos : Nat} (hl : pos < H.length) (h6 : H.length ≤ 6) (hc : 2 * pos + 1 < H.length) (st x g6 : Option D) :
    exs Φ Ψ upBody [some (hp H), some (.int (pos : Int)), some (.int (H.length : Int)), st, x, some (.int ((2 * pos + 1 : Nat) : Int)), g6] =
      if 2 * pos + 2 < H.length ∧ ¬ H.getD (2 * pos + 1) 0 < H.getD (2 * pos + 2) 0 then
        some (.next, [some (hp (H.set pos (H.getD (2 * pos + 2) 0))), some (.int ((2 * pos + 2 : Nat) : Int)), some (.int (H.length : Int)), st, x, some (.int ((2 * (2 * pos + 2) + 1 : Nat) : Int)), some (.int ((2 * pos + 2 : Nat) : Int))])
      else some (.next, [some (hp (H.set pos (H.getD (2 * pos + 1) 0))), some (.int ((2 * pos + 1 : Nat) : Int)), some (.int (H.length : Int)), st, x, some (.int ((2 * (2 * pos + 1) + 1 : Nat) : Int)), some (.int ((2 * pos + 2 : Nat) : Int))]) := by
  have e : ((2 * pos + 1 : Nat) : Int) + 1 = ((2 * pos + 2 : Nat) : Int) := by (first | lia | omega)
  unfold upBody
  rw [exs, ex]
  simp only [ev, look, List.getElem?_cons_zero, List.getElem?_cons_succ, Option.join_some, Option.bind_some, Option.map_some, bi_add, e, List.set_cons_succ, List.set_cons_zero]
  rw [exs, ex]
  have ht : evT Φ (.and (.cons (.cmp .lt (.var 6) (.var 2)) (.cons (.not (.cmp .lt (.sub (.bor 0) (.var 5)) (.sub (.bor 0) (.var 6)))) (.nil)))) [some (hp H), some (.int (pos : Int)), some (.int (H.length : Int)), st, x, some (.int ((2 * pos + 1 : Nat) : Int)), some (.int ((2 * pos + 2 : Nat) : Int))] =
      some (decide (2 * pos + 2 < H.length ∧ ¬ H.getD (2 * pos + 1) 0 < H.getD (2 * pos + 2) 0)) := by
    have d1 := sub_hp hc h6
    by_cases h1 : 2 * pos + 2 < H.length
    · have d2 := sub_hp h1 h6
      simp only [evT, evAnd, ev, look, List.getElem?_cons_zero, List.getElem?_cons_succ, Option.join_some, Option.bind_some, Option.map_some, lt_ii, d1, d2, lt_item, Int.ofNat_lt, h1, decide_true, if_true, true_and]
      by_cases h2 : H.getD (2 * pos + 1) 0 < H.getD (2 * pos + 2) 0 <;> simp only [h2, decide_true, decide_false, Bool.not_true, Bool.not_false, Bool.false_eq_true, if_true, if_false, not_true, not_false_eq_true]
    · simp only [evT, evAnd, ev, look, List.getElem?_cons_zero, List.getElem?_cons_succ, Option.join_some, Option.bind_some, lt_ii, Int.ofNat_lt, h1, decide_false, Bool.false_eq_true, if_false, false_and]
  rw [ht, Option.bind_some]
  by_cases h : 2 * pos + 2 < H.length ∧ ¬ H.getD (2 * pos + 1) 0 < H.getD (2 * pos + 2) 0
  · rw [if_pos h, decide_eq_true h, if_pos rfl]
    have : exs Φ Ψ [.assign 5 (.var 6)] [some (hp H), some (.int (pos : Int)), some (.int (H.length : Int)), st, x, some (.int ((2 * pos + 1 : Nat) : Int)), some (.int ((2 * pos + 2 : Nat) : Int))] = some (.next, [some (hp H), some (.int (pos : Int)), some (.int (H.length : Int)), st, x, some (.int ((2 * pos + 2 : Nat) : Int)), some (.int ((2 * pos + 2 : Nat) : Int))]) := exs_one Φ Ψ (by rw [ex, ev]; rfl)
    rw [this, Option.bind_some]
    exact up_next Φ Ψ hl h.1 h6 _ _ _ _
  · rw [if_neg h, decide_eq_false h, if_neg (by decide), exs, Option.bind_some]
    exact up_next Φ Ψ hl hc h6 _ _ _ _
theorem up_loop (st x : Option D) : ∀ (n m : Nat) (H : List Int) (pos : Nat) (g6 : Option D), n < m → H.length ≤ pos + n → pos < H.length → H.length ≤ 6 →
    ∃ g6', loopW (evT Φ (.cmp .lt (.var 5) (.var 2))) (exs Φ Ψ upBody) m [some (hp H), some (.int (pos : Int)), some (.int (H.length : Int)), st, x, some (.int ((2 * pos + 1 : Nat) : Int)), g6] =
      some (.next, [some (hp (upL n H pos).2), some (.int ((upL n H pos).1 : Int)), some (.int (H.length : Int)), st, x, some (.int ((2 * (upL n H pos).1 + 1 : Nat) : Int)), g6']) := by
  intro n
  induction n with
  | zero => intro m H pos g6 hm hn hl; (first | lia | omega)
  | succ n ih =>
    intro m H pos g6 hm hn hl h6
    cases m with
    | zero => (first | lia | omega)
    | succ m =>
      have ht : evT Φ (.cmp .lt (.var 5) (.var 2)) [some (hp H), some (.int (pos : Int)), some (.int (H.length : Int)), st, x, some (.int ((2 * pos + 1 : Nat) : Int)), g6] = some (decide (2 * pos + 1 < H.length)) := by
        simp only [evT, ev, look, List.getElem?_cons_zero, List.getElem?_cons_succ, Option.join_some, Option.bind_some, lt_ii, Int.ofNat_lt]
      unfold loopW upL
      rw [ht]
      by_cases hc : 2 * pos + 1 < H.length
      · rw [decide_eq_true hc, Option.bind_some, if_pos rfl, if_pos hc, up_body Φ Ψ hl h6 hc]
        by_cases h : 2 * pos + 2 < H.length ∧ ¬ H.getD (2 * pos + 1) 0 < H.getD (2 * pos + 2) 0
        · rw [if_pos h, if_pos h, Option.bind_some]
          have := ih m (H.set pos (H.getD (2 * pos + 2) 0)) (2 * pos + 2) (some (.int ((2 * pos + 2 : Nat) : Int))) (by (first | lia | omega)) (by rw [List.length_set]; (first | lia | omega)) (by rw [List.length_set]; exact h.1) (by rw [List.length_set]; exact h6)
          rw [List.length_set] at this
          exact this
        · rw [if_neg h, if_neg h, Option.bind_some]
          have := ih m (H.set pos (H.getD (2 * pos + 1) 0)) (2 * pos + 1) (some (.int ((2 * pos + 2 : Nat) : Int))) (by (first | lia | omega)) (by rw [List.length_set]; (first | lia | omega)) (by rw [List.length_set]; exact hc) (by rw [List.length_set]; exact h6)
          rw [List.length_set] at this
          exact this
      · rw [decide_eq_false hc, Option.bind_some, if_neg (by decide), if_neg hc]
        exact ⟨g6, rfl⟩

theorem up_run (hΨ : ∀ (K : List Int) (s p : Nat), p < K.length → K.length ≤ 6 → Ψ 2 [hp K, .int (s : Int), .int (p : Int)] = some (hp (downF K s p))) {H : List Int} {pos : Nat} (hl : pos < H.length) (h6 : H.length ≤ 6) :
    ∃ ρ, runFn Φ Ψ f_siftup [hp H, .int (pos : Int)] = some (.none, ρ) ∧ look ρ 0 = some (hp (upF H pos)) := by
  obtain ⟨g6, hloop⟩ := up_loop Φ Ψ (some (.int (pos : Int))) (some (item (H.getD pos 0))) H.length turns H pos none (by unfold turns; (first | lia | omega)) (by (first | lia | omega)) hl h6
  have hlen := upL_len H.length H pos hl
  have hm : binop .mul (.int 2) (.int (pos : Int)) = some (.int (2 * (pos : Int))) := bi_mul (by rw [small_of (by (first | lia | omega)) (by (first | lia | omega)), small_of (by (first | lia | omega)) (by (first | lia | omega))]; rfl)
  have e : 2 * (pos : Int) + 1 = ((2 * pos + 1 : Nat) : Int) := by (first | lia | omega)
  have hcall := hΨ ((upL H.length H pos).2.set (upL H.length H pos).1 (H.getD pos 0)) pos (upL H.length H pos).1 (by rw [List.length_set, hlen.1]; exact hlen.2) (by rw [List.length_set, hlen.1]; exact h6)
  have hst := store_hp (H := (upL H.length H pos).2) (k := (upL H.length H pos).1) (x := H.getD pos 0) (by rw [hlen.1]; exact hlen.2) (by rw [hlen.1]; exact h6)
  refine ⟨[some (hp (upF H pos)), some (.int ((upL H.length H pos).1 : Int)), some (.int (H.length : Int)), some (.int (pos : Int)), some (item (H.getD pos 0)), some (.int ((2 * (upL H.length H pos).1 + 1 : Nat) : Int)), g6], ?_, rfl⟩
  unfold runFn
  rw [if_pos (show [hp H, D.int (pos : Int)].length = f_siftup.params from rfl)]
  have hinit : (([hp H, D.int (pos : Int)].map some ++ List.replicate (f_siftup.size - f_siftup.params) none : Rho)) = [some (hp H), some (.int (pos : Int)), none, none, none, none, none] := rfl
  have hb : f_siftup.body = [.assign 2 (.len (.bor 0)), .assign 3 (.var 1), .assign 4 (.sub (.bor 0) (.var 1)), .assign 5 (.bin .add (.bin .mul (.int 2) (.var 1)) (.int 1)), .while (.cmp .lt (.var 5) (.var 2)) upBody, .setAt 0 (.var 1) (.var 4), .callIO 2 0 (.cons (.var 3) (.cons (.var 1) (.nil)))] := rfl
  rw [hinit, hb, exs, ex]
  simp only [ev, look, List.getElem?_cons_zero, Option.join_some, Option.bind_some, Option.map_some, len_hp h6, List.set_cons_succ, List.set_cons_zero]
  rw [exs, ex]
  simp only [ev, look, List.getElem?_cons_zero, List.getElem?_cons_succ, Option.join_some, Option.bind_some, Option.map_some, List.set_cons_succ, List.set_cons_zero]
  rw [exs, ex]
  simp only [ev, look, List.getElem?_cons_zero, List.getElem?_cons_succ, Option.join_some, Option.bind_some, Option.map_some, sub_hp hl h6, List.set_cons_succ, List.set_cons_zero]
  rw [exs, ex]
  simp only [ev, look, List.getElem?_cons_zero, List.getElem?_cons_succ, Option.join_some, Option.bind_some, Option.map_some, hm, bi_add, e, List.set_cons_succ, List.set_cons_zero]
  rw [exs, ex, hloop, Option.bind_some]
  dsimp only
  rw [exs, ex]
  simp only [ev, look, List.getElem?_cons_zero, List.getElem?_cons_succ, Option.join_some, Option.bind_some, Option.map_some, hst, List.set_cons_zero]
  rw [exs, ex]
  simp only [ev, evs, look, List.getElem?_cons_zero, List.getElem?_cons_succ, Option.join_some, Option.bind_some, Option.map_some, hcall, List.set_cons_zero]
  rfl

theorem rep_run (hΨ : ∀ (K : List Int) (p : Nat), p < K.length → K.length ≤ 6 → Ψ 3 [hp K, .int (p : Int)] = some (hp (upF K p))) {H : List Int} (hl : 0 < H.length) (h6 : H.length ≤ 6) (x : Int) :
    ∃ d ρ, runFn Φ Ψ f_heapreplace [hp H, item x] = some (d, ρ) ∧ look ρ 0 = some (hp (upF (H.set 0 x) 0)) := by
  have hcall := hΨ (H.set 0 x) 0 (by simpa using hl) (by simpa using h6)
  refine ⟨item (H.getD 0 0), [some (hp (upF (H.set 0 x) 0)), some (item x), some (item (H.getD 0 0))], ?_, rfl⟩
  unfold runFn
  rw [if_pos (show [hp H, item x].length = f_heapreplace.params from rfl)]
  have hinit : (([hp H, item x].map some ++ List.replicate (f_heapreplace.size - f_heapreplace.params) none : Rho)) = [some (hp H), some (item x), none] := rfl
  have hb : f_heapreplace.body = b_heapreplace := rfl
  have h0 := sub_hp (H := H) (k := 0) hl h6
  have hs := store_hp (H := H) (k := 0) (x := x) hl h6
  rw [Int.natCast_zero] at h0 hs hcall
  unfold b_heapreplace at hb
  rw [hinit, hb, exs, ex]
  simp only [ev, look, List.getElem?_cons_zero, Option.join_some, Option.bind_some, Option.map_some, h0, List.set_cons_succ, List.set_cons_zero]
  rw [exs, ex]
  simp only [ev, look, List.getElem?_cons_zero, List.getElem?_cons_succ, Option.join_some, Option.bind_some, Option.map_some, hs, List.set_cons_zero]
  rw [exs, ex]
  simp only [ev, evs, look, List.getElem?_cons_zero, Option.join_some, Option.bind_some, Option.map_some, hcall, List.set_cons_zero]
  rw [exs, ex]
  simp only [ev, look, List.getElem?_cons_zero, List.getElem?_cons_succ, Option.join_some, Option.map_some, Option.bind_some]

theorem heap_loop (hΨ : ∀ (K : List Int) (p : Nat), p < K.length → K.length ≤ 6 → Ψ 3 [hp K, .int (p : Int)] = some (hp (upF K p))) (n : Option D) : ∀ (l : List Nat) (H : List Int) (g2 : Option D), (∀ p ∈ l, p < H.length) → H.length ≤ 6 →
    ∃ g2', loopF (bind1 2) (exs Φ Ψ [.callIO 3 0 (.cons (.var 2) (.nil))]) (l.map fun k : Nat => D.int (k : Int)) [some (hp H), n, g2] = some (.next, [some (hp (l.foldl upF H)), n, g2'])
  | [], H, g2, _, _ => ⟨g2, rfl⟩
  | p :: l, H, g2, h, h6 => by
    have hp0 := h p (.head _)
    obtain ⟨g2', hr⟩ := heap_loop hΨ n l (upF H p) (some (.int (p : Int))) (fun q hq => by rw [upF_len hp0]; exact h q (.tail _ hq)) (by rw [upF_len hp0]; exact h6)
    refine ⟨g2', ?_⟩
    rw [List.map_cons, List.foldl_cons]
    unfold loopF
    have : exs Φ Ψ [.callIO 3 0 (.cons (.var 2) (.nil))] [some (hp H), n, some (.int (p : Int))] = some (.next, [some (hp (upF H p)), n, some (.int (p : Int))]) := exs_one Φ Ψ (by
      rw [ex]
      simp only [ev, evs, look, List.getElem?_cons_zero, List.getElem?_cons_succ, Option.join_some, Option.bind_some, Option.map_some, hΨ H p hp0 h6, List.set_cons_zero])
    simp only [bind1, Option.bind_some, List.set_cons_succ, List.set_cons_zero]
    rw [this]
    exact hr
theorem heap_run (hΨ : ∀ (K : List Int) (p : Nat), p < K.length → K.length ≤ 6 → Ψ 3 [hp K, .int (p : Int)] = some (hp (upF K p))) {H : List Int} (h6 : H.length ≤ 6) :
    ∃ d ρ, runFn Φ Ψ f_heapify [hp H] = some (d, ρ) ∧ look ρ 0 = some (hp (heapL H)) := by
  obtain ⟨g2, hl⟩ := heap_loop Φ Ψ hΨ (some (.int (H.length : Int))) (List.range (H.length / 2)).reverse H none (fun p h => by simp at h; (first | lia | omega)) h6
  refine ⟨.none, [some (hp (heapL H)), some (.int (H.length : Int)), g2], ?_, rfl⟩
  unfold runFn
  rw [if_pos (show [hp H].length = f_heapify.params from rfl)]
  have hinit : (([hp H].map some ++ List.replicate (f_heapify.size - f_heapify.params) none : Rho)) = [some (hp H), none, none] := rfl
  have hb : f_heapify.body = b_heapify := rfl
  unfold b_heapify at hb
  have e1 : binop .fdiv (.int (H.length : Int)) (.int 2) = some (.int ((H.length / 2 : Nat) : Int)) := rfl
  have e2 : revD (.int ((H.length / 2 : Nat) : Int)) = some ((List.range (H.length / 2)).reverse.map fun k : Nat => D.int (k : Int)) := by
    show (if 0 ≤ ((H.length / 2 : Nat) : Int) ∧ ((H.length / 2 : Nat) : Int) ≤ 1000 then _ else _) = _
    rw [if_pos (by (first | lia | omega)), Int.toNat_natCast]
    unfold rangeD
    rw [← List.map_reverse]
    simp only [Int.zero_add]
  rw [hinit, hb, exs, ex]
  simp only [ev, look, List.getElem?_cons_zero, Option.join_some, Option.bind_some, Option.map_some, len_hp h6, List.set_cons_succ, List.set_cons_zero]
  rw [exs, ex]
  simp only [evI, ev, look, List.getElem?_cons_zero, List.getElem?_cons_succ, Option.join_some, Option.bind_some, e1, e2]
  rw [hl]
  rfl
end
end Mine
end
section
open PySem
set_option maxRecDepth 100000
namespace Mine
noncomputable def upd {α : Type} (g : Nat → α) (p : Nat) (v : α) : Nat → α := fun q => if q = p then v else g q
theorem upd_self {α : Type} (g : Nat → α) (p : Nat) (v : α) : upd g p v p = v := if_pos rfl
theorem upd_ne {α : Type} (g : Nat → α) {p q : Nat} (v : α) (h : q ≠ p) : upd g p v q = g q := if_neg h
noncomputable def dk (E : List Nat) (g : Nat → D) : List (Int × D) := E.map fun p : Nat => ((p : Int), g p)
theorem dk_congr {E : List Nat} {g g' : Nat → D} (h : ∀ p ∈ E, g p = g' p) : dk E g = dk E g' :=
  List.map_congr_left fun p hp => by rw [h p hp]
theorem dGet_dk {g : Nat → D} {p : Nat} : ∀ {E : List Nat}, p ∈ E → dGet (dk E g) (p : Int) = some (g p)
  | q :: E, h => by
    unfold dGet dk
    rw [List.map_cons, List.find?_cons]
    by_cases e : q = p
    · subst e; simp
    · have : p ∈ E := by rcases List.mem_cons.mp h with r | r; exact absurd r.symm e; exact r
      have ih := dGet_dk (g := g) this
      unfold dGet dk at ih
      rw [show decide ((q : Int) = (p : Int)) = false from by simp; (first | lia | omega)]
      exact ih
theorem any_dk (g : Nat → D) (p : Nat) (E : List Nat) : (dk E g).any (fun kv => decide (kv.1 = (p : Int))) = decide (p ∈ E) := by
  induction E with
  | nil => rfl
  | cons q E ih =>
    unfold dk at ih ⊢
    rw [List.map_cons, List.any_cons, ih]
    by_cases e : q = p
    · subst e; simp
    · rw [show decide (((q : Int), g q).1 = (p : Int)) = false from by simp; (first | lia | omega), Bool.false_or]
      have : (p ∈ q :: E) = (p ∈ E) := by simp; intro r; exact absurd r.symm e
      simp only [this]
theorem dSet_mem (g : Nat → D) {p : Nat} (v : D) {E : List Nat} (h : p ∈ E) : dSet (dk E g) (p : Int) v = dk E (upd g p v) := by
  unfold dSet
  rw [any_dk, decide_eq_true h, if_pos rfl]
  unfold dk
  rw [List.map_map]
  refine List.map_congr_left fun q _ => ?_
  by_cases e : q = p
  · subst e; simp [upd]
  · have : ¬ ((q : Int) = (p : Int)) := by (first | lia | omega)
    simp [upd, e, this]
theorem dSet_new (g : Nat → D) {p : Nat} (v : D) {E : List Nat} (h : p ∉ E) : dSet (dk E g) (p : Int) v = dk (E ++ [p]) (upd g p v) := by
  unfold dSet
  rw [any_dk, decide_eq_false h, if_neg (by decide)]
  unfold dk
  rw [List.map_append, List.map_cons, List.map_nil, upd_self]
  congr 1
  exact List.map_congr_left fun q hq => by rw [upd_ne g v (p := p) (q := q) fun e => h (by rw [← e]; exact hq)]
theorem dk_len (E : List Nat) (g : Nat → D) : (dk E g).length = E.length := by simp [dk]
theorem store_dk {E : List Nat} {g : Nat → D} {p : Nat} {v : D} (hE : E.length ≤ 1000) : storeD (.dict (dk E g)) (.int (p : Int)) v = some (.dict (dSet (dk E g) (p : Int) v)) := by
  show (if (dk E g).length ≤ 1000 then _ else _) = _
  rw [if_pos (by rw [dk_len]; exact hE)]
noncomputable def sm (E : List Nat) (f : Nat → Int) : Int := (E.map f).sum
theorem sm_app (E : List Nat) (p : Nat) (f : Nat → Int) : sm (E ++ [p]) f = sm E f + f p := by simp [sm]
theorem sm_congr {E : List Nat} {f g : Nat → Int} (h : ∀ p ∈ E, f p = g p) : sm E f = sm E g := by
  unfold sm; rw [List.map_congr_left h]
theorem sm_upd {p : Nat} {f g : Nat → Int} : ∀ {E : List Nat}, E.Nodup → p ∈ E → (∀ q ∈ E, q ≠ p → f q = g q) → sm E f + g p = sm E g + f p
  | q :: E, hn, hm, h => by
    have hq := (List.nodup_cons.mp hn)
    by_cases e : q = p
    · subst e
      have : sm E f = sm E g := sm_congr fun r hr => h r (.tail _ hr) fun er => hq.1 (er ▸ hr)
      unfold sm at this ⊢
      simp only [List.map_cons, List.sum_cons]
      (first | lia | omega)
    · have hp : p ∈ E := by rcases List.mem_cons.mp hm with r | r; exact absurd r.symm e; exact r
      have ih := sm_upd hq.2 hp fun r hr => h r (.tail _ hr)
      have := h q (.head _) e
      unfold sm at ih ⊢
      simp only [List.map_cons, List.sum_cons]
      (first | lia | omega)

noncomputable def ci (c : Nat → Int) : Nat → D := fun p => .int (c p)
section
variable (Φ Ψ : Nat → List D → Option D)
theorem callers_run {E : List Nat} (hE : E.length ≤ 1000) (hn : E.Nodup) (c : Nat → Int) (p : Nat) (v : Int) :
    ∃ ρ, runFn Φ Ψ f_add_callers [.dict (dk E (ci c)), .dict [((p : Int), .int v)]] = some (.dict (dSet (dk E (ci c)) (p : Int) (.int (if p ∈ E then c p + v else v))), ρ) := by
  unfold runFn
  rw [if_pos (show [D.dict (dk E (ci c)), D.dict [((p : Int), .int v)]].length = f_add_callers.params from rfl)]
  have hinit : (([D.dict (dk E (ci c)), D.dict [((p : Int), .int v)]].map some ++ List.replicate (f_add_callers.size - f_add_callers.params) none : Rho)) = [some (.dict (dk E (ci c))), some (.dict [((p : Int), .int v)]), none, none, none] := rfl
  have hb : f_add_callers.body = b_add_callers := rfl
  unfold b_add_callers at hb
  rw [hinit, hb, exs, ex]
  simp only [evF, Option.map_some, Option.bind_some, List.set_cons_succ, List.set_cons_zero]
  have main := loop_all (bind := bind2 3 4) (body := exs Φ Ψ [.setAt 2 (.var 3) (.var 4)])
    (Inv := fun k ρ => ∃ g3 g4, ρ = [some (.dict (dk E (ci c))), some (.dict [((p : Int), .int v)]), some (.dict (dk (E.take k) (ci c))), g3, g4])
    ((dk E (ci c)).map fun kv => .tup [.int kv.1, kv.2]) (fun k d ρ hd hI => ?_) (ρ := [some (.dict (dk E (ci c))), some (.dict [((p : Int), .int v)]), some (.dict []), none, none]) ⟨none, none, rfl⟩
  · obtain ⟨ρ', h1, g3, g4, rfl⟩ := main
    have hit : itemsD (.dict (dk E (ci c))) = some ((dk E (ci c)).map fun kv => .tup [.int kv.1, kv.2]) := rfl
    rw [List.length_map, dk_len, List.take_length] at h1
    rw [exs, ex]
    simp only [evI, ev, look, List.getElem?_cons_zero, Option.join_some, Option.bind_some, hit, h1]
    have hit2 : itemsD (.dict [((p : Int), .int v)]) = some [.tup [.int (p : Int), .int v]] := rfl
    have hany : (dk E (ci c)).any (fun kv => decide (kv.1 = (p : Int))) = decide (p ∈ E) := any_dk _ _ _
    rw [exs, ex]
    simp only [evI, ev, look, List.getElem?_cons_zero, List.getElem?_cons_succ, Option.join_some, Option.bind_some, hit2]
    have body : exs Φ Ψ [.ite (.inD (.var 3) (.bor 2)) [.ite (.isTup (.var 4)) [.stuck] [.augAt 2 (.var 3) .add (.var 4)]] [.setAt 2 (.var 3) (.var 4)]]
        [some (.dict (dk E (ci c))), some (.dict [((p : Int), .int v)]), some (.dict (dk E (ci c))), some (.int (p : Int)), some (.int v)] =
        some (.next, [some (.dict (dk E (ci c))), some (.dict [((p : Int), .int v)]), some (.dict (dSet (dk E (ci c)) (p : Int) (.int (if p ∈ E then c p + v else v)))), some (.int (p : Int)), some (.int v)]) := by
      refine exs_one Φ Ψ ?_
      rw [ex]
      simp only [evT, ev, look, List.getElem?_cons_zero, List.getElem?_cons_succ, Option.join_some, Option.bind_some, hany]
      by_cases h : p ∈ E
      · have hg : subD (.dict (dk E (ci c))) (.int (p : Int)) = some (.int (c p)) := dGet_dk h
        simp only [h, decide_true, if_true]
        refine exs_one Φ Ψ ?_
        rw [ex]
        simp only [evT, ev, look, List.getElem?_cons_zero, List.getElem?_cons_succ, Option.join_some, Option.bind_some, Bool.false_eq_true, if_false]
        refine exs_one Φ Ψ ?_
        rw [ex]
        simp only [ev, look, List.getElem?_cons_zero, List.getElem?_cons_succ, Option.join_some, Option.bind_some, hg, aug_add, aug_sub, store_dk hE, Option.map_some, List.set_cons_succ, List.set_cons_zero]
      · simp only [h, decide_false, Bool.false_eq_true, if_false]
        refine exs_one Φ Ψ ?_
        rw [ex]
        simp only [ev, look, List.getElem?_cons_zero, List.getElem?_cons_succ, Option.join_some, Option.bind_some, store_dk hE, Option.map_some, List.set_cons_succ, List.set_cons_zero]
    have hl : loopF (bind2 3 4) (exs Φ Ψ [.ite (.inD (.var 3) (.bor 2)) [.ite (.isTup (.var 4)) [.stuck] [.augAt 2 (.var 3) .add (.var 4)]] [.setAt 2 (.var 3) (.var 4)]]) [.tup [.int (p : Int), .int v]]
        [some (.dict (dk E (ci c))), some (.dict [((p : Int), .int v)]), some (.dict (dk E (ci c))), g3, g4] = some (.next, [some (.dict (dk E (ci c))), some (.dict [((p : Int), .int v)]), some (.dict (dSet (dk E (ci c)) (p : Int) (.int (if p ∈ E then c p + v else v)))), some (.int (p : Int)), some (.int v)]) := by
      unfold loopF
      simp only [bind2, Option.bind_some, List.set_cons_succ, List.set_cons_zero]
      rw [body]
      rfl
    rw [hl]
    exact ⟨_, rfl⟩
  · obtain ⟨g3, g4, rfl⟩ := hI
    rw [List.getElem?_map] at hd
    unfold dk at hd
    rw [List.getElem?_map] at hd
    obtain ⟨kv, hkv, rfl⟩ := Option.map_eq_some_iff.mp hd
    obtain ⟨q, hq, rfl⟩ := Option.map_eq_some_iff.mp hkv
    refine ⟨[some (.dict (dk E (ci c))), some (.dict [((p : Int), .int v)]), some (.dict (dk (E.take k) (ci c))), some (.int (q : Int)), some (ci c q)], [some (.dict (dk E (ci c))), some (.dict [((p : Int), .int v)]), some (.dict (dk (E.take (k + 1)) (ci c))), some (.int (q : Int)), some (ci c q)], rfl, .inl (exs_one Φ Ψ ?_), _, _, rfl⟩
    rw [ex]
    have hnew : q ∉ E.take k := by
      intro hm
      obtain ⟨j, hj⟩ := List.getElem?_of_mem hm
      rw [List.getElem?_take] at hj
      split at hj
      · rename_i hjk
        have hkl : k < E.length := by
          rcases Nat.lt_or_ge k E.length with h | h
          · exact h
          · rw [List.getElem?_eq_none h] at hq; cases hq
        have := (List.getElem?_inj (i := j) (j := k) (by (first | lia | omega)) hn).mp (hj.trans hq.symm)
        (first | lia | omega)
      · cases hj
    have he : dSet (dk (E.take k) (ci c)) (q : Int) (ci c q) = dk (E.take (k + 1)) (ci c) := by
      rw [dSet_new _ _ hnew, List.take_add_one, hq]
      exact dk_congr fun r _ => by
        unfold upd
        by_cases e : r = q
        · rw [if_pos e, e]
        · rw [if_neg e]
    simp only [ev, look, List.getElem?_cons_zero, List.getElem?_cons_succ, Option.join_some, Option.bind_some, store_dk (E := E.take k) (g := ci c) (by rw [List.length_take]; (first | lia | omega)), he, Option.map_some, List.set_cons_succ, List.set_cons_zero]

theorem func_run (a b x y a' b' x' y' : Int) (c c' r : D) (h5 : Φ 5 [c, c'] = some r) : ∃ ρ, runFn Φ Ψ f_add_func_stats [.tup [.int a, .int b, .int x, .int y, c], .tup [.int a', .int b', .int x', .int y', c']] = some (.tup [.int (a' + a), .int (b' + b), .int (x' + x), .int (y' + y), r], ρ) := by
  unfold runFn
  rw [if_pos (show [D.tup [.int a, .int b, .int x, .int y, c], D.tup [.int a', .int b', .int x', .int y', c']].length = f_add_func_stats.params from rfl)]
  have hb : f_add_func_stats.body = b_add_func_stats := rfl
  unfold b_add_func_stats at hb
  have hinit : (([D.tup [.int a, .int b, .int x, .int y, c], D.tup [.int a', .int b', .int x', .int y', c']].map some ++ List.replicate (f_add_func_stats.size - f_add_func_stats.params) none : Rho)) = [some (.tup [.int a, .int b, .int x, .int y, c]), some (.tup [.int a', .int b', .int x', .int y', c']), none, none, none, none, none, none, none, none, none, none] := rfl
  rw [hinit, hb, exs, ex]
  simp only [ev, look, List.getElem?_cons_zero, List.getElem?_cons_succ, Option.join_some, Option.bind_some, setAll, Option.map_some, List.set_cons_succ, List.set_cons_zero]
  rw [exs, ex]
  simp only [ev, look, List.getElem?_cons_zero, Option.join_some, Option.bind_some, setAll, Option.map_some, List.set_cons_succ, List.set_cons_zero]
  rw [exs, ex]
  simp only [ev, evs, look, List.getElem?_cons_zero, List.getElem?_cons_succ, Option.join_some, Option.bind_some, bi_add, Option.map_some, h5]
  exact ⟨_, rfl⟩

theorem count_run {E : List Nat} (c : Nat → Int) : ∃ ρ, runFn Φ Ψ f_count_calls [.dict (dk E (ci c))] = some (.int (sm E c), ρ) := by
  unfold runFn
  rw [if_pos (show [D.dict (dk E (ci c))].length = f_count_calls.params from rfl)]
  have hb : f_count_calls.body = b_count_calls := rfl
  unfold b_count_calls at hb
  have hinit : (([D.dict (dk E (ci c))].map some ++ List.replicate (f_count_calls.size - f_count_calls.params) none : Rho)) = [some (.dict (dk E (ci c))), none, none] := rfl
  rw [hinit, hb, exs, ex]
  simp only [ev, Option.map_some, Option.bind_some, List.set_cons_succ, List.set_cons_zero]
  have main := loop_all (bind := bind1 2) (body := exs Φ Ψ [.aug 1 .add (.var 2)])
    (Inv := fun k ρ => ∃ g2, ρ = [some (.dict (dk E (ci c))), some (.int (sm (E.take k) c)), g2])
    ((dk E (ci c)).map (·.2)) (fun k d ρ hd hI => ?_) (ρ := [some (.dict (dk E (ci c))), some (.int 0), none]) ⟨none, rfl⟩
  · obtain ⟨ρ', h1, g2, rfl⟩ := main
    have hv : valuesD (.dict (dk E (ci c))) = some ((dk E (ci c)).map (·.2)) := rfl
    rw [List.length_map, dk_len, List.take_length] at h1
    rw [exs, ex]
    simp only [evI, ev, look, List.getElem?_cons_zero, Option.join_some, Option.bind_some, hv, h1]
    rw [exs, ex]
    simp only [ev, look, List.getElem?_cons_zero, List.getElem?_cons_succ, Option.join_some, Option.map_some, Option.bind_some]
    exact ⟨_, rfl⟩
  · obtain ⟨g2, rfl⟩ := hI
    rw [List.getElem?_map] at hd
    unfold dk at hd
    rw [List.getElem?_map] at hd
    obtain ⟨kv, hkv, rfl⟩ := Option.map_eq_some_iff.mp hd
    obtain ⟨q, hq, rfl⟩ := Option.map_eq_some_iff.mp hkv
    refine ⟨[some (.dict (dk E (ci c))), some (.int (sm (E.take k) c)), some (ci c q)], [some (.dict (dk E (ci c))), some (.int (sm (E.take (k + 1)) c)), some (ci c q)], rfl, .inl (exs_one Φ Ψ ?_), _, rfl⟩
    rw [ex, List.take_add_one, hq]
    simp only [ev, look, List.getElem?_cons_zero, List.getElem?_cons_succ, Option.join_some, Option.bind_some, ci, aug_add, aug_sub, Option.map_some, List.set_cons_succ, List.set_cons_zero]
    rw [show (some q).toList = [q] from rfl, sm_app]
end

/-! ### a book's entry -/
noncomputable def ent (E : List Nat) (lo : Nat → Int) (on : Nat → Bool) : D :=
  .tup [.int (sm E fun p => if on p then 1 else 0), .int (E.length : Int), .int (sm E fun p => if on p then lo p else 0), .int (sm E fun p => if on p then lo p * lo p else 0), .dict (dk E (ci fun p => if on p then 1 else 0))]
theorem ent_congr {E : List Nat} {lo lo' : Nat → Int} {on on' : Nat → Bool} (h : ∀ p ∈ E, on p = on' p ∧ (on p = true → lo p = lo' p)) : ent E lo on = ent E lo' on' := by
  unfold ent
  rw [sm_congr fun p hp => by rw [(h p hp).1], sm_congr (f := fun p => if on p then lo p else 0) (g := fun p => if on' p then lo' p else 0) fun p hp => by
      obtain ⟨h1, h2⟩ := h p hp
      rw [← h1]; cases e : on p
      · rfl
      · rw [h2 e],
    sm_congr (f := fun p => if on p then lo p * lo p else 0) (g := fun p => if on' p then lo' p * lo' p else 0) fun p hp => by
      obtain ⟨h1, h2⟩ := h p hp
      rw [← h1]; cases e : on p
      · rfl
      · rw [h2 e],
    dk_congr (g := ci fun p => if on p then 1 else 0) (g' := ci fun p => if on' p then 1 else 0) fun p hp => by simp only [ci, (h p hp).1]]
noncomputable def none5 : D := .tup [.int 0, .int 0, .int 0, .int 0, .dict []]
theorem ent_nil (lo : Nat → Int) (on : Nat → Bool) : ent [] lo on = none5 := rfl
noncomputable def src (a b x y : Int) (p : Nat) (v : Int) : D := .tup [.int a, .int b, .int x, .int y, .dict [((p : Int), .int v)]]
section
variable (Φ Ψ : Nat → List D → Option D)
theorem gain_run (h5 : ∀ (E : List Nat) (c : Nat → Int) (p : Nat) (v : Int), E.length ≤ 1000 → E.Nodup → Φ 5 [.dict (dk E (ci c)), .dict [((p : Int), .int v)]] = some (.dict (dSet (dk E (ci c)) (p : Int) (.int (if p ∈ E then c p + v else v)))))
    {E : List Nat} (hE : E.length ≤ 1000) (hn : E.Nodup) {lo lo' : Nat → Int} {on on' : Nat → Bool} {p : Nat} {x : Int} (hp : p ∉ E) (h1 : on' p = true) (h2 : lo' p = x) (h3 : ∀ q ∈ E, on' q = on q ∧ (on q = true → lo' q = lo q)) :
    ∃ ρ, runFn Φ Ψ f_add_func_stats [ent E lo on, src 1 1 x (x * x) p 1] = some (ent (E ++ [p]) lo' on', ρ) := by
  have e := ent_congr (E := E) (lo := lo) (lo' := lo') (on := on) (on' := on') fun q hq => ⟨(h3 q hq).1.symm, fun h => ((h3 q hq).2 h).symm⟩
  rw [e]
  obtain ⟨ρ, hr⟩ := func_run Φ Ψ (sm E fun p => if on' p then 1 else 0) (E.length : Int) (sm E fun p => if on' p then lo' p else 0) (sm E fun p => if on' p then lo' p * lo' p else 0) 1 1 x (x * x) _ _ _ (h5 E (fun p => if on' p then 1 else 0) p 1 hE hn)
  refine ⟨ρ, hr.trans ?_⟩
  unfold ent
  rw [sm_app, sm_app, sm_app, if_neg hp, dSet_new _ _ hp, List.length_append, if_pos h1, if_pos h1, if_pos h1, h2]
  rw [show dk (E ++ [p]) (upd (ci fun p => if on' p then 1 else 0) p (.int 1)) = dk (E ++ [p]) (ci fun p => if on' p then 1 else 0) from dk_congr fun q _ => by
    unfold upd ci
    by_cases e : q = p
    · simp only [if_pos e, e, h1, if_true]
    · rw [if_neg e]]
  congr 3
  simp only [List.length_cons, List.length_nil]
  rw [Int.add_comm 1, Int.add_comm x, Int.add_comm (x * x), Int.add_comm 1]
  rfl
theorem loss_run (h5 : ∀ (E : List Nat) (c : Nat → Int) (p : Nat) (v : Int), E.length ≤ 1000 → E.Nodup → Φ 5 [.dict (dk E (ci c)), .dict [((p : Int), .int v)]] = some (.dict (dSet (dk E (ci c)) (p : Int) (.int (if p ∈ E then c p + v else v)))))
    {E : List Nat} (hE : E.length ≤ 1000) (hn : E.Nodup) {lo lo' : Nat → Int} {on on' : Nat → Bool} {p : Nat} {x : Int} (hp : p ∈ E) (h0 : on p = true) (hx : lo p = x) (h1 : on' p = false) (h3 : ∀ q ∈ E, q ≠ p → on' q = on q ∧ (on q = true → lo' q = lo q)) :
    ∃ ρ, runFn Φ Ψ f_add_func_stats [ent E lo on, src (-1) 0 (-x) (-x * x) p (-1)] = some (ent E lo' on', ρ) := by
  obtain ⟨ρ, hr⟩ := func_run Φ Ψ (sm E fun p => if on p then 1 else 0) (E.length : Int) (sm E fun p => if on p then lo p else 0) (sm E fun p => if on p then lo p * lo p else 0) (-1) 0 (-x) (-x * x) _ _ _ (h5 E (fun p => if on p then 1 else 0) p (-1) hE hn)
  refine ⟨ρ, hr.trans ?_⟩
  unfold ent
  have a1 := sm_upd (f := fun p => if on p then 1 else 0) (g := fun p => if on' p then 1 else 0) hn hp fun q hq e => by simp only [(h3 q hq e).1]
  have a2 := sm_upd (f := fun p => if on p then lo p else 0) (g := fun p => if on' p then lo' p else 0) hn hp fun q hq e => by
    obtain ⟨b1, b2⟩ := h3 q hq e
    simp only [b1]; cases c : on q
    · rfl
    · simp only [b2 c]
  have a3 := sm_upd (f := fun p => if on p then lo p * lo p else 0) (g := fun p => if on' p then lo' p * lo' p else 0) hn hp fun q hq e => by
    obtain ⟨b1, b2⟩ := h3 q hq e
    simp only [b1]; cases c : on q
    · rfl
    · simp only [b2 c]
  simp only [h0, h1, hx, if_true, Bool.false_eq_true, if_false] at a1 a2 a3
  rw [if_pos hp, dSet_mem _ _ hp, if_pos h0]
  rw [show dk E (upd (ci fun p => if on p then 1 else 0) p (.int (1 + -1))) = dk E (ci fun p => if on' p then 1 else 0) from dk_congr fun q hq => by
    unfold upd ci
    by_cases e : q = p
    · simp only [if_pos e, e, h1, Bool.false_eq_true, if_false]; rfl
    · simp only [if_neg e, (h3 q hq e).1]]
  rw [show -1 + (sm E fun p => if on p then 1 else 0) = sm E fun p => if on' p then 1 else 0 from by (first | lia | omega),
    show -x + (sm E fun p => if on p then lo p else 0) = sm E fun p => if on' p then lo' p else 0 from by (first | lia | omega),
    show -x * x + (sm E fun p => if on p then lo p * lo p else 0) = sm E fun p => if on' p then lo' p * lo' p else 0 from by
      rw [Int.neg_mul]; generalize x * x = y at a3 ⊢; (first | lia | omega), Int.zero_add]
end
end Mine
end
section
open PySem
set_option maxRecDepth 100000
namespace Mine

theorem foldMin : ∀ (r : List Int) (a : Int), (r.foldl (fun m x => if x < m then x else m) a) ∈ a :: r ∧ ∀ x ∈ a :: r, (r.foldl (fun m x => if x < m then x else m) a) ≤ x
  | [], a => ⟨.head _, fun x hx => by rw [List.mem_singleton.mp hx]; exact Int.le_refl _⟩
  | b :: r, a => by
    rw [List.foldl_cons]
    obtain ⟨h1, h2⟩ := foldMin r (if b < a then b else a)
    have h3 := h2 _ (.head _)
    have h4 : (if b < a then b else a) ≤ a ∧ (if b < a then b else a) ≤ b ∧ ((if b < a then b else a) = a ∨ (if b < a then b else a) = b) := by split <;> (first | lia | omega)
    generalize (if b < a then b else a) = m at h1 h2 h3 h4 ⊢
    refine ⟨?_, fun x hx => ?_⟩
    · rcases List.mem_cons.mp h1 with e | e
      · rw [e]; rcases h4.2.2 with e | e
        · rw [e]; exact .head _
        · rw [e]; exact .tail _ (.head _)
      · exact .tail _ (.tail _ e)
    · rcases List.mem_cons.mp hx with e | e
      · rw [e]; exact Int.le_trans h3 h4.1
      · rcases List.mem_cons.mp e with e | e
        · rw [e]; exact Int.le_trans h3 h4.2.1
        · exact h2 x (.tail _ e)
theorem foldMax : ∀ (r : List Int) (a : Int), (r.foldl (fun m x => if m < x then x else m) a) ∈ a :: r ∧ ∀ x ∈ a :: r, x ≤ (r.foldl (fun m x => if m < x then x else m) a)
  | [], a => ⟨.head _, fun x hx => by rw [List.mem_singleton.mp hx]; exact Int.le_refl _⟩
  | b :: r, a => by
    rw [List.foldl_cons]
    obtain ⟨h1, h2⟩ := foldMax r (if a < b then b else a)
    have h3 := h2 _ (.head _)
    have h4 : a ≤ (if a < b then b else a) ∧ b ≤ (if a < b then b else a) ∧ ((if a < b then b else a) = a ∨ (if a < b then b else a) = b) := by split <;> (first | lia | omega)
    generalize (if a < b then b else a) = m at h1 h2 h3 h4 ⊢
    refine ⟨?_, fun x hx => ?_⟩
    · rcases List.mem_cons.mp h1 with e | e
      · rw [e]; rcases h4.2.2 with e | e
        · rw [e]; exact .head _
        · rw [e]; exact .tail _ (.head _)
      · exact .tail _ (.tail _ e)
    · rcases List.mem_cons.mp hx with e | e
      · rw [e]; exact Int.le_trans h4.1 h3
      · rcases List.mem_cons.mp e with e | e
        · rw [e]; exact Int.le_trans h4.2.1 h3
        · exact h2 x (.tail _ e)
noncomputable def mnL (l : List Int) : Int := (minOf l).getD 0
noncomputable def mxL (l : List Int) : Int := (maxOf l).getD 0
theorem mnL_spec {l : List Int} (h : l ≠ []) : minOf l = some (mnL l) ∧ mnL l ∈ l ∧ ∀ x ∈ l, mnL l ≤ x := by
  cases l with
  | nil => exact absurd rfl h
  | cons a r => exact ⟨rfl, foldMin r a⟩
theorem mxL_spec {l : List Int} (h : l ≠ []) : maxOf l = some (mxL l) ∧ mxL l ∈ l ∧ ∀ x ∈ l, x ≤ mxL l := by
  cases l with
  | nil => exact absurd rfl h
  | cons a r => exact ⟨rfl, foldMax r a⟩

section
variable (d : Nat → Nat → Int) (n : Nat)
noncomputable def lwStep (p : Nat) (a : Int × Nat) (c : Nat) : Int × Nat := if d p c < a.1 then (d p c, c) else a
noncomputable def lw : List Nat → Nat → Int × Nat
  | [], _ => (0, 0)
  | c :: rs, p => rs.foldl (lwStep d p) (d p c, c)
noncomputable def lot (cs : List Nat) (p : Nat) : Int := (lw d cs p).1
noncomputable def who (cs : List Nat) (p : Nat) : Nat := (lw d cs p).2
theorem lw_snoc {cs : List Nat} (h : cs ≠ []) (f p : Nat) : lw d (cs ++ [f]) p = if d p f < lot d cs p then (d p f, f) else lw d cs p := by
  cases cs with
  | nil => exact absurd rfl h
  | cons c rs =>
    simp only [List.cons_append, lw, List.foldl_append, List.foldl_cons, List.foldl_nil, lot]
    rfl
theorem near_go (p : Nat) : ∀ (rs pre : List Nat) (a : Int × Nat), (∃ l1 l2, pre = l1 ++ a.2 :: l2 ∧ a.1 = d p a.2 ∧ (∀ c ∈ l1, a.1 < d p c) ∧ ∀ c ∈ l2, a.1 ≤ d p c) →
    ∃ l1 l2, pre ++ rs = l1 ++ (rs.foldl (lwStep d p) a).2 :: l2 ∧ (rs.foldl (lwStep d p) a).1 = d p (rs.foldl (lwStep d p) a).2 ∧ (∀ c ∈ l1, (rs.foldl (lwStep d p) a).1 < d p c) ∧ ∀ c ∈ l2, (rs.foldl (lwStep d p) a).1 ≤ d p c
  | [], pre, a, h => by rw [List.append_nil]; exact h
  | c :: rs, pre, a, ⟨l1, l2, h1, h2, h3, h4⟩ => by
    have e : pre ++ c :: rs = (pre ++ [c]) ++ rs := by simp
    rw [e, List.foldl_cons]
    refine near_go p rs (pre ++ [c]) (lwStep d p a c) ?_
    unfold lwStep
    by_cases q : d p c < a.1
    · rw [if_pos q]
      refine ⟨pre, [], rfl, rfl, fun c' hc => ?_, fun c' hc => by simp at hc⟩
      rw [h1] at hc
      rcases List.mem_append.mp hc with m | m
      · have := h3 c' m; simp only; (first | lia | omega)
      · rcases List.mem_cons.mp m with m | m
        · subst m; simp only; (first | lia | omega)
        · have := h4 c' m; simp only; (first | lia | omega)
    · rw [if_neg q]
      refine ⟨l1, l2 ++ [c], by rw [h1]; simp, h2, h3, fun c' hc => ?_⟩
      rcases List.mem_append.mp hc with m | m
      · exact h4 c' m
      · simp at m; subst m; (first | lia | omega)
theorem near_spec {cs : List Nat} (h : cs ≠ []) (p : Nat) : ∃ l1 l2, cs = l1 ++ who d cs p :: l2 ∧ lot d cs p = d p (who d cs p) ∧ (∀ c ∈ l1, lot d cs p < d p c) ∧ ∀ c ∈ l2, lot d cs p ≤ d p c := by
  cases cs with
  | nil => exact absurd rfl h
  | cons c rs => exact near_go d p rs [c] (d p c, c) ⟨[], [], rfl, rfl, fun _ h => by simp at h, fun _ h => by simp at h⟩
theorem lot_le {cs : List Nat} {c : Nat} (hc : c ∈ cs) (p : Nat) : lot d cs p ≤ d p c := by
  obtain ⟨l1, l2, h1, h2, h3, h4⟩ := near_spec d (cs := cs) (fun e => by rw [e] at hc; simp at hc) p
  rw [h1] at hc
  rcases List.mem_append.mp hc with m | m
  · have := h3 c m; (first | lia | omega)
  · rcases List.mem_cons.mp m with m | m
    · rw [m]; (first | lia | omega)
    · exact h4 c m
theorem who_mem {cs : List Nat} (h : cs ≠ []) (p : Nat) : who d cs p ∈ cs := by
  obtain ⟨l1, l2, h1, _⟩ := near_spec d h p
  have : who d cs p ∈ l1 ++ who d cs p :: l2 := by simp
  rw [← h1] at this
  exact this
theorem who_d {cs : List Nat} (h : cs ≠ []) (p : Nat) : lot d cs p = d p (who d cs p) := by
  obtain ⟨l1, l2, _, h2, _⟩ := near_spec d h p
  exact h2
theorem lot_min {cs : List Nat} (h : cs ≠ []) (p : Nat) : minOf (cs.map (d p)) = some (lot d cs p) := by
  obtain ⟨m1, m2, m3⟩ := mnL_spec (l := cs.map (d p)) (by simpa using h)
  rw [m1]
  obtain ⟨c, hc, e⟩ := List.mem_map.mp m2
  have h1 := lot_le d hc p
  have h2 := m3 (d p (who d cs p)) (List.mem_map.mpr ⟨_, who_mem d h p, rfl⟩)
  have h3 := who_d d h p
  rw [Option.some.injEq]; (first | lia | omega)
theorem who_first {cs : List Nat} (h : cs ≠ []) (p : Nat) : ∃ l, cs.filter (fun c => decide (d p c = lot d cs p)) = who d cs p :: l := by
  obtain ⟨l1, l2, h1, h2, h3, _⟩ := near_spec d h p
  generalize who d cs p = w at h1 h2 ⊢
  generalize lot d cs p = m at h2 h3 ⊢
  subst h1
  refine ⟨l2.filter fun c => decide (d p c = m), ?_⟩
  rw [List.filter_append, List.filter_cons, if_pos (by simp [h2])]
  rw [List.filter_eq_nil_iff.mpr fun c hc => by have := h3 c hc; simp; (first | lia | omega)]
  rfl
noncomputable def lots (cs : List Nat) : List Int := (List.range n).map (lot d cs)
noncomputable def far (cs : List Nat) : Int := mxL (lots d n cs)
noncomputable def pick (cs : List Nat) : Nat := ((lots d n cs).findIdx? (· == far d n cs)).getD 0
theorem lots_get {cs : List Nat} {p : Nat} (hp : p < n) : (lots d n cs)[p]? = some (lot d cs p) := by
  unfold lots; rw [List.getElem?_map, List.getElem?_range hp]; rfl
theorem lots_ne {cs : List Nat} (hn : 0 < n) : lots d n cs ≠ [] := by
  intro e; have := congrArg List.length e; simp [lots] at this; (first | lia | omega)
theorem far_ge {cs : List Nat} {p : Nat} (hp : p < n) : lot d cs p ≤ far d n cs :=
  (mxL_spec (lots_ne d n (by (first | lia | omega)))).2.2 _ (List.mem_of_getElem? (lots_get d n hp))
theorem pick_spec {cs : List Nat} (hn : 0 < n) : (lots d n cs).findIdx? (· == far d n cs) = some (pick d n cs) ∧ pick d n cs < n ∧ lot d cs (pick d n cs) = far d n cs ∧ ∀ q, q < pick d n cs → lot d cs q ≠ far d n cs := by
  have hm := (mxL_spec (lots_ne d n (cs := cs) hn)).2.1
  have hs : (lots d n cs).findIdx? (· == far d n cs) = some (pick d n cs) := by
    unfold pick
    cases e : (lots d n cs).findIdx? (· == far d n cs) with
    | some k => rfl
    | none =>
      rw [List.findIdx?_eq_none_iff] at e
      have := e _ hm
      simp [far] at this
  have hs2 := hs
  rw [List.findIdx?_eq_some_iff_getElem] at hs2
  obtain ⟨h1, h2, h3⟩ := hs2
  have hl : (lots d n cs).length = n := by simp [lots]
  have get : ∀ (q : Nat) (h : q < (lots d n cs).length), (lots d n cs)[q] = lot d cs q := fun q h => by
    have := lots_get d n (cs := cs) (by rw [← hl]; exact h : q < n)
    rw [List.getElem?_eq_getElem h] at this
    exact Option.some.inj this
  refine ⟨hs, by have := h1; rw [hl] at this; exact this, ?_, fun q hq => ?_⟩
  · rw [get] at h2; simpa using h2
  · have := h3 q hq
    rw [get] at this; simpa using this
theorem pick_uniq {cs : List Nat} {p : Nat} (hp : p < n) (h1 : lot d cs p = far d n cs) (h2 : ∀ q, q < n → lot d cs q = far d n cs → p ≤ q) : p = pick d n cs := by
  obtain ⟨_, a1, a2, a3⟩ := pick_spec d n (cs := cs) (by (first | lia | omega))
  have := h2 _ a1 a2
  rcases Nat.lt_or_ge p (pick d n cs) with q | q
  · exact absurd h1 (a3 p q)
  · (first | lia | omega)
noncomputable def ext : Nat → List Nat × List (Nat × Int) → List Nat × List (Nat × Int)
  | 0, s => s
  | k + 1, s => if 0 < far d n s.1 then ext k (s.1 ++ [pick d n s.1], s.2 ++ [(pick d n s.1, far d n (s.1 ++ [pick d n s.1]))]) else s
noncomputable def fin3 (first : Nat) : List Nat × List (Nat × Int) := ext d n 2 ([first], [(first, far d n [first])])
theorem ext_stop : ∀ (k : Nat) (s : List Nat × List (Nat × Int)), ¬ 0 < far d n s.1 → ext d n k s = s
  | 0, _, _ => rfl
  | k + 1, s, h => by unfold ext; rw [if_neg h]
theorem ext_go (k : Nat) (cs : List Nat) (st : List (Nat × Int)) (h : 0 < far d n cs) : ext d n (k + 1) (cs, st) = ext d n k (cs ++ [pick d n cs], st ++ [(pick d n cs, far d n (cs ++ [pick d n cs]))]) := by
  rw [ext]; exact if_pos h
/-- who was ever served by the k-th -/
noncomputable def everOf (cs : List Nat) (c : Nat) : List Nat := (List.range n).filter fun p => cs.all fun c' => decide (d p c < d p c')
noncomputable def EverOk (cs : List Nat) (E : Nat → List Nat) : Prop := ∀ k c, cs[k]? = some c → E c = everOf d n (cs.take k) c

structure Met : Prop where
  sym : ∀ p q, d p q = d q p
  zero : ∀ p, d p p = 0
  tri : ∀ p q r, d p r ≤ d p q + d q r
  nonneg : ∀ p q, 0 ≤ d p q
  le6 : ∀ p q, d p q ≤ 6
variable {d n}
theorem pick_new (M : Met d) {cs : List Nat} (hn : 0 < n) (h : 0 < far d n cs) : pick d n cs ∉ cs := by
  intro hm
  have h1 := lot_le d hm (pick d n cs)
  rw [M.zero, (pick_spec d n hn).2.2.1] at h1
  (first | lia | omega)
theorem lot_nonneg (M : Met d) {cs : List Nat} (h : cs ≠ []) (p : Nat) : 0 ≤ lot d cs p := by rw [who_d d h]; exact M.nonneg _ _
theorem lot_le6 (M : Met d) {cs : List Nat} (h : cs ≠ []) (p : Nat) : lot d cs p ≤ 6 := by rw [who_d d h]; exact M.le6 _ _
theorem ever_mem {cs : List Nat} {c p : Nat} : p ∈ everOf d n cs c ↔ p < n ∧ ∀ c' ∈ cs, d p c < d p c' := by
  unfold everOf; rw [List.mem_filter, List.mem_range, List.all_eq_true]; simp
theorem ever_lot {cs : List Nat} (h : cs ≠ []) {c p : Nat} : p ∈ everOf d n cs c ↔ p < n ∧ d p c < lot d cs p := by
  rw [ever_mem]
  constructor
  · rintro ⟨h1, h2⟩; exact ⟨h1, by rw [who_d d h]; exact h2 _ (who_mem d h p)⟩
  · rintro ⟨h1, h2⟩; exact ⟨h1, fun c' hc => by have := lot_le d hc p; (first | lia | omega)⟩
theorem ever_nodup (cs : List Nat) (c : Nat) : (everOf d n cs c).Nodup := List.nodup_range.filter _
theorem ever_len (cs : List Nat) (c : Nat) : (everOf d n cs c).length ≤ n := by
  have := List.length_filter_le (fun p => cs.all fun c' => decide (d p c < d p c')) (List.range n)
  unfold everOf; simpa using this
/-- whom the one in charge serves, it has ever served -/
theorem ever_who {cs : List Nat} {E : Nat → List Nat} (hE : EverOk d n cs E) (h : cs ≠ []) {p : Nat} (hp : p < n) : p ∈ E (who d cs p) := by
  obtain ⟨l1, l2, h1, h2, h3, _⟩ := near_spec d h p
  have hk : cs[l1.length]? = some (who d cs p) := by
    have : (l1 ++ who d cs p :: l2)[l1.length]? = some (who d cs p) := by simp
    rw [← h1] at this; exact this
  have ht : cs.take l1.length = l1 := by
    have : (l1 ++ who d cs p :: l2).take l1.length = l1 := by simp
    rw [← h1] at this; exact this
  rw [hE _ _ hk, ht, ever_mem]
  exact ⟨hp, fun c hc => by have := h3 c hc; (first | lia | omega)⟩
theorem EverOk.snoc {cs : List Nat} {E : Nat → List Nat} (hE : EverOk d n cs E) {f : Nat} (hf : f ∉ cs) : EverOk d n (cs ++ [f]) (upd E f (everOf d n cs f)) := by
  intro k c hk
  rcases Nat.lt_or_ge k cs.length with h | h
  · rw [List.getElem?_append_left h] at hk
    have hne : c ≠ f := fun e => hf (e ▸ List.mem_of_getElem? hk)
    rw [upd_ne _ _ hne, hE k c hk, List.take_append_of_le_length (by (first | lia | omega))]
  · rw [List.getElem?_append_right h] at hk
    have : k - cs.length = 0 := by
      rcases Nat.eq_zero_or_pos (k - cs.length) with e | e
      · exact e
      · rw [List.getElem?_eq_none (by simp; (first | lia | omega))] at hk; cases hk
    rw [this] at hk
    simp at hk
    subst hk
    rw [upd_self]
    have : k = cs.length := by (first | lia | omega)
    rw [this, List.take_left]
end
end Mine
end
section
open PySem
set_option maxRecDepth 100000
set_option linter.unusedSimpArgs false
set_option linter.unusedVariables false
namespace Mine
noncomputable def R (W a0 : D) (a3 a4 a5 a6 a7 a8 a9 a10 a13 a14 : Option D) : Rho := [some W, some a0, some (.int 3), a3, a4, a5, a6, a7, a8, a9, a10, none, none, a13, a14]
theorem R_look0 (W a0 : D) (a3 a4 a5 a6 a7 a8 a9 a10 a13 a14 : Option D) : look (R W a0 a3 a4 a5 a6 a7 a8 a9 a10 a13 a14) 0 = some W := rfl
theorem R_look1 (W a0 : D) (a3 a4 a5 a6 a7 a8 a9 a10 a13 a14 : Option D) : look (R W a0 a3 a4 a5 a6 a7 a8 a9 a10 a13 a14) 1 = some a0 := rfl
theorem R_look2 (W a0 : D) (a3 a4 a5 a6 a7 a8 a9 a10 a13 a14 : Option D) : look (R W a0 a3 a4 a5 a6 a7 a8 a9 a10 a13 a14) 2 = some (.int 3) := rfl
theorem R_look3 (W a0 : D) (a3 a4 a5 a6 a7 a8 a9 a10 a13 a14 : Option D) : look (R W a0 a3 a4 a5 a6 a7 a8 a9 a10 a13 a14) 3 = a3 := rfl
theorem R_look4 (W a0 : D) (a3 a4 a5 a6 a7 a8 a9 a10 a13 a14 : Option D) : look (R W a0 a3 a4 a5 a6 a7 a8 a9 a10 a13 a14) 4 = a4 := rfl
theorem R_look5 (W a0 : D) (a3 a4 a5 a6 a7 a8 a9 a10 a13 a14 : Option D) : look (R W a0 a3 a4 a5 a6 a7 a8 a9 a10 a13 a14) 5 = a5 := rfl
theorem R_look6 (W a0 : D) (a3 a4 a5 a6 a7 a8 a9 a10 a13 a14 : Option D) : look (R W a0 a3 a4 a5 a6 a7 a8 a9 a10 a13 a14) 6 = a6 := rfl
theorem R_look7 (W a0 : D) (a3 a4 a5 a6 a7 a8 a9 a10 a13 a14 : Option D) : look (R W a0 a3 a4 a5 a6 a7 a8 a9 a10 a13 a14) 7 = a7 := rfl
theorem R_look8 (W a0 : D) (a3 a4 a5 a6 a7 a8 a9 a10 a13 a14 : Option D) : look (R W a0 a3 a4 a5 a6 a7 a8 a9 a10 a13 a14) 8 = a8 := rfl
theorem R_look9 (W a0 : D) (a3 a4 a5 a6 a7 a8 a9 a10 a13 a14 : Option D) : look (R W a0 a3 a4 a5 a6 a7 a8 a9 a10 a13 a14) 9 = a9 := rfl
theorem R_look10 (W a0 : D) (a3 a4 a5 a6 a7 a8 a9 a10 a13 a14 : Option D) : look (R W a0 a3 a4 a5 a6 a7 a8 a9 a10 a13 a14) 10 = a10 := rfl
theorem R_look11 (W a0 : D) (a3 a4 a5 a6 a7 a8 a9 a10 a13 a14 : Option D) : look (R W a0 a3 a4 a5 a6 a7 a8 a9 a10 a13 a14) 11 = none := rfl
theorem R_look12 (W a0 : D) (a3 a4 a5 a6 a7 a8 a9 a10 a13 a14 : Option D) : look (R W a0 a3 a4 a5 a6 a7 a8 a9 a10 a13 a14) 12 = none := rfl
theorem R_look13 (W a0 : D) (a3 a4 a5 a6 a7 a8 a9 a10 a13 a14 : Option D) : look (R W a0 a3 a4 a5 a6 a7 a8 a9 a10 a13 a14) 13 = a13 := rfl
theorem R_look14 (W a0 : D) (a3 a4 a5 a6 a7 a8 a9 a10 a13 a14 : Option D) : look (R W a0 a3 a4 a5 a6 a7 a8 a9 a10 a13 a14) 14 = a14 := rfl
theorem R_set3 (W a0 : D) (a3 a4 a5 a6 a7 a8 a9 a10 a13 a14 : Option D) (x : Option D) : (R W a0 a3 a4 a5 a6 a7 a8 a9 a10 a13 a14).set 3 x = R W a0 x a4 a5 a6 a7 a8 a9 a10 a13 a14 := rfl
theorem R_set4 (W a0 : D) (a3 a4 a5 a6 a7 a8 a9 a10 a13 a14 : Option D) (x : Option D) : (R W a0 a3 a4 a5 a6 a7 a8 a9 a10 a13 a14).set 4 x = R W a0 a3 x a5 a6 a7 a8 a9 a10 a13 a14 := rfl
theorem R_set5 (W a0 : D) (a3 a4 a5 a6 a7 a8 a9 a10 a13 a14 : Option D) (x : Option D) : (R W a0 a3 a4 a5 a6 a7 a8 a9 a10 a13 a14).set 5 x = R W a0 a3 a4 x a6 a7 a8 a9 a10 a13 a14 := rfl
theorem R_set6 (W a0 : D) (a3 a4 a5 a6 a7 a8 a9 a10 a13 a14 : Option D) (x : Option D) : (R W a0 a3 a4 a5 a6 a7 a8 a9 a10 a13 a14).set 6 x = R W a0 a3 a4 a5 x a7 a8 a9 a10 a13 a14 := rfl
theorem R_set7 (W a0 : D) (a3 a4 a5 a6 a7 a8 a9 a10 a13 a14 : Option D) (x : Option D) : (R W a0 a3 a4 a5 a6 a7 a8 a9 a10 a13 a14).set 7 x = R W a0 a3 a4 a5 a6 x a8 a9 a10 a13 a14 := rfl
theorem R_set8 (W a0 : D) (a3 a4 a5 a6 a7 a8 a9 a10 a13 a14 : Option D) (x : Option D) : (R W a0 a3 a4 a5 a6 a7 a8 a9 a10 a13 a14).set 8 x = R W a0 a3 a4 a5 a6 a7 x a9 a10 a13 a14 := rfl
theorem R_set9 (W a0 : D) (a3 a4 a5 a6 a7 a8 a9 a10 a13 a14 : Option D) (x : Option D) : (R W a0 a3 a4 a5 a6 a7 a8 a9 a10 a13 a14).set 9 x = R W a0 a3 a4 a5 a6 a7 a8 x a10 a13 a14 := rfl
theorem R_set10 (W a0 : D) (a3 a4 a5 a6 a7 a8 a9 a10 a13 a14 : Option D) (x : Option D) : (R W a0 a3 a4 a5 a6 a7 a8 a9 a10 a13 a14).set 10 x = R W a0 a3 a4 a5 a6 a7 a8 a9 x a13 a14 := rfl
theorem R_set13 (W a0 : D) (a3 a4 a5 a6 a7 a8 a9 a10 a13 a14 : Option D) (x : Option D) : (R W a0 a3 a4 a5 a6 a7 a8 a9 a10 a13 a14).set 13 x = R W a0 a3 a4 a5 a6 a7 a8 a9 a10 x a14 := rfl
theorem R_set14 (W a0 : D) (a3 a4 a5 a6 a7 a8 a9 a10 a13 a14 : Option D) (x : Option D) : (R W a0 a3 a4 a5 a6 a7 a8 a9 a10 a13 a14).set 14 x = R W a0 a3 a4 a5 a6 a7 a8 a9 a10 a13 x := rfl

noncomputable def wds (ws : List (List Nat)) : D := .list (ws.map wd)
noncomputable def wat (ws : List (List Nat)) (p : Nat) : List Nat := ws.getD p []
noncomputable def dst (ws : List (List Nat)) (p q : Nat) : Int := P (wat ws p) (wat ws q)
theorem wat_mem {ws : List (List Nat)} (h : ∀ w ∈ ws, w ∈ W40) (p : Nat) : wat ws p ∈ W40 := by
  unfold wat
  rw [List.getD_eq_getElem?_getD]
  cases e : ws[p]? with
  | none => exact .head _
  | some w => exact h w (List.mem_of_getElem? e)
theorem dst_met {ws : List (List Nat)} (h : ∀ w ∈ ws, w ∈ W40) : Met (dst ws) where
  sym p q := P_sym (wat_mem h q) (wat_mem h p)
  zero p := P_diag (wat_mem h p)
  tri p q r := P_tri (wat_mem h p) (wat_mem h q) (wat_mem h r)
  nonneg p q := P_nonneg (wat_mem h p) (wat_mem h q)
  le6 p q := P_le (wat_mem h p) (wat_mem h q)
theorem sub_wds {ws : List (List Nat)} {p : Nat} (h : p < ws.length) (hn : ws.length ≤ 6) : subD (wds ws) (.int (p : Int)) = some (wd (wat ws p)) := by
  refine sub_list ?_ (by rw [List.length_map]; (first | lia | omega))
  unfold wat
  rw [List.getElem?_map, List.getD_eq_getElem?_getD, List.getElem?_eq_getElem h]; rfl
noncomputable def prD (x : Int) (c : Nat) : D := .tup [.int x, .int (c : Int)]
noncomputable def nr (n : Nat) (lo : Nat → Int) (wh : Nat → Nat) : D := .list ((List.range n).map fun p => prD (lo p) (wh p))
theorem nr_sub {n : Nat} {lo : Nat → Int} {wh : Nat → Nat} {p : Nat} (h : p < n) (hn : n ≤ 6) : subD (nr n lo wh) (.int (p : Int)) = some (prD (lo p) (wh p)) :=
  sub_list (by rw [List.getElem?_map, List.getElem?_range h]; rfl) (by simp; (first | lia | omega))
theorem nr_congr {n : Nat} {lo lo' : Nat → Int} {wh wh' : Nat → Nat} (h : ∀ p, p < n → lo p = lo' p ∧ wh p = wh' p) : nr n lo wh = nr n lo' wh' := by
  unfold nr
  rw [List.map_congr_left fun p hp => by rw [(h p (List.mem_range.mp hp)).1, (h p (List.mem_range.mp hp)).2]]
theorem nr_store {n : Nat} {lo : Nat → Int} {wh : Nat → Nat} {p : Nat} {x : Int} {c : Nat} (h : p < n) (hn : n ≤ 6) : storeD (nr n lo wh) (.int (p : Int)) (prD x c) = some (nr n (upd lo p x) (upd wh p c)) := by
  show (if 0 ≤ (p : Int) ∧ (p : Int) < ((List.range n).map fun p => prD (lo p) (wh p)).length ∧ ((List.range n).map fun p => prD (lo p) (wh p)).length ≤ 1000 then _ else _) = _
  rw [if_pos (by rw [List.length_map, List.length_range]; (first | lia | omega)), Int.toNat_natCast]
  unfold nr
  rw [Option.some.injEq, D.list.injEq]
  refine List.ext_getElem? fun i => ?_
  rw [List.getElem?_set, List.getElem?_map, List.getElem?_map, List.length_map, List.length_range]
  by_cases e : p = i
  · subst e
    rw [if_pos rfl, if_pos h, List.getElem?_range h]
    simp only [Option.map_some, upd_self]
  · rw [if_neg e]
    rcases Nat.lt_or_ge i n with q | q
    · rw [List.getElem?_range q]
      simp only [Option.map_some]
      rw [upd_ne lo x (fun q => e q.symm), upd_ne wh c (fun q => e q.symm)]
    · rw [List.getElem?_eq_none (by simpa using q)]
      rfl
noncomputable def bkG (E : Nat → List Nat) (lo : Nat → Int) (wh : Nat → Nat) : Nat → D := fun c => ent (E c) lo fun p => decide (wh p = c)
noncomputable def bk (cs : List Nat) (E : Nat → List Nat) (lo : Nat → Int) (wh : Nat → Nat) : D := .dict (dk cs (bkG E lo wh))

/-- what the calls of _law_spread hand back -/
structure Sp (Φ Ψ : Nat → List D → Option D) : Prop where
  lev : ∀ (a b : List Nat) (mc : Int), a ∈ W40 → b ∈ W40 → Φ 8 [wd a, wd b, .int mc] = some (.int (levN a b mc))
  gain : ∀ (E : List Nat) (lo lo' : Nat → Int) (on on' : Nat → Bool) (p : Nat) (x : Int), E.length ≤ 1000 → E.Nodup → p ∉ E → on' p = true → lo' p = x → (∀ q ∈ E, on' q = on q ∧ (on q = true → lo' q = lo q)) →
    Φ 4 [ent E lo on, src 1 1 x (x * x) p 1] = some (ent (E ++ [p]) lo' on')
  loss : ∀ (E : List Nat) (lo lo' : Nat → Int) (on on' : Nat → Bool) (p : Nat) (x : Int), E.length ≤ 1000 → E.Nodup → p ∈ E → on p = true → lo p = x → on' p = false → (∀ q ∈ E, q ≠ p → on' q = on q ∧ (on q = true → lo' q = lo q)) →
    Φ 4 [ent E lo on, src (-1) 0 (-x) (-x * x) p (-1)] = some (ent E lo' on')
  heap : ∀ (H : List Int), H.length ≤ 6 → Ψ 1 [hp H] = some (hp (heapL H))
  rep : ∀ (H : List Int) (x : Int), 0 < H.length → H.length ≤ 6 → Ψ 0 [hp H, item x] = some (hp (upF (H.set 0 x) 0))

section
variable (Φ Ψ : Nat → List D → Option D)
noncomputable def moveIn : List S := [.setAt 3 (.var 6) (.tup (.cons (.var 14) (.cons (.var 9) (.nil)))),
           .setAt 4 (.var 13) (.call 4 (.cons (.sub (.bor 4) (.var 13)) (.cons (.tup (.cons (.neg (.int 1)) (.cons (.int 0) (.cons (.neg (.var 8)) (.cons (.bin .mul (.neg (.var 8)) (.var 8)) (.cons (.new (.dict1 (.var 6) (.neg (.int 1)))) (.nil))))))) (.nil)))),
           .setAt 4 (.var 9) (.call 4 (.cons (.sub (.bor 4) (.var 9)) (.cons (.tup (.cons (.int 1) (.cons (.int 1) (.cons (.var 14) (.cons (.bin .mul (.var 14) (.var 14)) (.cons (.new (.dict1 (.var 6) (.int 1))) (.nil))))))) (.nil))))]
noncomputable def moveBody : List S := [.unpack [8, 13] (.sub (.bor 3) (.var 6)),
       .ite (.cmp .lt (.sub (.var 10) (.var 13)) (.bin .mul (.int 2) (.var 8)))
        [.assign 14 (.call 8 (.cons (.sub (.var 0) (.var 6)) (.cons (.sub (.var 0) (.var 9)) (.cons (.bin .sub (.var 8) (.int 1)) (.nil))))),
         .ite (.cmp .lt (.var 14) (.var 8)) moveIn []]
        []]
theorem src_run {a b c e f g h i j : X} {ρ : Rho} {x y z t v : Int} {p : Nat} (ha : ev Φ a ρ = some (.int x)) (hb : ev Φ b ρ = some (.int y)) (hc : ev Φ c ρ = some (.int z)) (he : ev Φ e ρ = some (.int t)) (hg : ev Φ g ρ = some (.int (p : Int))) (hv : ev Φ h ρ = some (.int v)) :
    ev Φ (.tup (.cons a (.cons b (.cons c (.cons e (.cons (.new (.dict1 g h)) (.nil))))))) ρ = some (src x y z t p v) := by
  simp only [ev, evs, evF, ha, hb, hc, he, hg, hv, Option.bind_some, Option.map_some, keyOf]
  rfl
/-- the three stores of a word that changes hands -/
theorem move_in (Z : Sp Φ Ψ) {W a0 : D} {n : Nat} {cs : List Nat} {E E' : Nat → List Nat} {lo lo' : Nat → Int} {wh wh' : Nat → Nat} {k h f : Nat} {x t : Int} (hn : n ≤ 6) (hk : k < n) (hcs : cs.length ≤ 6) (hh : h ∈ cs) (hf : f ∈ cs) (hfh : f ≠ h)
    (hx : 0 ≤ x ∧ x ≤ 6) (ht : 0 ≤ t ∧ t ≤ 6) (hlo : lo k = x) (hwh : wh k = h) (hEl : ∀ c ∈ cs, (E c).length ≤ 6 ∧ (E c).Nodup) (hkh : k ∈ E h) (hkf : k ∉ E f)
    (hlo' : lo' = upd lo k t) (hwh' : wh' = upd wh k f) (hE' : E' = upd E f (E f ++ [k])) (a5 a7 a10 : Option D) :
    exs Φ Ψ moveIn (R W a0 (some (nr n lo wh)) (some (bk cs E lo wh)) a5 (some (.int (k : Int))) a7 (some (.int x)) (some (.int (f : Int))) a10 (some (.int (h : Int))) (some (.int t))) =
      some (.next, R W a0 (some (nr n lo' wh')) (some (bk cs E' lo' wh')) a5 (some (.int (k : Int))) a7 (some (.int x)) (some (.int (f : Int))) a10 (some (.int (h : Int))) (some (.int t))) := by
  have hst : storeD (nr n lo wh) (.int (k : Int)) (.tup [.int t, .int (f : Int)]) = some (nr n lo' wh') := by rw [hlo', hwh']; exact nr_store hk hn
  have e1 : bkG E lo wh h = ent (E h) lo fun p => decide (wh p = h) := rfl
  have hl := Z.loss (E h) lo lo' (fun p => decide (wh p = h)) (fun p => decide (wh' p = h)) k x (by have := (hEl h hh).1; (first | lia | omega)) (hEl h hh).2 hkh (by simp [hwh]) hlo (by rw [hwh', upd_self]; simpa using hfh) (fun q _ e => by rw [hwh', hlo', upd_ne _ _ e, upd_ne _ _ e]; exact ⟨rfl, fun _ => rfl⟩)
  have hg := Z.gain (E f) lo lo' (fun p => decide (wh p = f)) (fun p => decide (wh' p = f)) k t (by have := (hEl f hf).1; (first | lia | omega)) (hEl f hf).2 hkf (by rw [hwh', upd_self]; simp) (by rw [hlo', upd_self]) (fun q hq => by
    have e : q ≠ k := fun e => hkf (e ▸ hq)
    rw [hwh', hlo', upd_ne _ _ e, upd_ne _ _ e]; exact ⟨rfl, fun _ => rfl⟩)
  have b1 : subD (bk cs E lo wh) (.int (h : Int)) = some (ent (E h) lo fun p => decide (wh p = h)) := dGet_dk hh
  have b2 : storeD (bk cs E lo wh) (.int (h : Int)) (ent (E h) lo' fun p => decide (wh' p = h)) = some (.dict (dk cs (upd (bkG E lo wh) h (ent (E h) lo' fun p => decide (wh' p = h))))) := by
    unfold bk; rw [store_dk (by (first | lia | omega)), dSet_mem _ _ hh]
  have b3 : subD (.dict (dk cs (upd (bkG E lo wh) h (ent (E h) lo' fun p => decide (wh' p = h))))) (.int (f : Int)) = some (ent (E f) lo fun p => decide (wh p = f)) := (dGet_dk hf).trans (by rw [upd_ne _ _ hfh]; rfl)
  have b4 : storeD (.dict (dk cs (upd (bkG E lo wh) h (ent (E h) lo' fun p => decide (wh' p = h))))) (.int (f : Int)) (ent (E f ++ [k]) lo' fun p => decide (wh' p = f)) = some (bk cs E' lo' wh') := by
    rw [store_dk (by (first | lia | omega)), dSet_mem _ _ hf]
    unfold bk
    rw [dk_congr (g' := bkG E' lo' wh') fun c hc => ?_]
    unfold bkG
    by_cases q : c = f
    · subst q; rw [upd_self, hE', upd_self]
    · rw [upd_ne _ _ q, hE', upd_ne _ _ q]
      by_cases q2 : c = h
      · subst q2; rw [upd_self]
      · rw [upd_ne _ _ q2]
        refine ent_congr fun p _ => ?_
        by_cases q3 : p = k
        · subst q3
          rw [hwh', upd_self, hwh, decide_eq_false (fun e => q2 e.symm), decide_eq_false (fun e => q e.symm)]
          exact ⟨rfl, fun e => by cases e⟩
        · rw [hwh', hlo', upd_ne _ _ q3, upd_ne _ _ q3]; exact ⟨rfl, fun _ => rfl⟩
  have hm1 : binop .mul (.int (-x)) (.int x) = some (.int (-x * x)) := bi_mul (by rw [small_of (by (first | lia | omega)) (by (first | lia | omega)), small_of (by (first | lia | omega)) (by (first | lia | omega))]; rfl)
  have hm2 : binop .mul (.int t) (.int t) = some (.int (t * t)) := bi_mul (by rw [small_of (by (first | lia | omega)) (by (first | lia | omega))]; rfl)
  unfold moveIn
  rw [exs, ex]
  have t1 : ev Φ (.tup (.cons (.var 14) (.cons (.var 9) (.nil)))) (R W a0 (some (nr n lo wh)) (some (bk cs E lo wh)) a5 (some (.int (k : Int))) a7 (some (.int x)) (some (.int (f : Int))) a10 (some (.int (h : Int))) (some (.int t))) = some (.tup [.int t, .int (f : Int)]) := by
    simp only [ev, evs, R_look0, R_look1, R_look2, R_look3, R_look4, R_look5, R_look6, R_look7, R_look8, R_look9, R_look10, R_look11, R_look12, R_look13, R_look14, Option.bind_some, Option.map_some]; rfl
  rw [t1]
  simp only [ev, R_look0, R_look1, R_look2, R_look3, R_look4, R_look5, R_look6, R_look7, R_look8, R_look9, R_look10, R_look11, R_look12, R_look13, R_look14, Option.bind_some, hst, Option.map_some, R_set3, R_set4, R_set5, R_set6, R_set7, R_set8, R_set9, R_set10, R_set13, R_set14]
  rw [exs, ex]
  have t2 : ev Φ (.tup (.cons (.neg (.int 1)) (.cons (.int 0) (.cons (.neg (.var 8)) (.cons (.bin .mul (.neg (.var 8)) (.var 8)) (.cons (.new (.dict1 (.var 6) (.neg (.int 1)))) (.nil))))))) (R W a0 (some (nr n lo' wh')) (some (bk cs E lo wh)) a5 (some (.int (k : Int))) a7 (some (.int x)) (some (.int (f : Int))) a10 (some (.int (h : Int))) (some (.int t))) = some (src (-1) 0 (-x) (-x * x) k (-1)) := by
    refine src_run Φ (f := .int 0) (i := .int 0) (j := .int 0) ?_ ?_ ?_ ?_ ?_ ?_ <;> simp only [ev, R_look0, R_look1, R_look2, R_look3, R_look4, R_look5, R_look6, R_look7, R_look8, R_look9, R_look10, R_look11, R_look12, R_look13, R_look14, Option.bind_some, negD, hm1]
  have t3 : ev Φ (.call 4 (.cons (.sub (.bor 4) (.var 13)) (.cons (.tup (.cons (.neg (.int 1)) (.cons (.int 0) (.cons (.neg (.var 8)) (.cons (.bin .mul (.neg (.var 8)) (.var 8)) (.cons (.new (.dict1 (.var 6) (.neg (.int 1)))) (.nil))))))) (.nil)))) (R W a0 (some (nr n lo' wh')) (some (bk cs E lo wh)) a5 (some (.int (k : Int))) a7 (some (.int x)) (some (.int (f : Int))) a10 (some (.int (h : Int))) (some (.int t))) = some (ent (E h) lo' fun p => decide (wh' p = h)) := by
    rw [ev, evs, evs, evs, t2]
    simp only [ev, R_look0, R_look1, R_look2, R_look3, R_look4, R_look5, R_look6, R_look7, R_look8, R_look9, R_look10, R_look11, R_look12, R_look13, R_look14, Option.bind_some, Option.map_some, b1, hl]
  rw [t3]
  simp only [ev, R_look0, R_look1, R_look2, R_look3, R_look4, R_look5, R_look6, R_look7, R_look8, R_look9, R_look10, R_look11, R_look12, R_look13, R_look14, Option.bind_some, b2, Option.map_some, R_set3, R_set4, R_set5, R_set6, R_set7, R_set8, R_set9, R_set10, R_set13, R_set14]
  rw [exs, ex]
  have t4 : ev Φ (.tup (.cons (.int 1) (.cons (.int 1) (.cons (.var 14) (.cons (.bin .mul (.var 14) (.var 14)) (.cons (.new (.dict1 (.var 6) (.int 1))) (.nil))))))) (R W a0 (some (nr n lo' wh')) (some (.dict (dk cs (upd (bkG E lo wh) h (ent (E h) lo' fun p => decide (wh' p = h)))))) a5 (some (.int (k : Int))) a7 (some (.int x)) (some (.int (f : Int))) a10 (some (.int (h : Int))) (some (.int t))) = some (src 1 1 t (t * t) k 1) := by
    refine src_run Φ (f := .int 0) (i := .int 0) (j := .int 0) ?_ ?_ ?_ ?_ ?_ ?_ <;> simp only [ev, R_look0, R_look1, R_look2, R_look3, R_look4, R_look5, R_look6, R_look7, R_look8, R_look9, R_look10, R_look11, R_look12, R_look13, R_look14, Option.bind_some, hm2]
  have t5 : ev Φ (.call 4 (.cons (.sub (.bor 4) (.var 9)) (.cons (.tup (.cons (.int 1) (.cons (.int 1) (.cons (.var 14) (.cons (.bin .mul (.var 14) (.var 14)) (.cons (.new (.dict1 (.var 6) (.int 1))) (.nil))))))) (.nil)))) (R W a0 (some (nr n lo' wh')) (some (.dict (dk cs (upd (bkG E lo wh) h (ent (E h) lo' fun p => decide (wh' p = h)))))) a5 (some (.int (k : Int))) a7 (some (.int x)) (some (.int (f : Int))) a10 (some (.int (h : Int))) (some (.int t))) = some (ent (E f ++ [k]) lo' fun p => decide (wh' p = f)) := by
    rw [ev, evs, evs, evs, t4]
    simp only [ev, R_look0, R_look1, R_look2, R_look3, R_look4, R_look5, R_look6, R_look7, R_look8, R_look9, R_look10, R_look11, R_look12, R_look13, R_look14, Option.bind_some, Option.map_some, b3, hg]
  rw [t5]
  simp only [ev, R_look0, R_look1, R_look2, R_look3, R_look4, R_look5, R_look6, R_look7, R_look8, R_look9, R_look10, R_look11, R_look12, R_look13, R_look14, Option.bind_some, b4, Option.map_some, R_set3, R_set4, R_set5, R_set6, R_set7, R_set8, R_set9, R_set10, R_set13, R_set14]
  rw [exs]
end
end Mine
end
section
open PySem
set_option maxRecDepth 100000
set_option linter.unusedSimpArgs false
set_option linter.unusedVariables false
namespace Mine
theorem num2 {a b : Int} (h1 : -100 ≤ a ∧ a ≤ 100) (h2 : -100 ≤ b ∧ b ≤ 100) : binop .mul (.int a) (.int b) = some (.int (a * b)) :=
  bi_mul (by rw [small_of (by (first | lia | omega)) (by (first | lia | omega)), small_of (by (first | lia | omega)) (by (first | lia | omega))]; rfl)
section
variable (d : Nat → Nat → Int) (cs : List Nat) (f : Nat)
noncomputable def loK (k p : Nat) : Int := if p < k then lot d (cs ++ [f]) p else lot d cs p
noncomputable def whK (k p : Nat) : Nat := if p < k then who d (cs ++ [f]) p else who d cs p
theorem loK_self (k : Nat) : loK d cs f k k = lot d cs k := if_neg (Nat.lt_irrefl k)
theorem whK_self (k : Nat) : whK d cs f k k = who d cs k := if_neg (Nat.lt_irrefl k)
variable {d cs f}
theorem snoc_go (hc : cs ≠ []) {k : Nat} (h : d k f < lot d cs k) : lot d (cs ++ [f]) k = d k f ∧ who d (cs ++ [f]) k = f := by
  unfold lot who at *; rw [lw_snoc d hc]; unfold lot; rw [if_pos h]; exact ⟨rfl, rfl⟩
theorem snoc_stay (hc : cs ≠ []) {k : Nat} (h : ¬ d k f < lot d cs k) : lot d (cs ++ [f]) k = lot d cs k ∧ who d (cs ++ [f]) k = who d cs k := by
  unfold lot who at *; rw [lw_snoc d hc]; unfold lot; rw [if_neg h]; exact ⟨rfl, rfl⟩
theorem split_succ {α : Type} (a b : Nat → α) (k : Nat) : (fun p => if p < k + 1 then a p else b p) = upd (fun p => if p < k then a p else b p) k (a k) := by
  funext p
  unfold upd
  by_cases h : p = k
  · subst h; rw [if_pos rfl, if_pos (Nat.lt_succ_self _)]
  · rw [if_neg h]
    show _ = (if p < k then a p else b p)
    by_cases q : p < k
    · rw [if_pos q, if_pos (by (first | lia | omega))]
    · rw [if_neg q, if_neg (by (first | lia | omega))]
theorem upd_same {α : Type} (g : Nat → α) (k : Nat) : upd g k (g k) = g := by
  funext p; unfold upd; by_cases h : p = k
  · rw [if_pos h, h]
  · rw [if_neg h]
theorem loK_succ (k : Nat) : loK d cs f (k + 1) = upd (loK d cs f k) k (lot d (cs ++ [f]) k) := split_succ _ _ k
theorem whK_succ (k : Nat) : whK d cs f (k + 1) = upd (whK d cs f k) k (who d (cs ++ [f]) k) := split_succ _ _ k
theorem loK_stay (hc : cs ≠ []) {k : Nat} (h : ¬ d k f < lot d cs k) : loK d cs f (k + 1) = loK d cs f k := by
  rw [loK_succ, (snoc_stay hc h).1, ← loK_self d cs f k, upd_same]
theorem whK_stay (hc : cs ≠ []) {k : Nat} (h : ¬ d k f < lot d cs k) : whK d cs f (k + 1) = whK d cs f k := by
  rw [whK_succ, (snoc_stay hc h).2, ← whK_self d cs f k, upd_same]
theorem ever_succ (hc : cs ≠ []) (k : Nat) : everOf d (k + 1) cs f = if d k f < lot d cs k then everOf d k cs f ++ [k] else everOf d k cs f := by
  have hk : (cs.all fun c' => decide (d k f < d k c')) = decide (d k f < lot d cs k) := by
    rw [Bool.eq_iff_iff, List.all_eq_true]
    simp only [decide_eq_true_eq]
    have := ever_lot (d := d) (n := k + 1) hc (c := f) (p := k)
    rw [ever_mem] at this
    constructor
    · intro h; exact (this.mp ⟨Nat.lt_succ_self _, h⟩).2
    · intro h; exact (this.mpr ⟨Nat.lt_succ_self _, h⟩).2
  unfold everOf
  rw [List.range_succ, List.filter_append, List.filter_cons, hk]
  by_cases h : d k f < lot d cs k
  · rw [if_pos h, if_pos (decide_eq_true h)]; rfl
  · rw [if_neg h, if_neg (by simpa using h)]; simp
theorem upd_upd {α : Type} (g : Nat → α) (p : Nat) (x y : α) : upd (upd g p x) p y = upd g p y := by
  funext q; unfold upd; by_cases h : q = p <;> simp [h]
end

section
variable (Φ Ψ : Nat → List D → Option D)
noncomputable def gapD (ws : List (List Nat)) (cs : List Nat) (f : Nat) : D := .dict (dk cs fun c => .int (dst ws c f))
theorem move_turn (Z : Sp Φ Ψ) {ws : List (List Nat)} (hw : ∀ w ∈ ws, w ∈ W40) (h6 : ws.length ≤ 6) {cs : List Nat} (hc : cs ≠ []) (hcl : cs.length ≤ 5) (hcn : ∀ c ∈ cs, c < ws.length) {f : Nat} (hfn : f < ws.length) (hf : f ∉ cs)
    {E : Nat → List Nat} (hE : EverOk (dst ws) ws.length cs E) {k : Nat} (hk : k < ws.length) (a0 : D) (a5 a7 a8 a13 a14 : Option D) :
    ∃ a8' a13' a14', exs Φ Ψ moveBody (R (wds ws) a0 (some (nr ws.length (loK (dst ws) cs f k) (whK (dst ws) cs f k))) (some (bk (cs ++ [f]) (upd E f (everOf (dst ws) k cs f)) (loK (dst ws) cs f k) (whK (dst ws) cs f k))) a5 (some (.int (k : Int))) a7 a8 (some (.int (f : Int))) (some (gapD ws cs f)) a13 a14) =
      some (.next, R (wds ws) a0 (some (nr ws.length (loK (dst ws) cs f (k + 1)) (whK (dst ws) cs f (k + 1)))) (some (bk (cs ++ [f]) (upd E f (everOf (dst ws) (k + 1) cs f)) (loK (dst ws) cs f (k + 1)) (whK (dst ws) cs f (k + 1)))) a5 (some (.int (k : Int))) a7 a8' (some (.int (f : Int))) (some (gapD ws cs f)) a13' a14') := by
  have M := dst_met hw
  obtain ⟨x, hx⟩ : ∃ x, x = lot (dst ws) cs k := ⟨_, rfl⟩
  obtain ⟨h, hh⟩ : ∃ h, h = who (dst ws) cs k := ⟨_, rfl⟩
  have hhc : h ∈ cs := by rw [hh]; exact who_mem _ hc k
  have hxd : x = dst ws k h := by rw [hx, hh]; exact who_d _ hc k
  have hx6 : 0 ≤ x ∧ x ≤ 6 := by rw [hxd]; exact ⟨M.nonneg _ _, M.le6 _ _⟩
  have hlo : loK (dst ws) cs f k k = x := by rw [loK_self, hx]
  have hwh : whK (dst ws) cs f k k = h := by rw [whK_self, hh]
  have s1 : subD (nr ws.length (loK (dst ws) cs f k) (whK (dst ws) cs f k)) (.int (k : Int)) = some (.tup [.int x, .int (h : Int)]) := by rw [nr_sub hk h6, hlo, hwh]; rfl
  have s2 : subD (gapD ws cs f) (.int (h : Int)) = some (.int (dst ws h f)) := dGet_dk hhc
  have s3 : binop .mul (.int 2) (.int x) = some (.int (2 * x)) := num2 (by (first | lia | omega)) (by (first | lia | omega))
  have s4 := sub_wds hk h6
  have s5 := sub_wds hfn h6
  have s6 := Z.lev (wat ws k) (wat ws f) (x - 1) (wat_mem hw k) (wat_mem hw f)
  unfold moveBody
  rw [exs, ex]
  simp only [ev, R_look0, R_look1, R_look2, R_look3, R_look4, R_look5, R_look6, R_look7, R_look8, R_look9, R_look10, R_look11, R_look12, R_look13, R_look14, Option.bind_some, s1, setAll, Option.map_some, R_set3, R_set4, R_set5, R_set6, R_set7, R_set8, R_set9, R_set10, R_set13, R_set14]
  rw [exs, ex]
  simp only [evT, ev, R_look0, R_look1, R_look2, R_look3, R_look4, R_look5, R_look6, R_look7, R_look8, R_look9, R_look10, R_look11, R_look12, R_look13, R_look14, Option.bind_some, s2, s3, lt_ii]
  have stay : ¬ dst ws k f < x → loK (dst ws) cs f (k + 1) = loK (dst ws) cs f k ∧ whK (dst ws) cs f (k + 1) = whK (dst ws) cs f k ∧ everOf (dst ws) (k + 1) cs f = everOf (dst ws) k cs f := fun q => by
    rw [hx] at q
    exact ⟨loK_stay hc q, whK_stay hc q, by rw [ever_succ hc, if_neg q]⟩
  by_cases q1 : dst ws h f < 2 * x
  · rw [decide_eq_true q1, if_pos rfl]
    have hx1 : 1 ≤ x := by have := M.nonneg h f; (first | lia | omega)
    have hb := lev_bound (wat_mem hw k) (wat_mem hw f) hx1 hx6.2
    rw [exs, ex]
    simp only [ev, evs, R_look0, R_look1, R_look2, R_look3, R_look4, R_look5, R_look6, R_look7, R_look8, R_look9, R_look10, R_look11, R_look12, R_look13, R_look14, Option.bind_some, Option.map_some, s4, s5, bi_sub, s6, R_set3, R_set4, R_set5, R_set6, R_set7, R_set8, R_set9, R_set10, R_set13, R_set14]
    rw [exs, ex]
    simp only [evT, ev, R_look0, R_look1, R_look2, R_look3, R_look4, R_look5, R_look6, R_look7, R_look8, R_look9, R_look10, R_look11, R_look12, R_look13, R_look14, Option.bind_some, lt_ii]
    by_cases q2 : dst ws k f < x
    · have e : levN (wat ws k) (wat ws f) (x - 1) = dst ws k f := hb.1 q2
      rw [e, decide_eq_true q2, if_pos rfl]
      have q2' : dst ws k f < lot (dst ws) cs k := by rw [← hx]; exact q2
      have hm := move_in Φ Ψ Z (W := wds ws) (a0 := a0) (n := ws.length) (cs := cs ++ [f]) (E := upd E f (everOf (dst ws) k cs f)) (E' := upd E f (everOf (dst ws) (k + 1) cs f)) (lo := loK (dst ws) cs f k) (lo' := loK (dst ws) cs f (k + 1)) (wh := whK (dst ws) cs f k) (wh' := whK (dst ws) cs f (k + 1)) (k := k) (h := h) (f := f) (x := x) (t := dst ws k f)
        h6 hk (by rw [List.length_append, List.length_singleton]; (first | lia | omega)) (List.mem_append_left _ hhc) (List.mem_append_right _ (.head _)) (fun e => hf (e ▸ hhc)) hx6 ⟨M.nonneg _ _, M.le6 _ _⟩ hlo hwh
        (fun c hcc => ?_) ?_ ?_ (by rw [loK_succ, (snoc_go hc q2').1]) (by rw [whK_succ, (snoc_go hc q2').2]) (by rw [upd_upd, upd_self, ever_succ hc, if_pos q2']) a5 a7 (some (gapD ws cs f))
      · rw [hm, Option.bind_some]
        dsimp only
        rw [exs, Option.bind_some]
        dsimp only
        rw [exs]
        exact ⟨_, _, _, rfl⟩
      · by_cases e : c = f
        · rw [e, upd_self]
          exact ⟨by have := ever_len (d := dst ws) (n := k) cs f; (first | lia | omega), ever_nodup _ _⟩
        · rw [upd_ne _ _ e]
          have hcc' : c ∈ cs := by
            rcases List.mem_append.mp hcc with m | m
            · exact m
            · exact absurd (List.mem_singleton.mp m) e
          obtain ⟨i, hi⟩ := List.getElem?_of_mem hcc'
          rw [hE i c hi]
          exact ⟨by have := ever_len (d := dst ws) (n := ws.length) (cs.take i) c; (first | lia | omega), ever_nodup _ _⟩
      · rw [upd_ne _ _ (p := f) (q := h) (fun e => hf (e ▸ hhc)), hh]
        exact ever_who hE hc hk
      · rw [upd_self]
        intro hm
        exact Nat.lt_irrefl k (ever_mem.mp hm).1
    · have e : x ≤ levN (wat ws k) (wat ws f) (x - 1) := hb.2 (by unfold dst at q2; (first | lia | omega))
      rw [decide_eq_false (by (first | lia | omega)), if_neg (by decide), exs, Option.bind_some]
      dsimp only
      rw [exs, Option.bind_some]
      dsimp only
      obtain ⟨e1, e2, e3⟩ := stay q2
      rw [exs, e1, e2, e3]
      exact ⟨_, _, _, rfl⟩
  · rw [decide_eq_false q1, if_neg (by decide), exs, Option.bind_some]
    dsimp only
    have q2 : ¬ dst ws k f < x := by
      have := M.tri h k f
      rw [M.sym h k, ← hxd] at this
      (first | lia | omega)
    obtain ⟨e1, e2, e3⟩ := stay q2
    rw [exs, e1, e2, e3]
    exact ⟨_, _, _, rfl⟩

theorem bk_congr {cs : List Nat} {E : Nat → List Nat} {lo lo' : Nat → Int} {wh wh' : Nat → Nat} (h : ∀ c ∈ cs, ∀ p ∈ E c, lo p = lo' p ∧ wh p = wh' p) : bk cs E lo wh = bk cs E lo' wh' := by
  unfold bk
  rw [dk_congr (g := bkG E lo wh) (g' := bkG E lo' wh') fun c hc => ent_congr fun p hp => ?_]
  rw [(h c hc p hp).2, (h c hc p hp).1]
  exact ⟨rfl, fun _ => rfl⟩
theorem ever_lt {d : Nat → Nat → Int} {n : Nat} {cs : List Nat} {E : Nat → List Nat} (hE : EverOk d n cs E) {c p : Nat} (hc : c ∈ cs) (hp : p ∈ E c) : p < n := by
  obtain ⟨i, hi⟩ := List.getElem?_of_mem hc
  rw [hE i c hi] at hp
  exact (ever_mem.mp hp).1
theorem move_loop (Z : Sp Φ Ψ) {ws : List (List Nat)} (hw : ∀ w ∈ ws, w ∈ W40) (h6 : ws.length ≤ 6) {cs : List Nat} (hc : cs ≠ []) (hcl : cs.length ≤ 5) (hcn : ∀ c ∈ cs, c < ws.length) {f : Nat} (hfn : f < ws.length) (hf : f ∉ cs)
    {E : Nat → List Nat} (hE : EverOk (dst ws) ws.length cs E) (a0 : D) (a5 a6 a7 a8 a13 a14 : Option D) :
    ∃ a6' a8' a13' a14', loopF (bind1 6) (exs Φ Ψ moveBody) (rangeD 0 ws.length) (R (wds ws) a0 (some (nr ws.length (lot (dst ws) cs) (who (dst ws) cs))) (some (.dict (dk (cs ++ [f]) (upd (bkG E (lot (dst ws) cs) (who (dst ws) cs)) f none5)))) a5 a6 a7 a8 (some (.int (f : Int))) (some (gapD ws cs f)) a13 a14) =
      some (.next, R (wds ws) a0 (some (nr ws.length (lot (dst ws) (cs ++ [f])) (who (dst ws) (cs ++ [f])))) (some (bk (cs ++ [f]) (upd E f (everOf (dst ws) ws.length cs f)) (lot (dst ws) (cs ++ [f])) (who (dst ws) (cs ++ [f])))) a5 a6' a7 a8' (some (.int (f : Int))) (some (gapD ws cs f)) a13' a14') := by
  have main := loop_all (bind := bind1 6) (body := exs Φ Ψ moveBody)
    (Inv := fun k ρ => ∃ a6 a8 a13 a14, ρ = R (wds ws) a0 (some (nr ws.length (loK (dst ws) cs f k) (whK (dst ws) cs f k))) (some (bk (cs ++ [f]) (upd E f (everOf (dst ws) k cs f)) (loK (dst ws) cs f k) (whK (dst ws) cs f k))) a5 a6 a7 a8 (some (.int (f : Int))) (some (gapD ws cs f)) a13 a14)
    (rangeD 0 ws.length) (fun k x ρ hd hI => ?_) (ρ := R (wds ws) a0 (some (nr ws.length (lot (dst ws) cs) (who (dst ws) cs))) (some (.dict (dk (cs ++ [f]) (upd (bkG E (lot (dst ws) cs) (who (dst ws) cs)) f none5)))) a5 a6 a7 a8 (some (.int (f : Int))) (some (gapD ws cs f)) a13 a14) ⟨a6, a8, a13, a14, ?_⟩
  · obtain ⟨ρ', h1, b6, b8, b13, b14, rfl⟩ := main
    rw [rangeD_length] at h1
    refine ⟨b6, b8, b13, b14, h1.trans ?_⟩
    have hE' := hE.snoc hf
    rw [nr_congr (lo := loK (dst ws) cs f ws.length) (wh := whK (dst ws) cs f ws.length) (lo' := lot (dst ws) (cs ++ [f])) (wh' := who (dst ws) (cs ++ [f])) fun p hp => ⟨if_pos hp, if_pos hp⟩,
      bk_congr (lo := loK (dst ws) cs f ws.length) (wh := whK (dst ws) cs f ws.length) (lo' := lot (dst ws) (cs ++ [f])) (wh' := who (dst ws) (cs ++ [f])) fun c hcc p hp => ⟨if_pos (ever_lt hE' hcc hp), if_pos (ever_lt hE' hcc hp)⟩]
  · obtain ⟨b6, b8, b13, b14, rfl⟩ := hI
    obtain ⟨hk, rfl⟩ := rangeD_get hd
    rw [Int.zero_add]
    obtain ⟨c8, c13, c14, ht⟩ := move_turn Φ Ψ Z hw h6 hc hcl hcn hfn hf hE hk a0 a5 a7 b8 b13 b14
    exact ⟨_, _, congrArg some (R_set6 ..), .inl ht, _, _, _, _, rfl⟩
  · have e1 : loK (dst ws) cs f 0 = lot (dst ws) cs := by funext p; exact if_neg (Nat.not_lt_zero p)
    have e2 : whK (dst ws) cs f 0 = who (dst ws) cs := by funext p; exact if_neg (Nat.not_lt_zero p)
    rw [e1, e2]
    unfold bk
    rw [dk_congr (g := upd (bkG E (lot (dst ws) cs) (who (dst ws) cs)) f none5) (g' := bkG (upd E f (everOf (dst ws) 0 cs f)) (lot (dst ws) cs) (who (dst ws) cs)) fun c hcc => ?_]
    unfold bkG
    by_cases e : c = f
    · rw [e, upd_self, upd_self]; rfl
    · rw [upd_ne _ _ e, upd_ne _ _ e]
end
end Mine
end
section
open PySem
set_option maxRecDepth 100000
set_option linter.unusedSimpArgs false
set_option linter.unusedVariables false
namespace Mine
noncomputable def key (p : Nat) (s : Int) : Int := (p : Int) - 8 * s
theorem item_key {p : Nat} (s : Int) (hp : p < 8) : item (key p s) = .tup [.int (-s), .int (p : Int)] := by
  unfold item key
  rw [show ((p : Int) - 8 * s) / 8 = -s from by (first | lia | omega), show ((p : Int) - 8 * s) % 8 = p from by (first | lia | omega)]
noncomputable def ind (x y : Int) : Int := if y = x then 1 else 0
theorem ind_nonneg (x : Int) : ∀ l : List Int, 0 ≤ tot (ind x) l
  | [] => Int.le_refl _
  | a :: r => by
    have := ind_nonneg x r
    unfold tot at this ⊢
    rw [List.map_cons, List.sum_cons]
    have : 0 ≤ ind x a := by unfold ind; split <;> (first | lia | omega)
    (first | lia | omega)
theorem ind_mem {x : Int} : ∀ {l : List Int}, 0 < tot (ind x) l ↔ x ∈ l
  | [] => by simp [tot]
  | a :: r => by
    have ih := ind_mem (x := x) (l := r)
    have h0 := ind_nonneg x r
    unfold tot at ih h0 ⊢
    rw [List.map_cons, List.sum_cons, List.mem_cons, ← ih]
    unfold ind at *
    by_cases h : a = x
    · rw [if_pos h]; constructor
      · intro _; exact .inl h.symm
      · intro _; (first | lia | omega)
    · rw [if_neg h]; constructor
      · intro q; exact .inr (by (first | lia | omega))
      · rintro (q | q)
        · exact absurd q.symm h
        · (first | lia | omega)
theorem tot_le {b : Int} : ∀ {l : List Int}, (∀ x ∈ l, x ≤ b) → tot id l ≤ b * l.length
  | [], _ => by simp [tot]
  | a :: r, h => by
    have ih := tot_le (b := b) (l := r) fun x hx => h x (.tail _ hx)
    have := h a (.head _)
    unfold tot at ih ⊢
    rw [List.map_cons, List.sum_cons, List.length_cons, Int.natCast_add, Int.mul_add]
    simp only [id] at *
    (first | lia | omega)
theorem le_tot {b : Int} : ∀ {l : List Int}, (∀ x ∈ l, b ≤ x) → b * l.length ≤ tot id l
  | [], _ => by simp [tot]
  | a :: r, h => by
    have ih := le_tot (b := b) (l := r) fun x hx => h x (.tail _ hx)
    have := h a (.head _)
    unfold tot at ih ⊢
    rw [List.map_cons, List.sum_cons, List.length_cons, Int.natCast_add, Int.mul_add]
    simp only [id] at *
    (first | lia | omega)

structure HI (n : Nat) (lo : Nat → Int) (H : List Int) : Prop where
  ord : above 0 H
  len : H.length = n
  mem : ∀ x ∈ H, ∃ (p : Nat) (s : Int), x = key p s ∧ p < n ∧ lo p ≤ s ∧ s ≤ 6
  all : ∀ p, p < n → ∃ x ∈ H, x % 8 = (p : Int)
theorem HI.mono {n : Nat} {lo lo' : Nat → Int} {H : List Int} (h : HI n lo H) (hl : ∀ p, p < n → lo' p ≤ lo p) : HI n lo' H :=
  ⟨h.ord, h.len, fun x hx => by obtain ⟨p, s, e1, e2, e3, e4⟩ := h.mem x hx; exact ⟨p, s, e1, e2, Int.le_trans (hl p e2) e3, e4⟩, h.all⟩
theorem getD_mem {H : List Int} {k : Nat} (h : k < H.length) : H.getD k 0 ∈ H := List.mem_of_getElem? (getD_get h)
theorem HI.top {n : Nat} {lo : Nat → Int} {H : List Int} (h : HI n lo H) (hn : 0 < n) : ∃ (p : Nat) (s : Int), H.getD 0 0 = key p s ∧ p < n ∧ lo p ≤ s ∧ s ≤ 6 :=
  h.mem _ (getD_mem (by rw [h.len]; exact hn))
theorem HI.least {n : Nat} {lo : Nat → Int} {H : List Int} (h : HI n lo H) {x : Int} (hx : x ∈ H) : H.getD 0 0 ≤ x := by
  obtain ⟨k, hk⟩ := List.getElem?_of_mem hx
  have hkl : k < H.length := by
    rcases Nat.lt_or_ge k H.length with q | q
    · exact q
    · rw [List.getElem?_eq_none q] at hk; cases hk
  have := above_min h.ord k k (Nat.le_refl _) hkl
  rw [getD_get hkl] at hk
  rw [← Option.some.inj hk]; exact this
theorem HI.pick {d : Nat → Nat → Int} {n : Nat} {cs H : List _} (h : HI n (lot d cs) H) (h6 : n ≤ 6) {p : Nat} (hp : p < n) (ht : H.getD 0 0 = key p (lot d cs p)) : p = Mine.pick d n cs ∧ lot d cs p = far d n cs := by
  have low : ∀ q, q < n → ∃ s, lot d cs q ≤ s ∧ key p (lot d cs p) ≤ key q s := fun q hq => by
    obtain ⟨x, hx, e⟩ := h.all q hq
    obtain ⟨q', s, e1, e2, e3, _⟩ := h.mem x hx
    have hl := h.least hx
    rw [ht] at hl
    have : q' = q := by rw [e1] at e; unfold key at e; (first | lia | omega)
    subst this
    exact ⟨s, e3, by rw [e1] at hl; exact hl⟩
  have hf : lot d cs p = far d n cs := by
    obtain ⟨_, a1, a2, _⟩ := pick_spec d n (cs := cs) (by (first | lia | omega))
    have h1 := far_ge d n (cs := cs) hp
    obtain ⟨s, b1, b2⟩ := low _ a1
    unfold key at b2
    (first | lia | omega)
  refine ⟨pick_uniq d n hp hf fun q hq e => ?_, hf⟩
  obtain ⟨s, b1, b2⟩ := low q hq
  unfold key at b2
  (first | lia | omega)

section
variable (Φ Ψ : Nat → List D → Option D)
noncomputable def cleanT : T := .cmp .ne (.neg (.sub (.sub (.bor 5) (.int 0)) (.int 0))) (.sub (.sub (.bor 3) (.sub (.sub (.bor 5) (.int 0)) (.int 1))) (.int 0))
noncomputable def cleanB : List S := [.callIO 0 5 (.cons (.tup (.cons (.neg (.sub (.sub (.bor 3) (.sub (.sub (.bor 5) (.int 0)) (.int 1))) (.int 0))) (.cons (.sub (.sub (.bor 5) (.int 0)) (.int 1)) (.nil)))) (.nil))]
theorem ne_ii (a b : Int) : cmpD .ne (.int a) (.int b) = some (!decide (a = b)) := rfl
theorem sub_pair0 (a b : D) : subD (.tup [a, b]) (.int 0) = some a := rfl
theorem sub_pair1 (a b : D) : subD (.tup [a, b]) (.int 1) = some b := rfl
theorem HI.sub0 {n : Nat} {lo : Nat → Int} {H : List Int} (h : HI n lo H) (hn : 0 < n) (h6 : n ≤ 6) {p : Nat} {s : Int} (hpn : p < n) (ht : H.getD 0 0 = key p s) : subD (hp H) (.int 0) = some (.tup [.int (-s), .int (p : Int)]) := by
  have := sub_hp (H := H) (k := 0) (by rw [h.len]; exact hn) (by rw [h.len]; exact h6)
  rw [ht, item_key s (by (first | lia | omega))] at this
  exact this
theorem clean_loop (Z : Sp Φ Ψ) {n : Nat} (hn : 0 < n) (h6 : n ≤ 6) {lo : Nat → Int} (wh : Nat → Nat) (hlo : ∀ p, p < n → 0 ≤ lo p) {H : List Int} (hH : HI n lo H) (W a0 : D) (a4 a6 a7 a8 a9 a10 a13 a14 : Option D) :
    ∃ H', loopW (evT Φ cleanT) (exs Φ Ψ cleanB) turns (R W a0 (some (nr n lo wh)) a4 (some (hp H)) a6 a7 a8 a9 a10 a13 a14) = some (.next, R W a0 (some (nr n lo wh)) a4 (some (hp H')) a6 a7 a8 a9 a10 a13 a14) ∧
      HI n lo H' ∧ ∃ p, p < n ∧ H'.getD 0 0 = key p (lo p) := by
  have main := while_rule (test := evT Φ cleanT) (body := exs Φ Ψ cleanB)
    (Inv := fun m ρ => ∃ H, HI n lo H ∧ 30 - tot id H ≤ 8 * (m : Int) + 7 ∧ ρ = R W a0 (some (nr n lo wh)) a4 (some (hp H)) a6 a7 a8 a9 a10 a13 a14)
    (Post := fun ρ => ∃ H, HI n lo H ∧ (∃ p, p < n ∧ H.getD 0 0 = key p (lo p)) ∧ ρ = R W a0 (some (nr n lo wh)) a4 (some (hp H)) a6 a7 a8 a9 a10 a13 a14)
    (fun m ρ hI => ?_) turns 39 (R W a0 (some (nr n lo wh)) a4 (some (hp H)) a6 a7 a8 a9 a10 a13 a14) (by decide) ⟨H, hH, ?_, rfl⟩
  · obtain ⟨ρ', h1, H', h2, h3, rfl⟩ := main
    exact ⟨H', h1, h2, h3⟩
  · obtain ⟨H, h, hm, rfl⟩ := hI
    obtain ⟨p, s, ht, hp0, hs, hs6⟩ := h.top hn
    have g0 := h.sub0 hn h6 hp0 ht
    have g1 := nr_sub (n := n) (lo := lo) (wh := wh) hp0 h6
    unfold prD at g1
    have hT : evT Φ cleanT (R W a0 (some (nr n lo wh)) a4 (some (Mine.hp H)) a6 a7 a8 a9 a10 a13 a14) = some (!decide (s = lo p)) := by
      unfold cleanT
      simp only [evT, ev, R_look0, R_look1, R_look2, R_look3, R_look4, R_look5, R_look6, R_look7, R_look8, R_look9, R_look10, R_look11, R_look12, R_look13, R_look14, Option.bind_some, g0, sub_pair0, sub_pair1, negD, g1, ne_ii, Int.neg_neg]
    by_cases e : s = lo p
    · exact .inl ⟨by rw [hT, decide_eq_true e]; rfl, H, h, ⟨p, hp0, by rw [ht, e]⟩, rfl⟩
    · have hL : 0 < H.length := by rw [h.len]; exact hn
      have hL6 : H.length ≤ 6 := by rw [h.len]; exact h6
      obtain ⟨r1, r2, r3⟩ := rep_ord hL6 hL h.ord (key p (lo p))
      generalize hH' : upF (H.set 0 (key p (lo p))) 0 = H' at r1 r2 r3
      have hin : ∀ x, x ∈ H' → x ∈ H ∨ x = key p (lo p) := fun x hx => by
        have a1 := r3 (ind x)
        have a2 := ind_mem.mpr hx
        by_cases q : key p (lo p) = x
        · exact .inr q.symm
        · refine .inl (ind_mem.mp ?_)
          have a3 : ind x (key p (lo p)) = 0 := if_neg q
          have a4 : 0 ≤ ind x (H.getD 0 0) := by unfold ind; split <;> (first | lia | omega)
          (first | lia | omega)
      have hI' : HI n lo H' := by
        refine ⟨r1, by rw [r2, h.len], fun x hx => ?_, fun q hq => ?_⟩
        · rcases hin x hx with m | m
          · exact h.mem x m
          · exact ⟨p, lo p, m, hp0, Int.le_refl _, by (first | lia | omega)⟩
        · by_cases e2 : q = p
          · refine ⟨key p (lo p), ind_mem.mp ?_, by unfold key; (first | lia | omega)⟩
            have a1 := r3 (ind (key p (lo p)))
            have a2 := ind_nonneg (key p (lo p)) H
            have a3 : ind (key p (lo p)) (key p (lo p)) = 1 := if_pos rfl
            have a4 : ind (key p (lo p)) (H.getD 0 0) = 0 := if_neg (by rw [ht]; unfold key; (first | lia | omega))
            (first | lia | omega)
          · obtain ⟨x, hx, ex⟩ := h.all q hq
            refine ⟨x, ind_mem.mp ?_, ex⟩
            have a1 := r3 (ind x)
            have a2 := ind_mem.mpr hx
            have a3 : 0 ≤ ind x (key p (lo p)) := by unfold ind; split <;> (first | lia | omega)
            have a4 : ind x (H.getD 0 0) = 0 := if_neg (by rw [ht]; intro e3; rw [← e3] at ex; unfold key at ex; (first | lia | omega))
            (first | lia | omega)
      have hup : tot id H' ≤ 30 := by
        have := tot_le (b := 5) (l := H') fun x hx => by
          obtain ⟨q, t, e1, e2, e3, _⟩ := hI'.mem x hx
          have := hlo q e2
          rw [e1]; unfold key; (first | lia | omega)
        rw [r2, h.len] at this
        (first | lia | omega)
      have hgrow : tot id H + 8 ≤ tot id H' := by
        have := r3 id
        rw [ht] at this
        simp only [id, key] at this
        (first | lia | omega)
      refine .inr ⟨by rw [hT, decide_eq_false e]; rfl, m - 1, R W a0 (some (nr n lo wh)) a4 (some (Mine.hp H')) a6 a7 a8 a9 a10 a13 a14, by (first | lia | omega), .inl ?_, H', hI', by (first | lia | omega), rfl⟩
      have hcall := Z.rep H (key p (lo p)) hL hL6
      rw [hH', item_key _ (by (first | lia | omega))] at hcall
      refine exs_one Φ Ψ ?_
      rw [ex]
      have ht1 : ev Φ (.tup (.cons (.neg (.sub (.sub (.bor 3) (.sub (.sub (.bor 5) (.int 0)) (.int 1))) (.int 0))) (.cons (.sub (.sub (.bor 5) (.int 0)) (.int 1)) (.nil)))) (R W a0 (some (nr n lo wh)) a4 (some (Mine.hp H)) a6 a7 a8 a9 a10 a13 a14) = some (.tup [.int (-lo p), .int (p : Int)]) := by
        simp only [ev, evs, R_look0, R_look1, R_look2, R_look3, R_look4, R_look5, R_look6, R_look7, R_look8, R_look9, R_look10, R_look11, R_look12, R_look13, R_look14, Option.bind_some, Option.map_some, g0, sub_pair0, sub_pair1, negD, g1]
        rfl
      rw [evs, ht1]
      simp only [evs, R_look0, R_look1, R_look2, R_look3, R_look4, R_look5, R_look6, R_look7, R_look8, R_look9, R_look10, R_look11, R_look12, R_look13, R_look14, Option.bind_some, Option.map_some, hcall, R_set3, R_set4, R_set5, R_set6, R_set7, R_set8, R_set9, R_set10, R_set13, R_set14]
  · have := le_tot (b := -48) (l := H) fun x hx => by
      obtain ⟨q, t, e1, e2, e3, e4⟩ := hH.mem x hx
      rw [e1]; unfold key; (first | lia | omega)
    rw [hH.len] at this
    (first | lia | omega)
end
end Mine
end
section
open PySem
set_option maxRecDepth 100000
set_option linter.unusedSimpArgs false
set_option linter.unusedVariables false
namespace Mine
theorem ws_range (ws : List (List Nat)) : ws = (List.range ws.length).map (wat ws) := by
  refine List.ext_getElem? fun i => ?_
  rw [List.getElem?_map]
  unfold wat
  rcases Nat.lt_or_ge i ws.length with q | q
  · rw [List.getElem?_range q, Option.map_some, List.getD_eq_getElem?_getD, List.getElem?_eq_getElem q]; rfl
  · rw [List.getElem?_eq_none q, List.getElem?_eq_none (by simpa using q)]; rfl
theorem dict_go (g : Nat → D) : ∀ (r pre : List Nat), (pre ++ r).Nodup → (dk r g).foldl (fun m kv => dSet m kv.1 kv.2) (dk pre g) = dk (pre ++ r) g
  | [], pre, _ => by rw [List.append_nil]; rfl
  | c :: r, pre, h => by
    have hc : c ∉ pre := fun hm => by
      have := (List.nodup_append.mp h).2.2 c hm c (.head _)
      exact this rfl
    have e : dSet (dk pre g) (c : Int) (g c) = dk (pre ++ [c]) g := by
      rw [dSet_new _ _ hc]
      refine dk_congr fun q _ => ?_
      unfold upd; split
      · rename_i e; rw [e]
      · rfl
    have := dict_go g r (pre ++ [c]) (by simpa using h)
    rw [show pre ++ c :: r = pre ++ [c] ++ r from by simp, ← this, ← e]
    rfl
theorem dict_pairs {cs : List Nat} (h : cs.Nodup) (g : Nat → D) : dictOfPairs (dk cs g) = dk cs g := dict_go g cs [] (by simpa using h)
noncomputable def stD (s : Nat × Int) : D := .tup [.int (s.1 : Int), .int s.2]
noncomputable def stsD (st : List (Nat × Int)) : D := .list (st.map stD)
section
variable (Φ Ψ : Nat → List D → Option D)
noncomputable def zero5 : X := .tup (.cons (.int 0) (.cons (.int 0) (.cons (.int 0) (.cons (.int 0) (.cons (.new (.dict0)) (.nil))))))
theorem zero5_run (ρ : Rho) : ev Φ zero5 ρ = some none5 := by
  unfold zero5
  simp only [ev, evs, evF, Option.bind_some, Option.map_some]; rfl
noncomputable def initBody : List S := [.assign 8 (.sub (.sub (.bor 3) (.var 6)) (.int 0)),
     .setAt 4 (.var 1) (.call 4 (.cons (.sub (.bor 4) (.var 1)) (.cons (.tup (.cons (.int 1) (.cons (.int 1) (.cons (.var 8) (.cons (.bin .mul (.var 8) (.var 8)) (.cons (.new (.dict1 (.var 6) (.int 1))) (.nil))))))) (.nil)))),
     .append 5 (.tup (.cons (.neg (.var 8)) (.cons (.var 6) (.nil))))]
noncomputable def gapX : X := .new (.dcomp (.sub (.var 12) (.int 0)) (.call 8 (.cons (.sub (.var 0) (.sub (.var 12) (.int 0))) (.cons (.sub (.var 0) (.var 9)) (.cons (.int 99) (.nil))))) 12 (.seq (.bor 7)))
noncomputable def topX (i : Int) : X := .sub (.sub (.bor 5) (.int 0)) (.int i)
noncomputable def outT : T := .and (.cons (.cmp .lt (.len (.bor 7)) (.var 2)) (.cons (.cmp .lt (topX 0) (.int 0)) (.nil)))
noncomputable def outB : List S := [.assign 9 (topX 1),
     .assign 10 gapX,
     .setAt 4 (.var 9) zero5,
     .for1 6 (.range1 (.len (.var 0))) moveBody,
     .while cleanT cleanB,
     .append 7 (.tup (.cons (.var 9) (.cons (.neg (topX 0)) (.nil))))]
noncomputable def nearF : F := .comp (.tup (.cons (.call 8 (.cons (.sub (.var 0) (.var 1)) (.cons (.var 11) (.cons (.int 99) (.nil))))) (.cons (.var 1) (.nil)))) (.cons 11 (.seq (.var 0)) (.nil) (.nil))
theorem spread_body : f_law_spread.body = [.own 3 nearF, .own 4 (.dict1 (.var 1) zero5), .own 5 (.list (.nil)), .for1 6 (.range1 (.len (.var 0))) initBody, .callIO 1 5 (.nil),
   .own 7 (.list (.cons (.tup (.cons (.var 1) (.cons (.neg (topX 0)) (.nil)))) (.nil))), .while outT outB, .ret (.tup (.cons (.var 7) (.cons (.var 3) (.cons (.var 4) (.nil)))))] := rfl
theorem len_wds {ws : List (List Nat)} (h6 : ws.length ≤ 6) : lenD (wds ws) = some (.int ws.length) := by
  show (if (ws.map wd).length ≤ 1000 then _ else _) = _
  rw [if_pos (by rw [List.length_map]; (first | lia | omega)), List.length_map]
theorem evF_comp {elt : X} {i : Nat} {x : X} {ρ : Rho} {items : List D} {l : List D} (h1 : (ev Φ x ρ).bind seqD = some items) (h2 : items.length ≤ 1000)
    (h3 : (flatM items fun d => (ev Φ elt ((ρ.set i none).set i (some d))).map fun d => [d]) = some l) (h4 : l.length ≤ 1000) : evF Φ (.comp elt (.cons i (.seq x) .nil .nil)) ρ = some (.list l) := by
  rw [evF, evGs, clear, clear, evI, h1, Option.bind_some, if_pos h2]
  simp only [evAnd, Option.bind_some, if_true, evGs, h3, h4]
theorem near_run (Z : Sp Φ Ψ) {ws : List (List Nat)} (hw : ∀ w ∈ ws, w ∈ W40) (h6 : ws.length ≤ 6) {first : Nat} (hf : first < ws.length) :
    evF Φ nearF (R (wds ws) (.int (first : Int)) none none none none none none none none none none) = some (nr ws.length (lot (dst ws) [first]) (who (dst ws) [first])) := by
  refine evF_comp Φ (items := (List.range ws.length).map fun p => wd (wat ws p)) ?_ (by simp; (first | lia | omega)) ?_ (by simp; (first | lia | omega))
  · have : seqD (wds ws) = some (ws.map wd) := rfl
    rw [ev]
    show Option.bind (some (wds ws)) seqD = _
    rw [Option.bind_some, this]
    conv => lhs; rw [ws_range ws, List.map_map]
    rfl
  · refine flatM_one (List.range ws.length) (fun p => wd (wat ws p)) (fun p => prD (lot (dst ws) [first] p) (who (dst ws) [first] p)) fun p _ => ?_
    have e0 := sub_wds hf h6
    have e1 := Z.lev (wat ws first) (wat ws p) 99 (wat_mem hw _) (wat_mem hw _)
    have e2 : levN (wat ws first) (wat ws p) 99 = lot (dst ws) [first] p := (lev99 (wat_mem hw _) (wat_mem hw _)).trans (P_sym (wat_mem hw p) (wat_mem hw first))
    rw [e2] at e1
    have l0 : look ((((R (wds ws) (.int (first : Int)) none none none none none none none none none none).set 11 none).set 11 (some (wd (wat ws p))))) 0 = some (wds ws) := rfl
    have l1 : look ((((R (wds ws) (.int (first : Int)) none none none none none none none none none none).set 11 none).set 11 (some (wd (wat ws p))))) 1 = some (.int (first : Int)) := rfl
    have l2 : look ((((R (wds ws) (.int (first : Int)) none none none none none none none none none none).set 11 none).set 11 (some (wd (wat ws p))))) 11 = some (wd (wat ws p)) := rfl
    simp only [ev, evs, l0, l1, l2, Option.bind_some, Option.map_some, e0, e1]
    rfl
theorem gap_run (Z : Sp Φ Ψ) {ws : List (List Nat)} (hw : ∀ w ∈ ws, w ∈ W40) (h6 : ws.length ≤ 6) {cs : List Nat} {st : List (Nat × Int)} (hst : st.map (·.1) = cs) (hl : cs.length ≤ 1000) (hcn : ∀ c ∈ cs, c < ws.length) (hnd : cs.Nodup) {f : Nat} (hf : f < ws.length) (a0 : D) (a3 a4 a5 a6 a8 a10 a13 a14 : Option D) :
    ev Φ gapX (R (wds ws) a0 a3 a4 a5 a6 (some (stsD st)) a8 (some (.int (f : Int))) a10 a13 a14) = some (gapD ws cs f) := by
  have hsl : st.length ≤ 1000 := by rw [← hst, List.length_map] at hl; exact hl
  have hitems : evI Φ (.seq (.bor 7)) (R (wds ws) a0 a3 a4 a5 a6 (some (stsD st)) a8 (some (.int (f : Int))) a10 a13 a14) = some (st.map stD) := by
    simp only [evI, ev, R_look7, Option.bind_some]; rfl
  unfold gapX
  rw [ev, evF, hitems, Option.bind_some, if_pos (by rw [List.length_map]; exact hsl)]
  rw [flatM_map st stD (fun s => [((s.1 : Int), D.int (dst ws s.1 f))]) fun s hs => ?_]
  · have e : (st.flatMap fun s => [((s.1 : Int), D.int (dst ws s.1 f))]) = dk cs fun c => .int (dst ws c f) := by
      rw [← hst]; unfold dk
      rw [List.map_map]
      clear hst hl hsl hitems
      induction st with
      | nil => rfl
      | cons a r ih => rw [List.flatMap_cons, ih]; rfl
    rw [e, Option.map_some, dict_pairs hnd]; rfl
  · have hs' : s.1 < ws.length := hcn _ (by rw [← hst]; exact List.mem_map.mpr ⟨s, hs, rfl⟩)
    have e0 := sub_wds hs' h6
    have e3 := sub_wds hf h6
    have e1 := Z.lev (wat ws s.1) (wat ws f) 99 (wat_mem hw _) (wat_mem hw _)
    rw [lev99 (wat_mem hw _) (wat_mem hw _)] at e1
    have l0 : look ((R (wds ws) a0 a3 a4 a5 a6 (some (stsD st)) a8 (some (.int (f : Int))) a10 a13 a14).set 12 (some (stD s))) 0 = some (wds ws) := rfl
    have l1 : look ((R (wds ws) a0 a3 a4 a5 a6 (some (stsD st)) a8 (some (.int (f : Int))) a10 a13 a14).set 12 (some (stD s))) 9 = some (.int (f : Int)) := rfl
    have l2 : look ((R (wds ws) a0 a3 a4 a5 a6 (some (stsD st)) a8 (some (.int (f : Int))) a10 a13 a14).set 12 (some (stD s))) 12 = some (.tup [.int (s.1 : Int), .int s.2]) := rfl
    simp only [ev, evs, l0, l1, l2, Option.bind_some, Option.map_some, e0, e1, e3, sub_pair0, keyOf]
    rfl
theorem range_snoc_mem (k : Nat) : k ∉ List.range k := by rw [List.mem_range]; exact Nat.lt_irrefl k
theorem append_list {l : List D} (x : D) (h : l.length ≤ 1000) : appendD (.list l) x = some (.list (l ++ [x])) := if_pos h
theorem init_loop (Z : Sp Φ Ψ) {n : Nat} (h6 : n ≤ 6) {first : Nat} {lo : Nat → Int} {wh : Nat → Nat} (hlo : ∀ p, 0 ≤ lo p ∧ lo p ≤ 6) (hwh : ∀ p, wh p = first) (W : D) (a6 a7 a8 a9 a10 a13 a14 : Option D) :
    ∃ a6' a8', loopF (bind1 6) (exs Φ Ψ initBody) (rangeD 0 n) (R W (.int (first : Int)) (some (nr n lo wh)) (some (.dict [((first : Int), none5)])) (some (.list [])) a6 a7 a8 a9 a10 a13 a14) =
      some (.next, R W (.int (first : Int)) (some (nr n lo wh)) (some (bk [first] (fun _ => List.range n) lo wh)) (some (hp ((List.range n).map fun p => key p (lo p)))) a6' a7 a8' a9 a10 a13 a14) := by
  have main := loop_all (bind := bind1 6) (body := exs Φ Ψ initBody)
    (Inv := fun k ρ => ∃ a6 a8, ρ = R W (.int (first : Int)) (some (nr n lo wh)) (some (bk [first] (fun _ => List.range k) lo wh)) (some (hp ((List.range k).map fun p => key p (lo p)))) a6 a7 a8 a9 a10 a13 a14)
    (rangeD 0 n) (fun k x ρ hd hI => ?_) (ρ := R W (.int (first : Int)) (some (nr n lo wh)) (some (.dict [((first : Int), none5)])) (some (.list [])) a6 a7 a8 a9 a10 a13 a14) ⟨a6, a8, rfl⟩
  · obtain ⟨ρ', h1, b6, b8, rfl⟩ := main
    rw [rangeD_length] at h1
    exact ⟨b6, b8, h1⟩
  · obtain ⟨b6, b8, rfl⟩ := hI
    obtain ⟨hk, rfl⟩ := rangeD_get hd
    rw [Int.zero_add]
    have e1 := nr_sub (n := n) (lo := lo) (wh := wh) hk h6
    unfold prD at e1
    have e2 : subD (bk [first] (fun _ => List.range k) lo wh) (.int (first : Int)) = some (ent (List.range k) lo fun p => decide (wh p = first)) := dGet_dk (.head _)
    have e3 := Z.gain (List.range k) lo lo (fun p => decide (wh p = first)) (fun p => decide (wh p = first)) k (lo k) (by simp; (first | lia | omega)) List.nodup_range (range_snoc_mem k) (by simp [hwh]) rfl (fun q _ => ⟨rfl, fun _ => rfl⟩)
    rw [← List.range_succ] at e3
    have e4 : storeD (bk [first] (fun _ => List.range k) lo wh) (.int (first : Int)) (ent (List.range (k + 1)) lo fun p => decide (wh p = first)) = some (bk [first] (fun _ => List.range (k + 1)) lo wh) := by
      unfold bk
      rw [store_dk (by simp), dSet_mem _ _ (.head _), dk_congr (g' := bkG (fun _ => List.range (k + 1)) lo wh) fun c hc => ?_]
      rw [List.mem_singleton.mp hc, upd_self]; rfl
    have hm := num2 (a := lo k) (b := lo k) (by have := hlo k; (first | lia | omega)) (by have := hlo k; (first | lia | omega))
    refine ⟨R W (.int (first : Int)) (some (nr n lo wh)) (some (bk [first] (fun _ => List.range k) lo wh)) (some (hp ((List.range k).map fun p => key p (lo p)))) (some (.int (k : Int))) a7 b8 a9 a10 a13 a14, R W (.int (first : Int)) (some (nr n lo wh)) (some (bk [first] (fun _ => List.range (k + 1)) lo wh)) (some (hp ((List.range (k + 1)).map fun p => key p (lo p)))) (some (.int (k : Int))) a7 (some (.int (lo k))) a9 a10 a13 a14, congrArg some (R_set6 ..), .inl ?_, _, _, rfl⟩
    unfold initBody
    rw [exs, ex]
    simp only [ev, R_look0, R_look1, R_look2, R_look3, R_look4, R_look5, R_look6, R_look7, R_look8, R_look9, R_look10, R_look11, R_look12, R_look13, R_look14, Option.bind_some, Option.map_some, e1, sub_pair0, R_set3, R_set4, R_set5, R_set6, R_set7, R_set8, R_set9, R_set10, R_set13, R_set14]
    rw [exs, ex]
    have t1 : ev Φ (.tup (.cons (.int 1) (.cons (.int 1) (.cons (.var 8) (.cons (.bin .mul (.var 8) (.var 8)) (.cons (.new (.dict1 (.var 6) (.int 1))) (.nil))))))) (R W (.int (first : Int)) (some (nr n lo wh)) (some (bk [first] (fun _ => List.range k) lo wh)) (some (hp ((List.range k).map fun p => key p (lo p)))) (some (.int (k : Int))) a7 (some (.int (lo k))) a9 a10 a13 a14) = some (src 1 1 (lo k) (lo k * lo k) k 1) := by
      refine src_run Φ (f := .int 0) (i := .int 0) (j := .int 0) ?_ ?_ ?_ ?_ ?_ ?_ <;> simp only [ev, R_look0, R_look1, R_look2, R_look3, R_look4, R_look5, R_look6, R_look7, R_look8, R_look9, R_look10, R_look11, R_look12, R_look13, R_look14, Option.bind_some, hm]
    have t2 : ev Φ (.call 4 (.cons (.sub (.bor 4) (.var 1)) (.cons (.tup (.cons (.int 1) (.cons (.int 1) (.cons (.var 8) (.cons (.bin .mul (.var 8) (.var 8)) (.cons (.new (.dict1 (.var 6) (.int 1))) (.nil))))))) (.nil)))) (R W (.int (first : Int)) (some (nr n lo wh)) (some (bk [first] (fun _ => List.range k) lo wh)) (some (hp ((List.range k).map fun p => key p (lo p)))) (some (.int (k : Int))) a7 (some (.int (lo k))) a9 a10 a13 a14) = some (ent (List.range (k + 1)) lo fun p => decide (wh p = first)) := by
      rw [ev, evs, evs, evs, t1]
      simp only [ev, R_look0, R_look1, R_look2, R_look3, R_look4, R_look5, R_look6, R_look7, R_look8, R_look9, R_look10, R_look11, R_look12, R_look13, R_look14, Option.bind_some, Option.map_some, e2, e3]
    rw [t2]
    simp only [ev, R_look0, R_look1, R_look2, R_look3, R_look4, R_look5, R_look6, R_look7, R_look8, R_look9, R_look10, R_look11, R_look12, R_look13, R_look14, Option.bind_some, e4, Option.map_some, R_set3, R_set4, R_set5, R_set6, R_set7, R_set8, R_set9, R_set10, R_set13, R_set14]
    refine exs_one Φ Ψ ?_
    rw [ex]
    have t3 : ev Φ (.tup (.cons (.neg (.var 8)) (.cons (.var 6) (.nil)))) (R W (.int (first : Int)) (some (nr n lo wh)) (some (bk [first] (fun _ => List.range (k + 1)) lo wh)) (some (hp ((List.range k).map fun p => key p (lo p)))) (some (.int (k : Int))) a7 (some (.int (lo k))) a9 a10 a13 a14) = some (item (key k (lo k))) := by
      rw [item_key _ (by (first | lia | omega))]
      simp only [ev, evs, R_look0, R_look1, R_look2, R_look3, R_look4, R_look5, R_look6, R_look7, R_look8, R_look9, R_look10, R_look11, R_look12, R_look13, R_look14, Option.bind_some, Option.map_some, negD]
      rfl
    have t4 : appendD (hp ((List.range k).map fun p => key p (lo p))) (item (key k (lo k))) = some (hp ((List.range (k + 1)).map fun p => key p (lo p))) := by
      unfold hp
      rw [append_list _ (by simp; (first | lia | omega)), List.range_succ]
      simp
    rw [t3]
    simp only [R_look0, R_look1, R_look2, R_look3, R_look4, R_look5, R_look6, R_look7, R_look8, R_look9, R_look10, R_look11, R_look12, R_look13, R_look14, Option.bind_some, t4, Option.map_some, R_set3, R_set4, R_set5, R_set6, R_set7, R_set8, R_set9, R_set10, R_set13, R_set14]
end
end Mine
end
section
open PySem
set_option maxRecDepth 100000
set_option linter.unusedSimpArgs false
set_option linter.unusedVariables false
namespace Mine
section
variable (Φ Ψ : Nat → List D → Option D)
/-- where the outer loop stands -/
structure At (ws : List (List Nat)) (cs : List Nat) (st : List (Nat × Int)) (E : Nat → List Nat) (H : List Int) : Prop where
  ne : cs ≠ []
  nd : cs.Nodup
  lt : ∀ c ∈ cs, c < ws.length
  st : st.map (·.1) = cs
  ever : EverOk (dst ws) ws.length cs E
  heap : HI ws.length (lot (dst ws) cs) H
  top : ∃ p, p < ws.length ∧ H.getD 0 0 = key p (lot (dst ws) cs p)
theorem At.top' {ws : List (List Nat)} {cs : List Nat} {st : List (Nat × Int)} {E : Nat → List Nat} {H : List Int} (A : At ws cs st E H) (h6 : ws.length ≤ 6) : pick (dst ws) ws.length cs < ws.length ∧ H.getD 0 0 = key (pick (dst ws) ws.length cs) (far (dst ws) ws.length cs) := by
  obtain ⟨p, h1, h2⟩ := A.top
  obtain ⟨e1, e2⟩ := A.heap.pick h6 h1 h2
  rw [← e1, ← e2]
  exact ⟨h1, h2⟩
theorem topX_run {ws : List (List Nat)} {cs : List Nat} {lo : Nat → Int} {H : List Int} (h : HI ws.length lo H) (hn : 0 < ws.length) (h6 : ws.length ≤ 6) {p : Nat} {s : Int} (hpn : p < ws.length) (ht : H.getD 0 0 = key p s) {ρ : Rho} (h5 : look ρ 5 = some (hp H)) :
    ev Φ (topX 0) ρ = some (.int (-s)) ∧ ev Φ (topX 1) ρ = some (.int (p : Int)) := by
  have := h.sub0 hn h6 hpn ht
  unfold topX
  simp only [ev, h5, Option.bind_some, this, sub_pair0, sub_pair1, and_self]
theorem len_sts {st : List (Nat × Int)} (h : st.length ≤ 1000) : lenD (stsD st) = some (.int st.length) := by
  show (if (st.map stD).length ≤ 1000 then _ else _) = _
  rw [if_pos (by rw [List.length_map]; exact h), List.length_map]
theorem out_turn (Z : Sp Φ Ψ) {ws : List (List Nat)} (hw : ∀ w ∈ ws, w ∈ W40) (h6 : ws.length ≤ 6) {cs : List Nat} {st : List (Nat × Int)} {E : Nat → List Nat} {H : List Int} (A : At ws cs st E H) (hcl : cs.length ≤ 5) (hfar : 0 < far (dst ws) ws.length cs) (a0 : D) (a6 a8 a9 a10 a13 a14 : Option D) :
    ∃ E' H' b6 b8 b9 b10 b13 b14, exs Φ Ψ outB (R (wds ws) a0 (some (nr ws.length (lot (dst ws) cs) (who (dst ws) cs))) (some (bk cs E (lot (dst ws) cs) (who (dst ws) cs))) (some (hp H)) a6 (some (stsD st)) a8 a9 a10 a13 a14) =
      some (.next, R (wds ws) a0 (some (nr ws.length (lot (dst ws) (cs ++ [pick (dst ws) ws.length cs])) (who (dst ws) (cs ++ [pick (dst ws) ws.length cs])))) (some (bk (cs ++ [pick (dst ws) ws.length cs]) E' (lot (dst ws) (cs ++ [pick (dst ws) ws.length cs])) (who (dst ws) (cs ++ [pick (dst ws) ws.length cs])))) (some (hp H')) b6 (some (stsD (st ++ [(pick (dst ws) ws.length cs, far (dst ws) ws.length (cs ++ [pick (dst ws) ws.length cs]))]))) b8 b9 b10 b13 b14) ∧
      At ws (cs ++ [pick (dst ws) ws.length cs]) (st ++ [(pick (dst ws) ws.length cs, far (dst ws) ws.length (cs ++ [pick (dst ws) ws.length cs]))]) E' H' := by
  have M := dst_met hw
  obtain ⟨hpn, htop⟩ := A.top' h6
  have hn : 0 < ws.length := by (first | lia | omega)
  have hnew := pick_new M (n := ws.length) hn hfar
  generalize hfe : pick (dst ws) ws.length cs = f at hpn htop hnew
  have hcl2 : (cs ++ [f]).length ≤ 1000 := by rw [List.length_append, List.length_singleton]; (first | lia | omega)
  have hstl : st.length ≤ 1000 := by have := congrArg List.length A.st; rw [List.length_map] at this; (first | lia | omega)
  unfold outB
  rw [exs, ex, (topX_run Φ (cs := cs) A.heap hn h6 hpn htop (R_look5 ..)).2]
  simp only [Option.map_some, Option.bind_some, R_set3, R_set4, R_set5, R_set6, R_set7, R_set8, R_set9, R_set10, R_set13, R_set14]
  rw [exs, ex, gap_run Φ Ψ Z hw h6 A.st (by (first | lia | omega)) A.lt A.nd hpn]
  simp only [Option.map_some, Option.bind_some, R_set3, R_set4, R_set5, R_set6, R_set7, R_set8, R_set9, R_set10, R_set13, R_set14]
  have s1 : storeD (bk cs E (lot (dst ws) cs) (who (dst ws) cs)) (.int (f : Int)) none5 = some (.dict (dk (cs ++ [f]) (upd (bkG E (lot (dst ws) cs) (who (dst ws) cs)) f none5))) := by
    unfold bk; rw [store_dk (by (first | lia | omega)), dSet_new _ _ hnew]
  rw [exs, ex, zero5_run]
  simp only [ev, R_look0, R_look1, R_look2, R_look3, R_look4, R_look5, R_look6, R_look7, R_look8, R_look9, R_look10, R_look11, R_look12, R_look13, R_look14, Option.map_some, Option.bind_some, s1, R_set3, R_set4, R_set5, R_set6, R_set7, R_set8, R_set9, R_set10, R_set13, R_set14]
  obtain ⟨b6, b8, b13, b14, hl⟩ := move_loop Φ Ψ Z hw h6 A.ne hcl A.lt hpn hnew A.ever a0 (some (hp H)) a6 (some (stsD st)) a8 a13 a14
  rw [exs, ex]
  simp only [evI, ev, R_look0, R_look1, R_look2, R_look3, R_look4, R_look5, R_look6, R_look7, R_look8, R_look9, R_look10, R_look11, R_look12, R_look13, R_look14, Option.bind_some, len_wds h6, range1_nat (show ws.length ≤ 1000 by (first | lia | omega)), hl]
  have hc2 : cs ++ [f] ≠ [] := by simp
  have hmono : ∀ p, lot (dst ws) (cs ++ [f]) p ≤ lot (dst ws) cs p := fun p => by
    by_cases q : dst ws p f < lot (dst ws) cs p
    · rw [(snoc_go A.ne q).1]; (first | lia | omega)
    · rw [(snoc_stay A.ne q).1]; (first | lia | omega)
  obtain ⟨H', hcl', hH', p', hp', ht'⟩ := clean_loop Φ Ψ Z hn h6 (lo := lot (dst ws) (cs ++ [f])) (who (dst ws) (cs ++ [f])) (fun p _ => lot_nonneg M hc2 p) (A.heap.mono fun p _ => hmono p) (wds ws) a0 (some (bk (cs ++ [f]) (upd E f (everOf (dst ws) ws.length cs f)) (lot (dst ws) (cs ++ [f])) (who (dst ws) (cs ++ [f])))) b6 (some (stsD st)) b8 (some (.int (f : Int))) (some (gapD ws cs f)) b13 b14
  have A' : At ws (cs ++ [f]) (st ++ [(f, far (dst ws) ws.length (cs ++ [f]))]) (upd E f (everOf (dst ws) ws.length cs f)) H' := by
    refine ⟨hc2, ?_, fun c hc => ?_, by rw [List.map_append, A.st]; rfl, A.ever.snoc hnew, hH', p', hp', ht'⟩
    · rw [List.nodup_append]
      refine ⟨A.nd, by simp, fun a ha b hb => ?_⟩
      rw [List.mem_singleton.mp hb]; exact fun e => hnew (e ▸ ha)
    · rcases List.mem_append.mp hc with m | m
      · exact A.lt c m
      · rw [List.mem_singleton.mp m]; exact hpn
  obtain ⟨hpn', htop'⟩ := A'.top' h6
  rw [exs, ex, hcl', Option.bind_some]
  dsimp only
  have ht2 := topX_run Φ (cs := cs) hH' hn h6 hpn' htop' (ρ := R (wds ws) a0 (some (nr ws.length (lot (dst ws) (cs ++ [f])) (who (dst ws) (cs ++ [f])))) (some (bk (cs ++ [f]) (upd E f (everOf (dst ws) ws.length cs f)) (lot (dst ws) (cs ++ [f])) (who (dst ws) (cs ++ [f])))) (some (hp H')) b6 (some (stsD st)) b8 (some (.int (f : Int))) (some (gapD ws cs f)) b13 b14) (R_look5 ..)
  have t3 : ev Φ (.tup (.cons (.var 9) (.cons (.neg (topX 0)) (.nil)))) (R (wds ws) a0 (some (nr ws.length (lot (dst ws) (cs ++ [f])) (who (dst ws) (cs ++ [f])))) (some (bk (cs ++ [f]) (upd E f (everOf (dst ws) ws.length cs f)) (lot (dst ws) (cs ++ [f])) (who (dst ws) (cs ++ [f])))) (some (hp H')) b6 (some (stsD st)) b8 (some (.int (f : Int))) (some (gapD ws cs f)) b13 b14) = some (stD (f, far (dst ws) ws.length (cs ++ [f]))) := by
    have n1 : ev Φ (.neg (topX 0)) (R (wds ws) a0 (some (nr ws.length (lot (dst ws) (cs ++ [f])) (who (dst ws) (cs ++ [f])))) (some (bk (cs ++ [f]) (upd E f (everOf (dst ws) ws.length cs f)) (lot (dst ws) (cs ++ [f])) (who (dst ws) (cs ++ [f])))) (some (hp H')) b6 (some (stsD st)) b8 (some (.int (f : Int))) (some (gapD ws cs f)) b13 b14) = some (.int (far (dst ws) ws.length (cs ++ [f]))) := by
      rw [ev, ht2.1, Option.bind_some, negD, Int.neg_neg]
    have n0 : ev Φ (.var 9) (R (wds ws) a0 (some (nr ws.length (lot (dst ws) (cs ++ [f])) (who (dst ws) (cs ++ [f])))) (some (bk (cs ++ [f]) (upd E f (everOf (dst ws) ws.length cs f)) (lot (dst ws) (cs ++ [f])) (who (dst ws) (cs ++ [f])))) (some (hp H')) b6 (some (stsD st)) b8 (some (.int (f : Int))) (some (gapD ws cs f)) b13 b14) = some (.int (f : Int)) := by rw [ev]; rfl
    rw [ev, evs, evs, evs, n1, n0]; rfl
  have t4 : appendD (stsD st) (stD (f, far (dst ws) ws.length (cs ++ [f]))) = some (stsD (st ++ [(f, far (dst ws) ws.length (cs ++ [f]))])) := by
    unfold stsD
    rw [append_list _ (by rw [List.length_map]; exact hstl), List.map_append]; rfl
  refine ⟨_, H', b6, b8, some (.int (f : Int)), some (gapD ws cs f), b13, b14, ?_, A'⟩
  refine exs_one Φ Ψ ?_
  rw [ex, t3]
  simp only [R_look0, R_look1, R_look2, R_look3, R_look4, R_look5, R_look6, R_look7, R_look8, R_look9, R_look10, R_look11, R_look12, R_look13, R_look14, Option.bind_some, t4, Option.map_some, R_set3, R_set4, R_set5, R_set6, R_set7, R_set8, R_set9, R_set10, R_set13, R_set14]

/-- where the outer loop stands, as one thing -/
structure SpSt where
  cs : List Nat
  st : List (Nat × Int)
  E : Nat → List Nat
  H : List Int
  a6 : Option D
  a8 : Option D
  a9 : Option D
  a10 : Option D
  a13 : Option D
  a14 : Option D
noncomputable def SpSt.rho (ws : List (List Nat)) (a0 : D) (x : SpSt) : Rho := R (wds ws) a0 (some (nr ws.length (lot (dst ws) x.cs) (who (dst ws) x.cs))) (some (bk x.cs x.E (lot (dst ws) x.cs) (who (dst ws) x.cs))) (some (hp x.H)) x.a6 (some (stsD x.st)) x.a8 x.a9 x.a10 x.a13 x.a14
noncomputable def SpInv (ws : List (List Nat)) (first : Nat) (a0 : D) (m : Nat) (ρ : Rho) : Prop :=
  ∃ x : SpSt, At ws x.cs x.st x.E x.H ∧ m + x.cs.length = 3 ∧ ext (dst ws) ws.length m (x.cs, x.st) = fin3 (dst ws) ws.length first ∧ ρ = x.rho ws a0
noncomputable def SpPost (ws : List (List Nat)) (first : Nat) (a0 : D) (ρ : Rho) : Prop :=
  ∃ x : SpSt, At ws x.cs x.st x.E x.H ∧ (x.cs, x.st) = fin3 (dst ws) ws.length first ∧ ρ = x.rho ws a0
theorem out_test {ws : List (List Nat)} (h6 : ws.length ≤ 6) {x : SpSt} (A : At ws x.cs x.st x.E x.H) (hl : x.cs.length ≤ 3) (a0 : D) : evT Φ outT (x.rho ws a0) = some (decide (x.cs.length < 3 ∧ 0 < far (dst ws) ws.length x.cs)) := by
  obtain ⟨hpn', htop'⟩ := A.top' h6
  have hn : 0 < ws.length := Nat.lt_of_le_of_lt (Nat.zero_le _) hpn'
  have hsl : x.st.length = x.cs.length := by rw [← List.length_map (f := (·.1)), A.st]
  have q1 := (topX_run Φ (cs := x.cs) A.heap hn h6 hpn' htop' (ρ := x.rho ws a0) (R_look5 ..)).1
  have q2 : evT Φ (.cmp .lt (topX 0) (.int 0)) (x.rho ws a0) = some (decide (0 < far (dst ws) ws.length x.cs)) := by
    rw [evT, q1, ev, Option.bind_some, Option.bind_some, lt_ii, Option.some.injEq, decide_eq_decide]; (first | lia | omega)
  have q3 : evT Φ (.cmp .lt (.len (.bor 7)) (.var 2)) (x.rho ws a0) = some (decide (x.cs.length < 3)) := by
    unfold SpSt.rho
    simp only [evT, ev, R_look0, R_look1, R_look2, R_look3, R_look4, R_look5, R_look6, R_look7, R_look8, R_look9, R_look10, R_look11, R_look12, R_look13, R_look14, Option.bind_some, len_sts (show x.st.length ≤ 1000 by (first | lia | omega)), lt_ii]
    rw [Option.some.injEq, decide_eq_decide, hsl]; (first | lia | omega)
  unfold outT
  rw [evT, evAnd, evAnd, evAnd, q3, q2, Option.bind_some]
  by_cases w1 : x.cs.length < 3
  · rw [decide_eq_true w1, if_pos rfl, Option.bind_some]
    by_cases w2 : 0 < far (dst ws) ws.length x.cs
    · rw [decide_eq_true w2, if_pos rfl, decide_eq_true ⟨w1, w2⟩]
    · rw [decide_eq_false w2, if_neg (by decide), decide_eq_false fun e => w2 e.2]
  · rw [decide_eq_false w1, if_neg (by decide), decide_eq_false fun e => w1 e.1]
theorem out_step (Z : Sp Φ Ψ) {ws : List (List Nat)} (hw : ∀ w ∈ ws, w ∈ W40) (h6 : ws.length ≤ 6) {first : Nat} {a0 : D} (m : Nat) (ρ : Rho) (hI : SpInv ws first a0 m ρ) :
    (evT Φ outT ρ = some false ∧ SpPost ws first a0 ρ) ∨ (evT Φ outT ρ = some true ∧ ∃ k' ρ', k' < m ∧ (exs Φ Ψ outB ρ = some (.next, ρ') ∨ exs Φ Ψ outB ρ = some (.cont, ρ')) ∧ SpInv ws first a0 k' ρ') := by
  obtain ⟨x, A, hm, hfin, rfl⟩ := hI
  have ht := out_test Φ h6 A (by (first | lia | omega)) a0
  by_cases w : x.cs.length < 3 ∧ 0 < far (dst ws) ws.length x.cs
  · rw [decide_eq_true w] at ht
    obtain ⟨E', H2, d6, d8, d9, d10, d13, d14, g1, g2⟩ := out_turn Φ Ψ Z hw h6 A (by (first | lia | omega)) w.2 a0 x.a6 x.a8 x.a9 x.a10 x.a13 x.a14
    refine .inr ⟨ht, m - 1, _, by (first | lia | omega), .inl g1, ⟨_, _, E', H2, d6, d8, d9, d10, d13, d14⟩, g2, ?_, ?_, rfl⟩
    · rw [List.length_append, List.length_singleton]; (first | lia | omega)
    · rw [← hfin]
      obtain ⟨k, rfl⟩ : ∃ k, m = k + 1 := ⟨m - 1, by (first | lia | omega)⟩
      rw [ext_go _ _ _ _ _ w.2]; rfl
  · rw [decide_eq_false w] at ht
    refine .inl ⟨ht, x, A, ?_, rfl⟩
    rw [← hfin]
    rcases Nat.eq_zero_or_pos m with e | e
    · rw [e]; rfl
    · rw [ext_stop _ _ _ _ fun q => w ⟨by (first | lia | omega), q⟩]
theorem start_at' {ws : List (List Nat)} (hw : ∀ w ∈ ws, w ∈ W40) (h6 : ws.length ≤ 6) {first : Nat} (hf : first < ws.length) : At ws [first] [(first, far (dst ws) ws.length [first])] (fun _ => List.range ws.length) (heapL ((List.range ws.length).map fun p => key p (lot (dst ws) [first] p))) := by
  have M := dst_met hw
  obtain ⟨H0, hH0⟩ : ∃ H0, H0 = (List.range ws.length).map fun p => key p (lot (dst ws) [first] p) := ⟨_, rfl⟩
  rw [← hH0]
  have hl0 : H0.length = ws.length := by rw [hH0]; simp
  obtain ⟨o1, o2, o3⟩ := heapL_ord (H := H0) (by (first | lia | omega))
  generalize heapL H0 = H at o1 o2 o3
  have hmem : ∀ x, x ∈ H ↔ x ∈ H0 := fun x => by rw [← ind_mem, ← ind_mem, o3]
  have hHI : HI ws.length (lot (dst ws) [first]) H := by
    refine ⟨o1, by rw [o2, hl0], fun x hx => ?_, fun p hp0 => ?_⟩
    · rw [hmem, hH0] at hx
      obtain ⟨p, hp0, rfl⟩ := List.mem_map.mp hx
      exact ⟨p, _, rfl, List.mem_range.mp hp0, Int.le_refl _, lot_le6 M (by simp) p⟩
    · refine ⟨key p (lot (dst ws) [first] p), ?_, by unfold key; (first | lia | omega)⟩
      rw [hmem, hH0]
      exact List.mem_map.mpr ⟨p, List.mem_range.mpr hp0, rfl⟩
  refine ⟨by simp, by simp, fun c hc => by rw [List.mem_singleton.mp hc]; exact hf, rfl, fun k c hk => ?_, hHI, ?_⟩
  · cases k with
    | succ k => simp at hk
    | zero => exact (List.filter_eq_self.mpr fun _ _ => rfl).symm
  · have := getD_mem (H := H) (k := 0) (by rw [o2, hl0]; exact Nat.lt_of_le_of_lt (Nat.zero_le _) hf)
    rw [hmem, hH0] at this
    obtain ⟨p, hp0, e⟩ := List.mem_map.mp this
    exact ⟨p, List.mem_range.mp hp0, e.symm⟩
theorem spread_run (Z : Sp Φ Ψ) {ws : List (List Nat)} (hw : ∀ w ∈ ws, w ∈ W40) (h6 : ws.length ≤ 6) {first : Nat} (hf : first < ws.length) :
    ∃ E H ρ, runFn Φ Ψ f_law_spread [wds ws, .int (first : Int), .int 3] = some (.tup [stsD (fin3 (dst ws) ws.length first).2, nr ws.length (lot (dst ws) (fin3 (dst ws) ws.length first).1) (who (dst ws) (fin3 (dst ws) ws.length first).1), bk (fin3 (dst ws) ws.length first).1 E (lot (dst ws) (fin3 (dst ws) ws.length first).1) (who (dst ws) (fin3 (dst ws) ws.length first).1)], ρ) ∧
      At ws (fin3 (dst ws) ws.length first).1 (fin3 (dst ws) ws.length first).2 E H := by
  have M := dst_met hw
  have hn : 0 < ws.length := Nat.lt_of_le_of_lt (Nat.zero_le _) hf
  have A := start_at' hw h6 hf
  have hcall := Z.heap ((List.range ws.length).map fun p => key p (lot (dst ws) [first] p)) (by simp; (first | lia | omega))
  obtain ⟨hpn, htop⟩ := A.top' h6
  obtain ⟨b6, b8, hl⟩ := init_loop Φ Ψ Z h6 (first := first) (lo := lot (dst ws) [first]) (wh := who (dst ws) [first]) (fun p => ⟨lot_nonneg M (by simp) p, lot_le6 M (by simp) p⟩) (fun _ => rfl) (wds ws) none none none none none none none
  obtain ⟨ρ', h1, x, A', hfin, rfl⟩ := while_rule (Inv := SpInv ws first (.int (first : Int))) (Post := SpPost ws first (.int (first : Int))) (out_step Φ Ψ Z hw h6) turns 2 _ (by decide)
    ⟨⟨[first], [(first, far (dst ws) ws.length [first])], fun _ => List.range ws.length, _, b6, b8, none, none, none, none⟩, A, rfl, rfl, rfl⟩
  rw [← hfin]
  refine ⟨x.E, x.H, x.rho ws (.int (first : Int)), ?_, A'⟩
  unfold runFn
  rw [if_pos (show [wds ws, D.int (first : Int), D.int 3].length = f_law_spread.params from rfl), spread_body]
  have e1 : evF Φ (.dict1 (.var 1) zero5) (R (wds ws) (.int (first : Int)) (some (nr ws.length (lot (dst ws) [first]) (who (dst ws) [first]))) none none none none none none none none none) = some (.dict [((first : Int), none5)]) := by
    rw [evF, zero5_run, ev, R_look1]; rfl
  have e2 : ∀ ρ, evF Φ (.list .nil) ρ = some (.list []) := fun ρ => by rw [evF, evs]; rfl
  have e3 : ∀ ρ : Rho, look ρ 1 = some (.int (first : Int)) → look ρ 5 = some (hp (heapL ((List.range ws.length).map fun p => key p (lot (dst ws) [first] p)))) → evF Φ (.list (.cons (.tup (.cons (.var 1) (.cons (.neg (topX 0)) (.nil)))) (.nil))) ρ = some (stsD [(first, far (dst ws) ws.length [first])]) := fun ρ r1 r5 => by
    have n1 : ev Φ (.neg (topX 0)) ρ = some (.int (far (dst ws) ws.length [first])) := by rw [ev, (topX_run Φ (cs := []) A.heap hn h6 hpn htop r5).1, Option.bind_some, negD, Int.neg_neg]
    have n0 : ev Φ (.var 1) ρ = some (.int (first : Int)) := by rw [ev, r1]
    rw [evF, evs, evs, ev, evs, evs, evs, n1, n0]; rfl
  have e4 : ev Φ (.tup (.cons (.var 7) (.cons (.var 3) (.cons (.var 4) (.nil))))) (x.rho ws (.int (first : Int))) = some (.tup [stsD x.st, nr ws.length (lot (dst ws) x.cs) (who (dst ws) x.cs), bk x.cs x.E (lot (dst ws) x.cs) (who (dst ws) x.cs)]) := by
    unfold SpSt.rho
    simp only [ev, evs, R_look0, R_look1, R_look2, R_look3, R_look4, R_look5, R_look6, R_look7, R_look8, R_look9, R_look10, R_look11, R_look12, R_look13, R_look14, Option.bind_some, Option.map_some]; rfl
  have hinit : (([wds ws, D.int (first : Int), D.int 3].map some ++ List.replicate (f_law_spread.size - f_law_spread.params) none : Rho)) = R (wds ws) (.int (first : Int)) none none none none none none none none none none := rfl
  rw [hinit, exs, ex, near_run Φ Ψ Z hw h6 hf]
  simp only [Option.map_some, Option.bind_some, R_set3, R_set4, R_set5, R_set6, R_set7, R_set8, R_set9, R_set10, R_set13, R_set14]
  rw [exs, ex, e1]
  simp only [Option.map_some, Option.bind_some, R_set3, R_set4, R_set5, R_set6, R_set7, R_set8, R_set9, R_set10, R_set13, R_set14]
  rw [exs, ex, e2]
  simp only [Option.map_some, Option.bind_some, R_set3, R_set4, R_set5, R_set6, R_set7, R_set8, R_set9, R_set10, R_set13, R_set14]
  rw [exs, ex]
  simp only [evI, ev, R_look0, R_look1, R_look2, R_look3, R_look4, R_look5, R_look6, R_look7, R_look8, R_look9, R_look10, R_look11, R_look12, R_look13, R_look14, Option.bind_some, len_wds h6, range1_nat (show ws.length ≤ 1000 by (first | lia | omega)), hl]
  rw [exs, ex]
  simp only [evs, R_look0, R_look1, R_look2, R_look3, R_look4, R_look5, R_look6, R_look7, R_look8, R_look9, R_look10, R_look11, R_look12, R_look13, R_look14, Option.bind_some, hcall, Option.map_some, R_set3, R_set4, R_set5, R_set6, R_set7, R_set8, R_set9, R_set10, R_set13, R_set14]
  rw [exs, ex, e3 _ (R_look1 ..) (R_look5 ..)]
  simp only [Option.map_some, Option.bind_some, R_set3, R_set4, R_set5, R_set6, R_set7, R_set8, R_set9, R_set10, R_set13, R_set14]
  rw [exs, ex]
  refine (congrArg (fun z => Option.bind (Option.bind z _) _) h1).trans ?_
  rw [Option.bind_some]
  dsimp only
  rw [exs_ret Φ Ψ (by rw [ex, e4]; rfl)]
  rfl
end
end Mine
end
section
open PySem
set_option maxRecDepth 100000
namespace Mine
section
variable (Φ Ψ : Nat → List D → Option D)
theorem evF_map {β : Type} {elt : X} {i : Nat} {it : I} {ρ : Rho} (ds : List β) (toD : β → D) (g : β → D) (h1 : evI Φ it ρ = some (ds.map toD)) (h2 : ds.length ≤ 1000)
    (h3 : ∀ b ∈ ds, ev Φ elt ((ρ.set i none).set i (some (toD b))) = some (g b)) : evF Φ (.comp elt (.cons i it .nil .nil)) ρ = some (.list (ds.map g)) := by
  rw [evF, evGs, clear, clear, h1, Option.bind_some, if_pos (by rw [List.length_map]; exact h2)]
  rw [flatM_one ds toD g fun b hb => by rw [evAnd, Option.bind_some, if_pos rfl, evGs, h3 b hb]; rfl]
  rw [Option.bind_some, if_pos (by rw [List.length_map]; exact h2)]
theorem evF_filter {β : Type} {elt : X} {i : Nat} {it : I} {t : T} {ρ : Rho} (ds : List β) (toD : β → D) (c : β → Bool) (g : β → D) (h1 : evI Φ it ρ = some (ds.map toD)) (h2 : ds.length ≤ 1000)
    (h3 : ∀ b ∈ ds, evT Φ t ((ρ.set i none).set i (some (toD b))) = some (c b)) (h4 : ∀ b ∈ ds, c b = true → ev Φ elt ((ρ.set i none).set i (some (toD b))) = some (g b)) :
    evF Φ (.comp elt (.cons i it (.cons t .nil) .nil)) ρ = some (.list ((ds.filter c).map g)) := by
  rw [evF, evGs, clear, clear, h1, Option.bind_some, if_pos (by rw [List.length_map]; exact h2)]
  rw [flatM_map ds toD (fun b => if c b then [g b] else []) fun b hb => by
    rw [evAnd, h3 b hb, Option.bind_some]
    cases e : c b
    · rw [if_neg (by decide), Option.bind_some, if_neg (by decide)]; rfl
    · rw [if_pos rfl, evAnd, Option.bind_some, if_pos rfl, evGs, h4 b hb e]; rfl]
  have e : (ds.flatMap fun b => if c b then [g b] else []) = (ds.filter c).map g := by
    clear h1 h2 h3 h4
    induction ds with
    | nil => rfl
    | cons b r ih =>
      rw [List.flatMap_cons, ih, List.filter_cons]
      cases c b <;> rfl
  rw [Option.bind_some, e, if_pos (by rw [List.length_map]; exact Nat.le_trans (List.length_filter_le _ _) h2)]
theorem range1_map {n : Nat} (h : n ≤ 1000) : range1D (.int (n : Int)) = some ((List.range n).map fun p : Nat => .int (p : Int)) := by
  rw [range1_nat h]; unfold rangeD
  simp only [Int.zero_add]
noncomputable def rowD (n : Nat) (d : Nat → Nat → Int) (p : Nat) : D := .list ((List.range n).map fun q => .int (d p q))
noncomputable def tbl (n : Nat) (d : Nat → Nat → Int) : D := .list ((List.range n).map fun p => rowD n d p)
theorem rangeL_sub {n : Nat} {g : Nat → D} {p : Nat} (h : p < n) (hn : n ≤ 6) : subD (.list ((List.range n).map g)) (.int (p : Int)) = some (g p) :=
  sub_list (by rw [List.getElem?_map, List.getElem?_range h]; rfl) (by simp; (first | lia | omega))
theorem tbl_sub {n : Nat} {d : Nat → Nat → Int} {p : Nat} (h : p < n) (hn : n ≤ 6) : subD (tbl n d) (.int (p : Int)) = some (rowD n d p) := rangeL_sub h hn
theorem row_sub {n : Nat} {d : Nat → Nat → Int} {p q : Nat} (h : q < n) (hn : n ≤ 6) : subD (rowD n d p) (.int (q : Int)) = some (.int (d p q)) := rangeL_sub (g := fun q => .int (d p q)) h hn
noncomputable def halfIn : F := .comp (.call 11 (.cons (.sub (.var 0) (.var 4)) (.cons (.sub (.var 0) (.var 3)) (.nil)))) (.cons 4 (.range1 (.var 3)) (.nil) (.nil))
noncomputable def halfF : F := .comp (.new halfIn) (.cons 3 (.range1 (.var 1)) (.nil) (.nil))
noncomputable def tabIn : F := .comp (.ite (.cmp .ne (.var 4) (.var 3)) (.sub (.sub (.var 2) (.max2 (.var 4) (.var 3))) (.min2 (.var 4) (.var 3))) (.int 0)) (.cons 3 (.range1 (.var 1)) (.nil) (.nil))
noncomputable def tabF : F := .comp (.new tabIn) (.cons 4 (.range1 (.var 1)) (.nil) (.nil))
noncomputable def halfD (ws : List (List Nat)) : D := .list ((List.range ws.length).map fun q => .list ((List.range q).map fun p => .int (dst ws p q)))
theorem table_run (h11 : ∀ a b, a ∈ W40 → b ∈ W40 → Φ 11 [wd a, wd b] = some (.int (P a b))) {ws : List (List Nat)} (hw : ∀ w ∈ ws, w ∈ W40) (h6 : ws.length ≤ 6) :
    ∃ ρ, runFn Φ Ψ f_law_table [wds ws] = some (tbl ws.length (dst ws), ρ) := by
  have M := dst_met hw
  unfold runFn
  rw [if_pos (show [wds ws].length = f_law_table.params from rfl)]
  have hinit : (([wds ws].map some ++ List.replicate (f_law_table.size - f_law_table.params) none : Rho)) = [some (wds ws), none, none, none, none] := rfl
  have hb : f_law_table.body = [.assign 1 (.len (.var 0)), .assign 2 (.new halfF), .ret (.new tabF)] := rfl
  have s1 : ex Φ Ψ (.assign 1 (.len (.var 0))) [some (wds ws), none, none, none, none] = some (.next, [some (wds ws), some (.int (ws.length : Int)), none, none, none]) := by
    rw [ex, ev, ev]
    show Option.map _ (Option.bind (some (wds ws)) lenD) = _
    rw [Option.bind_some, len_wds h6]; rfl
  have s2 : ex Φ Ψ (.assign 2 (.new halfF)) [some (wds ws), some (.int (ws.length : Int)), none, none, none] = some (.next, [some (wds ws), some (.int (ws.length : Int)), some (halfD ws), none, none]) := by
    rw [ex, ev]
    unfold halfF
    rw [evF_map Φ (List.range ws.length) (fun p : Nat => .int (p : Int)) (fun q => .list ((List.range q).map fun p => .int (dst ws p q))) ?_ (by simp; (first | lia | omega)) fun q hq => ?_]
    · rfl
    · rw [evI, ev]; exact range1_map (by (first | lia | omega))
    · have hq' := List.mem_range.mp hq
      rw [ev]
      unfold halfIn
      refine evF_map Φ (List.range q) (fun p : Nat => .int (p : Int)) (fun p => .int (dst ws p q)) ?_ (by simp; (first | lia | omega)) fun p hp => ?_
      · rw [evI, ev]; exact range1_map (by (first | lia | omega))
      · have hp' := List.mem_range.mp hp
        have e1 := sub_wds (ws := ws) (p := p) (by (first | lia | omega)) h6
        have e2 := sub_wds hq' h6
        rw [ev, evs, evs, evs, ev, ev, ev, ev, ev]
        show Option.bind (Option.bind (Option.bind (some (wds ws)) fun x => Option.bind (some (.int (p : Int))) fun y => subD x y) fun x => Option.map (x :: ·) (Option.bind (Option.bind (some (wds ws)) fun x => Option.bind (some (.int (q : Int))) fun y => subD x y) fun x => Option.map (x :: ·) (some []))) (Φ 11) = _
        simp only [Option.bind_some, e1, e2, Option.map_some, h11 _ _ (wat_mem hw p) (wat_mem hw q)]
        rfl
  have s3 : ex Φ Ψ (.ret (.new tabF)) [some (wds ws), some (.int (ws.length : Int)), some (halfD ws), none, none] = some (.ret (tbl ws.length (dst ws)), [some (wds ws), some (.int (ws.length : Int)), some (halfD ws), none, none]) := by
    rw [ex, ev]
    unfold tabF
    rw [evF_map Φ (List.range ws.length) (fun p : Nat => .int (p : Int)) (fun p => rowD ws.length (dst ws) p) ?_ (by simp; (first | lia | omega)) fun p hp => ?_]
    · rfl
    · rw [evI, ev]; exact range1_map (by (first | lia | omega))
    · have hp' := List.mem_range.mp hp
      rw [ev]
      unfold tabIn
      refine evF_map Φ (List.range ws.length) (fun p : Nat => .int (p : Int)) (fun q => .int (dst ws p q)) ?_ (by simp; (first | lia | omega)) fun q hq => ?_
      · rw [evI, ev]; exact range1_map (by (first | lia | omega))
      · have hq' := List.mem_range.mp hq
        generalize hρ : ((List.set ((List.set [some (wds ws), some (D.int (ws.length : Int)), some (halfD ws), none, none] 4 none).set 4 (some (D.int (p : Int)))) 3 none).set 3 (some (D.int (q : Int)))) = ρ
        have l4 : ev Φ (.var 4) ρ = some (.int (p : Int)) := by rw [ev, ← hρ]; rfl
        have l3 : ev Φ (.var 3) ρ = some (.int (q : Int)) := by rw [ev, ← hρ]; rfl
        have l2 : ev Φ (.var 2) ρ = some (halfD ws) := by rw [ev, ← hρ]; rfl
        rw [ev, evT, l4, l3, Option.bind_some, Option.bind_some, ne_ii, Option.bind_some]
        by_cases e : p = q
        · subst e
          rw [decide_eq_true rfl, if_neg (by decide), ev, M.zero]
        · rw [decide_eq_false (by (first | lia | omega)), if_pos (show (!false) = true from rfl)]
          have k4 : look ρ 4 = some (.int (p : Int)) := by rw [← hρ]; rfl
          have k3 : look ρ 3 = some (.int (q : Int)) := by rw [← hρ]; rfl
          have k2 : look ρ 2 = some (halfD ws) := by rw [← hρ]; rfl
          have hm : max2D (.int (p : Int)) (.int (q : Int)) = some (.int ((max p q : Nat) : Int)) := by
            show some (D.int (if (p : Int) < q then (q : Int) else p)) = _
            rcases Nat.lt_or_ge p q with h | h
            · rw [if_pos (by (first | lia | omega)), Nat.max_eq_right (by (first | lia | omega))]
            · rw [if_neg (by (first | lia | omega)), Nat.max_eq_left h]
          have hm2 : min2D (.int (p : Int)) (.int (q : Int)) = some (.int ((min p q : Nat) : Int)) := by
            show some (D.int (if (q : Int) < p then (q : Int) else p)) = _
            rcases Nat.lt_or_ge p q with h | h
            · rw [if_neg (by (first | lia | omega)), Nat.min_eq_left (by (first | lia | omega))]
            · rw [if_pos (by (first | lia | omega)), Nat.min_eq_right h]
          have g1 : subD (halfD ws) (.int ((max p q : Nat) : Int)) = some (.list ((List.range (max p q)).map fun r => .int (dst ws r (max p q)))) := rangeL_sub (g := fun q => .list ((List.range q).map fun p => .int (dst ws p q))) (by (first | lia | omega)) h6
          have g2 : subD (.list ((List.range (max p q)).map fun r => .int (dst ws r (max p q)))) (.int ((min p q : Nat) : Int)) = some (.int (dst ws (min p q) (max p q))) := rangeL_sub (g := fun r => .int (dst ws r (max p q))) (by (first | lia | omega)) (by (first | lia | omega))
          simp only [ev, k4, k3, k2, Option.bind_some, hm, hm2, g1, g2]
          rcases Nat.lt_or_ge p q with h | h
          · rw [Nat.min_eq_left (by (first | lia | omega)), Nat.max_eq_right (by (first | lia | omega))]
          · rw [Nat.min_eq_right h, Nat.max_eq_left h, M.sym]
  refine ⟨[some (wds ws), some (.int (ws.length : Int)), some (halfD ws), none, none], ?_⟩
  rw [hinit, hb, exs_next Φ Ψ s1, exs_next Φ Ψ s2, exs_ret Φ Ψ s3]
  rfl
end
end Mine
end
section
open PySem
set_option maxRecDepth 100000
set_option linter.unusedSimpArgs false
set_option linter.unusedVariables false
namespace Mine
noncomputable def Q (W a0 : D) (a3 a4 a5 a6 a7 a8 a9 a10 a11 a12 : Option D) : Rho := [some W, some a0, some (.int 3), a3, a4, a5, a6, a7, a8, a9, a10, a11, a12, none, none, none, none]
theorem Q_look0 (W a0 : D) (a3 a4 a5 a6 a7 a8 a9 a10 a11 a12 : Option D) : look (Q W a0 a3 a4 a5 a6 a7 a8 a9 a10 a11 a12) 0 = some W := rfl
theorem Q_look1 (W a0 : D) (a3 a4 a5 a6 a7 a8 a9 a10 a11 a12 : Option D) : look (Q W a0 a3 a4 a5 a6 a7 a8 a9 a10 a11 a12) 1 = some a0 := rfl
theorem Q_look2 (W a0 : D) (a3 a4 a5 a6 a7 a8 a9 a10 a11 a12 : Option D) : look (Q W a0 a3 a4 a5 a6 a7 a8 a9 a10 a11 a12) 2 = some (.int 3) := rfl
theorem Q_look3 (W a0 : D) (a3 a4 a5 a6 a7 a8 a9 a10 a11 a12 : Option D) : look (Q W a0 a3 a4 a5 a6 a7 a8 a9 a10 a11 a12) 3 = a3 := rfl
theorem Q_look4 (W a0 : D) (a3 a4 a5 a6 a7 a8 a9 a10 a11 a12 : Option D) : look (Q W a0 a3 a4 a5 a6 a7 a8 a9 a10 a11 a12) 4 = a4 := rfl
theorem Q_look5 (W a0 : D) (a3 a4 a5 a6 a7 a8 a9 a10 a11 a12 : Option D) : look (Q W a0 a3 a4 a5 a6 a7 a8 a9 a10 a11 a12) 5 = a5 := rfl
theorem Q_look6 (W a0 : D) (a3 a4 a5 a6 a7 a8 a9 a10 a11 a12 : Option D) : look (Q W a0 a3 a4 a5 a6 a7 a8 a9 a10 a11 a12) 6 = a6 := rfl
theorem Q_look7 (W a0 : D) (a3 a4 a5 a6 a7 a8 a9 a10 a11 a12 : Option D) : look (Q W a0 a3 a4 a5 a6 a7 a8 a9 a10 a11 a12) 7 = a7 := rfl
theorem Q_look8 (W a0 : D) (a3 a4 a5 a6 a7 a8 a9 a10 a11 a12 : Option D) : look (Q W a0 a3 a4 a5 a6 a7 a8 a9 a10 a11 a12) 8 = a8 := rfl
theorem Q_look9 (W a0 : D) (a3 a4 a5 a6 a7 a8 a9 a10 a11 a12 : Option D) : look (Q W a0 a3 a4 a5 a6 a7 a8 a9 a10 a11 a12) 9 = a9 := rfl
theorem Q_look10 (W a0 : D) (a3 a4 a5 a6 a7 a8 a9 a10 a11 a12 : Option D) : look (Q W a0 a3 a4 a5 a6 a7 a8 a9 a10 a11 a12) 10 = a10 := rfl
theorem Q_look11 (W a0 : D) (a3 a4 a5 a6 a7 a8 a9 a10 a11 a12 : Option D) : look (Q W a0 a3 a4 a5 a6 a7 a8 a9 a10 a11 a12) 11 = a11 := rfl
theorem Q_look12 (W a0 : D) (a3 a4 a5 a6 a7 a8 a9 a10 a11 a12 : Option D) : look (Q W a0 a3 a4 a5 a6 a7 a8 a9 a10 a11 a12) 12 = a12 := rfl
theorem Q_look13 (W a0 : D) (a3 a4 a5 a6 a7 a8 a9 a10 a11 a12 : Option D) : look (Q W a0 a3 a4 a5 a6 a7 a8 a9 a10 a11 a12) 13 = none := rfl
theorem Q_look14 (W a0 : D) (a3 a4 a5 a6 a7 a8 a9 a10 a11 a12 : Option D) : look (Q W a0 a3 a4 a5 a6 a7 a8 a9 a10 a11 a12) 14 = none := rfl
theorem Q_look15 (W a0 : D) (a3 a4 a5 a6 a7 a8 a9 a10 a11 a12 : Option D) : look (Q W a0 a3 a4 a5 a6 a7 a8 a9 a10 a11 a12) 15 = none := rfl
theorem Q_look16 (W a0 : D) (a3 a4 a5 a6 a7 a8 a9 a10 a11 a12 : Option D) : look (Q W a0 a3 a4 a5 a6 a7 a8 a9 a10 a11 a12) 16 = none := rfl
theorem Q_set3 (W a0 : D) (a3 a4 a5 a6 a7 a8 a9 a10 a11 a12 : Option D) (x : Option D) : (Q W a0 a3 a4 a5 a6 a7 a8 a9 a10 a11 a12).set 3 x = Q W a0 x a4 a5 a6 a7 a8 a9 a10 a11 a12 := rfl
theorem Q_set4 (W a0 : D) (a3 a4 a5 a6 a7 a8 a9 a10 a11 a12 : Option D) (x : Option D) : (Q W a0 a3 a4 a5 a6 a7 a8 a9 a10 a11 a12).set 4 x = Q W a0 a3 x a5 a6 a7 a8 a9 a10 a11 a12 := rfl
theorem Q_set5 (W a0 : D) (a3 a4 a5 a6 a7 a8 a9 a10 a11 a12 : Option D) (x : Option D) : (Q W a0 a3 a4 a5 a6 a7 a8 a9 a10 a11 a12).set 5 x = Q W a0 a3 a4 x a6 a7 a8 a9 a10 a11 a12 := rfl
theorem Q_set6 (W a0 : D) (a3 a4 a5 a6 a7 a8 a9 a10 a11 a12 : Option D) (x : Option D) : (Q W a0 a3 a4 a5 a6 a7 a8 a9 a10 a11 a12).set 6 x = Q W a0 a3 a4 a5 x a7 a8 a9 a10 a11 a12 := rfl
theorem Q_set7 (W a0 : D) (a3 a4 a5 a6 a7 a8 a9 a10 a11 a12 : Option D) (x : Option D) : (Q W a0 a3 a4 a5 a6 a7 a8 a9 a10 a11 a12).set 7 x = Q W a0 a3 a4 a5 a6 x a8 a9 a10 a11 a12 := rfl
theorem Q_set8 (W a0 : D) (a3 a4 a5 a6 a7 a8 a9 a10 a11 a12 : Option D) (x : Option D) : (Q W a0 a3 a4 a5 a6 a7 a8 a9 a10 a11 a12).set 8 x = Q W a0 a3 a4 a5 a6 a7 x a9 a10 a11 a12 := rfl
theorem Q_set9 (W a0 : D) (a3 a4 a5 a6 a7 a8 a9 a10 a11 a12 : Option D) (x : Option D) : (Q W a0 a3 a4 a5 a6 a7 a8 a9 a10 a11 a12).set 9 x = Q W a0 a3 a4 a5 a6 a7 a8 x a10 a11 a12 := rfl
theorem Q_set10 (W a0 : D) (a3 a4 a5 a6 a7 a8 a9 a10 a11 a12 : Option D) (x : Option D) : (Q W a0 a3 a4 a5 a6 a7 a8 a9 a10 a11 a12).set 10 x = Q W a0 a3 a4 a5 a6 a7 a8 a9 x a11 a12 := rfl
theorem Q_set11 (W a0 : D) (a3 a4 a5 a6 a7 a8 a9 a10 a11 a12 : Option D) (x : Option D) : (Q W a0 a3 a4 a5 a6 a7 a8 a9 a10 a11 a12).set 11 x = Q W a0 a3 a4 a5 a6 a7 a8 a9 a10 x a12 := rfl
theorem Q_set12 (W a0 : D) (a3 a4 a5 a6 a7 a8 a9 a10 a11 a12 : Option D) (x : Option D) : (Q W a0 a3 a4 a5 a6 a7 a8 a9 a10 a11 a12).set 12 x = Q W a0 a3 a4 a5 a6 a7 a8 a9 a10 a11 x := rfl
noncomputable def csD (cs : List Nat) : D := .list (cs.map fun c : Nat => .int (c : Int))
theorem csD_sub {cs : List Nat} {k c : Nat} (h : cs[k]? = some c) (hl : cs.length ≤ 1000) : subD (csD cs) (.int (k : Int)) = some (.int (c : Int)) :=
  sub_list (by rw [List.getElem?_map, h]; rfl) (by rw [List.length_map]; exact hl)
theorem len_csD {cs : List Nat} (hl : cs.length ≤ 1000) : lenD (csD cs) = some (.int cs.length) := by
  show (if (cs.map fun c : Nat => D.int (c : Int)).length ≤ 1000 then _ else _) = _
  rw [if_pos (by rw [List.length_map]; exact hl), List.length_map]
theorem len_tbl {n : Nat} {d : Nat → Nat → Int} (h : n ≤ 6) : lenD (tbl n d) = some (.int n) := by
  show (if ((List.range n).map fun p => rowD n d p).length ≤ 1000 then _ else _) = _
  rw [if_pos (by simp; (first | lia | omega)), List.length_map, List.length_range]
theorem eq_ii (a b : Int) : cmpD .eq (.int a) (.int b) = some (decide (a = b)) := rfl
theorem le_ii (a b : Int) : cmpD .le (.int a) (.int b) = some (decide (a ≤ b)) := rfl
theorem eq_nil (a : List D) : cmpD .eq (.list a) (.list []) = some (decide (a = [])) := by
  cases a with
  | nil => rfl
  | cons x r => rfl
section
variable (Φ Ψ : Nat → List D → Option D)
noncomputable def lotsIn : F := .comp (.sub (.var 14) (.var 9)) (.cons 9 (.seq (.bor 3)) (.nil) (.nil))
noncomputable def lotsX : X := .new (.comp (.minL (.new lotsIn)) (.cons 14 (.seq (.var 0)) (.nil) (.nil)))
noncomputable def plT : T := .cmp .lt (.len (.bor 4)) (.len (.bor 3))
noncomputable def plB : List S := [.assign 8 lotsX,
     .append 4 (.tup (.cons (.sub (.bor 3) (.neg (.int 1))) (.cons (.maxL (.var 8)) (.nil)))),
     .ite (.and (.cons (.cmp .lt (.len (.bor 4)) (.var 2)) (.cons (.cmp .gt (.maxL (.var 8)) (.int 0)) (.nil))))
      [.append 3 (.index (.var 8) (.maxL (.var 8)))]
      []]
noncomputable def whoIn : F := .comp (.var 15) (.cons 15 (.seq (.bor 3)) (.cons (.cmp .eq (.sub (.sub (.var 0) (.var 13)) (.var 15)) (.sub (.var 8) (.var 13))) (.nil)) (.nil))
noncomputable def nearX : X := .new (.comp (.tup (.cons (.sub (.var 8) (.var 13)) (.cons (.sub (.new whoIn) (.int 0)) (.nil)))) (.cons 13 (.range1 (.len (.var 0))) (.nil) (.nil)))
noncomputable def everIn : F := .comp (.var 15) (.cons 15 (.seq (.upto (.bor 3) (.var 7))) (.cons (.cmp .le (.sub (.sub (.var 0) (.var 13)) (.var 15)) (.sub (.sub (.var 0) (.var 13)) (.var 9))) (.nil)) (.nil))
noncomputable def everX : X := .new (.comp (.var 13) (.cons 13 (.range1 (.len (.var 0))) (.cons (.cmp .eq (.new everIn) (.new (.list (.nil)))) (.nil)) (.nil)))
noncomputable def farsX : X := .new (.comp (.sub (.sub (.var 5) (.var 13)) (.int 0)) (.cons 13 (.seq (.var 10)) (.cons (.cmp .eq (.sub (.sub (.var 5) (.var 13)) (.int 1)) (.var 9)) (.nil)) (.nil)))
noncomputable def servX : X := .new (.dcomp (.var 13) (.ite (.cmp .eq (.sub (.sub (.var 5) (.var 13)) (.int 1)) (.var 9)) (.int 1) (.int 0)) 13 (.seq (.var 10)))
noncomputable def sqF : F := .comp (.bin .mul (.var 16) (.var 16)) (.cons 16 (.seq (.var 11)) (.nil) (.nil))
noncomputable def entX : X := .tup (.cons (.len (.var 11)) (.cons (.len (.var 10)) (.cons (.sumL (.var 11)) (.cons (.sumL (.new sqF)) (.cons (.var 12) (.nil))))))
noncomputable def plFor : List S := [.assign 9 (.sub (.bor 3) (.var 7)), .assign 10 everX, .assign 11 farsX, .assign 12 servX, .setAt 6 (.var 9) entX]
theorem plain_body : f_law_plain.body = [.own 3 (.list (.cons (.var 1) (.nil))), .own 4 (.list (.nil)), .while plT plB, .assign 5 nearX, .own 6 (.dict0), .for1 7 (.range1 (.len (.bor 3))) plFor, .ret (.tup (.cons (.var 4) (.cons (.var 5) (.cons (.var 6) (.nil)))))] := rfl

theorem lots_run {n : Nat} {d : Nat → Nat → Int} (h6 : n ≤ 6) {cs : List Nat} (hne : cs ≠ []) (hl : cs.length ≤ 6) (hcn : ∀ c ∈ cs, c < n) {a0 : D} {a4 a5 a6 a7 a8 a9 a10 a11 a12 : Option D} :
    ev Φ lotsX (Q (tbl n d) a0 (some (csD cs)) a4 a5 a6 a7 a8 a9 a10 a11 a12) = some (.list (il (lots d n cs))) := by
  unfold lotsX
  rw [ev, evF_map Φ (List.range n) (fun p => rowD n d p) (fun p => .int (lot d cs p)) ?_ (by simp; (first | lia | omega)) fun p hp => ?_]
  · unfold il lots; rw [List.map_map]; rfl
  · rw [evI, ev, Q_look0]; rfl
  · generalize hρ : (List.set (Q (tbl n d) a0 (some (csD cs)) a4 a5 a6 a7 a8 a9 a10 a11 a12) 14 none).set 14 (some (rowD n d p)) = ρ
    have hin : evF Φ lotsIn ρ = some (.list (il (cs.map (d p)))) := by
      unfold lotsIn
      rw [evF_map Φ cs (fun c => .int (c : Int)) (fun c => .int (d p c)) ?_ (by (first | lia | omega)) fun c hc => ?_]
      · unfold il; rw [List.map_map]; rfl
      · have k3 : look ρ 3 = some (csD cs) := by rw [← hρ]; rfl
        rw [evI, ev, k3]; rfl
      · have k14 : look ((ρ.set 9 none).set 9 (some (.int (c : Int)))) 14 = some (rowD n d p) := by rw [← hρ]; rfl
        have k9 : look ((ρ.set 9 none).set 9 (some (.int (c : Int)))) 9 = some (.int (c : Int)) := by rw [← hρ]; rfl
        simp only [ev, k14, k9, Option.bind_some, row_sub (hcn c hc) h6]
    rw [ev, ev, hin, Option.bind_some]
    unfold minLD
    simp only [intsOf_il, Option.bind_some, lot_min d hne, Option.map_some]
theorem maxL_run {n : Nat} {d : Nat → Nat → Int} (hn : 0 < n) (cs : List Nat) : maxLD (.list (il (lots d n cs))) = some (.int (far d n cs)) := by
  unfold maxLD
  simp only [intsOf_il, Option.bind_some, (mxL_spec (lots_ne d n (cs := cs) hn)).1, Option.map_some]
  rfl
theorem index_run {n : Nat} {d : Nat → Nat → Int} (hn : 0 < n) (h6 : n ≤ 6) (cs : List Nat) : indexD (.list (il (lots d n cs))) (.int (far d n cs)) = some (.int (pick d n cs : Int)) := by
  show (if (il (lots d n cs)).length ≤ 1000 then _ else _) = _
  rw [if_pos (by rw [il_len]; simp [lots]; (first | lia | omega)), intsOf_il, Option.bind_some, (pick_spec d n hn).1]
  rfl
theorem snoc_last {cs : List Nat} (h : cs ≠ []) : cs = cs.dropLast ++ [cs.getLast h] := (List.dropLast_concat_getLast h).symm
theorem last_run {cs : List Nat} {init : List Nat} {last : Nat} (h : cs = init ++ [last]) (hl : cs.length ≤ 6) : subD (csD cs) (.int (-1)) = some (.int (last : Int)) := by
  rw [h]; unfold csD
  rw [List.map_append]
  exact sub_last _ (by rw [List.length_map]; rw [h, List.length_append] at hl; (first | lia | omega))
theorem pl_turn {n : Nat} {d : Nat → Nat → Int} (hn : 0 < n) (h6 : n ≤ 6) {cs : List Nat} {init : List Nat} {last : Nat} (hc : cs = init ++ [last]) (hl : cs.length ≤ 3) (hcn : ∀ c ∈ cs, c < n) {st : List (Nat × Int)} (hst : st.length + 1 = cs.length) (a0 : D) (a5 a6 a7 a8 a9 a10 a11 a12 : Option D) :
    exs Φ Ψ plB (Q (tbl n d) a0 (some (csD cs)) (some (stsD st)) a5 a6 a7 a8 a9 a10 a11 a12) =
      if cs.length < 3 ∧ 0 < far d n cs then some (.next, Q (tbl n d) a0 (some (csD (cs ++ [pick d n cs]))) (some (stsD (st ++ [(last, far d n cs)]))) a5 a6 a7 (some (.list (il (lots d n cs)))) a9 a10 a11 a12)
      else some (.next, Q (tbl n d) a0 (some (csD cs)) (some (stsD (st ++ [(last, far d n cs)]))) a5 a6 a7 (some (.list (il (lots d n cs)))) a9 a10 a11 a12) := by
  have hne : cs ≠ [] := by rw [hc]; simp
  unfold plB
  rw [exs, ex, lots_run Φ h6 hne (by (first | lia | omega)) hcn]
  simp only [Option.map_some, Option.bind_some, Q_set3, Q_set4, Q_set5, Q_set6, Q_set7, Q_set8, Q_set9, Q_set10, Q_set11, Q_set12]
  have hap : appendD (stsD st) (stD (last, far d n cs)) = some (stsD (st ++ [(last, far d n cs)])) := by
    unfold stsD
    rw [append_list _ (by rw [List.length_map]; (first | lia | omega)), List.map_append]; rfl
  have e1 : ev Φ (.tup (.cons (.sub (.bor 3) (.neg (.int 1))) (.cons (.maxL (.var 8)) (.nil)))) (Q (tbl n d) a0 (some (csD cs)) (some (stsD st)) a5 a6 a7 (some (.list (il (lots d n cs)))) a9 a10 a11 a12) = some (stD (last, far d n cs)) := by
    simp only [ev, evs, Q_look0, Q_look1, Q_look2, Q_look3, Q_look4, Q_look5, Q_look6, Q_look7, Q_look8, Q_look9, Q_look10, Q_look11, Q_look12, Option.bind_some, Option.map_some, negD, last_run hc (by (first | lia | omega) : cs.length ≤ 6), maxL_run hn cs]
    rfl
  rw [exs, ex, e1]
  simp only [Q_look0, Q_look1, Q_look2, Q_look3, Q_look4, Q_look5, Q_look6, Q_look7, Q_look8, Q_look9, Q_look10, Q_look11, Q_look12, Option.bind_some, hap, Option.map_some, Q_set3, Q_set4, Q_set5, Q_set6, Q_set7, Q_set8, Q_set9, Q_set10, Q_set11, Q_set12]
  have e2 : evT Φ (.and (.cons (.cmp .lt (.len (.bor 4)) (.var 2)) (.cons (.cmp .gt (.maxL (.var 8)) (.int 0)) (.nil)))) (Q (tbl n d) a0 (some (csD cs)) (some (stsD (st ++ [(last, far d n cs)]))) a5 a6 a7 (some (.list (il (lots d n cs)))) a9 a10 a11 a12) = some (decide (cs.length < 3 ∧ 0 < far d n cs)) := by
    have q1 := len_sts (st := st ++ [(last, far d n cs)]) (by rw [List.length_append, List.length_singleton]; (first | lia | omega))
    rw [List.length_append, List.length_singleton, hst] at q1
    simp only [evT, evAnd, ev, Q_look0, Q_look1, Q_look2, Q_look3, Q_look4, Q_look5, Q_look6, Q_look7, Q_look8, Q_look9, Q_look10, Q_look11, Q_look12, Option.bind_some, q1, lt_ii, maxL_run hn cs, gt_ii]
    by_cases w1 : cs.length < 3
    · rw [decide_eq_true (show (cs.length : Int) < 3 by (first | lia | omega)), if_pos rfl]
      by_cases w2 : 0 < far d n cs
      · rw [decide_eq_true w2, if_pos rfl, decide_eq_true ⟨w1, w2⟩]
      · rw [decide_eq_false w2, if_neg (by decide), decide_eq_false fun e => w2 e.2]
    · rw [decide_eq_false (show ¬ (cs.length : Int) < 3 by (first | lia | omega)), if_neg (by decide), decide_eq_false fun e => w1 e.1]
  rw [exs, ex, e2, Option.bind_some]
  by_cases w : cs.length < 3 ∧ 0 < far d n cs
  · rw [if_pos w, decide_eq_true w, if_pos rfl]
    have hap2 : appendD (csD cs) (.int (pick d n cs : Int)) = some (csD (cs ++ [pick d n cs])) := by
      unfold csD
      rw [append_list _ (by rw [List.length_map]; (first | lia | omega)), List.map_append]; rfl
    rw [exs, ex]
    simp only [ev, Q_look0, Q_look1, Q_look2, Q_look3, Q_look4, Q_look5, Q_look6, Q_look7, Q_look8, Q_look9, Q_look10, Q_look11, Q_look12, Option.bind_some, maxL_run hn cs, index_run hn h6 cs, hap2, Option.map_some, Q_set3, Q_set4, Q_set5, Q_set6, Q_set7, Q_set8, Q_set9, Q_set10, Q_set11, Q_set12]
    rw [exs, Option.bind_some]
    dsimp only
    rw [exs]
  · rw [if_neg w, decide_eq_false w, if_neg (by decide), exs, Option.bind_some]
    dsimp only
    rw [exs]
theorem near_plain {n : Nat} {d : Nat → Nat → Int} (h6 : n ≤ 6) {cs : List Nat} (hne : cs ≠ []) (hl : cs.length ≤ 6) (hcn : ∀ c ∈ cs, c < n) {a0 : D} {a4 a5 a6 a7 a9 a10 a11 a12 : Option D} :
    ev Φ nearX (Q (tbl n d) a0 (some (csD cs)) a4 a5 a6 a7 (some (.list (il (lots d n cs)))) a9 a10 a11 a12) = some (nr n (lot d cs) (who d cs)) := by
  unfold nearX
  rw [ev, evF_map Φ (List.range n) (fun p => .int (p : Int)) (fun p => prD (lot d cs p) (who d cs p)) ?_ (by simp; (first | lia | omega)) fun p hp => ?_]
  · rfl
  · rw [evI, ev, ev, Q_look0, Option.bind_some, len_tbl h6]; exact range1_map (by (first | lia | omega))
  · have hp' := List.mem_range.mp hp
    generalize hρ : (List.set (Q (tbl n d) a0 (some (csD cs)) a4 a5 a6 a7 (some (.list (il (lots d n cs)))) a9 a10 a11 a12) 13 none).set 13 (some (.int (p : Int))) = ρ
    have k8 : look ρ 8 = some (.list (il (lots d n cs))) := by rw [← hρ]; rfl
    have k13 : look ρ 13 = some (.int (p : Int)) := by rw [← hρ]; rfl
    have s8 : subD (.list (il (lots d n cs))) (.int (p : Int)) = some (.int (lot d cs p)) := sub_il (lots_get d n hp') (by simp [lots]; (first | lia | omega))
    obtain ⟨l, hfil⟩ := who_first d hne p
    have hin : evF Φ whoIn ρ = some (.list (.int (who d cs p : Int) :: l.map fun c : Nat => .int (c : Int))) := by
      unfold whoIn
      rw [evF_filter Φ cs (fun c => .int (c : Int)) (fun c => decide (d p c = lot d cs p)) (fun c => .int (c : Int)) ?_ (by (first | lia | omega)) (fun c hc => ?_) fun c hc _ => ?_]
      · rw [hfil]; rfl
      · have k3 : look ρ 3 = some (csD cs) := by rw [← hρ]; rfl
        rw [evI, ev, k3]; rfl
      · have m0 : look ((ρ.set 15 none).set 15 (some (.int (c : Int)))) 0 = some (tbl n d) := by rw [← hρ]; rfl
        have m13 : look ((ρ.set 15 none).set 15 (some (.int (c : Int)))) 13 = some (.int (p : Int)) := by rw [← hρ]; rfl
        have m15 : look ((ρ.set 15 none).set 15 (some (.int (c : Int)))) 15 = some (.int (c : Int)) := by rw [← hρ]; rfl
        have m8 : look ((ρ.set 15 none).set 15 (some (.int (c : Int)))) 8 = some (.list (il (lots d n cs))) := by rw [← hρ]; rfl
        simp only [evT, ev, m0, m13, m15, m8, Option.bind_some, tbl_sub hp' h6, row_sub (hcn c hc) h6, s8, eq_ii]
      · have m15 : look ((ρ.set 15 none).set 15 (some (.int (c : Int)))) 15 = some (.int (c : Int)) := by rw [← hρ]; rfl
        rw [ev, m15]
    have hll : l.length ≤ 6 := by
      have := congrArg List.length hfil
      have h2 := List.length_filter_le (fun c => decide (d p c = lot d cs p)) cs
      rw [List.length_cons] at this
      (first | lia | omega)
    have s0 : subD (.list (.int (who d cs p : Int) :: l.map fun c : Nat => .int (c : Int))) (.int 0) = some (.int (who d cs p : Int)) := sub_list (k := 0) rfl (by simp; (first | lia | omega))
    have e1 : ev Φ (.sub (.new whoIn) (.int 0)) ρ = some (.int (who d cs p : Int)) := by
      have n1 : ev Φ (.new whoIn) ρ = some (.list (.int (who d cs p : Int) :: l.map fun c : Nat => .int (c : Int))) := by rw [ev, hin]
      rw [ev, n1, Option.bind_some, ev, Option.bind_some, s0]
    have e2 : ev Φ (.sub (.var 8) (.var 13)) ρ = some (.int (lot d cs p)) := by simp only [ev, k8, k13, Option.bind_some, s8]
    rw [ev, evs, evs, evs, e1, e2]; rfl
end
end Mine
end
section
open PySem
set_option maxRecDepth 100000
set_option linter.unusedSimpArgs false
set_option linter.unusedVariables false
namespace Mine
theorem sm_filter (on : Nat → Bool) (f : Nat → Int) : ∀ E : List Nat, ((E.filter on).map f).sum = sm E fun p => if on p then f p else 0
  | [] => rfl
  | p :: E => by
    have ih := sm_filter on f E
    unfold sm at ih ⊢
    rw [List.filter_cons, List.map_cons, List.sum_cons, ← ih]
    cases on p
    · rw [if_neg (by decide), if_neg (by decide), Int.zero_add]
    · rw [if_pos rfl, if_pos rfl, List.map_cons, List.sum_cons]
theorem sm_count (on : Nat → Bool) : ∀ E : List Nat, ((E.filter on).length : Int) = sm E fun p => if on p then 1 else 0
  | [] => rfl
  | p :: E => by
    have ih := sm_count on E
    unfold sm at ih ⊢
    rw [List.filter_cons, List.map_cons, List.sum_cons, ← ih]
    cases on p
    · rw [if_neg (by decide), if_neg (by decide), Int.zero_add]
    · rw [if_pos rfl, if_pos rfl, List.length_cons, Int.natCast_add, Int.add_comm]; rfl
theorem flat_dk (g : Nat → D) : ∀ E : List Nat, (E.flatMap fun p : Nat => [((p : Int), g p)]) = dk E g
  | [] => rfl
  | p :: E => by rw [List.flatMap_cons, flat_dk g E]; rfl
theorem upto_csD {cs : List Nat} {k : Nat} (hk : k ≤ 6) (hl : cs.length ≤ 6) : uptoD (csD cs) (.int (k : Int)) = some (csD (cs.take k)) := by
  show (if 0 ≤ (k : Int) ∧ (k : Int) ≤ 1000 ∧ (cs.map fun c : Nat => D.int (c : Int)).length ≤ 1000 then _ else _) = _
  rw [if_pos ⟨by (first | lia | omega), by (first | lia | omega), by rw [List.length_map]; (first | lia | omega)⟩, Int.toNat_natCast, ← List.map_take]; rfl
section
variable (Φ Ψ : Nat → List D → Option D)
theorem ever_run {n : Nat} {d : Nat → Nat → Int} (h6 : n ≤ 6) {cs : List Nat} (hl : cs.length ≤ 6) (hcn : ∀ c ∈ cs, c < n) {k c : Nat} (hk : cs[k]? = some c) {a0 : D} {a4 a5 a6 a8 a10 a11 a12 : Option D} :
    ev Φ everX (Q (tbl n d) a0 (some (csD cs)) a4 a5 a6 (some (.int (k : Int))) a8 (some (.int (c : Int))) a10 a11 a12) = some (csD (everOf d n (cs.take k) c)) := by
  have hkl : k < cs.length := by
    rcases Nat.lt_or_ge k cs.length with q | q
    · exact q
    · rw [List.getElem?_eq_none q] at hk; cases hk
  have hcl := hcn c (List.mem_of_getElem? hk)
  unfold everX
  rw [ev, evF_filter Φ (List.range n) (fun p => .int (p : Int)) (fun p => (cs.take k).all fun c' => decide (d p c < d p c')) (fun p => .int (p : Int)) ?_ (by simp; (first | lia | omega)) (fun p hp => ?_) fun p hp _ => ?_]
  · rfl
  · rw [evI, ev, ev, Q_look0, Option.bind_some, len_tbl h6]; exact range1_map (by (first | lia | omega))
  · have hp' := List.mem_range.mp hp
    generalize hρ : (List.set (Q (tbl n d) a0 (some (csD cs)) a4 a5 a6 (some (.int (k : Int))) a8 (some (.int (c : Int))) a10 a11 a12) 13 none).set 13 (some (.int (p : Int))) = ρ
    have hin : evF Φ everIn ρ = some (.list (((cs.take k).filter fun c' => decide (d p c' ≤ d p c)).map fun c : Nat => .int (c : Int))) := by
      unfold everIn
      rw [evF_filter Φ (cs.take k) (fun c => .int (c : Int)) (fun c' => decide (d p c' ≤ d p c)) (fun c => .int (c : Int)) ?_ (by rw [List.length_take]; (first | lia | omega)) (fun c' hc => ?_) fun c' hc _ => ?_]
      · have k3 : look ρ 3 = some (csD cs) := by rw [← hρ]; rfl
        have k7 : look ρ 7 = some (.int (k : Int)) := by rw [← hρ]; rfl
        rw [evI]
        simp only [ev, k3, k7, Option.bind_some, upto_csD (show k ≤ 6 by (first | lia | omega)) hl]
        rfl
      · have m0 : look ((ρ.set 15 none).set 15 (some (.int (c' : Int)))) 0 = some (tbl n d) := by rw [← hρ]; rfl
        have m13 : look ((ρ.set 15 none).set 15 (some (.int (c' : Int)))) 13 = some (.int (p : Int)) := by rw [← hρ]; rfl
        have m15 : look ((ρ.set 15 none).set 15 (some (.int (c' : Int)))) 15 = some (.int (c' : Int)) := by rw [← hρ]; rfl
        have m9 : look ((ρ.set 15 none).set 15 (some (.int (c' : Int)))) 9 = some (.int (c : Int)) := by rw [← hρ]; rfl
        simp only [evT, ev, m0, m13, m15, m9, Option.bind_some, tbl_sub hp' h6, row_sub (hcn c' (List.mem_of_mem_take hc)) h6, row_sub hcl h6, le_ii]
      · have m15 : look ((ρ.set 15 none).set 15 (some (.int (c' : Int)))) 15 = some (.int (c' : Int)) := by rw [← hρ]; rfl
        rw [ev, m15]
    have n1 : ev Φ (.new everIn) ρ = some (.list (((cs.take k).filter fun c' => decide (d p c' ≤ d p c)).map fun c : Nat => .int (c : Int))) := by rw [ev, hin]
    have n2 : ev Φ (.new (.list .nil)) ρ = some (.list []) := by rw [ev, evF, evs]; rfl
    rw [evT, n1, n2, Option.bind_some, Option.bind_some, eq_nil, Option.some.injEq, Bool.eq_iff_iff, decide_eq_true_iff, List.map_eq_nil_iff, List.filter_eq_nil_iff, List.all_eq_true]
    constructor
    · intro h c' hc; have := h c' hc; simp only [decide_eq_true_eq] at this ⊢; (first | lia | omega)
    · intro h c' hc; have := h c' hc; simp only [decide_eq_true_eq] at this ⊢; (first | lia | omega)
  · rw [ev]; rfl
theorem fars_run {n : Nat} {lo : Nat → Int} {wh : Nat → Nat} (h6 : n ≤ 6) {E : List Nat} (hE : ∀ p ∈ E, p < n) (hEl : E.length ≤ 6) {c : Nat} {W a0 : D} {a3 a4 a6 a7 a8 a11 a12 : Option D} :
    ev Φ farsX (Q W a0 a3 a4 (some (nr n lo wh)) a6 a7 a8 (some (.int (c : Int))) (some (csD E)) a11 a12) = some (.list (il ((E.filter fun p => decide (wh p = c)).map lo))) := by
  unfold farsX
  rw [ev, evF_filter Φ E (fun p => .int (p : Int)) (fun p => decide (wh p = c)) (fun p => .int (lo p)) ?_ (by (first | lia | omega)) (fun p hp => ?_) fun p hp _ => ?_]
  · unfold il; rw [List.map_map]; rfl
  · rw [evI, ev, Q_look10]; rfl
  · have g := nr_sub (lo := lo) (wh := wh) (hE p hp) h6
    unfold prD at g
    generalize hρ : (List.set (Q W a0 a3 a4 (some (nr n lo wh)) a6 a7 a8 (some (.int (c : Int))) (some (csD E)) a11 a12) 13 none).set 13 (some (.int (p : Int))) = ρ
    have k5 : look ρ 5 = some (nr n lo wh) := by rw [← hρ]; rfl
    have k13 : look ρ 13 = some (.int (p : Int)) := by rw [← hρ]; rfl
    have k9 : look ρ 9 = some (.int (c : Int)) := by rw [← hρ]; rfl
    simp only [evT, ev, k5, k13, k9, Option.bind_some, g, sub_pair1, eq_ii]
    rw [Option.some.injEq, decide_eq_decide]; (first | lia | omega)
  · have g := nr_sub (lo := lo) (wh := wh) (hE p hp) h6
    unfold prD at g
    generalize hρ : (List.set (Q W a0 a3 a4 (some (nr n lo wh)) a6 a7 a8 (some (.int (c : Int))) (some (csD E)) a11 a12) 13 none).set 13 (some (.int (p : Int))) = ρ
    have k5 : look ρ 5 = some (nr n lo wh) := by rw [← hρ]; rfl
    have k13 : look ρ 13 = some (.int (p : Int)) := by rw [← hρ]; rfl
    simp only [ev, k5, k13, Option.bind_some, g, sub_pair0]
theorem serv_run {n : Nat} {lo : Nat → Int} {wh : Nat → Nat} (h6 : n ≤ 6) {E : List Nat} (hE : ∀ p ∈ E, p < n) (hEn : E.Nodup) (hEl : E.length ≤ 6) {c : Nat} {W a0 : D} {a3 a4 a6 a7 a8 a11 a12 : Option D} :
    ev Φ servX (Q W a0 a3 a4 (some (nr n lo wh)) a6 a7 a8 (some (.int (c : Int))) (some (csD E)) a11 a12) = some (.dict (dk E (ci fun p => if decide (wh p = c) then 1 else 0))) := by
  have hitems : evI Φ (.seq (.var 10)) (Q W a0 a3 a4 (some (nr n lo wh)) a6 a7 a8 (some (.int (c : Int))) (some (csD E)) a11 a12) = some (E.map fun p : Nat => .int (p : Int)) := by
    rw [evI, ev, Q_look10]; rfl
  unfold servX
  rw [ev, evF, hitems, Option.bind_some, if_pos (by rw [List.length_map]; (first | lia | omega))]
  rw [flatM_map E (fun p => .int (p : Int)) (fun p => [((p : Int), ci (fun p => if decide (wh p = c) then 1 else 0) p)]) fun p hp => ?_]
  · rw [Option.map_some, flat_dk, dict_pairs hEn]
  · have g := nr_sub (lo := lo) (wh := wh) (hE p hp) h6
    unfold prD at g
    generalize hρ : List.set (Q W a0 a3 a4 (some (nr n lo wh)) a6 a7 a8 (some (.int (c : Int))) (some (csD E)) a11 a12) 13 (some (.int (p : Int))) = ρ
    have k5 : look ρ 5 = some (nr n lo wh) := by rw [← hρ]; rfl
    have k13 : look ρ 13 = some (.int (p : Int)) := by rw [← hρ]; rfl
    have k9 : look ρ 9 = some (.int (c : Int)) := by rw [← hρ]; rfl
    have ht : evT Φ (.cmp .eq (.sub (.sub (.var 5) (.var 13)) (.int 1)) (.var 9)) ρ = some (decide (wh p = c)) := by
      simp only [evT, ev, k5, k13, k9, Option.bind_some, g, sub_pair1, eq_ii]
      rw [Option.some.injEq, decide_eq_decide]; (first | lia | omega)
    rw [ev, k13, Option.bind_some, ev, ht, Option.bind_some]
    rw [show ci (fun p => if decide (wh p = c) = true then 1 else 0) p = .int (if decide (wh p = c) = true then 1 else 0) from rfl]
    cases decide (wh p = c)
    · rw [if_neg (by decide), if_neg (by decide), ev]; rfl
    · rw [if_pos rfl, if_pos rfl, ev]; rfl
theorem sumL_il (l : List Int) : sumLD (.list (il l)) = some (.int l.sum) := by
  unfold sumLD; simp only [intsOf_il, Option.map_some]
theorem len_il {l : List Int} (h : l.length ≤ 1000) : lenD (.list (il l)) = some (.int l.length) := by
  show (if (il l).length ≤ 1000 then _ else _) = _
  rw [if_pos (by rw [il_len]; exact h), il_len]
theorem ent_run {n : Nat} {lo : Nat → Int} {wh : Nat → Nat} {E : List Nat} (hlo : ∀ p, 0 ≤ lo p ∧ lo p ≤ 6) (hEl : E.length ≤ 6) {c : Nat} {W a0 : D} {a3 a4 a5 a6 a7 a8 a9 : Option D} :
    ev Φ entX (Q W a0 a3 a4 a5 a6 a7 a8 a9 (some (csD E)) (some (.list (il ((E.filter fun p => decide (wh p = c)).map lo)))) (some (.dict (dk E (ci fun p => if decide (wh p = c) then 1 else 0))))) = some (ent E lo fun p => decide (wh p = c)) := by
  have hfl : (E.filter fun p => decide (wh p = c)).length ≤ 6 := Nat.le_trans (List.length_filter_le _ _) hEl
  have hsq : evF Φ sqF (Q W a0 a3 a4 a5 a6 a7 a8 a9 (some (csD E)) (some (.list (il ((E.filter fun p => decide (wh p = c)).map lo)))) (some (.dict (dk E (ci fun p => if decide (wh p = c) then 1 else 0))))) = some (.list (il ((E.filter fun p => decide (wh p = c)).map fun p => lo p * lo p))) := by
    unfold sqF
    rw [evF_map Φ (E.filter fun p => decide (wh p = c)) (fun p => .int (lo p)) (fun p => .int (lo p * lo p)) ?_ (by (first | lia | omega)) fun p hp => ?_]
    · unfold il; rw [List.map_map]; rfl
    · rw [evI, ev, Q_look11]
      show some (il _) = _
      unfold il; rw [List.map_map]; rfl
    · generalize hρ : (List.set (Q W a0 a3 a4 a5 a6 a7 a8 a9 (some (csD E)) (some (.list (il ((E.filter fun p => decide (wh p = c)).map lo)))) (some (.dict (dk E (ci fun p => if decide (wh p = c) then 1 else 0))))) 16 none).set 16 (some (.int (lo p))) = ρ
      have k : look ρ 16 = some (.int (lo p)) := by rw [← hρ]; rfl
      simp only [ev, k, Option.bind_some, num2 (a := lo p) (b := lo p) (by have := hlo p; (first | lia | omega)) (by have := hlo p; (first | lia | omega))]
  have l1 := len_il (l := (E.filter fun p => decide (wh p = c)).map lo) (by rw [List.length_map]; (first | lia | omega))
  have l2 := len_csD (cs := E) (by (first | lia | omega))
  unfold entX
  simp only [ev, evs, Q_look10, Q_look11, Q_look12, hsq, Option.bind_some, Option.map_some, l1, l2, sumL_il]
  unfold ent
  rw [← sm_count (fun p => decide (wh p = c)) E, ← sm_filter (fun p => decide (wh p = c)) lo E, ← sm_filter (fun p => decide (wh p = c)) (fun p => lo p * lo p) E, List.length_map]
  rfl
theorem pl_for {n : Nat} {d : Nat → Nat → Int} (M : Met d) (h6 : n ≤ 6) {cs : List Nat} (hne : cs ≠ []) (hl : cs.length ≤ 6) (hcn : ∀ c ∈ cs, c < n) (hnd : cs.Nodup) {E : Nat → List Nat} (hE : EverOk d n cs E) (a0 : D) (a4 a7 a8 a9 a10 a11 a12 : Option D) :
    ∃ b7 b9 b10 b11 b12, loopF (bind1 7) (exs Φ Ψ plFor) (rangeD 0 cs.length) (Q (tbl n d) a0 (some (csD cs)) a4 (some (nr n (lot d cs) (who d cs))) (some (.dict [])) a7 a8 a9 a10 a11 a12) =
      some (.next, Q (tbl n d) a0 (some (csD cs)) a4 (some (nr n (lot d cs) (who d cs))) (some (bk cs E (lot d cs) (who d cs))) b7 a8 b9 b10 b11 b12) := by
  have main := loop_all (bind := bind1 7) (body := exs Φ Ψ plFor)
    (Inv := fun k ρ => ∃ a7 a9 a10 a11 a12, ρ = Q (tbl n d) a0 (some (csD cs)) a4 (some (nr n (lot d cs) (who d cs))) (some (bk (cs.take k) E (lot d cs) (who d cs))) a7 a8 a9 a10 a11 a12)
    (rangeD 0 cs.length) (fun k x ρ hd hI => ?_) (ρ := Q (tbl n d) a0 (some (csD cs)) a4 (some (nr n (lot d cs) (who d cs))) (some (.dict [])) a7 a8 a9 a10 a11 a12) ⟨a7, a9, a10, a11, a12, rfl⟩
  · obtain ⟨ρ', h1, b7, b9, b10, b11, b12, rfl⟩ := main
    rw [rangeD_length, List.take_length] at h1
    exact ⟨b7, b9, b10, b11, b12, h1⟩
  · obtain ⟨b7, b9, b10, b11, b12, rfl⟩ := hI
    obtain ⟨hk, rfl⟩ := rangeD_get hd
    rw [Int.zero_add]
    obtain ⟨c, hc⟩ : ∃ c, cs[k]? = some c := ⟨_, List.getElem?_eq_getElem hk⟩
    have hEc : E c = everOf d n (cs.take k) c := hE k c hc
    have hEl : (E c).length ≤ 6 := by rw [hEc]; exact Nat.le_trans (ever_len _ _) h6
    have hEn : (E c).Nodup := by rw [hEc]; exact ever_nodup _ _
    have hEp : ∀ p ∈ E c, p < n := fun p hp => by rw [hEc] at hp; exact (ever_mem.mp hp).1
    have hnew : c ∉ cs.take k := by
      intro hm
      obtain ⟨j, hj⟩ := List.getElem?_of_mem hm
      rw [List.getElem?_take] at hj
      split at hj
      · rename_i hjk
        have := (List.getElem?_inj (i := j) (j := k) (by (first | lia | omega)) hnd).mp (hj.trans hc.symm)
        (first | lia | omega)
      · cases hj
    have hst : storeD (bk (cs.take k) E (lot d cs) (who d cs)) (.int (c : Int)) (ent (E c) (lot d cs) fun p => decide (who d cs p = c)) = some (bk (cs.take (k + 1)) E (lot d cs) (who d cs)) := by
      unfold bk
      rw [store_dk (by rw [List.length_take]; (first | lia | omega)), dSet_new _ _ hnew, List.take_add_one, hc]
      rw [dk_congr (g' := bkG E (lot d cs) (who d cs)) fun q _ => ?_]
      · rfl
      · unfold upd; split
        · rename_i e; rw [e]; rfl
        · rfl
    have e1 := csD_sub hc (by (first | lia | omega))
    have e2 := ever_run Φ (d := d) h6 hl hcn hc (a0 := a0) (a4 := a4) (a5 := some (nr n (lot d cs) (who d cs))) (a6 := some (bk (cs.take k) E (lot d cs) (who d cs))) (a8 := a8) (a10 := b10) (a11 := b11) (a12 := b12)
    rw [← hEc] at e2
    refine ⟨Q (tbl n d) a0 (some (csD cs)) a4 (some (nr n (lot d cs) (who d cs))) (some (bk (cs.take k) E (lot d cs) (who d cs))) (some (.int (k : Int))) a8 b9 b10 b11 b12, Q (tbl n d) a0 (some (csD cs)) a4 (some (nr n (lot d cs) (who d cs))) (some (bk (cs.take (k + 1)) E (lot d cs) (who d cs))) (some (.int (k : Int))) a8 (some (.int (c : Int))) (some (csD (E c))) (some (.list (il (((E c).filter fun p => decide (who d cs p = c)).map (lot d cs))))) (some (.dict (dk (E c) (ci fun p => if decide (who d cs p = c) then 1 else 0)))), congrArg some (Q_set7 ..), .inl ?_, _, _, _, _, _, rfl⟩
    unfold plFor
    rw [exs, ex]
    simp only [ev, Q_look0, Q_look1, Q_look2, Q_look3, Q_look4, Q_look5, Q_look6, Q_look7, Q_look8, Q_look9, Q_look10, Q_look11, Q_look12, Option.bind_some, Option.map_some, e1, Q_set3, Q_set4, Q_set5, Q_set6, Q_set7, Q_set8, Q_set9, Q_set10, Q_set11, Q_set12]
    rw [exs, ex, e2]
    simp only [Option.bind_some, Option.map_some, Q_set3, Q_set4, Q_set5, Q_set6, Q_set7, Q_set8, Q_set9, Q_set10, Q_set11, Q_set12]
    rw [exs, ex, fars_run Φ h6 hEp hEl]
    simp only [Option.bind_some, Option.map_some, Q_set3, Q_set4, Q_set5, Q_set6, Q_set7, Q_set8, Q_set9, Q_set10, Q_set11, Q_set12]
    rw [exs, ex, serv_run Φ h6 hEp hEn hEl]
    simp only [Option.bind_some, Option.map_some, Q_set3, Q_set4, Q_set5, Q_set6, Q_set7, Q_set8, Q_set9, Q_set10, Q_set11, Q_set12]
    rw [exs, ex, ent_run Φ (n := n) (fun p => ⟨lot_nonneg M hne p, lot_le6 M hne p⟩) hEl]
    simp only [ev, Q_look0, Q_look1, Q_look2, Q_look3, Q_look4, Q_look5, Q_look6, Q_look7, Q_look8, Q_look9, Q_look10, Q_look11, Q_look12, Option.bind_some, hst, Option.map_some, Q_set3, Q_set4, Q_set5, Q_set6, Q_set7, Q_set8, Q_set9, Q_set10, Q_set11, Q_set12]
    rw [exs]

structure PlSt where
  cs : List Nat
  st : List (Nat × Int)
  a8 : Option D
noncomputable def PlSt.rho (T a0 : D) (x : PlSt) : Rho := Q T a0 (some (csD x.cs)) (some (stsD x.st)) none none none x.a8 none none none none
structure PlRun (d : Nat → Nat → Int) (n first m : Nat) (x : PlSt) (init : List Nat) (last : Nat) : Prop where
  snoc : x.cs = init ++ [last]
  len : x.st.length + 1 = x.cs.length
  left : m + x.cs.length = 4
  fin : ext d n (3 - x.cs.length) (x.cs, x.st ++ [(last, far d n x.cs)]) = fin3 d n first
structure PlEnd (d : Nat → Nat → Int) (n first : Nat) (x : PlSt) : Prop where
  len : x.st.length = x.cs.length
  fin : (x.cs, x.st) = fin3 d n first
  lots : x.a8 = some (.list (il (lots d n x.cs)))
structure PlAll (n : Nat) (x : PlSt) : Prop where
  lt : ∀ c ∈ x.cs, c < n
  ne : x.cs ≠ []
  le : x.cs.length ≤ 3
noncomputable def PlInv (d : Nat → Nat → Int) (n first m : Nat) (ρ : Rho) : Prop :=
  ∃ x : PlSt, PlAll n x ∧ ρ = x.rho (tbl n d) (.int (first : Int)) ∧ ((∃ init last, PlRun d n first m x init last) ∨ (m = 0 ∧ PlEnd d n first x))
noncomputable def PlPost (d : Nat → Nat → Int) (n first : Nat) (ρ : Rho) : Prop :=
  ∃ x : PlSt, PlAll n x ∧ ρ = x.rho (tbl n d) (.int (first : Int)) ∧ PlEnd d n first x
theorem pl_test (T a0 : D) {x : PlSt} (h1 : x.st.length ≤ 3) (h2 : x.cs.length ≤ 3) : evT Φ plT (x.rho T a0) = some (decide (x.st.length < x.cs.length)) := by
  unfold plT PlSt.rho
  simp only [evT, ev, Q_look0, Q_look1, Q_look2, Q_look3, Q_look4, Q_look5, Q_look6, Q_look7, Q_look8, Q_look9, Q_look10, Q_look11, Q_look12, Option.bind_some, len_sts (show x.st.length ≤ 1000 by (first | lia | omega)), len_csD (show x.cs.length ≤ 1000 by (first | lia | omega)), lt_ii]
  rw [Option.some.injEq, decide_eq_decide]; (first | lia | omega)
theorem pl_step {n : Nat} {d : Nat → Nat → Int} (hn : 0 < n) (h6 : n ≤ 6) {first : Nat} (m : Nat) (ρ : Rho) (hI : PlInv d n first m ρ) :
    (evT Φ plT ρ = some false ∧ PlPost d n first ρ) ∨ (evT Φ plT ρ = some true ∧ ∃ k' ρ', k' < m ∧ (exs Φ Ψ plB ρ = some (.next, ρ') ∨ exs Φ Ψ plB ρ = some (.cont, ρ')) ∧ PlInv d n first k' ρ') := by
  obtain ⟨x, A, rfl, ⟨init, last, B⟩ | ⟨rfl, B⟩⟩ := hI
  · have hl := A.le
    have h1 := B.len
    have h2 := B.left
    have ht := pl_test Φ (tbl n d) (.int (first : Int)) (x := x) (by (first | lia | omega)) A.le
    rw [decide_eq_true (by (first | lia | omega))] at ht
    have hb := pl_turn Φ Ψ (d := d) hn h6 B.snoc A.le A.lt B.len (.int (first : Int)) none none none x.a8 none none none none
    by_cases w : x.cs.length < 3 ∧ 0 < far d n x.cs
    · rw [if_pos w] at hb
      refine .inr ⟨ht, m - 1, _, by (first | lia | omega), .inl hb, ⟨x.cs ++ [pick d n x.cs], x.st ++ [(last, far d n x.cs)], _⟩, ⟨fun c hcc => ?_, by simp, by rw [List.length_append, List.length_singleton]; (first | lia | omega)⟩, rfl, .inl ⟨x.cs, pick d n x.cs, rfl, by rw [List.length_append, List.length_append, List.length_singleton, List.length_singleton]; (first | lia | omega), by rw [List.length_append, List.length_singleton]; (first | lia | omega), ?_⟩⟩
      · rcases List.mem_append.mp hcc with q | q
        · exact A.lt c q
        · rw [List.mem_singleton.mp q]; exact (pick_spec d n hn).2.1
      · rw [← B.fin, List.length_append, List.length_singleton]
        obtain ⟨k, hk⟩ : ∃ k, 3 - x.cs.length = k + 1 := ⟨2 - x.cs.length, by (first | lia | omega)⟩
        rw [hk, ext_go _ _ _ _ _ w.2, show 3 - (x.cs.length + 1) = k from by (first | lia | omega)]
    · rw [if_neg w] at hb
      refine .inr ⟨ht, 0, _, by (first | lia | omega), .inl hb, ⟨x.cs, x.st ++ [(last, far d n x.cs)], _⟩, ⟨A.lt, A.ne, A.le⟩, rfl, .inr ⟨rfl, by rw [List.length_append, List.length_singleton]; exact B.len, ?_, rfl⟩⟩
      rw [← B.fin]
      by_cases w1 : x.cs.length < 3
      · rw [ext_stop _ _ _ _ fun q => w ⟨w1, q⟩]
      · rw [show 3 - x.cs.length = 0 from by (first | lia | omega)]; rfl
  · have ht := pl_test Φ (tbl n d) (.int (first : Int)) (x := x) (by rw [B.len]; exact A.le) A.le
    rw [decide_eq_false (by rw [B.len]; exact Nat.lt_irrefl _)] at ht
    exact .inl ⟨ht, x, A, rfl, B⟩
theorem plain_run {n : Nat} {d : Nat → Nat → Int} (M : Met d) (hn : 0 < n) (h6 : n ≤ 6) {first : Nat} (hf : first < n) (hnd : (fin3 d n first).1.Nodup) {E : Nat → List Nat} (hE : EverOk d n (fin3 d n first).1 E) :
    ∃ ρ, runFn Φ Ψ f_law_plain [tbl n d, .int (first : Int), .int 3] = some (.tup [stsD (fin3 d n first).2, nr n (lot d (fin3 d n first).1) (who d (fin3 d n first).1), bk (fin3 d n first).1 E (lot d (fin3 d n first).1) (who d (fin3 d n first).1)], ρ) := by
  obtain ⟨ρ', h1, x, A, rfl, B⟩ := while_rule (Inv := PlInv d n first) (Post := PlPost d n first) (pl_step Φ Ψ hn h6) turns 3 _ (by decide)
    ⟨⟨[first], [], none⟩, ⟨fun c hc => by rw [List.mem_singleton.mp hc]; exact hf, by simp, by simp⟩, rfl, .inl ⟨[], first, rfl, rfl, rfl, rfl⟩⟩
  have hl := A.le
  rw [← B.fin] at hnd hE ⊢
  obtain ⟨b7, b9, b10, b11, b12, hl2⟩ := pl_for Φ Ψ M h6 A.ne (by (first | lia | omega)) A.lt hnd hE (.int (first : Int)) (some (stsD x.st)) none (some (.list (il (lots d n x.cs)))) none none none none
  unfold runFn
  rw [if_pos (show [tbl n d, D.int (first : Int), D.int 3].length = f_law_plain.params from rfl), plain_body]
  have hinit : (([tbl n d, D.int (first : Int), D.int 3].map some ++ List.replicate (f_law_plain.size - f_law_plain.params) none : Rho)) = Q (tbl n d) (.int (first : Int)) none none none none none none none none none none := rfl
  have e1 : ∀ ρ : Rho, look ρ 1 = some (.int (first : Int)) → evF Φ (.list (.cons (.var 1) (.nil))) ρ = some (csD [first]) := fun ρ h => by rw [evF, evs, evs, ev, h]; rfl
  have e2 : ∀ ρ : Rho, evF Φ (.list (.nil)) ρ = some (stsD []) := fun ρ => by rw [evF, evs]; rfl
  have hr : evI Φ (.range1 (.len (.bor 3))) (Q (tbl n d) (.int (first : Int)) (some (csD x.cs)) (some (stsD x.st)) (some (nr n (lot d x.cs) (who d x.cs))) (some (.dict [])) none (some (.list (il (lots d n x.cs)))) none none none none) = some (rangeD 0 x.cs.length) := by
    rw [evI, ev, ev, Q_look3, Option.bind_some, len_csD (by (first | lia | omega))]; exact range1_nat (by (first | lia | omega))
  have e4 : ev Φ (.tup (.cons (.var 4) (.cons (.var 5) (.cons (.var 6) (.nil))))) (Q (tbl n d) (.int (first : Int)) (some (csD x.cs)) (some (stsD x.st)) (some (nr n (lot d x.cs) (who d x.cs))) (some (bk x.cs E (lot d x.cs) (who d x.cs))) b7 (some (.list (il (lots d n x.cs)))) b9 b10 b11 b12) = some (.tup [stsD x.st, nr n (lot d x.cs) (who d x.cs), bk x.cs E (lot d x.cs) (who d x.cs)]) := by
    simp only [ev, evs, Q_look0, Q_look1, Q_look2, Q_look3, Q_look4, Q_look5, Q_look6, Q_look7, Q_look8, Q_look9, Q_look10, Q_look11, Q_look12, Option.bind_some, Option.map_some]; rfl
  unfold PlSt.rho at h1
  rw [B.lots] at h1
  refine ⟨Q (tbl n d) (.int (first : Int)) (some (csD x.cs)) (some (stsD x.st)) (some (nr n (lot d x.cs) (who d x.cs))) (some (bk x.cs E (lot d x.cs) (who d x.cs))) b7 (some (.list (il (lots d n x.cs)))) b9 b10 b11 b12, ?_⟩
  rw [hinit, exs, ex, e1 _ (Q_look1 ..)]
  simp only [Option.bind_some, Option.map_some, Q_set3, Q_set4, Q_set5, Q_set6, Q_set7, Q_set8, Q_set9, Q_set10, Q_set11, Q_set12]
  rw [exs, ex, e2]
  simp only [Option.bind_some, Option.map_some, Q_set3, Q_set4, Q_set5, Q_set6, Q_set7, Q_set8, Q_set9, Q_set10, Q_set11, Q_set12]
  rw [exs, ex]
  refine (congrArg (fun z => Option.bind (Option.bind z _) _) h1).trans ?_
  rw [Option.bind_some]
  dsimp only
  rw [exs, ex, near_plain Φ h6 A.ne (by (first | lia | omega)) A.lt]
  simp only [Option.bind_some, Option.map_some, Q_set3, Q_set4, Q_set5, Q_set6, Q_set7, Q_set8, Q_set9, Q_set10, Q_set11, Q_set12]
  rw [exs, ex, evF]
  simp only [Option.bind_some, Option.map_some, Q_set3, Q_set4, Q_set5, Q_set6, Q_set7, Q_set8, Q_set9, Q_set10, Q_set11, Q_set12]
  rw [exs, ex, hr, Option.bind_some, hl2, Option.bind_some]
  dsimp only
  rw [exs_ret Φ Ψ (by rw [ex, e4]; rfl)]
  rfl
end
end Mine
end
section
open PySem
set_option maxRecDepth 100000
namespace Mine
noncomputable def chs (n : Nat) : Nat → List (List Nat)
  | 0 => [[]]
  | k + 1 => (chs n k).flatMap fun c => match c.getLast? with
    | none => (List.range n).map fun p => [p]
    | some l => (List.range (n - (l + 1))).map fun p => c ++ [l + 1 + p]
section
variable (Φ Ψ : Nat → List D → Option D)
theorem c51 : (runFn Φ Ψ f_law_choices [.int (5 : Nat), .int (1 : Nat)]).map (·.1) = some (.list ((chs 5 1).map csD)) := by rfl
theorem c52 : (runFn Φ Ψ f_law_choices [.int (5 : Nat), .int (2 : Nat)]).map (·.1) = some (.list ((chs 5 2).map csD)) := by rfl
theorem c53 : (runFn Φ Ψ f_law_choices [.int (5 : Nat), .int (3 : Nat)]).map (·.1) = some (.list ((chs 5 3).map csD)) := by rfl
theorem c54 : (runFn Φ Ψ f_law_choices [.int (5 : Nat), .int (4 : Nat)]).map (·.1) = some (.list ((chs 5 4).map csD)) := by rfl
theorem c61 : (runFn Φ Ψ f_law_choices [.int (6 : Nat), .int (1 : Nat)]).map (·.1) = some (.list ((chs 6 1).map csD)) := by rfl
theorem c62 : (runFn Φ Ψ f_law_choices [.int (6 : Nat), .int (2 : Nat)]).map (·.1) = some (.list ((chs 6 2).map csD)) := by rfl
theorem c63 : (runFn Φ Ψ f_law_choices [.int (6 : Nat), .int (3 : Nat)]).map (·.1) = some (.list ((chs 6 3).map csD)) := by rfl
theorem c64 : (runFn Φ Ψ f_law_choices [.int (6 : Nat), .int (4 : Nat)]).map (·.1) = some (.list ((chs 6 4).map csD)) := by rfl
theorem choices_run {n k : Nat} (hn : n = 5 ∨ n = 6) (h1 : 1 ≤ k) (h4 : k ≤ 4) : (runFn Φ Ψ f_law_choices [.int (n : Int), .int (k : Int)]).map (·.1) = some (.list ((chs n k).map csD)) := by
  match k, h1, h4 with
  | 1, _, _ => rcases hn with rfl | rfl; exact c51 Φ Ψ; exact c61 Φ Ψ
  | 2, _, _ => rcases hn with rfl | rfl; exact c52 Φ Ψ; exact c62 Φ Ψ
  | 3, _, _ => rcases hn with rfl | rfl; exact c53 Φ Ψ; exact c63 Φ Ψ
  | 4, _, _ => rcases hn with rfl | rfl; exact c54 Φ Ψ; exact c64 Φ Ψ
end
/-- what is true of the choices: how many, which, each once; none lacks -/
noncomputable def tuples (n : Nat) : Nat → List (List Nat)
  | 0 => [[]]
  | k + 1 => (tuples n k).flatMap fun c => (List.range n).map fun p => p :: c
noncomputable def chOk (n k : Nat) : Bool := decide (0 < (chs n k).length) && decide ((chs n k).length ≤ 100) && (chs n k).all fun ch => decide (ch.length = k) && (ch.all fun c => decide (c < n)) && decide ch.Nodup
noncomputable def chAll (n k : Nat) : Bool := (tuples n k).all fun cs => !decide cs.Nodup || (chs n k).any fun ch => (ch.all fun c => cs.contains c) && cs.all fun c => ch.contains c
theorem ch_ok : ([5, 6].all fun n => [1, 2, 3, 4].all fun k => chOk n k) = true := by decide +kernel
theorem ch_all5 : ([1, 2, 3, 4].all fun k => chAll 5 k) = true := by decide +kernel
theorem ch_all6 : ([1, 2, 3, 4].all fun k => chAll 6 k) = true := by decide +kernel
theorem tuples_mem {n : Nat} : ∀ {k : Nat} {cs : List Nat}, cs.length = k → (∀ c ∈ cs, c < n) → cs ∈ tuples n k
  | 0, cs, h, _ => by rw [List.length_eq_zero_iff.mp h]; exact .head _
  | k + 1, [], h, _ => by simp at h
  | k + 1, c :: cs, h, hc => by
    unfold tuples
    refine List.mem_flatMap.mpr ⟨cs, tuples_mem (by simpa using h) fun x hx => hc x (.tail _ hx), List.mem_map.mpr ⟨c, List.mem_range.mpr (hc c (.head _)), rfl⟩⟩
theorem ch_facts {n k : Nat} (hn : n = 5 ∨ n = 6) (h1 : 1 ≤ k) (h4 : k ≤ 4) : chs n k ≠ [] ∧ (chs n k).length ≤ 100 ∧ ∀ ch ∈ chs n k, ch.length = k ∧ (∀ c ∈ ch, c < n) ∧ ch.Nodup := by
  have hb : chOk n k = true := List.all_eq_true.mp (List.all_eq_true.mp ch_ok n (by rcases hn with rfl | rfl <;> simp)) k (by simp; (first | lia | omega))
  unfold chOk at hb
  simp only [Bool.and_eq_true, decide_eq_true_eq, List.all_eq_true] at hb
  exact ⟨fun e => by rw [e] at hb; simp at hb, hb.1.2, fun ch h => ⟨(hb.2 ch h).1.1, (hb.2 ch h).1.2, (hb.2 ch h).2⟩⟩
theorem ch_find {n k : Nat} (hn : n = 5 ∨ n = 6) (h1 : 1 ≤ k) (h4 : k ≤ 4) {cs : List Nat} (hl : cs.length = k) (hc : ∀ c ∈ cs, c < n) (hnd : cs.Nodup) : ∃ ch ∈ chs n k, (∀ c ∈ ch, c ∈ cs) ∧ ∀ c ∈ cs, c ∈ ch := by
  have hb : chAll n k = true := by
    rcases hn with rfl | rfl
    · exact List.all_eq_true.mp ch_all5 k (by simp; (first | lia | omega))
    · exact List.all_eq_true.mp ch_all6 k (by simp; (first | lia | omega))
  have := List.all_eq_true.mp hb cs (tuples_mem hl hc)
  rw [decide_eq_true hnd] at this
  simpa using this

theorem flat_if {α β : Type} (c : α → Bool) (g : α → β) : ∀ l : List α, (l.flatMap fun p => if c p then [g p] else []) = (l.filter c).map g
  | [] => rfl
  | b :: r => by
    rw [List.flatMap_cons, flat_if c g r, List.filter_cons]
    cases c b <;> rfl
noncomputable def covV (n : Nat) (d : Nat → Nat → Int) (ch : List Nat) : Int := mxL ((List.range n).map fun p => mnL (ch.map (d p)))
noncomputable def coverV (n : Nat) (d : Nat → Nat → Int) (k : Nat) : Int := mnL ((chs n k).map (covV n d))
noncomputable def prs (d : Nat → Nat → Int) (ch : List Nat) : List Int := ch.flatMap fun q => (ch.filter fun p => decide (p < q)).map fun p => d p q
noncomputable def apartV (n : Nat) (d : Nat → Nat → Int) (k : Nat) : Int := mxL ((chs n k).map fun ch => mnL (prs d ch))
theorem prs_mem {d : Nat → Nat → Int} {ch : List Nat} {x : Int} : x ∈ prs d ch ↔ ∃ p q, p ∈ ch ∧ q ∈ ch ∧ p < q ∧ x = d p q := by
  unfold prs
  rw [List.mem_flatMap]
  constructor
  · rintro ⟨q, hq, h⟩
    obtain ⟨p, hp, rfl⟩ := List.mem_map.mp h
    rw [List.mem_filter] at hp
    exact ⟨p, q, hp.1, hq, by simpa using hp.2, rfl⟩
  · rintro ⟨p, q, hp, hq, h, rfl⟩
    exact ⟨q, hq, List.mem_map.mpr ⟨p, List.mem_filter.mpr ⟨hp, by simpa using h⟩, rfl⟩⟩
theorem prs_ne {d : Nat → Nat → Int} {ch : List Nat} (h2 : 2 ≤ ch.length) (hnd : ch.Nodup) : prs d ch ≠ [] := by
  match ch, h2, hnd with
  | a :: b :: r, _, hnd =>
    have hne : a ≠ b := by intro e; subst e; simp at hnd
    intro e
    rcases Nat.lt_or_ge a b with h | h
    · have : d a b ∈ prs d (a :: b :: r) := prs_mem.mpr ⟨a, b, by simp, by simp, h, rfl⟩
      rw [e] at this; simp at this
    · have : d b a ∈ prs d (a :: b :: r) := prs_mem.mpr ⟨b, a, by simp, by simp, by (first | lia | omega), rfl⟩
      rw [e] at this; simp at this
section
variable (Φ Ψ : Nat → List D → Option D)
theorem minL_il {l : List Int} (h : l ≠ []) : minLD (.list (il l)) = some (.int (mnL l)) := by
  unfold minLD; simp only [intsOf_il, Option.bind_some, (mnL_spec h).1, Option.map_some]
theorem maxL_il {l : List Int} (h : l ≠ []) : maxLD (.list (il l)) = some (.int (mxL l)) := by
  unfold maxLD; simp only [intsOf_il, Option.bind_some, (mxL_spec h).1, Option.map_some]
theorem map_ne {α β : Type} {l : List α} (f : α → β) (h : l ≠ []) : l.map f ≠ [] := by simpa using h
noncomputable def covC : F := .comp (.sub (.var 3) (.var 4)) (.cons 4 (.seq (.var 2)) (.nil) (.nil))
noncomputable def covB : F := .comp (.minL (.new covC)) (.cons 3 (.seq (.var 0)) (.nil) (.nil))
noncomputable def covA : F := .comp (.maxL (.new covB)) (.cons 2 (.seq (.call 14 (.cons (.len (.var 0)) (.cons (.var 1) (.nil))))) (.nil) (.nil))
theorem cover_run (h14 : ∀ n k : Nat, n = 5 ∨ n = 6 → 1 ≤ k → k ≤ 4 → Φ 14 [.int (n : Int), .int (k : Int)] = some (.list ((chs n k).map csD))) {n k : Nat} (hn : n = 5 ∨ n = 6) (h1 : 1 ≤ k) (h4 : k ≤ 4) (d : Nat → Nat → Int) :
    ∃ ρ, runFn Φ Ψ f_law_cover [tbl n d, .int (k : Int)] = some (.int (coverV n d k), ρ) := by
  obtain ⟨f1, f2, f3⟩ := ch_facts hn h1 h4
  have h6 : n ≤ 6 := by (first | lia | omega)
  have hA : evF Φ covA [some (tbl n d), some (.int (k : Int)), none, none, none] = some (.list (il ((chs n k).map (covV n d)))) := by
    unfold covA
    rw [evF_map Φ (chs n k) csD (fun ch => .int (covV n d ch)) ?_ (by (first | lia | omega)) fun ch hch => ?_]
    · unfold il; rw [List.map_map]; rfl
    · have e1 : ev Φ (.len (.var 0)) [some (tbl n d), some (.int (k : Int)), none, none, none] = some (.int (n : Int)) := by
        rw [ev, ev]
        show Option.bind (some (tbl n d)) lenD = _
        rw [Option.bind_some, len_tbl h6]
      have e2 : ev Φ (.var 1) [some (tbl n d), some (.int (k : Int)), none, none, none] = some (.int (k : Int)) := by rw [ev]; rfl
      rw [evI, ev, evs, evs, evs, e1, e2]
      simp only [Option.bind_some, Option.map_some, h14 n k hn h1 h4]
      rfl
    · obtain ⟨g1, g2, g3⟩ := f3 ch hch
      generalize hρ : (List.set [some (tbl n d), some (.int (k : Int)), none, none, none] 2 none).set 2 (some (csD ch)) = ρ
      have hB : evF Φ covB ρ = some (.list (il ((List.range n).map fun p => mnL (ch.map (d p))))) := by
        unfold covB
        rw [evF_map Φ (List.range n) (fun p => rowD n d p) (fun p => .int (mnL (ch.map (d p)))) ?_ (by simp; (first | lia | omega)) fun p hp => ?_]
        · unfold il; rw [List.map_map]; rfl
        · have k0 : look ρ 0 = some (tbl n d) := by rw [← hρ]; rfl
          rw [evI, ev, k0]; rfl
        · generalize hσ : (ρ.set 3 none).set 3 (some (rowD n d p)) = σ
          have hC : evF Φ covC σ = some (.list (il (ch.map (d p)))) := by
            unfold covC
            rw [evF_map Φ ch (fun c => .int (c : Int)) (fun c => .int (d p c)) ?_ (by (first | lia | omega)) fun c hc => ?_]
            · unfold il; rw [List.map_map]; rfl
            · have k2 : look σ 2 = some (csD ch) := by rw [← hσ, ← hρ]; rfl
              rw [evI, ev, k2]; rfl
            · have k3 : look ((σ.set 4 none).set 4 (some (.int (c : Int)))) 3 = some (rowD n d p) := by rw [← hσ, ← hρ]; rfl
              have k4 : look ((σ.set 4 none).set 4 (some (.int (c : Int)))) 4 = some (.int (c : Int)) := by rw [← hσ, ← hρ]; rfl
              simp only [ev, k3, k4, Option.bind_some, row_sub (g2 c hc) h6]
          rw [ev, ev, hC, Option.bind_some, minL_il (map_ne _ fun e => by rw [e] at g1; simp at g1; (first | lia | omega))]
      rw [ev, ev, hB, Option.bind_some, maxL_il (map_ne _ (by simp; (first | lia | omega)))]
      rfl
  unfold runFn
  rw [if_pos (show [tbl n d, D.int (k : Int)].length = f_law_cover.params from rfl)]
  have hinit : (([tbl n d, D.int (k : Int)].map some ++ List.replicate (f_law_cover.size - f_law_cover.params) none : Rho)) = [some (tbl n d), some (.int (k : Int)), none, none, none] := rfl
  have hb : f_law_cover.body = [.ret (.minL (.new covA))] := rfl
  refine ⟨[some (tbl n d), some (.int (k : Int)), none, none, none], ?_⟩
  rw [hinit, hb, exs_ret Φ Ψ (d := .int (coverV n d k)) (ρ' := [some (tbl n d), some (.int (k : Int)), none, none, none]) (by rw [ex, ev, ev, hA, Option.bind_some, minL_il (map_ne _ f1)]; rfl)]
  rfl
noncomputable def apC : F := .comp (.sub (.sub (.var 0) (.var 5)) (.var 4)) (.cons 4 (.seq (.var 3)) (.nil) (.cons 5 (.seq (.var 3)) (.cons (.cmp .lt (.var 5) (.var 4)) (.nil)) (.nil)))
noncomputable def apA : F := .comp (.minL (.new apC)) (.cons 3 (.seq (.var 2)) (.nil) (.nil))
theorem prs_len {d : Nat → Nat → Int} (ch : List Nat) : ∀ l : List Nat, (l.flatMap fun q => (ch.filter fun p => decide (p < q)).map fun p => d p q).length ≤ l.length * ch.length
  | [] => by simp
  | q :: l => by
    have := prs_len (d := d) ch l
    have h2 := List.length_filter_le (fun p => decide (p < q)) ch
    rw [List.flatMap_cons, List.length_append, List.length_map, List.length_cons, Nat.add_mul, Nat.one_mul]
    (first | lia | omega)
theorem apart_run (h14 : ∀ n k : Nat, n = 5 ∨ n = 6 → 1 ≤ k → k ≤ 4 → Φ 14 [.int (n : Int), .int (k : Int)] = some (.list ((chs n k).map csD))) {n k : Nat} (hn : n = 5 ∨ n = 6) (h2 : 2 ≤ k) (h4 : k ≤ 4) (d : Nat → Nat → Int) :
    ∃ ρ, runFn Φ Ψ f_law_apart [tbl n d, .int (k : Int)] = some (.int (apartV n d k), ρ) := by
  obtain ⟨f1, f2, f3⟩ := ch_facts (k := k) hn (by (first | lia | omega)) h4
  have h6 : n ≤ 6 := by (first | lia | omega)
  have hcall : ev Φ (.call 14 (.cons (.len (.var 0)) (.cons (.var 1) (.nil)))) [some (tbl n d), some (.int (k : Int)), none, none, none, none] = some (.list ((chs n k).map csD)) := by
    have e1 : ev Φ (.len (.var 0)) [some (tbl n d), some (.int (k : Int)), none, none, none, none] = some (.int (n : Int)) := by
      rw [ev, ev]
      show Option.bind (some (tbl n d)) lenD = _
      rw [Option.bind_some, len_tbl h6]
    have e2 : ev Φ (.var 1) [some (tbl n d), some (.int (k : Int)), none, none, none, none] = some (.int (k : Int)) := by rw [ev]; rfl
    rw [ev, evs, evs, evs, e1, e2]
    simp only [Option.bind_some, Option.map_some, h14 n k hn (by (first | lia | omega)) h4]
  have hA : evF Φ apA [some (tbl n d), some (.int (k : Int)), some (.list ((chs n k).map csD)), none, none, none] = some (.list (il ((chs n k).map fun ch => mnL (prs d ch)))) := by
    unfold apA
    rw [evF_map Φ (chs n k) csD (fun ch => .int (mnL (prs d ch))) ?_ (by (first | lia | omega)) fun ch hch => ?_]
    · unfold il; rw [List.map_map]; rfl
    · rw [evI, ev]; rfl
    · obtain ⟨g1, g2, g3⟩ := f3 ch hch
      generalize hρ : (List.set [some (tbl n d), some (.int (k : Int)), some (.list ((chs n k).map csD)), none, none, none] 3 none).set 3 (some (csD ch)) = ρ
      have hC : evF Φ apC ρ = some (.list (il (prs d ch))) := by
        have k3 : look ρ 3 = some (csD ch) := by rw [← hρ]; rfl
        have hs : seqD (csD ch) = some (ch.map fun c : Nat => .int (c : Int)) := rfl
        have hcl : (ch.map fun c : Nat => D.int (c : Int)).length ≤ 1000 := by rw [List.length_map]; (first | lia | omega)
        unfold apC
        rw [evF, evGs, evI, ev, k3, Option.bind_some, hs, Option.bind_some, if_pos hcl]
        rw [flatM_map ch (fun c => .int (c : Int)) (fun q => (ch.filter fun p => decide (p < q)).map fun p => .int (d p q)) fun q hq => ?_]
        · have e : (ch.flatMap fun q => (ch.filter fun p => decide (p < q)).map fun p => D.int (d p q)) = il (prs d ch) := by
            unfold il prs
            rw [List.map_flatMap]
            simp only [List.map_map]
            rfl
          rw [Option.bind_some, e, if_pos]
          rw [il_len]
          have := prs_len (d := d) ch ch
          rw [g1] at this
          have : k * k ≤ 16 := Nat.mul_le_mul h4 h4
          unfold prs
          (first | lia | omega)
        · generalize hσ : (List.set (clear (.cons 4 (.seq (.var 3)) .nil (.cons 5 (.seq (.var 3)) (.cons (.cmp .lt (.var 5) (.var 4)) .nil) .nil)) ρ) 4 (some (.int (q : Int)))) = σ
          have m3 : look σ 3 = some (csD ch) := by rw [← hσ, ← hρ, clear, clear, clear]; rfl
          rw [evAnd, Option.bind_some, if_pos rfl, evGs, evI, ev, m3, Option.bind_some, hs, Option.bind_some, if_pos hcl]
          rw [flatM_map ch (fun c => .int (c : Int)) (fun p => if decide (p < q) then [.int (d p q)] else []) fun p hp => ?_]
          · rw [flat_if]
          · have k0 : look (σ.set 5 (some (.int (p : Int)))) 0 = some (tbl n d) := by rw [← hσ, ← hρ, clear, clear, clear]; rfl
            have k4 : look (σ.set 5 (some (.int (p : Int)))) 4 = some (.int (q : Int)) := by rw [← hσ, ← hρ, clear, clear, clear]; rfl
            have k5 : look (σ.set 5 (some (.int (p : Int)))) 5 = some (.int (p : Int)) := by rw [← hσ, ← hρ, clear, clear, clear]; rfl
            have ht : evT Φ (.cmp .lt (.var 5) (.var 4)) (σ.set 5 (some (.int (p : Int)))) = some (decide (p < q)) := by
              simp only [evT, ev, k4, k5, Option.bind_some, lt_ii, Int.ofNat_lt]
            rw [evAnd, ht, Option.bind_some]
            cases hc : decide (p < q)
            · rw [if_neg (by decide), Option.bind_some, if_neg (by decide), if_neg (by decide)]
            · rw [if_pos rfl, evAnd, Option.bind_some, if_pos rfl, evGs, if_pos rfl]
              simp only [ev, k0, k4, k5, Option.bind_some, tbl_sub (g2 p hp) h6, row_sub (g2 q hq) h6, Option.map_some]
      rw [ev, ev, hC, Option.bind_some, minL_il (prs_ne (by (first | lia | omega)) g3)]
  unfold runFn
  rw [if_pos (show [tbl n d, D.int (k : Int)].length = f_law_apart.params from rfl)]
  have hinit : (([tbl n d, D.int (k : Int)].map some ++ List.replicate (f_law_apart.size - f_law_apart.params) none : Rho)) = [some (tbl n d), some (.int (k : Int)), none, none, none, none] := rfl
  have hb : f_law_apart.body = [.assign 2 (.call 14 (.cons (.len (.var 0)) (.cons (.var 1) (.nil)))), .ret (.maxL (.new apA))] := rfl
  refine ⟨[some (tbl n d), some (.int (k : Int)), some (.list ((chs n k).map csD)), none, none, none], ?_⟩
  rw [hinit, hb, exs_next Φ Ψ (ρ' := [some (tbl n d), some (.int (k : Int)), some (.list ((chs n k).map csD)), none, none, none]) (by rw [ex, hcall]; rfl),
    exs_ret Φ Ψ (d := .int (apartV n d k)) (ρ' := [some (tbl n d), some (.int (k : Int)), some (.list ((chs n k).map csD)), none, none, none]) (by rw [ex, ev, ev, hA, Option.bind_some, maxL_il (map_ne _ f1)]; rfl)]
  rfl
end
end Mine
end
section
open PySem
set_option maxRecDepth 100000
namespace Mine
theorem pig (f : Nat → Nat) : ∀ (m l : List Nat), l.Nodup → (∀ x ∈ l, f x ∈ m) → m.length < l.length → ∃ x ∈ l, ∃ y ∈ l, x ≠ y ∧ f x = f y
  | [], l, _, h, hl => by
    cases l with
    | nil => simp at hl
    | cons x r => exact absurd (h x (.head _)) (by simp)
  | a :: m, l, hn, h, hl => by
    by_cases q : ∃ x ∈ l, f x = a
    · obtain ⟨x, hx, e⟩ := q
      by_cases q2 : ∃ y ∈ l, y ≠ x ∧ f y = a
      · obtain ⟨y, hy, hne, e2⟩ := q2
        exact ⟨x, hx, y, hy, fun e3 => hne e3.symm, by rw [e, e2]⟩
      · have hlen := List.length_erase_of_mem hx
        obtain ⟨u, hu, v, hv, h1, h2⟩ := pig f m (l.erase x) (hn.erase x) (fun y hy => by
          rw [hn.mem_erase_iff] at hy
          rcases List.mem_cons.mp (h y hy.2) with e3 | e3
          · exact absurd ⟨y, hy.2, hy.1, e3⟩ q2
          · exact e3) (by rw [List.length_cons] at hl; (first | lia | omega))
        exact ⟨u, List.mem_of_mem_erase hu, v, List.mem_of_mem_erase hv, h1, h2⟩
    · obtain ⟨u, hu, v, hv, h1, h2⟩ := pig f m l hn (fun y hy => by
        rcases List.mem_cons.mp (h y hy) with e3 | e3
        · exact absurd ⟨y, hy, e3⟩ q
        · exact e3) (by rw [List.length_cons] at hl; (first | lia | omega))
      exact ⟨u, hu, v, hv, h1, h2⟩
section
variable {d : Nat → Nat → Int} {n : Nat}
/-- each centre but the first is the farthest word of those before it -/
noncomputable def Gz (d : Nat → Nat → Int) (n : Nat) (cs : List Nat) : Prop := ∀ j, 0 < j → j < cs.length → cs[j]? = some (pick d n (cs.take j)) ∧ 0 < far d n (cs.take j)
structure Good (d : Nat → Nat → Int) (n : Nat) (s : List Nat × List (Nat × Int)) : Prop where
  gz : Gz d n s.1
  ne : s.1 ≠ []
  lt : ∀ c ∈ s.1, c < n
  nd : s.1.Nodup
  len : s.2.length = s.1.length
  st : ∀ i, i < s.1.length → ∃ c, s.1[i]? = some c ∧ s.2[i]? = some (c, far d n (s.1.take (i + 1)))
theorem ext_good (M : Met d) (hn : 0 < n) : ∀ (k : Nat) (s : List Nat × List (Nat × Int)), Good d n s → Good d n (ext d n k s) ∧ (ext d n k s).1.length ≤ s.1.length + k
  | 0, s, h => ⟨h, Nat.le_refl _⟩
  | k + 1, s, h => by
    unfold ext
    split
    · rename_i hf
      have hnew := pick_new M hn hf
      have G : Good d n (s.1 ++ [pick d n s.1], s.2 ++ [(pick d n s.1, far d n (s.1 ++ [pick d n s.1]))]) := by
        refine ⟨fun j j0 jl => ?_, by simp, fun c hc => ?_, ?_, by simp only [List.length_append, List.length_singleton]; rw [h.len], fun i hi => ?_⟩
        · simp only [List.length_append, List.length_singleton] at jl
          rcases Nat.lt_or_ge j s.1.length with q | q
          · dsimp only
            rw [List.getElem?_append_left q, List.take_append_of_le_length (by (first | lia | omega))]
            exact h.gz j j0 q
          · have : j = s.1.length := by (first | lia | omega)
            subst this
            dsimp only
            rw [List.getElem?_append_right (Nat.le_refl _), Nat.sub_self, List.take_left]
            exact ⟨rfl, hf⟩
        · rcases List.mem_append.mp hc with q | q
          · exact h.lt c q
          · rw [List.mem_singleton.mp q]; exact (pick_spec d n hn).2.1
        · dsimp only
          rw [List.nodup_append]
          refine ⟨h.nd, by simp, fun a ha b hb => ?_⟩
          rw [List.mem_singleton.mp hb]; exact fun e => hnew (e ▸ ha)
        · simp only [List.length_append, List.length_singleton] at hi
          dsimp only
          rcases Nat.lt_or_ge i s.1.length with q | q
          · obtain ⟨c, h1, h2⟩ := h.st i q
            exact ⟨c, by rw [List.getElem?_append_left q]; exact h1, by rw [List.getElem?_append_left (by rw [h.len]; exact q), List.take_append_of_le_length (by (first | lia | omega))]; exact h2⟩
          · have : i = s.1.length := by (first | lia | omega)
            subst this
            refine ⟨pick d n s.1, by rw [List.getElem?_append_right (Nat.le_refl _), Nat.sub_self]; rfl, ?_⟩
            rw [List.getElem?_append_right (by rw [h.len]; exact Nat.le_refl _), h.len, Nat.sub_self, List.take_of_length_le (by simp)]
            rfl
      have := ext_good M hn k _ G
      refine ⟨this.1, Nat.le_trans this.2 ?_⟩
      simp only [List.length_append, List.length_singleton]; (first | lia | omega)
    · exact ⟨h, by (first | lia | omega)⟩
theorem fin_good (M : Met d) {first : Nat} (hf : first < n) : Good d n (fin3 d n first) ∧ (fin3 d n first).1.length ≤ 3 := by
  refine ext_good M (by (first | lia | omega)) 2 _ ⟨fun j j0 jl => ?_, by simp, fun c hc => by rw [List.mem_singleton.mp hc]; exact hf, by simp, rfl, fun i hi => ?_⟩
  · simp at jl; (first | lia | omega)
  · simp at hi; subst hi; exact ⟨first, rfl, rfl⟩
theorem lot_mono {cs : List Nat} (h : cs ≠ []) (f p : Nat) : lot d (cs ++ [f]) p ≤ lot d cs p := by
  by_cases q : d p f < lot d cs p
  · rw [(snoc_go h q).1]; (first | lia | omega)
  · rw [(snoc_stay h q).1]; (first | lia | omega)
theorem far_le {cs : List Nat} {b : Int} (hn : 0 < n) (h : ∀ p, p < n → lot d cs p ≤ b) : far d n cs ≤ b := by
  obtain ⟨_, h1, h2, _⟩ := pick_spec d n (cs := cs) hn
  rw [← h2]; exact h _ h1
/-- the centres lie at least so far apart -/
theorem gz_apart (M : Met d) (hn : 0 < n) {cs : List Nat} (G : Gz d n cs) : ∀ m, m ≤ cs.length → ∀ x ∈ cs.take m, ∀ y ∈ cs.take m, x ≠ y → far d n (cs.take m) ≤ d x y
  | 0, _, x, hx, _, _, _ => by simp at hx
  | m + 1, hm, x, hx, y, hy, hne => by
    have hlt : m < cs.length := by (first | lia | omega)
    have hg : cs[m]? = some cs[m] := List.getElem?_eq_getElem hlt
    have ht : cs.take (m + 1) = cs.take m ++ [cs[m]] := by rw [List.take_add_one, hg]; rfl
    rw [ht] at hx hy ⊢
    rcases Nat.eq_zero_or_pos m with e | e
    · subst e
      simp at hx hy
      exact absurd (hx.trans hy.symm) hne
    · have hne2 : cs.take m ≠ [] := fun q => by have := congrArg List.length q; rw [List.length_take, List.length_nil] at this; (first | lia | omega)
      have hdec : far d n (cs.take m ++ [cs[m]]) ≤ far d n (cs.take m) := far_le hn fun p hp => Int.le_trans (lot_mono hne2 _ p) (far_ge d n hp)
      obtain ⟨g1, _⟩ := G m e hlt
      rw [hg] at g1
      have hpk := Option.some.inj g1
      have hlot := (pick_spec d n (cs := cs.take m) hn).2.2.1
      rw [← hpk] at hlot
      rcases List.mem_append.mp hx with a | a
      · rcases List.mem_append.mp hy with b | b
        · exact Int.le_trans hdec (gz_apart M hn G m (by (first | lia | omega)) x a y b hne)
        · rw [List.mem_singleton.mp b, M.sym]
          have := lot_le d a cs[m]
          (first | lia | omega)
      · rcases List.mem_append.mp hy with b | b
        · rw [List.mem_singleton.mp a]
          have := lot_le d b cs[m]
          (first | lia | omega)
        · rw [List.mem_singleton.mp a, List.mem_singleton.mp b] at hne
          exact absurd rfl hne
theorem points (M : Met d) (hn : 0 < n) {cs : List Nat} (G : Gz d n cs) {k : Nat} (h1 : 1 ≤ k) (hk : k ≤ cs.length) : ∀ x ∈ cs.take k ++ [pick d n (cs.take k)], ∀ y ∈ cs.take k ++ [pick d n (cs.take k)], x ≠ y → far d n (cs.take k) ≤ d x y := by
  have hp := (pick_spec d n (cs := cs.take k) hn).2.2.1
  intro x hx y hy hne
  rcases List.mem_append.mp hx with a | a
  · rcases List.mem_append.mp hy with b | b
    · exact gz_apart M hn G k hk x a y b hne
    · rw [List.mem_singleton.mp b, M.sym, ← hp]; exact lot_le d a _
  · rcases List.mem_append.mp hy with b | b
    · rw [List.mem_singleton.mp a, ← hp]; exact lot_le d b _
    · rw [List.mem_singleton.mp a, List.mem_singleton.mp b] at hne
      exact absurd rfl hne
theorem bounds (M : Met d) (hn5 : n = 5 ∨ n = 6) {cs : List Nat} (G : Gz d n cs) (hlt : ∀ c ∈ cs, c < n) (hnd : cs.Nodup) {k : Nat} (h1 : 1 ≤ k) (hk : k ≤ cs.length) (h3 : k ≤ 3) :
    (coverV n d k ≤ far d n (cs.take k) ∧ far d n (cs.take k) ≤ 2 * coverV n d k) ∧ far d n (cs.take k) ≤ apartV n d (k + 1) ∧ apartV n d (k + 1) ≤ 2 * far d n (cs.take k) := by
  have hn : 0 < n := by (first | lia | omega)
  have hck : (cs.take k).length = k := by rw [List.length_take]; (first | lia | omega)
  have hne : cs.take k ≠ [] := fun e => by rw [e] at hck; simp at hck; (first | lia | omega)
  have hndk : (cs.take k).Nodup := hnd.sublist (List.take_sublist k cs)
  have hltk : ∀ c ∈ cs.take k, c < n := fun c hc => hlt c (List.mem_of_mem_take hc)
  obtain ⟨f1, f2, f3⟩ := ch_facts (k := k) hn5 h1 (by (first | lia | omega))
  obtain ⟨e1, e2, e3⟩ := ch_facts (k := k + 1) hn5 (by (first | lia | omega)) (by (first | lia | omega))
  have hP := points M hn G h1 hk
  generalize hck' : cs.take k = ck at *
  have hpick := pick_spec d n (cs := ck) hn
  have hfar0 : 0 ≤ far d n ck := by rw [← hpick.2.2.1]; exact lot_nonneg M hne _
  have hpts : 0 < far d n ck → (ck ++ [pick d n ck]).Nodup ∧ (∀ c ∈ ck ++ [pick d n ck], c < n) ∧ (ck ++ [pick d n ck]).length = k + 1 := fun hf => by
    refine ⟨?_, fun c hc => ?_, by rw [List.length_append, List.length_singleton, hck]⟩
    · rw [List.nodup_append]
      refine ⟨hndk, by simp, fun a ha b hb => ?_⟩
      rw [List.mem_singleton.mp hb]; exact fun e => pick_new M hn hf (e ▸ ha)
    · rcases List.mem_append.mp hc with q | q
      · exact hltk c q
      · rw [List.mem_singleton.mp q]; exact hpick.2.1
  have hrows : ∀ ch : List Nat, ((List.range n).map fun p => mnL (ch.map (d p))) ≠ [] := fun ch e => by have := congrArg List.length e; simp at this; (first | lia | omega)
  have chne : ∀ ch ∈ chs n k, ch ≠ [] := fun ch h e => by have := (f3 ch h).1; rw [e] at this; simp at this; (first | lia | omega)
  obtain ⟨_, cm, cmin⟩ := mnL_spec (map_ne (covV n d) f1)
  obtain ⟨_, am, amax⟩ := mxL_spec (map_ne (fun ch => mnL (prs d ch)) e1)
  obtain ⟨cv, hcv, ecv⟩ := List.mem_map.mp cm
  obtain ⟨ap, hap, eap⟩ := List.mem_map.mp am
  have hcover : coverV n d k = covV n d cv := ecv.symm
  have hapart : apartV n d (k + 1) = mnL (prs d ap) := eap.symm
  obtain ⟨a1, a2, a3⟩ := e3 ap hap
  obtain ⟨_, pm, pmin⟩ := mnL_spec (prs_ne (d := d) (by (first | lia | omega) : 2 ≤ ap.length) a3)
  have near : ∀ p, p < n → ∃ c ∈ cv, d p c ≤ covV n d cv := fun p hp => by
    obtain ⟨_, m1, _⟩ := mnL_spec (map_ne (d p) (chne cv hcv))
    obtain ⟨c, hc, e⟩ := List.mem_map.mp m1
    refine ⟨c, hc, ?_⟩
    rw [e]
    exact (mxL_spec (hrows cv)).2.2 _ (List.mem_map.mpr ⟨p, List.mem_range.mpr hp, rfl⟩)
  refine ⟨⟨?_, ?_⟩, ?_, ?_⟩
  · obtain ⟨ch, hch, s1, s2⟩ := ch_find (k := k) hn5 h1 (by (first | lia | omega)) hck hltk hndk
    refine Int.le_trans (cmin _ (List.mem_map.mpr ⟨ch, hch, rfl⟩)) ?_
    obtain ⟨_, m1, _⟩ := mxL_spec (hrows ch)
    obtain ⟨p, hp, e⟩ := List.mem_map.mp m1
    unfold covV
    rw [← e]
    refine Int.le_trans ?_ (far_ge d n (List.mem_range.mp hp))
    rw [who_d d hne]
    exact (mnL_spec (map_ne (d p) (chne ch hch))).2.2 _ (List.mem_map.mpr ⟨_, s2 _ (who_mem d hne p), rfl⟩)
  · rw [hcover]
    rcases Int.lt_or_le 0 (far d n ck) with hf | hf
    · obtain ⟨q1, q2, q3⟩ := hpts hf
      have hsel : ∃ g : Nat → Nat, ∀ p, p < n → g p ∈ cv ∧ d p (g p) ≤ covV n d cv := by
        refine ⟨fun p => if h : p < n then (near p h).choose else 0, fun p hp => ?_⟩
        have := (near p hp).choose_spec
        simpa only [dif_pos hp] using this
      obtain ⟨g, hg⟩ := hsel
      obtain ⟨x, hx, y, hy, hxy, he⟩ := pig g cv (ck ++ [pick d n ck]) q1 (fun x hx => (hg x (q2 x hx)).1) (by rw [q3, (f3 cv hcv).1]; (first | lia | omega))
      have t1 := hP x hx y hy hxy
      have t2 := (hg x (q2 x hx)).2
      have t3 := (hg y (q2 y hy)).2
      have t4 := M.tri x (g x) y
      rw [he, M.sym (g y) y] at t4
      rw [he] at t2
      (first | lia | omega)
    · obtain ⟨c, _, hc⟩ := near 0 hn
      have := M.nonneg 0 c
      (first | lia | omega)
  · rcases Int.lt_or_le 0 (far d n ck) with hf | hf
    · obtain ⟨q1, q2, q3⟩ := hpts hf
      obtain ⟨ch, hch, s1, s2⟩ := ch_find (k := k + 1) hn5 (by (first | lia | omega)) (by (first | lia | omega)) q3 q2 q1
      refine Int.le_trans ?_ (amax _ (List.mem_map.mpr ⟨ch, hch, rfl⟩))
      obtain ⟨b1, b2, b3⟩ := e3 ch hch
      obtain ⟨_, m1, _⟩ := mnL_spec (prs_ne (d := d) (by (first | lia | omega) : 2 ≤ ch.length) b3)
      obtain ⟨p, q, hp, hq, hpq, e⟩ := prs_mem.mp m1
      rw [e]
      exact hP p (s1 p hp) q (s1 q hq) (by (first | lia | omega))
    · rw [hapart]
      obtain ⟨p, q, hp, hq, hpq, e⟩ := prs_mem.mp pm
      have := M.nonneg p q
      (first | lia | omega)
  · rw [hapart]
    obtain ⟨x, hx, y, hy, hxy, he⟩ := pig (who d ck) ck ap a3 (fun x _ => who_mem d hne x) (by (first | lia | omega))
    have t1 := far_ge d n (cs := ck) (a2 x hx)
    have t2 := far_ge d n (cs := ck) (a2 y hy)
    rw [who_d d hne] at t1 t2
    have t4 := M.tri x (who d ck x) y
    rw [he, M.sym (who d ck y) y] at t4
    rw [he] at t1
    rcases Nat.lt_or_ge x y with q | q
    · have := pmin _ (prs_mem.mpr ⟨x, y, hx, hy, q, rfl⟩)
      (first | lia | omega)
    · have := pmin _ (prs_mem.mpr ⟨y, x, hy, hx, by (first | lia | omega), rfl⟩)
      rw [M.sym] at this
      (first | lia | omega)
end
end Mine
end
section
open PySem
set_option maxRecDepth 100000
set_option linter.unusedSimpArgs false
set_option linter.unusedVariables false
namespace Mine
noncomputable def L (W : D) (a1 a2 a3 a4 a5 a6 a7 a8 a9 a10 : Option D) : Rho := [some W, a1, a2, a3, a4, a5, a6, a7, a8, a9, a10, none, none]
theorem L_look0 (W : D) (a1 a2 a3 a4 a5 a6 a7 a8 a9 a10 : Option D) : look (L W a1 a2 a3 a4 a5 a6 a7 a8 a9 a10) 0 = some W := rfl
theorem L_look1 (W : D) (a1 a2 a3 a4 a5 a6 a7 a8 a9 a10 : Option D) : look (L W a1 a2 a3 a4 a5 a6 a7 a8 a9 a10) 1 = a1 := rfl
theorem L_look2 (W : D) (a1 a2 a3 a4 a5 a6 a7 a8 a9 a10 : Option D) : look (L W a1 a2 a3 a4 a5 a6 a7 a8 a9 a10) 2 = a2 := rfl
theorem L_look3 (W : D) (a1 a2 a3 a4 a5 a6 a7 a8 a9 a10 : Option D) : look (L W a1 a2 a3 a4 a5 a6 a7 a8 a9 a10) 3 = a3 := rfl
theorem L_look4 (W : D) (a1 a2 a3 a4 a5 a6 a7 a8 a9 a10 : Option D) : look (L W a1 a2 a3 a4 a5 a6 a7 a8 a9 a10) 4 = a4 := rfl
theorem L_look5 (W : D) (a1 a2 a3 a4 a5 a6 a7 a8 a9 a10 : Option D) : look (L W a1 a2 a3 a4 a5 a6 a7 a8 a9 a10) 5 = a5 := rfl
theorem L_look6 (W : D) (a1 a2 a3 a4 a5 a6 a7 a8 a9 a10 : Option D) : look (L W a1 a2 a3 a4 a5 a6 a7 a8 a9 a10) 6 = a6 := rfl
theorem L_look7 (W : D) (a1 a2 a3 a4 a5 a6 a7 a8 a9 a10 : Option D) : look (L W a1 a2 a3 a4 a5 a6 a7 a8 a9 a10) 7 = a7 := rfl
theorem L_look8 (W : D) (a1 a2 a3 a4 a5 a6 a7 a8 a9 a10 : Option D) : look (L W a1 a2 a3 a4 a5 a6 a7 a8 a9 a10) 8 = a8 := rfl
theorem L_look9 (W : D) (a1 a2 a3 a4 a5 a6 a7 a8 a9 a10 : Option D) : look (L W a1 a2 a3 a4 a5 a6 a7 a8 a9 a10) 9 = a9 := rfl
theorem L_look10 (W : D) (a1 a2 a3 a4 a5 a6 a7 a8 a9 a10 : Option D) : look (L W a1 a2 a3 a4 a5 a6 a7 a8 a9 a10) 10 = a10 := rfl
theorem L_look11 (W : D) (a1 a2 a3 a4 a5 a6 a7 a8 a9 a10 : Option D) : look (L W a1 a2 a3 a4 a5 a6 a7 a8 a9 a10) 11 = none := rfl
theorem L_look12 (W : D) (a1 a2 a3 a4 a5 a6 a7 a8 a9 a10 : Option D) : look (L W a1 a2 a3 a4 a5 a6 a7 a8 a9 a10) 12 = none := rfl
theorem L_set1 (W : D) (a1 a2 a3 a4 a5 a6 a7 a8 a9 a10 : Option D) (x : Option D) : (L W a1 a2 a3 a4 a5 a6 a7 a8 a9 a10).set 1 x = L W x a2 a3 a4 a5 a6 a7 a8 a9 a10 := rfl
theorem L_set2 (W : D) (a1 a2 a3 a4 a5 a6 a7 a8 a9 a10 : Option D) (x : Option D) : (L W a1 a2 a3 a4 a5 a6 a7 a8 a9 a10).set 2 x = L W a1 x a3 a4 a5 a6 a7 a8 a9 a10 := rfl
theorem L_set3 (W : D) (a1 a2 a3 a4 a5 a6 a7 a8 a9 a10 : Option D) (x : Option D) : (L W a1 a2 a3 a4 a5 a6 a7 a8 a9 a10).set 3 x = L W a1 a2 x a4 a5 a6 a7 a8 a9 a10 := rfl
theorem L_set4 (W : D) (a1 a2 a3 a4 a5 a6 a7 a8 a9 a10 : Option D) (x : Option D) : (L W a1 a2 a3 a4 a5 a6 a7 a8 a9 a10).set 4 x = L W a1 a2 a3 x a5 a6 a7 a8 a9 a10 := rfl
theorem L_set5 (W : D) (a1 a2 a3 a4 a5 a6 a7 a8 a9 a10 : Option D) (x : Option D) : (L W a1 a2 a3 a4 a5 a6 a7 a8 a9 a10).set 5 x = L W a1 a2 a3 a4 x a6 a7 a8 a9 a10 := rfl
theorem L_set6 (W : D) (a1 a2 a3 a4 a5 a6 a7 a8 a9 a10 : Option D) (x : Option D) : (L W a1 a2 a3 a4 a5 a6 a7 a8 a9 a10).set 6 x = L W a1 a2 a3 a4 a5 x a7 a8 a9 a10 := rfl
theorem L_set7 (W : D) (a1 a2 a3 a4 a5 a6 a7 a8 a9 a10 : Option D) (x : Option D) : (L W a1 a2 a3 a4 a5 a6 a7 a8 a9 a10).set 7 x = L W a1 a2 a3 a4 a5 a6 x a8 a9 a10 := rfl
theorem L_set8 (W : D) (a1 a2 a3 a4 a5 a6 a7 a8 a9 a10 : Option D) (x : Option D) : (L W a1 a2 a3 a4 a5 a6 a7 a8 a9 a10).set 8 x = L W a1 a2 a3 a4 a5 a6 a7 x a9 a10 := rfl
theorem L_set9 (W : D) (a1 a2 a3 a4 a5 a6 a7 a8 a9 a10 : Option D) (x : Option D) : (L W a1 a2 a3 a4 a5 a6 a7 a8 a9 a10).set 9 x = L W a1 a2 a3 a4 a5 a6 a7 a8 x a10 := rfl
theorem L_set10 (W : D) (a1 a2 a3 a4 a5 a6 a7 a8 a9 a10 : Option D) (x : Option D) : (L W a1 a2 a3 a4 a5 a6 a7 a8 a9 a10).set 10 x = L W a1 a2 a3 a4 a5 a6 a7 a8 a9 x := rfl
/-! ### a datum is like itself -/
theorem same_int (n : Nat) (a : Int) : same n (.int a) (.int a) = true := (beq_self_eq_true a : (a == a) = true)
theorem sames_self {n : Nat} : ∀ {l : List D}, (∀ d ∈ l, same n d d = true) → sames n l l = true
  | [], _ => rfl
  | a :: r, h => by
    have := sames_self (n := n) (l := r) fun d hd => h d (.tail _ hd)
    show (same n a a && sames n r r) = true
    rw [h a (.head _), this]; rfl
theorem same_tup {n : Nat} {l : List D} (h : ∀ d ∈ l, same n d d = true) : same (n + 1) (.tup l) (.tup l) = true := by
  exact (sames_self h : sames n l l = true)
theorem same_list {n : Nat} {l : List D} (h : ∀ d ∈ l, same n d d = true) : same (n + 1) (.list l) (.list l) = true := by
  exact (sames_self h : sames n l l = true)
theorem sameEs_self {n : Nat} {E : List Nat} {g : Nat → D} (h : ∀ p ∈ E, same n (g p) (g p) = true) : ∀ r : List Nat, (∀ p ∈ r, p ∈ E) → sameEs n (dk r g) (dk E g) = true
  | [], _ => rfl
  | p :: r, hr => by
    have ih := sameEs_self h r fun q hq => hr q (.tail _ hq)
    have hp := hr p (.head _)
    show ((match dGet (dk E g) (p : Int) with | some e => same n (g p) e | none => false) && sameEs n (dk r g) (dk E g)) = true
    rw [dGet_dk hp, ih, Bool.and_true]
    exact h p hp
theorem same_dict {n : Nat} {E : List Nat} {g : Nat → D} (h : ∀ p ∈ E, same n (g p) (g p) = true) : same (n + 1) (.dict (dk E g)) (.dict (dk E g)) = true := by
  show (decide ((dk E g).length = (dk E g).length) && sameEs n (dk E g) (dk E g)) = true
  rw [sameEs_self h E fun _ h => h, decide_eq_true rfl]; rfl
theorem same_pair (n : Nat) (a b : Int) : same (n + 1) (.tup [.int a, .int b]) (.tup [.int a, .int b]) = true :=
  same_tup fun d hd => by
    rcases List.mem_cons.mp hd with e | e
    · rw [e]; exact same_int _ _
    · rw [List.mem_singleton.mp e]; exact same_int _ _
theorem same_all (st : List (Nat × Int)) (n : Nat) (lo : Nat → Int) (wh : Nat → Nat) (cs : List Nat) (E : Nat → List Nat) : sames 8 [stsD st, nr n lo wh, bk cs E lo wh] [stsD st, nr n lo wh, bk cs E lo wh] = true := by
  refine sames_self fun x hx => ?_
  rcases List.mem_cons.mp hx with e | e
  · rw [e]
    refine same_list fun y hy => ?_
    obtain ⟨s, _, rfl⟩ := List.mem_map.mp hy
    exact same_pair _ _ _
  · rcases List.mem_cons.mp e with e | e
    · rw [e]
      refine same_list fun y hy => ?_
      obtain ⟨s, _, rfl⟩ := List.mem_map.mp hy
      exact same_pair _ _ _
    · rw [List.mem_singleton.mp e]
      refine same_dict fun c _ => same_tup fun y hy => ?_
      rcases List.mem_cons.mp hy with e | e
      · rw [e]; exact same_int _ _
      · rcases List.mem_cons.mp e with e | e
        · rw [e]; exact same_int _ _
        · rcases List.mem_cons.mp e with e | e
          · rw [e]; exact same_int _ _
          · rcases List.mem_cons.mp e with e | e
            · rw [e]; exact same_int _ _
            · rw [List.mem_singleton.mp e]
              exact same_dict fun p _ => same_int _ _
/-! ### every word is served once -/
theorem one_of {w : Nat} : ∀ {cs : List Nat}, cs.Nodup → w ∈ cs → (cs.map fun c => if w = c then (1 : Int) else 0).sum = 1
  | c :: r, hn, hm => by
    have h := List.nodup_cons.mp hn
    rw [List.map_cons, List.sum_cons]
    by_cases e : w = c
    · subst e
      rw [if_pos rfl]
      have : (r.map fun c => if w = c then (1 : Int) else 0).sum = 0 := by
        have hz : r.map (fun c => if w = c then (1 : Int) else 0) = r.map fun _ => 0 := List.map_congr_left fun x hx => if_neg fun e => h.1 (by rw [e]; exact hx)
        rw [hz]
        clear hz h hm hn
        induction r with
        | nil => rfl
        | cons a r ih => rw [List.map_cons, List.sum_cons, ih]; rfl
      (first | lia | omega)
    · rw [if_neg e]
      have : w ∈ r := by rcases List.mem_cons.mp hm with q | q; exact absurd q e; exact q
      have := one_of h.2 this
      (first | lia | omega)
theorem sum_add {α : Type} (f g : α → Int) : ∀ l : List α, (l.map fun c => f c + g c).sum = (l.map f).sum + (l.map g).sum
  | [] => rfl
  | a :: r => by
    have := sum_add f g r
    simp only [List.map_cons, List.sum_cons]
    (first | lia | omega)
theorem parts {wh : Nat → Nat} {cs : List Nat} (hn : cs.Nodup) : ∀ {l : List Nat}, (∀ p ∈ l, wh p ∈ cs) → (cs.map fun c => sm l fun p => if decide (wh p = c) then 1 else 0).sum = l.length
  | [], _ => by
    have : (cs.map fun c => sm [] fun p => if decide (wh p = c) then (1 : Int) else 0) = cs.map fun _ => 0 := rfl
    rw [this]
    clear this hn
    induction cs with
    | nil => rfl
    | cons a r ih => rw [List.map_cons, List.sum_cons, ih (fun p h => by simp at h)]; rfl
  | p :: l, h => by
    have ih := parts hn (wh := wh) (l := l) fun q hq => h q (.tail _ hq)
    have h1 := one_of hn (h p (.head _))
    have e : (cs.map fun c => sm (p :: l) fun p => if decide (wh p = c) then (1 : Int) else 0) = cs.map fun c => (if wh p = c then (1 : Int) else 0) + sm l fun p => if decide (wh p = c) then 1 else 0 := List.map_congr_left fun c _ => by
      unfold sm
      rw [List.map_cons, List.sum_cons]
      simp only [decide_eq_true_eq]
    rw [e, sum_add, ih, h1, List.length_cons]
    (first | lia | omega)
theorem served_all {d : Nat → Nat → Int} {n : Nat} {cs : List Nat} {E : Nat → List Nat} (hE : EverOk d n cs E) (hne : cs ≠ []) (hn : cs.Nodup) :
    (cs.map fun c => sm (E c) fun p => if decide (who d cs p = c) then 1 else 0).sum = (n : Int) := by
  have e : (cs.map fun c => sm (E c) fun p => if decide (who d cs p = c) then (1 : Int) else 0) = cs.map fun c => sm (List.range n) fun p => if decide (who d cs p = c) then 1 else 0 := List.map_congr_left fun c hc => by
    rw [← sm_count, ← sm_count]
    congr 2
    obtain ⟨i, hi⟩ := List.getElem?_of_mem hc
    have hEc := hE i c hi
    rw [hEc]
    unfold everOf
    rw [List.filter_filter]
    refine List.filter_congr fun p hp => ?_
    by_cases q : who d cs p = c
    · have := ever_who hE hne (List.mem_range.mp hp)
      rw [q, hEc, ever_mem] at this
      rw [decide_eq_true q, Bool.true_and, List.all_eq_true]
      exact fun c' hc' => by have := this.2 c' hc'; simpa using this
    · rw [decide_eq_false q, Bool.false_and]
  rw [e, parts hn fun p _ => who_mem d hne p, List.length_range]

section
variable (Φ Ψ : Nat → List D → Option D)
structure Lw (Φ : Nat → List D → Option D) : Prop where
  word : ∀ x : Int, Φ 9 [.int x] = some (wd (wordL (x % 64).toNat))
  spread : ∀ (ws : List (List Nat)) (first : Nat), (∀ w ∈ ws, w ∈ W40) → ws.length ≤ 6 → first < ws.length → ∃ E H, Φ 10 [wds ws, .int (first : Int), .int 3] = some (.tup [stsD (fin3 (dst ws) ws.length first).2, nr ws.length (lot (dst ws) (fin3 (dst ws) ws.length first).1) (who (dst ws) (fin3 (dst ws) ws.length first).1), bk (fin3 (dst ws) ws.length first).1 E (lot (dst ws) (fin3 (dst ws) ws.length first).1) (who (dst ws) (fin3 (dst ws) ws.length first).1)]) ∧ At ws (fin3 (dst ws) ws.length first).1 (fin3 (dst ws) ws.length first).2 E H
  table : ∀ ws : List (List Nat), (∀ w ∈ ws, w ∈ W40) → ws.length ≤ 6 → Φ 12 [wds ws] = some (tbl ws.length (dst ws))
  plain : ∀ (d : Nat → Nat → Int) (n first : Nat) (E : Nat → List Nat), Met d → 0 < n → n ≤ 6 → first < n → (fin3 d n first).1.Nodup → EverOk d n (fin3 d n first).1 E → Φ 13 [tbl n d, .int (first : Int), .int 3] = some (.tup [stsD (fin3 d n first).2, nr n (lot d (fin3 d n first).1) (who d (fin3 d n first).1), bk (fin3 d n first).1 E (lot d (fin3 d n first).1) (who d (fin3 d n first).1)])
  count : ∀ (E : List Nat) (c : Nat → Int), Φ 6 [.dict (dk E (ci c))] = some (.int (sm E c))
  cover : ∀ (d : Nat → Nat → Int) (n k : Nat), n = 5 ∨ n = 6 → 1 ≤ k → k ≤ 4 → Φ 15 [tbl n d, .int (k : Int)] = some (.int (coverV n d k))
  apart : ∀ (d : Nat → Nat → Int) (n k : Nat), n = 5 ∨ n = 6 → 2 ≤ k → k ≤ 4 → Φ 16 [tbl n d, .int (k : Int)] = some (.int (apartV n d k))
noncomputable def wordsX : X := .new (.comp (.call 9 (.cons (.var 11) (.nil))) (.cons 11 (.seq (.upto (.bin .add (.upto (.var 0) (.int 6)) (.new (.list (.cons (.int 27) (.cons (.int 6) (.cons (.int 45) (.cons (.int 1) (.cons (.int 37) (.nil))))))))) (.ite (.cmp .lt (.len (.var 0)) (.int 4)) (.int 5) (.int 6)))) (.nil) (.nil)))
noncomputable def cntF : F := .comp (.call 6 (.cons (.sub (.sub (.var 7) (.var 12)) (.int 4)) (.nil))) (.cons 12 (.seq (.var 7)) (.nil) (.nil))
noncomputable def okT : T := .not (.and (.cons (.cmp2 (.var 9) .le (.var 8) .le (.bin .mul (.int 2) (.var 9))) (.cons (.cmp2 (.var 8) .le (.var 10) .le (.bin .mul (.int 2) (.var 8))) (.nil))))
noncomputable def lawFor : List S := [.assign 8 (.sub (.sub (.var 5) (.bin .sub (.var 4) (.int 1))) (.int 1)),
     .assign 9 (.call 15 (.cons (.var 3) (.cons (.var 4) (.nil)))),
     .assign 10 (.call 16 (.cons (.var 3) (.cons (.bin .add (.var 4) (.int 1)) (.nil)))),
     .ite okT
      [.ret (.bool false)]
      []]
noncomputable def eqT : T := .cmp .ne (.tup (.cons (.var 5) (.cons (.var 6) (.cons (.var 7) (.nil))))) (.call 13 (.cons (.var 3) (.cons (.var 2) (.cons (.int 3) (.nil)))))
noncomputable def cntT : T := .cmp .ne (.sumL (.new cntF)) (.len (.var 1))
theorem law_body : f_law.body = [.assign 1 wordsX, .assign 2 (.bin .mod (.sumL (.upto (.var 0) (.int 10))) (.len (.var 1))), .unpack [5, 6, 7] (.call 10 (.cons (.var 1) (.cons (.var 2) (.cons (.int 3) (.nil))))),
   .assign 3 (.call 12 (.cons (.var 1) (.nil))), .ite eqT [.ret (.bool false)] [], .ite cntT [.ret (.bool false)] [], .for1 4 (.range2 (.int 1) (.bin .add (.len (.var 5)) (.int 1))) lawFor, .ret (.bool true)] := rfl
noncomputable def lawWs (ns : List Int) : List (List Nat) := ((ns.take 6 ++ [27, 6, 45, 1, 37]).take (if ns.length < 4 then 5 else 6)).map fun x : Int => wordL (x % 64).toNat
theorem lawWs_len (ns : List Int) : (lawWs ns).length = 5 ∨ (lawWs ns).length = 6 := by
  unfold lawWs
  rw [List.length_map, List.length_take, List.length_append, List.length_take]
  simp only [List.length_cons, List.length_nil]
  split <;> (first | lia | omega)
theorem lawWs_mem (ns : List Int) : ∀ w ∈ lawWs ns, w ∈ W40 := fun w hw => by
  obtain ⟨x, _, rfl⟩ := List.mem_map.mp hw
  exact wordL_mem (by (first | lia | omega))
theorem upto_il {l : List Int} {k : Nat} (hk : k ≤ 1000) (hl : l.length ≤ 1000) : uptoD (.list (il l)) (.int (k : Int)) = some (.list (il (l.take k))) := by
  show (if 0 ≤ (k : Int) ∧ (k : Int) ≤ 1000 ∧ (il l).length ≤ 1000 then _ else _) = _
  rw [if_pos ⟨by (first | lia | omega), by (first | lia | omega), by rw [il_len]; exact hl⟩, Int.toNat_natCast]
  unfold il; rw [← List.map_take]
theorem words_run (h : Lw Φ) {ns : List Int} (hl : ns.length ≤ 63) (a1 a2 a3 a4 a5 a6 a7 a8 a9 a10 : Option D) : ev Φ wordsX (L (.list (il ns)) a1 a2 a3 a4 a5 a6 a7 a8 a9 a10) = some (wds (lawWs ns)) := by
  unfold wordsX
  rw [ev, evF_map Φ ((ns.take 6 ++ [27, 6, 45, 1, 37]).take (if ns.length < 4 then 5 else 6)) (fun x => .int x) (fun x => wd (wordL (x % 64).toNat)) ?_ ?_ fun x _ => ?_]
  · unfold wds lawWs; rw [List.map_map]; rfl
  · have u6 : uptoD (.list (il ns)) (.int 6) = some (.list (il (ns.take 6))) := upto_il (k := 6) (by (first | lia | omega)) (by (first | lia | omega))
    have e1 : ev Φ (.new (.list (.cons (.int 27) (.cons (.int 6) (.cons (.int 45) (.cons (.int 1) (.cons (.int 37) (.nil)))))))) (L (.list (il ns)) a1 a2 a3 a4 a5 a6 a7 a8 a9 a10) = some (.list (il [27, 6, 45, 1, 37])) := by
      simp only [ev, evF, evs, Option.bind_some, Option.map_some]; rfl
    have e2 : ev Φ (.upto (.var 0) (.int 6)) (L (.list (il ns)) a1 a2 a3 a4 a5 a6 a7 a8 a9 a10) = some (.list (il (ns.take 6))) := by
      simp only [ev, L_look0, Option.bind_some, u6]
    have e3 : ev Φ (.bin .add (.upto (.var 0) (.int 6)) (.new (.list (.cons (.int 27) (.cons (.int 6) (.cons (.int 45) (.cons (.int 1) (.cons (.int 37) (.nil))))))))) (L (.list (il ns)) a1 a2 a3 a4 a5 a6 a7 a8 a9 a10) = some (.list (il (ns.take 6 ++ [27, 6, 45, 1, 37]))) := by
      rw [ev, e2, e1, Option.bind_some, Option.bind_some]
      show (if (il (ns.take 6)).length + (il [27, 6, 45, 1, 37]).length ≤ 1000 then _ else _) = _
      rw [if_pos (by rw [il_len, il_len, List.length_take]; simp; (first | lia | omega))]
      unfold il; rw [List.map_append]
    have e4 : ev Φ (.ite (.cmp .lt (.len (.var 0)) (.int 4)) (.int 5) (.int 6)) (L (.list (il ns)) a1 a2 a3 a4 a5 a6 a7 a8 a9 a10) = some (.int ((if ns.length < 4 then 5 else 6 : Nat) : Int)) := by
      have hlen := len_il (l := ns) (by (first | lia | omega))
      simp only [ev, evT, L_look0, Option.bind_some, hlen, lt_ii]
      by_cases q : ns.length < 4
      · rw [if_pos q, decide_eq_true (by (first | lia | omega)), if_pos rfl]; rfl
      · rw [if_neg q, decide_eq_false (by (first | lia | omega)), if_neg (by decide)]; rfl
    have hup := upto_il (l := ns.take 6 ++ [27, 6, 45, 1, 37]) (k := if ns.length < 4 then 5 else 6) (by split <;> (first | lia | omega)) (by rw [List.length_append, List.length_take]; simp; (first | lia | omega))
    rw [evI, ev, e3, e4, Option.bind_some, Option.bind_some, hup]
    rfl
  · rw [List.length_take]; split <;> (first | lia | omega)
  · have k : ev Φ (.var 11) (((L (.list (il ns)) a1 a2 a3 a4 a5 a6 a7 a8 a9 a10).set 11 none).set 11 (some (.int x))) = some (.int x) := by rw [ev]; rfl
    rw [ev, evs, evs, k]
    simp only [Option.bind_some, Option.map_some, h.word]
end
end Mine
end
section
open PySem
set_option maxRecDepth 100000
set_option linter.unusedSimpArgs false
set_option linter.unusedVariables false
namespace Mine
theorem keys_dk (E : List Nat) (g : Nat → D) : seqD (.dict (dk E g)) = some (E.map fun c : Nat => .int (c : Int)) := by
  show some ((dk E g).map fun kv => D.int kv.1) = _
  unfold dk; rw [List.map_map]; rfl
theorem ent_cnt (E : List Nat) (lo : Nat → Int) (on : Nat → Bool) : subD (ent E lo on) (.int 4) = some (.dict (dk E (ci fun p => if on p then 1 else 0))) := rfl
section
variable (Φ Ψ : Nat → List D → Option D)
theorem cnt_run (h : Lw Φ) {cs : List Nat} (hl : cs.length ≤ 6) {E : Nat → List Nat} {lo : Nat → Int} {wh : Nat → Nat} {W : D} {a1 a2 a3 a4 a5 a6 a8 a9 a10 : Option D} :
    evF Φ cntF (L W a1 a2 a3 a4 a5 a6 (some (bk cs E lo wh)) a8 a9 a10) = some (.list (il (cs.map fun c => sm (E c) fun p => if decide (wh p = c) then 1 else 0))) := by
  unfold cntF
  rw [evF_map Φ cs (fun c => .int (c : Int)) (fun c => .int (sm (E c) fun p => if decide (wh p = c) then 1 else 0)) ?_ (by (first | lia | omega)) fun c hc => ?_]
  · unfold il; rw [List.map_map]; rfl
  · rw [evI, ev, L_look7]; exact keys_dk _ _
  · generalize hρ : (List.set (L W a1 a2 a3 a4 a5 a6 (some (bk cs E lo wh)) a8 a9 a10) 12 none).set 12 (some (.int (c : Int))) = ρ
    have k7 : look ρ 7 = some (bk cs E lo wh) := by rw [← hρ]; rfl
    have k12 : look ρ 12 = some (.int (c : Int)) := by rw [← hρ]; rfl
    have e1 : subD (bk cs E lo wh) (.int (c : Int)) = some (ent (E c) lo fun p => decide (wh p = c)) := dGet_dk hc
    simp only [ev, evs, k7, k12, Option.bind_some, e1, ent_cnt, Option.map_some, h.count]
theorem ne_same {a : List D} (h : sames 8 a a = true) : cmpD .ne (.tup a) (.tup a) = some false := by
  show ((if sames 8 a a then some true else none : Option Bool).map (!·)) = _
  rw [h, if_pos rfl]; rfl
theorem law_turn (h : Lw Φ) {n : Nat} {d : Nat → Nat → Int} (M : Met d) (hn : n = 5 ∨ n = 6) {first : Nat} (hf : first < n) {k : Nat} (hk : k < (fin3 d n first).2.length) (W : D) (a1 a2 a6 a7 a8 a9 a10 : Option D) :
    ∃ b8 b9 b10, exs Φ Ψ lawFor (L W a1 a2 (some (tbl n d)) (some (.int (1 + (k : Int)))) (some (stsD (fin3 d n first).2)) a6 a7 a8 a9 a10) =
      some (.next, L W a1 a2 (some (tbl n d)) (some (.int (1 + (k : Int)))) (some (stsD (fin3 d n first).2)) a6 a7 b8 b9 b10) := by
  obtain ⟨G, hl3⟩ := fin_good M (n := n) hf
  rw [G.len] at hk
  obtain ⟨c, _, hst⟩ := G.st k hk
  obtain ⟨⟨b1, b2⟩, b3, b4⟩ := bounds M hn G.gz G.lt G.nd (k := k + 1) (by (first | lia | omega)) (by (first | lia | omega)) (by (first | lia | omega))
  generalize hr : far d n ((fin3 d n first).1.take (k + 1)) = r at hst b1 b2 b3 b4
  have hr6 : 0 ≤ r ∧ r ≤ 6 := by
    have hne : (fin3 d n first).1.take (k + 1) ≠ [] := fun e => by have := congrArg List.length e; rw [List.length_take, List.length_nil] at this; (first | lia | omega)
    have := pick_spec d n (cs := (fin3 d n first).1.take (k + 1)) (by (first | lia | omega))
    rw [← hr, ← this.2.2.1]
    exact ⟨lot_nonneg M hne _, lot_le6 M hne _⟩
  have e1 : subD (stsD (fin3 d n first).2) (.int (k : Int)) = some (.tup [.int (c : Int), .int r]) :=
    sub_list (by rw [List.getElem?_map, hst]; rfl) (by rw [List.length_map, G.len]; (first | lia | omega))
  have e2 := h.cover d n (k + 1) hn (by (first | lia | omega)) (by (first | lia | omega))
  have e3 := h.apart d n (k + 1 + 1) hn (by (first | lia | omega)) (by (first | lia | omega))
  have i1 : 1 + (k : Int) - 1 = (k : Int) := by (first | lia | omega)
  have i2 : 1 + (k : Int) = ((k + 1 : Nat) : Int) := by (first | lia | omega)
  have i3 : ((k + 1 : Nat) : Int) + 1 = ((k + 1 + 1 : Nat) : Int) := by (first | lia | omega)
  have m1 := num2 (a := 2) (b := coverV n d (k + 1)) (by (first | lia | omega)) (by (first | lia | omega))
  have m2 := num2 (a := 2) (b := r) (by (first | lia | omega)) (by (first | lia | omega))
  unfold lawFor
  rw [exs, ex]
  simp only [ev, L_look0, L_look1, L_look2, L_look3, L_look4, L_look5, L_look6, L_look7, L_look8, L_look9, L_look10, Option.bind_some, bi_sub, i1, e1, sub_pair1, Option.map_some, L_set1, L_set2, L_set3, L_set4, L_set5, L_set6, L_set7, L_set8, L_set9, L_set10]
  rw [exs, ex, i2]
  simp only [ev, evs, L_look0, L_look1, L_look2, L_look3, L_look4, L_look5, L_look6, L_look7, L_look8, L_look9, L_look10, Option.bind_some, Option.map_some, e2, L_set1, L_set2, L_set3, L_set4, L_set5, L_set6, L_set7, L_set8, L_set9, L_set10]
  rw [exs, ex]
  simp only [ev, evs, L_look0, L_look1, L_look2, L_look3, L_look4, L_look5, L_look6, L_look7, L_look8, L_look9, L_look10, Option.bind_some, Option.map_some, bi_add, i3, e3, L_set1, L_set2, L_set3, L_set4, L_set5, L_set6, L_set7, L_set8, L_set9, L_set10]
  have ht : evT Φ okT (L W a1 a2 (some (tbl n d)) (some (.int ((k + 1 : Nat) : Int))) (some (stsD (fin3 d n first).2)) a6 a7 (some (.int r)) (some (.int (coverV n d (k + 1)))) (some (.int (apartV n d (k + 1 + 1))))) = some false := by
    unfold okT
    simp only [evT, evAnd, ev, L_look0, L_look1, L_look2, L_look3, L_look4, L_look5, L_look6, L_look7, L_look8, L_look9, L_look10, Option.bind_some, m1, m2, le_ii]
    rw [decide_eq_true b1, if_pos rfl, decide_eq_true b2, Option.bind_some, if_pos rfl, decide_eq_true b3, if_pos rfl, decide_eq_true b4, Option.bind_some, if_pos rfl]
    rfl
  refine ⟨some (.int r), some (.int (coverV n d (k + 1))), some (.int (apartV n d (k + 1 + 1))), exs_one Φ Ψ ?_⟩
  rw [ex, ht, Option.bind_some, if_neg (by decide), exs]
theorem law_run (h : Lw Φ) {ns : List Int} (hl : ns.length ≤ 63) : ∃ ρ, runFn Φ Ψ f_law [.list (il ns)] = some (.bool true, ρ) := by
  have hw := lawWs_mem ns
  have hn := lawWs_len ns
  have e1 := words_run Φ h hl none none none none none none none none none none
  obtain ⟨ws, hws⟩ : ∃ ws, ws = lawWs ns := ⟨_, rfl⟩
  rw [← hws] at hw hn e1
  have h6 : ws.length ≤ 6 := by (first | lia | omega)
  have h0 : 0 < ws.length := by (first | lia | omega)
  have M := dst_met hw
  obtain ⟨first, hfe, hf⟩ : ∃ first : Nat, (ns.take 10).sum % (ws.length : Int) = (first : Int) ∧ first < ws.length :=
    ⟨((ns.take 10).sum % (ws.length : Int)).toNat, by have := Int.emod_nonneg (ns.take 10).sum (show (ws.length : Int) ≠ 0 by (first | lia | omega)); (first | lia | omega), by have := Int.emod_lt_of_pos (ns.take 10).sum (show (0 : Int) < ws.length by (first | lia | omega)); (first | lia | omega)⟩
  obtain ⟨E, H, e3, A⟩ := h.spread ws first hw h6 hf
  have e4 := h.table ws hw h6
  have e5 := h.plain (dst ws) ws.length first E M h0 h6 hf A.nd A.ever
  have hsame := ne_same (same_all (fin3 (dst ws) ws.length first).2 ws.length (lot (dst ws) (fin3 (dst ws) ws.length first).1) (who (dst ws) (fin3 (dst ws) ws.length first).1) (fin3 (dst ws) ws.length first).1 E)
  have hserved := served_all A.ever A.ne A.nd
  obtain ⟨G, hl3⟩ := fin_good M hf
  have hturn := fun k hk => law_turn Φ Ψ h M hn hf (k := k) hk (.list (il ns)) (some (wds ws)) (some (.int (first : Int)))
  have hcl : (fin3 (dst ws) ws.length first).1.length ≤ 3 := hl3
  have hsl : (fin3 (dst ws) ws.length first).2.length ≤ 3 := by rw [G.len]; exact hl3
  generalize hd : dst ws = d at *
  generalize hcs : (fin3 d ws.length first).1 = cs at *
  generalize hst : (fin3 d ws.length first).2 = st at *
  unfold runFn
  rw [if_pos (show [D.list (il ns)].length = f_law.params from rfl), law_body]
  have hinit : (([D.list (il ns)].map some ++ List.replicate (f_law.size - f_law.params) none : Rho)) = L (.list (il ns)) none none none none none none none none none none := rfl
  rw [hinit, exs, ex, e1]
  simp only [Option.map_some, Option.bind_some, L_set1, L_set2, L_set3, L_set4, L_set5, L_set6, L_set7, L_set8, L_set9, L_set10]
  have lw1 := len_wds (ws := ws) h6
  have u10 : uptoD (.list (il ns)) (.int 10) = some (.list (il (ns.take 10))) := upto_il (k := 10) (by (first | lia | omega)) (by (first | lia | omega))
  have hmod : binop .mod (.int (ns.take 10).sum) (.int (ws.length : Int)) = some (.int (first : Int)) := by
    rw [← hfe]; exact if_pos (by (first | lia | omega))
  rw [exs, ex]
  simp only [ev, L_look0, L_look1, L_look2, L_look3, L_look4, L_look5, L_look6, L_look7, L_look8, L_look9, L_look10, Option.bind_some, u10, sumL_il, lw1, hmod, Option.map_some, L_set1, L_set2, L_set3, L_set4, L_set5, L_set6, L_set7, L_set8, L_set9, L_set10]
  rw [exs, ex]
  simp only [ev, evs, L_look0, L_look1, L_look2, L_look3, L_look4, L_look5, L_look6, L_look7, L_look8, L_look9, L_look10, Option.bind_some, Option.map_some, e3, setAll, L_set1, L_set2, L_set3, L_set4, L_set5, L_set6, L_set7, L_set8, L_set9, L_set10]
  rw [exs, ex]
  simp only [ev, evs, L_look0, L_look1, L_look2, L_look3, L_look4, L_look5, L_look6, L_look7, L_look8, L_look9, L_look10, Option.bind_some, Option.map_some, e4, L_set1, L_set2, L_set3, L_set4, L_set5, L_set6, L_set7, L_set8, L_set9, L_set10]
  have t1 : evT Φ eqT (L (.list (il ns)) (some (wds ws)) (some (.int (first : Int))) (some (tbl ws.length d)) none (some (stsD st)) (some (nr ws.length (lot d cs) (who d cs))) (some (bk cs E (lot d cs) (who d cs))) none none none) = some false := by
    have q : ev Φ (.tup (.cons (.var 5) (.cons (.var 6) (.cons (.var 7) (.nil))))) (L (.list (il ns)) (some (wds ws)) (some (.int (first : Int))) (some (tbl ws.length d)) none (some (stsD st)) (some (nr ws.length (lot d cs) (who d cs))) (some (bk cs E (lot d cs) (who d cs))) none none none) = some (.tup [stsD st, nr ws.length (lot d cs) (who d cs), bk cs E (lot d cs) (who d cs)]) := by
      simp only [ev, evs, L_look0, L_look1, L_look2, L_look3, L_look4, L_look5, L_look6, L_look7, L_look8, L_look9, L_look10, Option.bind_some, Option.map_some]; rfl
    unfold eqT
    rw [evT, q]
    simp only [ev, evs, L_look0, L_look1, L_look2, L_look3, L_look4, L_look5, L_look6, L_look7, L_look8, L_look9, L_look10, Option.bind_some, Option.map_some, e5, hsame]
  rw [exs, ex, t1, Option.bind_some, if_neg (by decide), exs, Option.bind_some]
  dsimp only
  have t2 : evT Φ cntT (L (.list (il ns)) (some (wds ws)) (some (.int (first : Int))) (some (tbl ws.length d)) none (some (stsD st)) (some (nr ws.length (lot d cs) (who d cs))) (some (bk cs E (lot d cs) (who d cs))) none none none) = some false := by
    have q : ev Φ (.sumL (.new cntF)) (L (.list (il ns)) (some (wds ws)) (some (.int (first : Int))) (some (tbl ws.length d)) none (some (stsD st)) (some (nr ws.length (lot d cs) (who d cs))) (some (bk cs E (lot d cs) (who d cs))) none none none) = some (.int (ws.length : Int)) := by
      rw [ev, ev, cnt_run Φ h (by (first | lia | omega)), Option.bind_some, sumL_il, hserved]
    unfold cntT
    rw [evT, q]
    simp only [ev, L_look0, L_look1, L_look2, L_look3, L_look4, L_look5, L_look6, L_look7, L_look8, L_look9, L_look10, Option.bind_some, lw1, ne_ii, decide_true, Bool.not_true]
  rw [exs, ex, t2, Option.bind_some, if_neg (by decide), exs, Option.bind_some]
  dsimp only
  have hr : evI Φ (.range2 (.int 1) (.bin .add (.len (.var 5)) (.int 1))) (L (.list (il ns)) (some (wds ws)) (some (.int (first : Int))) (some (tbl ws.length d)) none (some (stsD st)) (some (nr ws.length (lot d cs) (who d cs))) (some (bk cs E (lot d cs) (who d cs))) none none none) = some (rangeD 1 st.length) := by
    simp only [evI, ev, L_look0, L_look1, L_look2, L_look3, L_look4, L_look5, L_look6, L_look7, L_look8, L_look9, L_look10, Option.bind_some, len_sts (show st.length ≤ 1000 by (first | lia | omega)), bi_add]
    show (if -1000 ≤ (1 : Int) ∧ (1 : Int) ≤ 1000 ∧ -1000 ≤ (st.length : Int) + 1 ∧ (st.length : Int) + 1 ≤ 1000 then _ else _) = _
    rw [if_pos (by (first | lia | omega)), show ((st.length : Int) + 1 - 1).toNat = st.length from by (first | lia | omega)]
  have main := loop_all (bind := bind1 4) (body := exs Φ Ψ lawFor)
    (Inv := fun k ρ => ∃ a4 a8 a9 a10, ρ = L (.list (il ns)) (some (wds ws)) (some (.int (first : Int))) (some (tbl ws.length d)) a4 (some (stsD st)) (some (nr ws.length (lot d cs) (who d cs))) (some (bk cs E (lot d cs) (who d cs))) a8 a9 a10)
    (rangeD 1 st.length) (fun k x ρ hd hI => ?_) (ρ := L (.list (il ns)) (some (wds ws)) (some (.int (first : Int))) (some (tbl ws.length d)) none (some (stsD st)) (some (nr ws.length (lot d cs) (who d cs))) (some (bk cs E (lot d cs) (who d cs))) none none none) ⟨none, none, none, none, rfl⟩
  · obtain ⟨ρ', h1, _⟩ := main
    rw [exs, ex, hr, Option.bind_some, h1, Option.bind_some]
    dsimp only
    exact ⟨ρ', by rw [exs_ret Φ Ψ (ρ' := ρ') (d := .bool true) (by rw [ex, ev]; rfl)]; rfl⟩
  · obtain ⟨a4, a8, a9, a10, rfl⟩ := hI
    obtain ⟨hk, rfl⟩ := rangeD_get hd
    obtain ⟨b8, b9, b10, ht⟩ := hturn k hk (some (nr ws.length (lot d cs) (who d cs))) (some (bk cs E (lot d cs) (who d cs))) a8 a9 a10
    exact ⟨_, _, congrArg some (L_set4 ..), .inl ht, _, _, _, _, rfl⟩
end

/-! ### the whole -/
noncomputable def Φf (n : Nat) : Nat → List D → Option D := fun g as => if 4 ≤ g then (callBoth progF n g as).map (·.1) else none
noncomputable def Ψf (n : Nat) : Nat → List D → Option D := fun g as => if g < 4 then (callBoth progF n g as).bind fun r => look r.2 0 else none
theorem both (n g : Nat) (fn : Fn) (hp : progF g = some fn) (as : List D) : callBoth progF (n + 1) g as = runFn (Φf n) (Ψf n) fn as := by
  rw [callBoth, hp, Option.bind_some]; rfl
theorem Φ_of {n g : Nat} {fn : Fn} {as : List D} {d : D} (hg : 4 ≤ g) (hp : progF g = some fn) (h : ∃ ρ, runFn (Φf n) (Ψf n) fn as = some (d, ρ)) : Φf (n + 1) g as = some d := by
  obtain ⟨ρ, h⟩ := h
  unfold Φf
  rw [if_pos hg, both n g fn hp, h]; rfl
theorem Ψ_of {n g : Nat} {fn : Fn} {as : List D} {d : D} (hg : g < 4) (hp : progF g = some fn) (h : ∃ r ρ, runFn (Φf n) (Ψf n) fn as = some (r, ρ) ∧ look ρ 0 = some d) : Ψf (n + 1) g as = some d := by
  obtain ⟨r, ρ, h, h2⟩ := h
  unfold Ψf
  rw [if_pos hg, both n g fn hp, h]; exact h2
theorem Φ_7 (n : Nat) (x y : Nat) (hx : x < 128) (hy : y < 128) : Φf (n + 1) 7 [sgn x, sgn y] = some (.int (cost x y)) := Φ_of (by decide) rfl (sub_cost_run _ _ hx hy)
theorem Φ_8 (n : Nat) (a b : List Nat) (mc : Int) (ha : a ∈ W40) (hb : b ∈ W40) : Φf (n + 2) 8 [wd a, wd b, .int mc] = some (.int (levN a b mc)) :=
  Φ_of (by decide) rfl (lev_run _ _ (Φ_7 n) (by have := (w40_length ha).1; (first | lia | omega)) (by have := (w40_length hb).1; (first | lia | omega)) (w40_length ha).2 (w40_length hb).2 mc)
theorem Φ_5 (n : Nat) (E : List Nat) (c : Nat → Int) (p : Nat) (v : Int) (hE : E.length ≤ 1000) (hn : E.Nodup) : Φf (n + 1) 5 [.dict (dk E (ci c)), .dict [((p : Int), .int v)]] = some (.dict (dSet (dk E (ci c)) (p : Int) (.int (if p ∈ E then c p + v else v)))) :=
  Φ_of (by decide) rfl (callers_run _ _ hE hn c p v)
theorem Ψ_2 (n : Nat) (K : List Int) (s p : Nat) (hp0 : p < K.length) (h6 : K.length ≤ 6) : Ψf (n + 1) 2 [hp K, .int (s : Int), .int (p : Int)] = some (hp (downF K s p)) :=
  Ψ_of (by decide) rfl ⟨_, down_run _ _ hp0 h6⟩
theorem Ψ_3 (n : Nat) (K : List Int) (p : Nat) (hp0 : p < K.length) (h6 : K.length ≤ 6) : Ψf (n + 2) 3 [hp K, .int (p : Int)] = some (hp (upF K p)) :=
  Ψ_of (by decide) rfl ⟨_, up_run _ _ (Ψ_2 n) hp0 h6⟩
theorem spOf (n : Nat) : Sp (Φf (n + 3)) (Ψf (n + 3)) where
  lev a b mc ha hb := Φ_8 (n + 1) a b mc ha hb
  gain E lo lo' on on' p x h1 h2 h3 h4 h5 h6 := Φ_of (by decide) rfl (gain_run _ _ (fun E c p v => Φ_5 (n + 1) E c p v) h1 h2 h3 h4 h5 h6)
  loss E lo lo' on on' p x h1 h2 h3 h4 h5 h6 h7 := Φ_of (by decide) rfl (loss_run _ _ (fun E c p v => Φ_5 (n + 1) E c p v) h1 h2 h3 h4 h5 h6 h7)
  heap H h6 := Ψ_of (by decide) rfl (heap_run _ _ (Ψ_3 n) h6)
  rep H x h0 h6 := Ψ_of (by decide) rfl (rep_run _ _ (Ψ_3 n) h0 h6 x)
theorem Φ_11 (n : Nat) (a b : List Nat) (ha : a ∈ W40) (hb : b ∈ W40) : Φf (n + 1) 11 [wd a, wd b] = some (.int (P a b)) :=
  Φ_of (by decide) rfl (price_run _ _ (by have := (w40_length ha).1; (first | lia | omega)) (by have := (w40_length hb).1; (first | lia | omega)) (w40_length hb).2 (w40_length ha).2)
theorem Φ_14 (n : Nat) (m k : Nat) (hm : m = 5 ∨ m = 6) (h1 : 1 ≤ k) (h4 : k ≤ 4) : Φf (n + 1) 14 [.int (m : Int), .int (k : Int)] = some (.list ((chs m k).map csD)) := by
  have := choices_run (Φf n) (Ψf n) hm h1 h4
  obtain ⟨r, h2, h3⟩ := Option.map_eq_some_iff.mp this
  exact Φ_of (by decide) rfl ⟨r.2, by rw [h2, ← h3]⟩
theorem lwOf (n : Nat) : Lw (Φf (n + 4)) where
  word x := Φ_of (by decide) rfl (word_run _ _ x)
  spread ws first hw h6 hf := by
    obtain ⟨E, H, ρ, h, A⟩ := spread_run (Φf (n + 3)) (Ψf (n + 3)) (spOf n) hw h6 hf
    exact ⟨E, H, Φ_of (by decide) rfl ⟨ρ, h⟩, A⟩
  table ws hw h6 := Φ_of (by decide) rfl (table_run _ _ (Φ_11 (n + 2)) hw h6)
  plain d m first E M h0 h6 hf hnd hE := Φ_of (by decide) rfl (plain_run _ _ M h0 h6 hf hnd hE)
  count E c := Φ_of (by decide) rfl (count_run _ _ c)
  cover d m k hm h1 h4 := Φ_of (by decide) rfl (cover_run _ _ (Φ_14 (n + 2)) hm h1 h4 d)
  apart d m k hm h1 h4 := Φ_of (by decide) rfl (apart_run _ _ (Φ_14 (n + 2)) hm h1 h4 d)
theorem law_true (ns : List Int) (hl : ns.length ≤ 63) : ∃ ρ, callBoth progF 9 17 [.list (ns.map .int)] = some (.bool true, ρ) := by
  obtain ⟨ρ, h⟩ := law_run (Φf 8) (Ψf 8) (lwOf 4) hl
  exact ⟨ρ, (both 8 17 f_law rfl _).trans h⟩
end Mine
end
open PySem PySem.W PyProof.Rows PySem.Calls
set_option maxRecDepth 100000 in
set_option maxHeartbeats 8000000 in
theorem PySem.Challenge.cw_pg0164_01_holds : PySem.Challenge.rw_pg0164_01.Holds := by
  refine holds_law Mine.said fun said => ?_
  refine holds_open (q := Mine.qv) (loose := []) (Xt := fun s => xlAt Mine.qv [] s && recOk Mine.rR.toRowW.records s) (XP := XL Mine.qv []) (Yf := Hook.none.obs) (Ya := Hook.none.val) (YP := Hook.none.says) (N := 1334) Mine.left (Hook.of Hook.none) (Hook.keeps Hook.none) (fun s e => xl_of s (Bool.and_eq_true_iff.mp e).1) XL.keeps (by rfl) (by rfl) (by rfl) (fun s e => recFacts_of (Bool.and_eq_true_iff.mp e).2) (by rfl) said (by decide +kernel) ⟨rfl, rfl, rfl, rfl, rfl, by decide +kernel⟩ ?hw ?hc
  case hw => w_witness2
  case hc =>
    intro w s₀ s₁ mg mb G Y fa o pm cd doc dV kV ho hd hcd hD hmg hg args vals as hpre hlay hrd hwl hlo
    refine Ground.open G ?_
    intro T B D TE TW
    try (refine guard_noD D (by decide +kernel) ?_; clear D)
    wrow_args hpre hlay hrd hwl hlo
    all_goals (first | refine callC_kw (enter_call ?_) | refine enter_call ?_ | refine callC_kw (enter_callW ?_) | refine enter_callW ?_ | w_how)
    rename_i ns _ _ _ _ _ _ _ l vs _ hL ra w1 r0 hI hr hc1 hc2
    refine codeAny_mono ?_ (fun _ _ g => GoodW.toG g)
    have hfa : fa = Mine.adOf mg 17 := by
      have e : mg (Mine.fnName 17) = some (.ref fa) := hmg
      unfold Mine.adOf; rw [e]
    rw [hfa]
    have hp : s₁.heap.PlainList l vs.toArray := by
      obtain ⟨o1, e1, _, n1, d1⟩ := hL
      have w2 : Well w.params s₁.heap (.ref l) (.list (ofPys (ns.map PyData.int))) := w1
      cases w2 with
      | list e2 _ =>
        rw [e1] at e2
        cases e2
        cases d1
        exact ⟨_, e1⟩
    have hpost : Challenge.rw_pg0164_01.row.claim.post [ofPy (PyData.list (List.map PyData.int ns))] (WData.bool true) [ofPy (PyData.list (List.map PyData.int ns))] = true := by wrow_post
    exact Mine.law_call T hp hI (Mine.law_true ns (by (first | lia | omega))) fun h' tk hx => ⟨.inl ⟨_, .bool true, [], rfl, fun _ => rfl, .bool true, hpost, fun _ => ⟨List.nodup_nil, fun a ha => nomatch ha⟩⟩, hx, rfl, hg⟩
