import PyProof.Rows.All
import Wide.All
import OpenK.AllK
import Wide.FinOn
import PySem.Challenge.RW_tc0025_01
open PySem PySem.W PyProof.Rows
set_option Elab.async false
set_option maxRecDepth 100000
namespace Mine
set_option maxHeartbeats 8000000 in
open_top hd for PySem.Challenge.rw_tc0025_01
end Mine
set_option maxRecDepth 10000
set_option genInjectivity false
set_option genSizeOf false
set_option genSizeOfSpec false
namespace Mine

noncomputable abbrev Ext (S : List Addr) (h h' : Heap) : Prop := ∀ b o, b ∉ S → h.get? b = some o → h'.get? b = some o
noncomputable abbrev Ext0 (h h' : Heap) : Prop := ∀ b o, h.get? b = some o → h'.get? b = some o
theorem Ext0.ext {S : List Addr} {h h' : Heap} (x : Ext0 h h') : Ext S h h' := fun b o _ e => x b o e

/-- the pairs of a table's list -/
noncomputable def Tups (h : Heap) (S : List Addr) : List (PyData × PyData) → List Value → Prop
  | [], vs => vs = []
  | (.str a, .str b) :: r, vs => ∃ p t u rest, vs = .ref p :: rest ∧ p ∉ S ∧ h.IsTuple p #[.str a t, .str b u] ∧ Tups h S r rest
  | _ :: _, _ => False

noncomputable def HdrDict (h : Heap) (dx l : Addr) : Prop := ∃ (hs : Int) (tk : Tok) (n : Nat), h.get? dx = some (dictOf [⟨hs, .str (Str.ofString "_headers") tk, .ref l⟩] n)

structure Tab (C : Addr) (h : Heap) (S : List Addr) (kvs : List (PyData × PyData)) (x dx l : Addr) (vs : List Value) : Prop where
  hx : x ∉ S
  hdx : dx ∉ S
  hl : l ∉ S
  inst : h.get? x = some (instObj C dx)
  dict : HdrDict h dx l
  lst : h.IsList l vs.toArray
  tups : Tups h S kvs vs

mutual
noncomputable def Rep (C : Addr) (h : Heap) (S : List Addr) : PyData → Value → Prop
  | .none, v => v = .none
  | .bool b, v => v = .bool b
  | .int i, v => ∃ t, v = .int i t
  | .str x, v => ∃ t, v = .str x t
  | .list l, v => ∃ a vs, v = .ref a ∧ a ∉ S ∧ h.IsList a vs.toArray ∧ Reps C h S l vs
  | .tuple l, v => ∃ a vs, v = .ref a ∧ a ∉ S ∧ h.IsTuple a vs.toArray ∧ Reps C h S l vs
  | .dict kvs, v => (∃ a : Nat, kvs = [(.int a, .none)] ∧ v = .ref a) ∨ ∃ x dx l vs, v = .ref x ∧ Tab C h S kvs x dx l vs
noncomputable def Reps (C : Addr) (h : Heap) (S : List Addr) : List PyData → List Value → Prop
  | [], vs => vs = []
  | d :: l, vs => ∃ v r, vs = v :: r ∧ Rep C h S d v ∧ Reps C h S l r
end

section
variable {C : Addr} {h h' : Heap} {S S' : List Addr}

theorem IsList.ext {a : Addr} {its : Array Value} (x : h.IsList a its) (ha : a ∉ S) (e : Ext S h h') : h'.IsList a its :=
  let ⟨o, ho, r⟩ := x; ⟨o, e _ _ ha ho, r⟩
theorem IsTuple.ext {a : Addr} {its : Array Value} (x : h.IsTuple a its) (ha : a ∉ S) (e : Ext S h h') : h'.IsTuple a its :=
  let ⟨o, ho, r⟩ := x; ⟨o, e _ _ ha ho, r⟩

theorem notin_weak (e : ∀ a ∈ S', a ∈ S ∨ h.get? a = none) {p : Addr} (hp : p ∉ S) (live : ∃ o, h.get? p = some o) : p ∉ S' := fun hm =>
  (e p hm).elim hp fun q => let ⟨_, ho⟩ := live; nomatch ho.symm.trans q
theorem Tups.ext (e : Ext S h h') : ∀ {kvs : List (PyData × PyData)} {vs : List Value}, Tups h S kvs vs → Tups h' S kvs vs
  | [], _, x => x
  | (.str _, .str _) :: _, _, ⟨p, t, u, rest, e1, hp, ht, r⟩ => ⟨p, t, u, rest, e1, hp, IsTuple.ext ht hp e, Tups.ext e r⟩
  | (.none, _) :: _, _, x => x.elim
  | (.bool _, _) :: _, _, x => x.elim
  | (.int _, _) :: _, _, x => x.elim
  | (.list _, _) :: _, _, x => x.elim
  | (.tuple _, _) :: _, _, x => x.elim
  | (.dict _, _) :: _, _, x => x.elim
  | (.str _, .none) :: _, _, x => x.elim
  | (.str _, .bool _) :: _, _, x => x.elim
  | (.str _, .int _) :: _, _, x => x.elim
  | (.str _, .list _) :: _, _, x => x.elim
  | (.str _, .tuple _) :: _, _, x => x.elim
  | (.str _, .dict _) :: _, _, x => x.elim

theorem Tups.weak (e : ∀ a ∈ S', a ∈ S ∨ h.get? a = none) : ∀ {kvs : List (PyData × PyData)} {vs : List Value}, Tups h S kvs vs → Tups h S' kvs vs
  | [], _, x => x
  | (.str _, .str _) :: _, _, ⟨p, t, u, rest, e1, hp, ht, r⟩ => ⟨p, t, u, rest, e1, notin_weak e hp (let ⟨o, ho, _⟩ := ht; ⟨o, ho⟩), ht, Tups.weak e r⟩
  | (.none, _) :: _, _, x => x.elim
  | (.bool _, _) :: _, _, x => x.elim
  | (.int _, _) :: _, _, x => x.elim
  | (.list _, _) :: _, _, x => x.elim
  | (.tuple _, _) :: _, _, x => x.elim
  | (.dict _, _) :: _, _, x => x.elim
  | (.str _, .none) :: _, _, x => x.elim
  | (.str _, .bool _) :: _, _, x => x.elim
  | (.str _, .int _) :: _, _, x => x.elim
  | (.str _, .list _) :: _, _, x => x.elim
  | (.str _, .tuple _) :: _, _, x => x.elim
  | (.str _, .dict _) :: _, _, x => x.elim

theorem HdrDict.ext {dx l : Addr} (x : HdrDict h dx l) (hd : dx ∉ S) (e : Ext S h h') : HdrDict h' dx l :=
  let ⟨a, b, c, r⟩ := x; ⟨a, b, c, e _ _ hd r⟩

theorem Tab.ext {kvs : List (PyData × PyData)} {x dx l : Addr} {vs : List Value} (T : Tab C h S kvs x dx l vs) (e : Ext S h h') : Tab C h' S kvs x dx l vs where
  hx := T.hx
  hdx := T.hdx
  hl := T.hl
  inst := e _ _ T.hx T.inst
  dict := T.dict.ext T.hdx e
  lst := IsList.ext T.lst T.hl e
  tups := T.tups.ext e
theorem Tab.weak {kvs : List (PyData × PyData)} {x dx l : Addr} {vs : List Value} (T : Tab C h S kvs x dx l vs) (e : ∀ a ∈ S', a ∈ S ∨ h.get? a = none) : Tab C h S' kvs x dx l vs where
  hx := notin_weak e T.hx ⟨_, T.inst⟩
  hdx := notin_weak e T.hdx (let ⟨_, _, _, r⟩ := T.dict; ⟨_, r⟩)
  hl := notin_weak e T.hl (let ⟨o, ho, _⟩ := T.lst; ⟨o, ho⟩)
  inst := T.inst
  dict := T.dict
  lst := T.lst
  tups := T.tups.weak e

mutual
theorem Rep.ext (e : Ext S h h') : ∀ {d : PyData} {v : Value}, Rep C h S d v → Rep C h' S d v
  | .none, _, x => x
  | .bool _, _, x => x
  | .int _, _, x => x
  | .str _, _, x => x
  | .list _, _, ⟨a, vs, e1, ha, hl, r⟩ => ⟨a, vs, e1, ha, IsList.ext hl ha e, Reps.ext e r⟩
  | .tuple _, _, ⟨a, vs, e1, ha, hl, r⟩ => ⟨a, vs, e1, ha, IsTuple.ext hl ha e, Reps.ext e r⟩
  | .dict _, _, .inl q => .inl q
  | .dict _, _, .inr ⟨x, dx, l, vs, e1, T⟩ => .inr ⟨x, dx, l, vs, e1, T.ext e⟩
theorem Reps.ext (e : Ext S h h') : ∀ {ds : List PyData} {vs : List Value}, Reps C h S ds vs → Reps C h' S ds vs
  | [], _, x => x
  | _ :: _, _, ⟨v, r, e1, a, b⟩ => ⟨v, r, e1, Rep.ext e a, Reps.ext e b⟩
end
mutual
theorem Rep.weak (e : ∀ a ∈ S', a ∈ S ∨ h.get? a = none) : ∀ {d : PyData} {v : Value}, Rep C h S d v → Rep C h S' d v
  | .none, _, x => x
  | .bool _, _, x => x
  | .int _, _, x => x
  | .str _, _, x => x
  | .list _, _, ⟨a, vs, e1, ha, hl, r⟩ => ⟨a, vs, e1, notin_weak e ha (let ⟨o, ho, _⟩ := hl; ⟨o, ho⟩), hl, Reps.weak e r⟩
  | .tuple _, _, ⟨a, vs, e1, ha, hl, r⟩ => ⟨a, vs, e1, notin_weak e ha (let ⟨o, ho, _⟩ := hl; ⟨o, ho⟩), hl, Reps.weak e r⟩
  | .dict _, _, .inl q => .inl q
  | .dict _, _, .inr ⟨x, dx, l, vs, e1, T⟩ => .inr ⟨x, dx, l, vs, e1, T.weak e⟩
theorem Reps.weak (e : ∀ a ∈ S', a ∈ S ∨ h.get? a = none) : ∀ {ds : List PyData} {vs : List Value}, Reps C h S ds vs → Reps C h S' ds vs
  | [], _, x => x
  | _ :: _, _, ⟨v, r, e1, a, b⟩ => ⟨v, r, e1, Rep.weak e a, Reps.weak e b⟩
end
theorem Rep.keeps (e : Ext0 h h') {d : PyData} {v : Value} (x : Rep C h S d v) : Rep C h' S d v := x.ext e.ext
theorem Reps.keeps (e : Ext0 h h') {d : List PyData} {v : List Value} (x : Reps C h S d v) : Reps C h' S d v := x.ext e.ext

theorem Reps.length : ∀ {ds : List PyData} {vs : List Value}, Reps C h S ds vs → vs.length = ds.length
  | [], _, x => by rw [x]; rfl
  | _ :: _, _, ⟨v, r, e1, _, b⟩ => by rw [e1, List.length_cons, List.length_cons, b.length]
theorem Reps.append : ∀ {ds es : List PyData} {vs us : List Value}, Reps C h S ds vs → Reps C h S es us → Reps C h S (ds ++ es) (vs ++ us)
  | [], _, _, _, x, y => by rw [x]; exact y
  | _ :: _, _, _, _, ⟨v, r, e1, a, b⟩, y => ⟨v, r ++ _, by rw [e1]; rfl, a, b.append y⟩
theorem Reps.get : ∀ {ds : List PyData} {vs : List Value} {i : Nat} {d : PyData}, Reps C h S ds vs → ds[i]? = some d → ∃ v, vs[i]? = some v ∧ Rep C h S d v
  | _ :: _, _, 0, _, ⟨v, r, e1, a, b⟩, e => by cases e; exact ⟨v, by rw [e1]; rfl, a⟩
  | _ :: _, _, i + 1, _, ⟨v, r, e1, a, b⟩, e => by
    obtain ⟨u, hu, x⟩ := Reps.get b (i := i) (by simpa using e)
    exact ⟨u, by rw [e1]; simpa using hu, x⟩
theorem Reps.drop : ∀ (k : Nat) {ds : List PyData} {vs : List Value}, Reps C h S ds vs → Reps C h S (ds.drop k) (vs.drop k)
  | 0, _, _, x => x
  | _ + 1, [], _, x => by rw [x]; rfl
  | k + 1, _ :: _, _, ⟨v, r, e1, _, b⟩ => by rw [e1]; exact Reps.drop k b
theorem Reps.take : ∀ (k : Nat) {ds : List PyData} {vs : List Value}, Reps C h S ds vs → Reps C h S (ds.take k) (vs.take k)
  | 0, _, _, _ => rfl
  | _ + 1, [], _, x => by rw [x]; rfl
  | k + 1, _ :: _, _, ⟨v, r, e1, a, b⟩ => by rw [e1]; exact ⟨v, _, rfl, a, Reps.take k b⟩
theorem Reps.one {d : PyData} {v : Value} (x : Rep C h S d v) : Reps C h S [d] [v] := ⟨v, [], rfl, x, rfl⟩

/-- no table within -/
noncomputable def pl : PyData → Bool
  | .dict _ => false
  | .list l => pls l
  | .tuple l => pls l
  | _ => true
where pls : List PyData → Bool
  | [] => true
  | d :: r => pl d && pls r

mutual
theorem Rep.reads : ∀ {d : PyData} {v : Value}, Rep C h S d v → pl d = true → ∃ as, Reads h v d as
  | .none, _, x, _ => by cases x; exact ⟨_, .none⟩
  | .bool _, _, x, _ => by cases x; exact ⟨_, .bool _⟩
  | .int _, _, ⟨t, x⟩, _ => by cases x; exact ⟨_, .int _ _⟩
  | .str _, _, ⟨t, x⟩, _ => by cases x; exact ⟨_, .str _ _⟩
  | .list l, _, ⟨a, vs, e1, ha, ⟨o, ho, hc, n, hd⟩, r⟩, p => by
    obtain ⟨as, q⟩ := Reps.reads r (by simpa [pl] using p)
    cases e1; exact ⟨_, .list ho hc hd (by simpa using q)⟩
  | .tuple l, _, ⟨a, vs, e1, ha, ⟨o, ho, hc, n, hd⟩, r⟩, p => by
    obtain ⟨as, q⟩ := Reps.reads r (by simpa [pl] using p)
    cases e1; exact ⟨_, .tuple ho hc hd (by simpa using q)⟩
  | .dict _, _, _, p => by simp [pl] at p
theorem Reps.reads : ∀ {ds : List PyData} {vs : List Value}, Reps C h S ds vs → pl.pls ds = true → ∃ as, ReadsAll h vs ds as
  | [], _, x, _ => by rw [x]; exact ⟨_, .nil⟩
  | d :: r, _, ⟨v, us, e1, a, b⟩, p => by
    rw [pl.pls, Bool.and_eq_true] at p
    obtain ⟨as, x⟩ := Rep.reads a p.1
    obtain ⟨bs, y⟩ := Reps.reads b p.2
    rw [e1]; exact ⟨_, .cons x y⟩
end
end

/-- quiet: old objects stand as they stood -/
theorem Keeps.refl (s : Shared) : Keeps s s := ⟨s.heap, s.toks, rfl, fun _ _ e => e⟩
theorem Keeps.tok (s : Shared) (t : Nat) : Keeps s { s with toks := t } := ⟨s.heap, t, rfl, fun _ _ e => e⟩
theorem Keeps.trans {s s' s'' : Shared} (x : Keeps s s') (y : Keeps s' s'') : Keeps s s'' := by
  obtain ⟨h, t, rfl, k⟩ := x
  obtain ⟨h', t', rfl, k'⟩ := y
  exact ⟨h', t', rfl, fun b o e => k' b o (k b o e)⟩
theorem Keeps.of {s : Shared} {h : Heap} {t : Nat} (k : Ext0 s.heap h) : Keeps s { s with heap := h, toks := t } := ⟨h, t, rfl, k⟩
theorem Keeps.ext {s s' : Shared} (x : Keeps s s') : Ext0 s.heap s'.heap := by
  obtain ⟨h, t, rfl, k⟩ := x; exact k
theorem push_ext (h : Heap) (o : Obj) : Ext0 h (h.push o) := fun _ _ e => Heap.get?_push_of_some _ e

noncomputable def Live (S : List Addr) (h : Heap) : Prop := ∀ a ∈ S, ∃ o, h.get? a = some o
theorem Live.keeps {S : List Addr} {h h' : Heap} (x : Live S h) (e : Ext0 h h') : Live S h' := fun a ha => let ⟨o, ho⟩ := x a ha; ⟨o, e a o ho⟩
theorem Live.fresh {S : List Addr} {h : Heap} (x : Live S h) {a : Addr} (e : h.get? a = none) : a ∉ S := fun ha => by
  obtain ⟨o, ho⟩ := x a ha; rw [e] at ho; cases ho
theorem get_size (h : Heap) : h.get? h.objs.size = none := by
  cases q : h.get? h.objs.size with
  | none => rfl
  | some o => exact absurd (Heap.lt_size q) (Nat.lt_irrefl _)

/-- room for k frames more -/
structure Rm (k : Nat) (A : Around) : Prop where
  handled : A.handled = none
  depth : A.depth + k < recursionLimit
  units : A.units + 8 * k + 100 < cLine
theorem Rm.deeper {k : Nat} {A : Around} (r : Rm (k + 1) A) (env : Env) : Rm k (A.deeper env) := ⟨r.handled, by have := r.depth; show A.depth + 1 + k < _; omega, by have := r.units; show A.units + 3 + 8 * k + 100 < _; omega⟩
theorem Rm.in1 {k : Nat} {A : Around} (r : Rm (k + 1) A) : Rm k A.in1 := ⟨r.handled, by have := r.depth; show A.depth + k < _; omega, by have := r.units; show A.units + 1 + 8 * k + 100 < _; omega⟩
theorem Rm.le {k j : Nat} {A : Around} (r : Rm k A) (h : j ≤ k) : Rm j A := ⟨r.handled, by have := r.depth; omega, by have := r.units; omega⟩

end Mine

set_option maxRecDepth 10000
set_option genInjectivity false
set_option genSizeOf false
set_option genSizeOfSpec false
namespace Mine

/-! the evaluator: plain data, no heap -/
noncomputable abbrev D := PyData
noncomputable abbrev Rho := Str → Option D
noncomputable def upd (ρ : Rho) (x : Str) (d : D) : Rho := fun y => if y = x then some d else ρ y

structure Kn where
  fn : Str → List D → Option D
  me : Str → List (D × D) → List D → Option Bool → Option D
  gc : Str → Option D

noncomputable def small : Nat := 1000
noncomputable def okIx (i : Int) : Bool := decide (-(2 ^ 63 : Int) ≤ i) && decide (i < 2 ^ 63)

noncomputable def shp (d : D) : Bool := pl d && SeqAt.shaped d

noncomputable def cmpS : CmpOp → Str → Str → Option Bool
  | .Gt, a, b => some (decide (b.cps.toList < a.cps.toList))
  | .Lt, a, b => some (decide (a.cps.toList < b.cps.toList))
  | .Eq, a, b => some (a == b)
  | .NotEq, a, b => some (a != b)
  | .In, a, b => some (!(Builtin.Str.occurrences b a 0 b.length 1).isEmpty)
  | .NotIn, a, b => some (!!(Builtin.Str.occurrences b a 0 b.length 1).isEmpty)
  | _, _, _ => none
noncomputable def cmpI : CmpOp → Int → Int → Option Bool
  | .Gt, a, b => some (decide (b < a))
  | .Lt, a, b => some (decide (a < b))
  | .GtE, a, b => some (decide (b ≤ a))
  | .Eq, a, b => some (a == b)
  | .NotEq, a, b => some (a != b)
  | _, _, _ => none
noncomputable def cmpB : CmpOp → Bool → Bool → Option Bool
  | .NotEq, a, b => some (a != b)
  | _, _, _ => none
noncomputable def cmpL : CmpOp → List D → List D → Option Bool
  | .NotEq, a, b => if shp (.list a) && shp (.list b) then some (!(PyData.eqv (.list a) (.list b))) else none
  | _, _, _ => none
noncomputable def cmpIn : CmpOp → Str → List D → Option Bool
  | .In, a, l => if pl (.list l) && PyData.canLayAll0 l && PyData.canLay0 (.str a) then some (l.any fun y => PyData.eqv y (.str a)) else none
  | _, _, _ => none
noncomputable def noneD : D → Bool
  | .none => true
  | _ => false
noncomputable def cmpN (op : CmpOp) (d : D) : Option Bool := match op with
  | .Is => some (noneD d)
  | _ => none
noncomputable def cmpD (op : CmpOp) (a b : D) : Option Bool := match b with
  | .none => cmpN op a
  | .str y => match a with | .str x => cmpS op x y | _ => none
  | .int y => match a with | .int x => cmpI op x y | _ => none
  | .bool y => match a with | .bool x => cmpB op x y | _ => none
  | .list m => match a with | .list l => cmpL op l m | .str x => cmpIn op x m | _ => none
  | _ => none

noncomputable def binI : Operator → Int → Int → Option D
  | .Add, a, b => some (.int (a + b))
  | .Sub, a, b => some (.int (a - b))
  | .Mult, a, b => if a.natAbs < 2 ^ 60 then some (.int (a * b)) else none
  | .Mod, a, b => if b ≠ 0 then some (.int (a.fmod b)) else none
  | .Pow, a, n => if 0 ≤ n ∧ n ≤ 1000 ∧ a.natAbs < 2 ^ 60 then some (.int (a ^ n.toNat)) else none
  | .FloorDiv, a, b => if b ≠ 0 ∧ Builtin.divisionGoesByPylong a b = false then some (.int (a.fdiv b)) else none
  | _, _, _ => none
noncomputable def binS : Operator → Str → Str → Option D
  | .Add, a, b => if a.length + b.length ≤ small then some (.str (a ++ b)) else none
  | _, _, _ => none
noncomputable def binL : Operator → List D → List D → Option D
  | .Add, a, b => if a.length + b.length ≤ small then some (.list (a ++ b)) else none
  | _, _, _ => none
noncomputable def binB : Operator → Bool → Bool → Option D
  | .Sub, a, b => some (.int (PyProof.Rows.b2i a - PyProof.Rows.b2i b))
  | _, _, _ => none
noncomputable def binD (op : Operator) (a b : D) : Option D := match b with
  | .int y => match a with | .int x => binI op x y | _ => none
  | .str y => match a with | .str x => binS op x y | _ => none
  | .list y => match a with | .list x => binL op x y | _ => none
  | .bool y => match a with | .bool x => binB op x y | _ => none
  | _ => none

noncomputable def ixD : D → D → Option D
  | .str x, .int i => if okIx i then ((seqIndex? i x.length).bind (x.cps[·]?)).map fun c => .str ⟨#[c]⟩ else none
  | .list l, .int i => if okIx i && decide (l.length ≤ small) then (seqIndex? i l.length).bind (l[·]?) else none
  | .tuple l, .int i => if 0 ≤ i ∧ i < 2 ^ 63 then l[i.toNat]? else none
  | _, _ => none

noncomputable def pickD (l : List D) (lo hi st : Option Int) : List D :=
  (sliceRange (sliceBounds lo hi st l.length).1 (sliceBounds lo hi st l.length).2.1 (sliceBounds lo hi st l.length).2.2).filterMap (l[·]?)

noncomputable def slD : D → Option Int → Option Int → Option D
  | .str x, lo, hi => if x.length ≤ small then some (.str (Txt.slice x lo hi)) else none
  | .list l, lo, hi => if l.length ≤ small then some (.list (pickD l lo hi none)) else none
  | _, _, _ => none
noncomputable def revD : D → Option D
  | .str x => if x.length ≤ small then some (.str ⟨((Builtin.Str.strSliceIndices none none (-1) x.length).filterMap (x.cps[·]?)).toArray⟩) else none
  | _ => none

noncomputable def truD : D → Option Bool
  | .bool b => some b
  | .none => some false
  | .str x => if x.length ≤ small then some ((x.length : Int) != 0) else none
  | _ => none

noncomputable def strChars (x : Str) : List D := x.cps.toList.map fun c => .str ⟨#[c]⟩

inductive BK | len | chr | int | min deriving DecidableEq
noncomputable def bk (g : Str) : Option BK :=
  if g = Str.ofString "len" then some .len
  else if g = Str.ofString "chr" then some .chr
  else if g = Str.ofString "int" then some .int
  else if g = Str.ofString "min" then some .min
  else none

noncomputable def ltAt (x : Str) (i j : Nat) : Bool := decide (x.cps.getD i 0 < x.cps.getD j 0)
noncomputable def minS (x : Str) : Option Nat := x.cps[argBest (ltAt x) (x.cps.size - 1)]?

noncomputable def oneS : List D → Option Str
  | [.str y] => some y
  | _ => none
theorem oneS_eq {ds : List D} {y : Str} (h : oneS ds = some y) : ds = [.str y] := by
  unfold oneS at h
  split at h
  · cases h; rfl
  · cases h
noncomputable def oneL : List D → Option (List D)
  | [.list l] => some l
  | _ => none
theorem oneL_eq {ds : List D} {l : List D} (h : oneL ds = some l) : ds = [.list l] := by
  unfold oneL at h
  split at h
  · cases h; rfl
  · cases h
noncomputable def strII : List D → Option (Str × Int × Int)
  | [.str y, .int i, .int j] => some (y, i, j)
  | _ => none
theorem strII_eq {ds : List D} {y : Str × Int × Int} (h : strII ds = some y) : ds = [.str y.1, .int y.2.1, .int y.2.2] := by
  unfold strII at h
  split at h
  · cases h; rfl
  · cases h
noncomputable def oneI : List D → Option Int
  | [.int i] => some i
  | _ => none
theorem oneI_eq {ds : List D} {i : Int} (h : oneI ds = some i) : ds = [.int i] := by
  unfold oneI at h
  split at h
  · cases h; rfl
  · cases h
noncomputable def twoS : List D → Option (Str × Str)
  | [.str x, .str y] => some (x, y)
  | _ => none
theorem twoS_eq {ds : List D} {p : Str × Str} (h : twoS ds = some p) : ds = [.str p.1, .str p.2] := by
  unfold twoS at h
  split at h
  · cases h; rfl
  · cases h
noncomputable def lenD (ds : List D) : Option D := match oneS ds with
  | some x => if x.length ≤ small then some (.int x.length) else none
  | none => (oneL ds).bind fun l => if l.length ≤ small then some (.int l.length) else none
noncomputable def callB (k : BK) (ds : List D) : Option D := match k with
  | .len => lenD ds
  | .chr => (oneI ds).bind fun i => if 0 ≤ i ∧ i ≤ 1114111 then some (.str ⟨#[i.toNat]⟩) else none
  | .int => (oneI ds).map .int
  | .min => (oneS ds).bind fun x => if x.length ≤ small then (minS x).map fun c => .str ⟨#[c]⟩ else none

inductive MK | index | join | split | find | lower | upper deriving DecidableEq
noncomputable def mk (g : Str) : Option MK :=
  if g = Str.ofString "index" then some .index
  else if g = Str.ofString "join" then some .join
  else if g = Str.ofString "split" then some .split
  else if g = Str.ofString "find" then some .find
  else if g = Str.ofString "lower" then some .lower
  else if g = Str.ofString "upper" then some .upper
  else none

noncomputable def txts : List D → Option (List Str)
  | [] => some []
  | .str x :: r => (txts r).map (x :: ·)
  | _ :: _ => none

noncomputable def splitD (x y : Str) : Option D :=
  if (decide (x.length < y.length) || decide (Builtin.Str.strKind x < Builtin.Str.strKind y)) || y.length == 0 || (Builtin.Str.occurrences x y 0 x.length (x.length + 1)).isEmpty || decide (small < x.length) || decide (small < (Builtin.Str.partsBetween x (Builtin.Str.occurrences x y 0 x.length (x.length + 1)) y.length).length) then none
  else some (.list ((Builtin.Str.partsBetween x (Builtin.Str.occurrences x y 0 x.length (x.length + 1)) y.length).map .str))

noncomputable def findD (x y : Str) (i j : Int) : Int :=
  match Builtin.Str.occurrences x y (fromIndex x.length i) (min (fromIndex x.length j) x.length) 1 with | k :: _ => (k : Int) | [] => -1

noncomputable def callM (k : MK) (x : Str) (ds : List D) : Option D := match k with
  | .index => (oneS ds).bind fun y => (Builtin.Str.occurrences x y 0 x.length 1).head?.map fun (i : Nat) => .int (i : Int)
  | .join => (oneL ds).bind fun l => (txts l).bind fun ts => if JoinOk x ts then some (.str (Txt.join x ts)) else none
  | .split => (oneS ds).bind fun y => splitD x y
  | .find => (strII ds).map fun y => .int (findD x y.1 y.2.1 y.2.2)
  | .lower => if ds.isEmpty && decide (x.length ≤ small) then some (.str (Txt.lower x)) else none
  | .upper => if ds.isEmpty && decide (x.length ≤ small) then some (.str (Txt.upper x)) else none

noncomputable def kindOf (sc : Scope) (x : Str) : Option NameKind := sc.names.lookup x
noncomputable def relS (csc sc : Scope) : Scope :=
  { csc with names := csc.names.map fun (n, k) => if (k == .free && sc.kind == .function && sc.names.lookup n == some .cell) then (n, .cell) else (n, k) }

noncomputable abbrev Ih := Scope → Rho → Expr → Option D

noncomputable def evAll (ih : Expr → Option D) : List Expr → Option (List D)
  | [] => some []
  | e :: r => match ih e with
    | none => none
    | some d => match evAll ih r with
      | none => none
      | some ds => some (d :: ds)

/-- the tests of if, while, comprehensions -/
noncomputable def evT1 (ih : Expr → Option D) (e : Expr) : Option Bool := match e with
  | .BoolOp .. => none
  | .UnaryOp .. => none
  | .IfExp .. => none
  | e => match ih e with | some d => truD d | none => none
noncomputable def evTs (ih : Expr → Option D) (op : BoolOp) : List Expr → Option Bool
  | [] => some (op == .And)
  | e :: r => match op, evT1 ih e with
    | .And, some false => some false
    | .Or, some true => some true
    | _, some _ => evTs ih op r
    | _, none => none
noncomputable def evT (ih : Expr → Option D) (e : Expr) : Option Bool := match e with
  | .BoolOp op vs _ => evTs ih op vs
  | e => evT1 ih e
noncomputable def evIfs (ih : Expr → Option D) : List Expr → Option Bool
  | [] => some true
  | [e] => evT ih e
  | _ => none

/-- targets: a name, or a tuple of two names -/
noncomputable def tgtOk (sc : Scope) (x : Str) : Bool := sc.names.lookup x == some .local || sc.names.lookup x == some .cell
noncomputable def nameOf : Expr → Option Str
  | .Name x _ => some x
  | _ => none
theorem nameOf_eq {e : Expr} {x : Str} (h : nameOf e = some x) : ∃ p, e = .Name x p := by
  cases e <;> first | cases (show none = some x from h) | skip
  cases (show some _ = some x from h)
  exact ⟨_, rfl⟩
noncomputable def pairN (e : Expr) : Option (Str × Str) := match e with
  | .Tuple es _ _ => match es with
    | [a, b] => (nameOf a).bind fun x => (nameOf b).map fun y => (x, y)
    | _ => none
  | _ => none
theorem pairN_eq {e : Expr} {q : Str × Str} (h : pairN e = some q) : ∃ px py k p, e = .Tuple [.Name q.1 px, .Name q.2 py] k p := by
  cases e <;> first | cases (show none = some q from h) | skip
  rename_i es k p
  cases es with
  | nil => cases (show none = some q from h)
  | cons a es =>
  cases es with
  | nil => cases (show none = some q from h)
  | cons b es =>
  cases es with
  | cons _ _ => cases (show none = some q from h)
  | nil =>
  replace h : (nameOf a).bind (fun x => (nameOf b).map fun y => (x, y)) = some q := h
  obtain ⟨x, hx, h⟩ := Option.bind_eq_some_iff.mp h
  obtain ⟨y, hy, rfl⟩ := Option.map_eq_some_iff.mp h
  obtain ⟨px, rfl⟩ := nameOf_eq hx
  obtain ⟨py, rfl⟩ := nameOf_eq hy
  exact ⟨px, py, k, p, rfl⟩
noncomputable def twoD : D → Option (D × D)
  | .tuple [a, b] => some (a, b)
  | _ => none
theorem twoD_eq {d : D} {q : D × D} (h : twoD d = some q) : d = .tuple [q.1, q.2] := by
  unfold twoD at h
  split at h
  · cases h; rfl
  · cases h
noncomputable def bindT (sc : Scope) (ρ : Rho) (t : Expr) (d : D) : Option Rho := match nameOf t with
  | some x => if tgtOk sc x then some (upd ρ x d) else none
  | none => (pairN t).bind fun p => (twoD d).bind fun q => if tgtOk sc p.1 && tgtOk sc p.2 then some (upd (upd ρ p.1 q.1) p.2 q.2) else none
theorem bindT_inv {sc : Scope} {ρ ρ' : Rho} {t : Expr} {d : D} (h : bindT sc ρ t d = some ρ') :
    (∃ x p, t = .Name x p ∧ tgtOk sc x = true ∧ ρ' = upd ρ x d) ∨ ∃ x px y py k p a b, t = .Tuple [.Name x px, .Name y py] k p ∧ d = .tuple [a, b] ∧ tgtOk sc x = true ∧ tgtOk sc y = true ∧ ρ' = upd (upd ρ x a) y b := by
  unfold bindT at h
  cases q : nameOf t with
  | some x =>
    rw [q] at h
    obtain ⟨p, rfl⟩ := nameOf_eq q
    replace h : (if tgtOk sc x = true then some (upd ρ x d) else none) = some ρ' := h
    by_cases hx : tgtOk sc x = true
    · rw [if_pos hx] at h; cases h; exact .inl ⟨x, p, rfl, hx, rfl⟩
    · rw [if_neg hx] at h; cases h
  | none =>
    rw [q] at h
    replace h : (pairN t).bind (fun p => (twoD d).bind fun q => if (tgtOk sc p.1 && tgtOk sc p.2) = true then some (upd (upd ρ p.1 q.1) p.2 q.2) else none) = some ρ' := h
    obtain ⟨⟨x, y⟩, hp, h2⟩ := Option.bind_eq_some_iff.mp h
    obtain ⟨⟨a, b⟩, hd, h3⟩ := Option.bind_eq_some_iff.mp h2
    clear h h2
    replace h3 : (if (tgtOk sc x && tgtOk sc y) = true then some (upd (upd ρ x a) y b) else none) = some ρ' := h3
    obtain ⟨px, py, k, p, rfl⟩ := pairN_eq hp
    rw [twoD_eq hd]
    by_cases hx : (tgtOk sc x && tgtOk sc y) = true
    · rw [if_pos hx] at h3
      cases h3
      rw [Bool.and_eq_true] at hx
      exact .inr ⟨x, px, y, py, k, p, a, b, rfl, rfl, hx.1, hx.2, rfl⟩
    · rw [if_neg hx] at h3; cases h3
noncomputable def isTup : Expr → Bool
  | .Tuple .. => true
  | _ => false

inductive Src
  | plain (l : List D)
  | pairs (l : List D)
noncomputable def Src.items : Src → List D
  | .plain l => l
  | .pairs l => l
noncomputable def Src.fits : Src → Expr → Bool
  | .plain _, _ => true
  | .pairs _, t => isTup t

noncomputable def seqOf : D → Option (List D)
  | .str x => if x.length ≤ small then some (strChars x) else none
  | .list l => if l.length ≤ small then some l else none
  | _ => none
noncomputable def zipD : List D → List D → List D
  | a :: l, b :: r => .tuple [a, b] :: zipD l r
  | _, _ => []
noncomputable def enumD (n : Nat) : List D → List D
  | [] => []
  | a :: l => .tuple [.int n, a] :: enumD (n + 1) l

inductive SK | zip | enumerate | range deriving DecidableEq
noncomputable def sk (g : Str) : Option SK :=
  if g = Str.ofString "zip" then some .zip
  else if g = Str.ofString "enumerate" then some .enumerate
  else if g = Str.ofString "range" then some .range
  else none

noncomputable def isGlob (sc : Scope) (g : Str) : Bool := sc.names.lookup g == some .globalImplicit

noncomputable def zipK : List D → Option Src
  | [.str a, b] => match b with
    | .str b => some (.pairs (zipD (strChars a) (strChars b)))
    | .list r => some (.pairs (zipD (strChars a) r))
    | _ => none
  | _ => none
noncomputable def srcK (k : SK) (ds : List D) : Option Src := match k with
  | .zip => zipK ds
  | .enumerate => (oneL ds).bind fun l => if l.length ≤ small then some (.pairs (enumD 0 l)) else none
  | .range => (oneI ds).bind fun n => if 0 ≤ n ∧ n ≤ small then some (.plain ((List.range n.toNat).map fun (i : Nat) => PyData.int (i : Int))) else none

noncomputable def srcCall (ih : Expr → Option D) (sc : Scope) (e : Expr) : Option (SK × List D) := match e with
  | .Call f args kws _ => match f, kws with
    | .Name g _, [] => if isGlob sc g then (match sk g with | some k => (evAll ih args).map fun ds => (k, ds) | none => none) else none
    | _, _ => none
  | _ => none
noncomputable def evSrc (ih : Expr → Option D) (sc : Scope) (e : Expr) : Option Src := match srcCall ih sc e with
  | some (k, ds) => srcK k ds
  | none => match ih e with
    | some d => (seqOf d).map .plain
    | none => none

/-- a comprehension's turns -/
noncomputable def turns (f : D → Option (Option D)) : List D → Option (List D)
  | [] => some []
  | d :: r => match f d with
    | none => none
    | some x => match turns f r with
      | none => none
      | some rest => some (match x with | some y => y :: rest | none => rest)

noncomputable def okComp (csc : Scope) : Bool := csc.kind == .function && csc.names.all (fun x => x.2 != .local || csc.names.lookup x.1 == some .local) && decide (csc.names.map (·.1)).Nodup
/-- the free names stand in the frame around as cells -/
noncomputable def okFree (csc sc : Scope) : Bool := csc.names.all fun x => x.2 != .free || sc.names.lookup x.1 == some .cell
noncomputable def freeOf (csc : Scope) (ρ : Rho) : Rho := fun x => if csc.names.lookup x = some .free then ρ x else none
noncomputable def compTurnD (ih : Ih) (sc : Scope) (ρ : Rho) (elt tgt : Expr) (ifs : List Expr) (csc : Scope) (d : D) : Option (Option D) :=
  match bindT csc (freeOf csc ρ) tgt d with
  | none => none
  | some ρ' => match evIfs (ih (relS csc sc) ρ') ifs with
    | none => none
    | some false => some none
    | some true => (ih (relS csc sc) ρ' elt).map some

noncomputable def isSetE : Expr → Bool
  | .Set .. => true
  | _ => false

noncomputable def evComp (ih : Ih) (sc : Scope) (ρ : Rho) (elt : Expr) (gens : List Comprehension) (csc : Scope) : Option D := match gens with
  | [⟨tgt, iter, ifs, 0⟩] => if okComp csc && okFree csc sc && !isSetE iter then (match evSrc (ih sc ρ) sc iter with
    | none => none
    | some src => if src.fits tgt && decide (src.items.length ≤ small) then (turns (compTurnD ih sc ρ elt tgt ifs csc) src.items).map .list else none) else none
  | _ => none

noncomputable def evName (G : Kn) (sc : Scope) (ρ : Rho) (x : Str) : Option D :=
  if x = Str.ofString "__debug__" then none else match ρ x with
  | some d => some d
  | none => if isGlob sc x then G.gc x else none

noncomputable def evConst : Const → Option D
  | .none => some .none
  | .bool b => some (.bool b)
  | .int i => some (.int i)
  | .str s => some (.str s)
  | _ => none

noncomputable def evOptI (ih : Expr → Option D) : Option Expr → Option (Option Int)
  | none => some none
  | some e => match ih e with | some (.int i) => some (some i) | _ => none
noncomputable def evSub (ih : Expr → Option D) (v : D) (s : Expr) : Option D := match s with
  | .Slice lo hi st _ => match st with
    | none => match evOptI ih lo, evOptI ih hi with | some l, some h => slD v l h | _, _ => none
    | some k => match lo, hi with
      | none, none => (match ih k with | some (.int i) => if i = -1 then revD v else none | _ => none)
      | _, _ => none
  | e => match ih e with | some d => ixD v d | none => none

noncomputable def okBase : Expr → Bool
  | .Call _ [] [] _ => false
  | _ => true
noncomputable def kwOf : List Keyword → Option (Option Bool)
  | [] => some none
  | [⟨some n, .Constant (.bool b) _ _, _⟩] => if n = Str.ofString "name" then some (some b) else none
  | _ => none
/-- a name that stands for one object, whatever it holds -/
noncomputable def pinned : List (D × D) → Bool
  | [(.int _, .none)] => true
  | _ => false
noncomputable def pinD (a : Nat) : D := .dict [(.int a, .none)]
noncomputable def callD (G : Kn) (m : Str) (d : D) (ds : List D) (kw : Option Bool) : Option D := match d with
  | .str x => (match kw, mk m with | none, some k => callM k x ds | _, _ => none)
  | .dict kvs => if pinned kvs then none else G.me m kvs ds kw
  | _ => none
noncomputable def evCall (G : Kn) (ih : Expr → Option D) (sc : Scope) (ρ : Rho) (f : Expr) (args : List Expr) (kws : List Keyword) (pos : Pos) : Option D := match f with
  | .Name g _ => if kws.isEmpty && isGlob sc g && decide (0 < args.length ∧ args.length < 20) && decide (g ≠ Str.ofString "__debug__") then (match evAll ih args with
    | none => none
    | some ds => match bk g with
      | some k => callB k ds
      | none => G.fn g ds) else none
  | .Attribute o m apos => if okBase o && (apos.endLine == pos.line) && decide (args.length < 20) then (match kwOf kws, ih o, evAll ih args with
    | some kw, some d, some ds => callD G m d ds kw
    | _, _, _ => none) else none
  | _ => none

noncomputable def evStep (G : Kn) (ih : Ih) (sc : Scope) (ρ : Rho) (e : Expr) : Option D := match e with
  | .Constant c _ _ => evConst c
  | .Name x _ => evName G sc ρ x
  | .Compare l ops rs _ => match ops, rs with
    | [op], [r] => if isSetE r then none else match ih sc ρ l, ih sc ρ r with | some a, some b => (cmpD op a b).map .bool | _, _ => none
    | _, _ => none
  | .IfExp t a b _ => match evT (ih sc ρ) t with | some true => ih sc ρ a | some false => ih sc ρ b | none => none
  | .BinOp l op r _ => match ih sc ρ l, ih sc ρ r with | some a, some b => binD op a b | _, _ => none
  | .UnaryOp op x _ => match op, ih sc ρ x with | .USub, some (.int i) => some (.int (-i)) | _, _ => none
  | .Tuple es _ _ => if es.length ≤ small then (evAll (ih sc ρ) es).map .tuple else none
  | .List es _ => if es.length ≤ small then (evAll (ih sc ρ) es).map .list else none
  | .Subscript v s _ => match ih sc ρ v with | some d => evSub (ih sc ρ) d s | none => none
  | .Call f args kws pos => evCall G (ih sc ρ) sc ρ f args kws pos
  | .ListComp elt gens csc _ => evComp ih sc ρ elt gens csc
  | .Attribute o a _ => if okBase o && decide (a = Str.ofString "_headers") then (match ih sc ρ o with | some (.dict kvs) => if kvs.length ≤ small ∧ pinned kvs = false then some (.list (kvs.map fun p => .tuple [p.1, p.2])) else none | _ => none) else none
  | _ => none

noncomputable def ev (G : Kn) : Nat → Ih
  | 0 => fun _ _ _ => none
  | n + 1 => fun sc ρ e => evStep G (ev G n) sc ρ e

theorem ev_succ {G : Kn} {n : Nat} {sc : Scope} {ρ : Rho} {e : Expr} : ev G (n + 1) sc ρ e = evStep G (ev G n) sc ρ e := rfl

end Mine

set_option maxRecDepth 10000
namespace Mine

section
variable {prog : Program} {w : World} {A : Around} {E : Value → Shared → Prop} {s : Shared} {C : Addr} {S : List Addr}

noncomputable abbrev Gets (C : Addr) (S : List Addr) (s : Shared) (d : D) (Q : Value → Shared → Prop) : Prop := ∀ v s', Keeps s s' → Rep C s'.heap S d v → Q v s'

theorem Gets.toks {d : D} {Q : Value → Shared → Prop} (g : Gets C S s d Q) {v : Value} (t : Nat) (r : Rep C s.heap S d v) : Q v { s with toks := t } := g _ _ (Keeps.tok s t) r
theorem Gets.now {d : D} {Q : Value → Shared → Prop} (g : Gets C S s d Q) {v : Value} (r : Rep C s.heap S d v) : Q v s := g _ _ (Keeps.refl s) r
theorem Gets.push {d : D} {Q : Value → Shared → Prop} (g : Gets C S s d Q) {v : Value} {o : Obj} (r : Rep C (s.heap.push o) S d v) : Q v { s with heap := s.heap.push o } :=
  g _ _ (Keeps.of (push_ext s.heap o)) r

theorem cmp_sound {op : CmpOp} {a b : D} {r : Bool} {va vb : Value} {Q : Value → Shared → Prop} (rm : Rm 0 A) (h : cmpD op a b = some r) (ha : Rep C s.heap S a va) (hb : Rep C s.heap S b vb)
    (hQ : Q (.bool r) s) : wpAny (model prog w) A (compareOp op va vb) Q E s := by
  have hu := rm.units
  cases b with
  | none =>
    cases hb
    cases op <;> first | cases (show none = some r from h) | skip
    cases (show some (noneD a) = some r from h)
    cases a with
    | none => cases ha; exact wpAny_is_self rfl hQ
    | bool b => cases ha; exact is_none_ne (by intro e; cases e) hQ
    | int i => obtain ⟨t, rfl⟩ := ha; exact is_none_ne (by intro e; cases e) hQ
    | str x => obtain ⟨t, rfl⟩ := ha; exact is_none_ne (by intro e; cases e) hQ
    | list l => obtain ⟨a, vs, rfl, _⟩ := ha; exact is_none_ne (by intro e; cases e) hQ
    | tuple l => obtain ⟨a, vs, rfl, _⟩ := ha; exact is_none_ne (by intro e; cases e) hQ
    | dict l => rcases ha with ⟨a, _, rfl⟩ | ⟨a, _, _, vs, rfl, _⟩ <;> exact is_none_ne (by intro e; cases e) hQ
  | str y =>
    cases a <;> first | cases (show none = some r from h) | skip
    rename_i x
    obtain ⟨t, rfl⟩ := ha
    obtain ⟨u, rfl⟩ := hb
    cases op <;> first | cases (show none = some r from h) | skip
    · cases (show some (x == y) = some r from h); exact eq_str hQ
    · cases (show some (x != y) = some r from h); exact ne_str hQ
    · cases (show some (decide (x.cps.toList < y.cps.toList)) = some r from h); exact lt_str hQ
    · cases (show some (decide (y.cps.toList < x.cps.toList)) = some r from h); exact P.gt_str hQ
    · cases (show some (!(Builtin.Str.occurrences y x 0 y.length 1).isEmpty) = some r from h); exact in_str hQ
    · cases (show some (!!(Builtin.Str.occurrences y x 0 y.length 1).isEmpty) = some r from h); exact notIn_str hQ
  | int y =>
    cases a <;> first | cases (show none = some r from h) | skip
    rename_i x
    obtain ⟨t, rfl⟩ := ha
    obtain ⟨u, rfl⟩ := hb
    cases op <;> first | cases (show none = some r from h) | skip
    · cases (show some (x == y) = some r from h); exact eq_int hQ
    · cases (show some (x != y) = some r from h); exact ne_int hQ
    · cases (show some (decide (x < y)) = some r from h); exact lt_int hQ
    · cases (show some (decide (y < x)) = some r from h); exact gt_int hQ
    · cases (show some (decide (y ≤ x)) = some r from h); exact ge_int hQ
  | bool y =>
    cases a <;> first | cases (show none = some r from h) | skip
    rename_i x
    cases ha
    cases hb
    cases op <;> first | cases (show none = some r from h) | skip
    cases (show some (x != y) = some r from h); exact ne_bool hQ
  | list m =>
    cases a <;> first | cases (show none = some r from h) | skip
    · rename_i x
      cases op <;> first | cases (show none = some r from h) | skip
      replace h : (if (pl (.list m) && PyData.canLayAll0 m && PyData.canLay0 (.str x)) = true then some (m.any fun y => PyData.eqv y (.str x)) else none) = some r := h
      by_cases hc : (pl (.list m) && PyData.canLayAll0 m && PyData.canLay0 (.str x)) = true
      · rw [if_pos hc] at h
        cases h
        rw [Bool.and_eq_true, Bool.and_eq_true] at hc
        obtain ⟨as, ra⟩ := ha.reads rfl
        obtain ⟨bs, rb⟩ := hb.reads hc.1.1
        refine SeqAt.in_list_reads rb ra hc.1.2 hc.2 ?_ hQ
        have := Nat.min_le_right (PyData.depthAll m) (PyData.depth (.str x))
        have e : PyData.depth (.str x) = 0 := rfl
        omega
      · rw [if_neg hc] at h; cases h
    · rename_i l
      cases op <;> first | cases (show none = some r from h) | skip
      replace h : (if (shp (.list l) && shp (.list m)) = true then some (!(PyData.eqv (.list l) (.list m))) else none) = some r := h
      by_cases hc : (shp (.list l) && shp (.list m)) = true
      · rw [if_pos hc] at h
        cases h
        rw [Bool.and_eq_true] at hc
        obtain ⟨ca, cb⟩ := hc
        unfold shp at ca cb
        rw [Bool.and_eq_true] at ca cb
        obtain ⟨as, ra⟩ := ha.reads ca.1
        obtain ⟨bs, rb⟩ := hb.reads cb.1
        exact ne_dataH ra rb ca.2 cb.2 (by omega) hQ
      · rw [if_neg hc] at h; cases h
  | tuple m => cases (show none = some r from h)
  | dict m => cases (show none = some r from h)

theorem list_new {l : List D} {vs : List Value} (hl : Live S s.heap) (r : Reps C s.heap S l vs) :
    Rep C (s.heap.push { cls := .type "list", data := .seq vs.toArray }) S (.list l) (.ref s.heap.objs.size) :=
  ⟨_, vs, rfl, hl.fresh (get_size _), ⟨_, Heap.get?_push_size _ rfl, rfl, _, rfl⟩, r.keeps (push_ext _ _)⟩
theorem tuple_new {l : List D} {vs : List Value} (hl : Live S s.heap) (r : Reps C s.heap S l vs) :
    Rep C (s.heap.push { cls := .type "tuple", data := .seq vs.toArray }) S (.tuple l) (.ref s.heap.objs.size) :=
  ⟨_, vs, rfl, hl.fresh (get_size _), ⟨_, Heap.get?_push_size _ rfl, rfl, _, rfl⟩, r.keeps (push_ext _ _)⟩

theorem size_line : sizeLine = 16777216 := by rw [sizeLine_eq]
theorem small_is : small = 1000 := rfl

theorem bin_sound {op : Operator} {a b d : D} {va vb : Value} {Q : Value → Shared → Prop} (hl : Live S s.heap) (h : binD op a b = some d) (ha : Rep C s.heap S a va) (hb : Rep C s.heap S b vb)
    (hQ : Gets C S s d Q) : wpAny (model prog w) A (binaryOp op va vb) Q E s := by
  have e1 := size_line
  have e2 := small_is
  cases b with
  | int y =>
    cases a <;> first | cases (show none = some d from h) | skip
    rename_i x
    obtain ⟨t, rfl⟩ := ha
    obtain ⟨u, rfl⟩ := hb
    replace h : binI op x y = some d := h
    cases op <;> first | cases (show none = some d from h) | skip
    · cases (show some (PyData.int (x + y)) = some d from h); exact add_int (hQ.toks _ ⟨_, rfl⟩)
    · cases (show some (PyData.int (x - y)) = some d from h); exact sub_int (hQ.toks _ ⟨_, rfl⟩)
    · replace h : (if x.natAbs < 2 ^ 60 then some (PyData.int (x * y)) else none) = some d := h
      by_cases hz : x.natAbs < 2 ^ 60
      · rw [if_pos hz] at h
        cases h
        refine mul_int (hQ.toks _ ⟨_, rfl⟩) (IntMulOk.of_left (intBits_le_64 ?_ ?_)) <;> omega
      · rw [if_neg hz] at h; cases h
    · replace h : (if y ≠ 0 then some (PyData.int (x.fmod y)) else none) = some d := h
      by_cases hz : y ≠ 0
      · rw [if_pos hz] at h
        cases h
        exact mod_int hz (hQ.toks _ ⟨_, rfl⟩)
      · rw [if_neg hz] at h; cases h
    · replace h : (if 0 ≤ y ∧ y ≤ 1000 ∧ x.natAbs < 2 ^ 60 then some (PyData.int (x ^ y.toNat)) else none) = some d := h
      by_cases hz : 0 ≤ y ∧ y ≤ 1000 ∧ x.natAbs < 2 ^ 60
      · rw [if_pos hz] at h
        cases h
        exact pow_int_small hz.1 (by omega) (by omega) (hQ.toks _ ⟨_, rfl⟩)
      · rw [if_neg hz] at h; cases h
    · replace h : (if y ≠ 0 ∧ Builtin.divisionGoesByPylong x y = false then some (PyData.int (x.fdiv y)) else none) = some d := h
      by_cases hz : y ≠ 0 ∧ Builtin.divisionGoesByPylong x y = false
      · rw [if_pos hz] at h
        cases h
        exact floordiv_int hz.1 (hQ.toks _ ⟨_, rfl⟩) (.inl hz.2)
      · rw [if_neg hz] at h; cases h
  | str y =>
    cases a <;> first | cases (show none = some d from h) | skip
    rename_i x
    obtain ⟨t, rfl⟩ := ha
    obtain ⟨u, rfl⟩ := hb
    replace h : binS op x y = some d := h
    cases op <;> first | cases (show none = some d from h) | skip
    replace h : (if x.length + y.length ≤ small then some (PyData.str (x ++ y)) else none) = some d := h
    by_cases hz : x.length + y.length ≤ small
    · rw [if_pos hz] at h
      cases h
      exact add_str (fun t' tk => hQ.toks _ ⟨_, rfl⟩) (by omega)
    · rw [if_neg hz] at h; cases h
  | list y =>
    cases a <;> first | cases (show none = some d from h) | skip
    rename_i x
    replace h : binL op x y = some d := h
    cases op <;> first | cases (show none = some d from h) | skip
    replace h : (if x.length + y.length ≤ small then some (PyData.list (x ++ y)) else none) = some d := h
    by_cases hz : x.length + y.length ≤ small
    · rw [if_pos hz] at h
      cases h
      obtain ⟨x, vs, rfl, hx, ⟨⟨cls, dd, data, sl⟩, ho, hc, n, hd⟩, r⟩ := ha
      obtain ⟨y, us, rfl, hy, ⟨⟨cls2, dd2, data2, sl2⟩, ho2, hc2, n2, hd2⟩, q⟩ := hb
      simp only at hc hd hc2 hd2
      subst hc hd hc2 hd2
      have l1 := r.length
      have l2 := q.length
      refine concat_meets ⟨_, ho, rfl⟩ ⟨_, ho2, rfl⟩ noFill_list_add seq_list_add PySem.F.slot_list_add PySem.F.entry_list_add (PySem.F.args_list_add_2 _ _)
        (list_addW x y vs.toArray us.toArray n n2 dd dd2 sl sl2 (by simp only [List.size_toArray]; omega)) ⟨ho, ho2, ?_⟩
      have e : vs.toArray ++ us.toArray = (vs ++ us).toArray := by simp
      rw [e]
      exact hQ.push (list_new hl (r.append q))
    · rw [if_neg hz] at h; cases h
  | bool y =>
    cases a <;> first | cases (show none = some d from h) | skip
    rename_i x
    cases ha
    cases hb
    replace h : binB op x y = some d := h
    cases op <;> first | cases (show none = some d from h) | skip
    cases (show some (PyData.int (PyProof.Rows.b2i x - PyProof.Rows.b2i y)) = some d from h); exact sub_bool (hQ.toks _ ⟨_, rfl⟩)
  | none => cases (show none = some d from h)
  | tuple m => cases (show none = some d from h)
  | dict m => cases (show none = some d from h)

theorem okIx_iff {i : Int} (h : okIx i = true) : -(2 ^ 63 : Int) ≤ i ∧ i < 2 ^ 63 := by
  unfold okIx at h
  rw [Bool.and_eq_true, decide_eq_true_eq, decide_eq_true_eq] at h
  exact h

theorem ix_sound {v i d : D} {vv vi : Value} {Q : Value → Shared → Prop} (h : ixD v i = some d) (hv : Rep C s.heap S v vv) (hi : Rep C s.heap S i vi)
    (hQ : Gets C S s d Q) : wpAny (model prog w) A (getItem vv vi) Q E s := by
  have e2 := small_is
  unfold ixD at h
  split at h
  · split at h
    · rename_i hz
      obtain ⟨c, hc, rfl⟩ := Option.map_eq_some_iff.mp h
      obtain ⟨t, rfl⟩ := hv; obtain ⟨u, rfl⟩ := hi
      have := okIx_iff hz
      refine getItem_str ?_ hc (hQ.toks _ ⟨_, rfl⟩)
      rw [Bool.or_eq_false_iff, decide_eq_false_iff_not, decide_eq_false_iff_not]
      omega
    · cases h
  · split at h
    · rename_i hz
      rw [Bool.and_eq_true, decide_eq_true_eq] at hz
      obtain ⟨hz, hs⟩ := hz
      obtain ⟨a, vs, rfl, ha, hl, r⟩ := hv; obtain ⟨u, rfl⟩ := hi
      have hb := okIx_iff hz
      obtain ⟨j, hj, hd⟩ := Option.bind_eq_some_iff.mp h
      obtain ⟨x, hx, rx⟩ := r.get hd
      have len := r.length
      unfold seqIndex? at hj
      by_cases hn : ‹Int› < 0
      · simp only [hn, if_true] at hj
        split at hj
        · rename_i hq
          rw [Bool.and_eq_true, decide_eq_true_eq, decide_eq_true_eq] at hq
          cases hj
          refine wpAny_getItem_list_neg hl hn ?_ hb.1 ?_ (hQ.now rx)
          · simp only [List.size_toArray]; omega
          · simp only [List.size_toArray, len]; simpa using hx
        · cases hj
      · simp only [hn, if_false] at hj
        split at hj
        · rename_i hq
          rw [Bool.and_eq_true, decide_eq_true_eq, decide_eq_true_eq] at hq
          cases hj
          exact wpAny_getItem_list hl (by omega) hb.2 (by simpa using hx) (hQ.now rx)
        · cases hj
    · cases h
  · split at h
    · rename_i hz
      obtain ⟨a, vs, rfl, ha, hl, r⟩ := hv; obtain ⟨u, rfl⟩ := hi
      obtain ⟨x, hx, rx⟩ := r.get h
      have lt : ‹Int›.toNat < vs.length := (List.getElem?_eq_some_iff.mp hx).1
      refine getItem_tuple (j := ‹Int›.toNat) hl (by omega) hz.2 ?_ (by simpa using hx) (hQ.now rx)
      unfold seqIndex?
      have hn : ¬ ‹Int› < 0 := by omega
      simp only [hn, if_false]
      rw [if_pos (by rw [Bool.and_eq_true, decide_eq_true_eq, decide_eq_true_eq]; simp only [List.size_toArray]; omega)]
    · cases h
  · cases h
end
end Mine

set_option maxRecDepth 10000
namespace Mine

noncomputable def PartIs (v : Value) (lo : Option Int) : Prop := ∃ l : Option (Int × Tok), v = partValue l ∧ l.map (·.1) = lo
theorem PartIs.part {v : Value} {lo : Option Int} (h : PartIs v lo) : IsPart v lo := by
  obtain ⟨l, rfl, rfl⟩ := h
  cases l with
  | none => exact .none
  | some p => exact .int p.1 p.2
theorem PartIs.none : PartIs .none none := ⟨.none, rfl, rfl⟩
theorem PartIs.int {C : Addr} {h : Heap} {S : List Addr} {i : Int} {v : Value} (r : Rep C h S (.int i) v) : PartIs v (some i) := by
  obtain ⟨t, rfl⟩ := r; exact ⟨some (i, t), rfl, rfl⟩

section
variable {prog : Program} {w : World} {A : Around} {E : Value → Shared → Prop} {s : Shared} {C : Addr} {S : List Addr}

theorem Reps.places {ds : List D} {vs : List Value} {h : Heap} (r : Reps C h S ds vs) : ∀ js : List Nat, Reps C h S (js.filterMap (ds[·]?)) (js.filterMap (vs[·]?))
  | [] => rfl
  | j :: js => by
    have ih := r.places js
    have len := r.length
    cases e : ds[j]? with
    | none =>
      have e' : vs[j]? = none := by
        rw [List.getElem?_eq_none_iff] at e ⊢; omega
      rw [List.filterMap_cons, List.filterMap_cons, e, e']; exact ih
    | some d =>
      obtain ⟨v, hv, rv⟩ := r.get e
      rw [List.filterMap_cons, List.filterMap_cons, e, hv]
      exact ⟨v, _, rfl, rv, ih⟩
theorem Reps.pick {ds : List D} {vs : List Value} {h : Heap} (r : Reps C h S ds vs) (lo hi st : Option Int) : Reps C h S (pickD ds lo hi st) (slicePick vs.toArray lo hi st).toList := by
  have q := r.places (sliceRange (sliceBounds lo hi st vs.length).1 (sliceBounds lo hi st vs.length).2.1 (sliceBounds lo hi st vs.length).2.2)
  rw [r.length] at q
  unfold pickD slicePick
  simpa [r.length] using q

theorem picked_le (x : Str) (l u : Option (Int × Tok)) : Str.length ⟨((slicePicked x l u none).filterMap (x.cps[·]?)).toArray⟩ ≤ x.length := by
  show (List.toArray _).size ≤ _
  rw [List.size_toArray]
  refine Nat.le_trans (List.length_filterMap_le _ _) ?_
  unfold slicePicked
  exact sliceIndices_le _ _ x.length

theorem sl_sound {v d : D} {lo hi : Option Int} {vv vl vu : Value} {a : Addr} {Q : Value → Shared → Prop} (hl : Live S s.heap) (h : slD v lo hi = some d) (hv : Rep C s.heap S v vv)
    (hs : s.heap.IsSliceOf a vl vu .none) (pl : PartIs vl lo) (pu : PartIs vu hi) (hQ : Gets C S s d Q) : wpAny (model prog w) A (getItem vv (.ref a)) Q E s := by
  have e1 := size_line
  have e2 := small_is
  unfold slD at h
  split at h
  · split at h
    · rename_i hz
      cases h
      obtain ⟨t, rfl⟩ := hv
      obtain ⟨l, rfl, rfl⟩ := pl
      obtain ⟨u, rfl, rfl⟩ := pu
      refine wpAny_getItem_str_slice (l := l) (u := u) (st := none) hs rfl (post_val_or_made (fun hc => ?_) fun t' k => ?_)
      · exact Nat.le_trans (picked_le _ l u) (by omega)
      · exact hQ.toks k ⟨t', rfl⟩
    · cases h
  · split at h
    · rename_i hz
      cases h
      obtain ⟨x, vs, rfl, hx, hli, r⟩ := hv
      have e := r.length
      refine wpAny_getItem_list_slice hli hs pl.part pu.part .none (by simp) ?_ (by simp only [List.size_toArray]; omega)
      have q := list_new (s := s) hl (r.pick lo hi none)
      rw [Array.toArray_toList] at q
      exact hQ.push q
    · cases h
  · cases h

theorem rev_sound {v d : D} {vv : Value} {a : Addr} {t : Tok} {Q : Value → Shared → Prop} (h : revD v = some d) (hv : Rep C s.heap S v vv)
    (hs : s.heap.IsSliceOf a .none .none (.int (-1) t)) (hQ : Gets C S s d Q) : wpAny (model prog w) A (getItem vv (.ref a)) Q E s := by
  have e1 := size_line
  have e2 := small_is
  unfold revD at h
  split at h
  · split at h
    · rename_i x hz
      cases h
      obtain ⟨t', rfl⟩ := hv
      refine wpAny_getItem_str_slice (l := none) (u := none) (st := some (-1, t)) hs rfl ?_
      unfold sliceMade
      rw [if_neg (by simp)]
      refine ⟨?_, hQ.toks _ ⟨_, rfl⟩⟩
      show (List.filterMap _ (slicePicked x none none (some (-1, t)))).toArray.size ≤ sizeLine
      rw [List.size_toArray]
      refine Nat.le_trans (List.length_filterMap_le _ _) ?_
      show (Builtin.Str.strSliceIndices none none (-1) x.length).length ≤ _
      rw [picked_rev]
      simp only [List.length_map, List.length_range]
      omega
    · cases h
  · cases h

theorem tru_sound {d : D} {b : Bool} {v : Value} {Q : Bool → Shared → Prop} (h : truD d = some b) (r : Rep C s.heap S d v) (hQ : ∀ s', Keeps s s' → Q b s') : wpAny (model prog w) A (truthy v) Q E s := by
  have e2 := small_is
  unfold truD at h
  split at h
  · cases h; cases r; exact wpAny_truthy_bool (hQ _ (Keeps.refl s))
  · cases h; cases r; exact truthy_none (hQ _ (Keeps.refl s))
  · split at h
    · cases h
      obtain ⟨t, rfl⟩ := r
      exact P.truthy_str (by omega) (hQ _ (Keeps.tok s _))
    · cases h
  · cases h
end
end Mine

set_option maxRecDepth 10000
namespace Mine

noncomputable def bval : BK → Value
  | .len => .builtin "len"
  | .chr => .builtin "chr"
  | .int => .type "int"
  | .min => .builtin "min"
noncomputable def mval : MK → String
  | .index => "str.index"
  | .join => "str.join"
  | .split => "str.split"
  | .find => "str.find"
  | .lower => "str.lower"
  | .upper => "str.upper"

section
variable {prog : Program} {w : World} {A : Around} {E : Value → Shared → Prop} {s : Shared} {C : Addr} {S : List Addr}

theorem cmpAt_str (x : Str) : CmpOf prog w A .Lt (SignAt x) (ltAt x) := by
  intro i j vi vj s' Q E' hi hj hQ
  obtain ⟨c, t, hc, rfl⟩ := hi
  obtain ⟨d, u, hd, rfl⟩ := hj
  have e : ltAt x i j = decide ((#[c] : Array Nat).toList < (#[d] : Array Nat).toList) := by
    unfold ltAt
    rw [Array.getD_eq_getD_getElem?, Array.getD_eq_getD_getElem?, hc, hd]
    simp [List.cons_lt_cons_iff]
  rw [e] at hQ
  exact lt_str (x := ⟨#[c]⟩) (y := ⟨#[d]⟩) hQ

theorem call_min_str {x : Str} {t : Tok} {Q : Value → Shared → Prop} {c : Nat} (hh : A.handled = none) (hc : minS x = some c) (hQ : Gets C S s (.str ⟨#[c]⟩) Q) : wpAny (model prog w) A (call (.builtin "min") [.str x t]) Q E s := by
  refine call_min_walk (wpAny_pyIter_str fun o St W st => ?_)
  have n0 : 0 < x.cps.size := by
    unfold minS at hc
    have := (Array.getElem?_eq_some_iff.mp hc).1
    omega
  refine ⟨_, _, _, _, _, _, ltAt x, rfl, W A.in1 hh, st, ?_, n0, cmpAt_str x, fun v h' tk hP hk => ?_⟩
  · intro b hb
    rw [List.mem_singleton.mp hb]
    show _ < (s.heap.push o).objs.size
    rw [Heap.size_push]; exact Nat.lt_succ_self _
  · obtain ⟨c', u, hc', rfl⟩ := hP
    unfold minS at hc
    rw [hc] at hc'
    cases hc'
    refine hQ _ _ (Keeps.of fun b o' e => hk b o' ?_ (Heap.get?_push_of_some _ e)) ⟨_, rfl⟩
    intro hm
    rw [List.mem_singleton.mp hm] at e
    exact absurd (Heap.lt_size e) (Nat.lt_irrefl _)

theorem callB_sound {k : BK} {ds : List D} {d : D} {vs : List Value} {Q : Value → Shared → Prop} (rm : Rm 0 A) (h : callB k ds = some d) (r : Reps C s.heap S ds vs) (hQ : Gets C S s d Q) :
    wpAny (model prog w) A (call (bval k) vs) Q E s := by
  have e2 := small_is
  cases k with
  | len =>
    replace h : lenD ds = some d := h
    unfold lenD at h
    cases hx : oneS ds with
    | some x =>
      rw [hx] at h
      replace h : (if x.length ≤ small then some (PyData.int x.length) else none) = some d := h
      by_cases hz : x.length ≤ small
      · rw [if_pos hz] at h
        cases h
        rw [oneS_eq hx] at r
        obtain ⟨v, r1, rfl, ⟨t, rfl⟩, rfl⟩ := r
        exact len_str (by omega) (hQ.toks _ ⟨_, rfl⟩)
      · rw [if_neg hz] at h; cases h
    | none =>
      rw [hx] at h
      replace h : (oneL ds).bind (fun l => if l.length ≤ small then some (PyData.int l.length) else none) = some d := h
      obtain ⟨l, hy, h⟩ := Option.bind_eq_some_iff.mp h
      by_cases hz : l.length ≤ small
      · rw [if_pos hz] at h
        cases h
        rw [oneL_eq hy] at r
        obtain ⟨v, r1, rfl, ⟨a, vs, rfl, ha, hl, q⟩, rfl⟩ := r
        have e := q.length
        refine Calls.call_len_list hl (by simp only [List.size_toArray]; omega) ?_
        have q2 : ((vs.toArray.size : Nat) : Int) = ((l.length : Nat) : Int) := by simp only [List.size_toArray, e]
        rw [q2]
        exact hQ.toks _ ⟨_, rfl⟩
      · rw [if_neg hz] at h; cases h
  | chr =>
    replace h : (oneI ds).bind (fun i => if 0 ≤ i ∧ i ≤ 1114111 then some (PyData.str ⟨#[i.toNat]⟩) else none) = some d := h
    obtain ⟨i, hy, h⟩ := Option.bind_eq_some_iff.mp h
    by_cases hz : 0 ≤ i ∧ i ≤ 1114111
    · rw [if_pos hz] at h
      cases h
      rw [oneI_eq hy] at r
      obtain ⟨v, r1, rfl, ⟨t, rfl⟩, rfl⟩ := r
      exact chr_of_range hz.1 hz.2 (hQ.toks _ ⟨_, rfl⟩)
    · rw [if_neg hz] at h; cases h
  | int =>
    replace h : (oneI ds).map PyData.int = some d := h
    obtain ⟨i, hy, rfl⟩ := Option.map_eq_some_iff.mp h
    rw [oneI_eq hy] at r
    obtain ⟨v, r1, rfl, ⟨t, rfl⟩, rfl⟩ := r
    exact call_int_int (hQ.now ⟨_, rfl⟩)
  | min =>
    replace h : (oneS ds).bind (fun x => if x.length ≤ small then (minS x).map fun c => PyData.str ⟨#[c]⟩ else none) = some d := h
    obtain ⟨x, hy, h⟩ := Option.bind_eq_some_iff.mp h
    by_cases hz : x.length ≤ small
    · rw [if_pos hz] at h
      obtain ⟨c, hc, rfl⟩ := Option.map_eq_some_iff.mp h
      rw [oneS_eq hy] at r
      obtain ⟨v, r1, rfl, ⟨t, rfl⟩, rfl⟩ := r
      exact call_min_str rm.handled hc hQ
    · rw [if_neg hz] at h; cases h

theorem Reps.txts : ∀ {ds : List D} {ts : List Str} {vs : List Value} {h : Heap}, Reps C h S ds vs → Mine.txts ds = some ts → ∃ l : List (Str × Tok), vs = strValues l ∧ l.map (·.1) = ts
  | [], _, _, _, r, e => by cases e; rw [r]; exact ⟨[], rfl, rfl⟩
  | .str x :: ds, ts, _, _, ⟨v, r1, e1, ⟨t, e2⟩, r⟩, e => by
    unfold Mine.txts at e
    obtain ⟨ts', h1, rfl⟩ := Option.map_eq_some_iff.mp e
    obtain ⟨l, rfl, rfl⟩ := r.txts h1
    exact ⟨(x, t) :: l, by rw [e1, e2]; rfl, rfl⟩
  | .none :: _, _, _, _, _, e => by cases e
  | .bool _ :: _, _, _, _, _, e => by cases e
  | .int _ :: _, _, _, _, _, e => by cases e
  | .list _ :: _, _, _, _, _, e => by cases e
  | .tuple _ :: _, _, _, _, _, e => by cases e
  | .dict _ :: _, _, _, _, _, e => by cases e

theorem reps_strsFrom {h : Heap} : ∀ (xs : List Str) (tk : Nat), Reps C h S (xs.map .str) (strsFrom tk xs)
  | [], _ => rfl
  | x :: r, tk => ⟨_, _, rfl, ⟨_, rfl⟩, reps_strsFrom r (tk + 1)⟩

theorem gives_find4 (x y : Str) (i j : Int) (t u v v' : Tok) : Gives (Builtin.«str.find» ⟨[.str x t, .str y u, .int i v, .int j v'], []⟩) (.int (findD x y i j)) := by
  show Gives (match Builtin.Str.occurrences x y (fromIndex x.length i) (min (fromIndex x.length j) x.length) 1 with | k :: _ => retInt k | [] => (do rule "str.find.not-found"; retInt (-1))) _
  unfold findD
  cases Builtin.Str.occurrences x y (fromIndex x.length i) (min (fromIndex x.length j) x.length) 1 with
  | nil => exact .rule (.of_eq rfl)
  | cons k r => exact .of_eq rfl

theorem split_sound {x y : Str} {t u : Tok} {d : D} {Q : Value → Shared → Prop} (hl : Live S s.heap) (h : splitD x y = some d) (hQ : Gets C S s d Q) :
    wpAny (model prog w) A (call (.builtin "str.split") [.str x t, .str y u]) Q E s := by
  have e1 := size_line
  have e2 := small_is
  unfold splitD at h
  split at h
  · cases h
  · rename_i hz
    cases h
    simp only [Bool.or_eq_true, decide_eq_true_eq, not_or, Bool.not_eq_true, beq_eq_false_iff_ne] at hz
    obtain ⟨⟨⟨⟨⟨h1, h2⟩, h3⟩, h4⟩, h5⟩, h6⟩ := hz
    have c1 : (decide (x.length < y.length) || decide (Builtin.Str.strKind x < Builtin.Str.strKind y)) = false := by
      rw [Bool.or_eq_false_iff, decide_eq_false_iff_not, decide_eq_false_iff_not]; exact ⟨h1, h2⟩
    have c2 : (y.length == 0) = false := beq_eq_false_iff_ne.mpr h3
    generalize hp : Builtin.Str.partsBetween x (Builtin.Str.occurrences x y 0 x.length (x.length + 1)) y.length = ps at *
    have m := meets_str_split_sep x y t u c1 c2 h4 (by omega) (by rw [hp]; omega)
    rw [hp] at m
    refine call_meets F.slot_str_split (typeIs_str _ _ _) F.entry_str_split (F.args_str_split_2 _ _) m ?_
    have q : Rep C (s.heap.push { cls := .type "list", data := .seq (strsFrom s.toks ps).toArray }) S (.list (ps.map .str)) (.ref s.heap.objs.size) := list_new (s := s) hl (reps_strsFrom _ _)
    exact hQ _ { s with toks := s.toks + ps.length, heap := s.heap.push { cls := .type "list", data := .seq (strsFrom s.toks ps).toArray } } (Keeps.of (push_ext _ _)) q

theorem callM_sound {k : MK} {x : Str} {t : Tok} {ds : List D} {d : D} {vs : List Value} {Q : Value → Shared → Prop} (hl : Live S s.heap) (h : callM k x ds = some d) (r : Reps C s.heap S ds vs) (hQ : Gets C S s d Q) :
    wpAny (model prog w) A (call (.builtin (mval k)) (.str x t :: vs)) Q E s := by
  have e1 := size_line
  have e2 := small_is
  cases k with
  | index =>
    replace h : (oneS ds).bind (fun y => (Builtin.Str.occurrences x y 0 x.length 1).head?.map fun (i : Nat) => PyData.int (i : Int)) = some d := h
    obtain ⟨y, hy, h⟩ := Option.bind_eq_some_iff.mp h
    obtain ⟨i, hi, rfl⟩ := Option.map_eq_some_iff.mp h
    rw [oneS_eq hy] at r
    obtain ⟨v, r1, rfl, ⟨u, rfl⟩, rfl⟩ := r
    cases ho : Builtin.Str.occurrences x y 0 x.length 1 with
    | nil => rw [ho] at hi; cases hi
    | cons i' rest =>
      rw [ho] at hi
      cases hi
      exact SC.index ho (hQ.toks _ ⟨_, rfl⟩)
  | join =>
    replace h : (oneL ds).bind (fun l => (txts l).bind fun ts => if JoinOk x ts then some (PyData.str (Txt.join x ts)) else none) = some d := h
    obtain ⟨l, hy, h⟩ := Option.bind_eq_some_iff.mp h
    obtain ⟨ts, hts, h⟩ := Option.bind_eq_some_iff.mp h
    rw [oneL_eq hy] at r
    obtain ⟨v, r1, rfl, ⟨a, us, rfl, ha, hli, q⟩, rfl⟩ := r
    by_cases hj : JoinOk x ts
    · rw [if_pos hj] at h
      cases h
      obtain ⟨l, rfl, rfl⟩ := q.txts hts
      exact SC.join hli rfl hj fun t' k => hQ.toks _ ⟨_, rfl⟩
    · rw [if_neg hj] at h; cases h
  | split =>
    replace h : (oneS ds).bind (fun y => splitD x y) = some d := h
    obtain ⟨y, hy, h⟩ := Option.bind_eq_some_iff.mp h
    rw [oneS_eq hy] at r
    obtain ⟨v, r1, rfl, ⟨u, rfl⟩, rfl⟩ := r
    exact split_sound hl h hQ
  | find =>
    replace h : (strII ds).map (fun y => PyData.int (findD x y.1 y.2.1 y.2.2)) = some d := h
    obtain ⟨y, hy, rfl⟩ := Option.map_eq_some_iff.mp h
    rw [strII_eq hy] at r
    obtain ⟨v, r1, rfl, ⟨u, rfl⟩, v2, r2, rfl, ⟨u2, rfl⟩, v3, r3, rfl, ⟨u3, rfl⟩, rfl⟩ := r
    exact call_gives F.slot_str_find (typeIs_str _ _ _) F.entry_str_find (F.args_str_find_4 _ _ _ _) (gives_find4 _ _ _ _ _ _ _ _) (hQ.toks _ ⟨_, rfl⟩)
  | lower =>
    replace h : (if (ds.isEmpty && decide (x.length ≤ small)) = true then some (PyData.str (Txt.lower x)) else none) = some d := h
    by_cases hc : (ds.isEmpty && decide (x.length ≤ small)) = true
    · rw [if_pos hc] at h
      cases h
      rw [Bool.and_eq_true, decide_eq_true_eq, List.isEmpty_iff] at hc
      rw [hc.1] at r
      cases r
      exact SCL.lower (by omega) fun _ => hQ.toks _ ⟨_, rfl⟩
    · rw [if_neg hc] at h; cases h
  | upper =>
    replace h : (if (ds.isEmpty && decide (x.length ≤ small)) = true then some (PyData.str (Txt.upper x)) else none) = some d := h
    by_cases hc : (ds.isEmpty && decide (x.length ≤ small)) = true
    · rw [if_pos hc] at h
      cases h
      rw [Bool.and_eq_true, decide_eq_true_eq, List.isEmpty_iff] at hc
      rw [hc.1] at r
      cases r
      exact SCL.upper (by omega) fun _ => hQ.toks _ ⟨_, rfl⟩
    · rw [if_neg hc] at h; cases h
end
end Mine

set_option maxRecDepth 10000
set_option genInjectivity false
set_option genSizeOf false
set_option genSizeOfSpec false
namespace Mine

noncomputable abbrev But (wr : List Addr) (h h' : Heap) : Prop := ∀ b o, b ∉ wr → h.get? b = some o → h'.get? b = some o
/-- an iterator over data -/
structure Itr (prog : Program) (w : World) (A : Around) (C : Addr) (S : List Addr) (I : Addr) (wr : List Addr) (tup : Bool) (ds : List D) (St : Nat → Heap → Prop) (Mid : Nat → Value → Heap → Prop) : Prop where
  sub : ∀ b ∈ wr, b ∈ S
  live : ∀ i h, St i h → Live wr h
  frame : ∀ i h h', St i h → (∀ b o, (b ∈ wr ∨ b ∉ S) → h.get? b = some o → h'.get? b = some o) → St i h'
  item : ∀ i d (s : Shared) (Q : Option Value → Shared → Prop) (E : Value → Shared → Prop), ds[i]? = some d → Live S s.heap → St i s.heap →
    (∀ v h' tk, Rep C h' S d v → Mid i v h' → But wr s.heap h' → Q (some v) { s with heap := h', toks := tk }) → wpAny (model prog w) A (pyNext (.ref I)) Q E s
  go : ∀ t i d v (s : Shared) (Q : Unit → Shared → Prop) (E : Value → Shared → Prop), ds[i]? = some d → (tup = true → isTup t = true) → (isTup t = true → ∃ l, d = .tuple l) →
    ((∃ x p, t = .Name x p) ∨ (∃ es k p, t = .Tuple es k p)) → Rep C s.heap S d v → Mid i v s.heap →
    (∀ h', St (i + 1) h' → But wr s.heap h' → Q () { s with heap := h' }) → wpAny (model prog w) A (letOwnedTupleGo t (.ref I) v) Q E s
  done : ∀ (s : Shared) (Q : Option Value → Shared → Prop) (E : Value → Shared → Prop), St ds.length s.heap → (∀ h' tk, But wr s.heap h' → Q none { s with heap := h', toks := tk }) → wpAny (model prog w) A (pyNext (.ref I)) Q E s
  self : ∀ i (s : Shared) (Q : Value → Shared → Prop) (E : Value → Shared → Prop), St i s.heap → Q (.ref I) s → wpAny (model prog w) A (pyIter (.ref I)) Q E s

section
variable {prog : Program} {w : World} {A : Around} {C : Addr} {S : List Addr}

theorem itr_list (hh : A.handled = none) {I l : Addr} {vs : List Value} {ds : List D} (hI : I ∈ S) (hl : l ∉ S) :
    Itr prog w A C S I [I] false ds (fun i h => h.IsListIter I l i ∧ h.IsList l vs.toArray ∧ Reps C h S ds vs) (fun i _ h => h.IsListIter I l (i + 1) ∧ h.IsList l vs.toArray ∧ Reps C h S ds vs) where
  sub := fun b hb => by rw [List.mem_singleton.mp hb]; exact hI
  live := fun i h st b hb => by rw [List.mem_singleton.mp hb]; obtain ⟨⟨o, ho, _⟩, _⟩ := st; exact ⟨o, ho⟩
  frame := fun i h h' st hk => ⟨st.1.at fun o e => hk I o (.inl (.head _)) e, st.2.1.at fun o e => hk l o (.inr hl) e, st.2.2.ext fun b o hb e => hk b o (.inr hb) e⟩
  item := fun i d s Q E hd _ st hQ => by
    obtain ⟨v, hv, rv⟩ := st.2.2.get hd
    have hlI : l ≠ I := fun e => hl (e ▸ hI)
    refine wpAny_pyNext_list_item st.1 st.2.1 (x := v) (by simpa using hv) fun h' hit' hs' => ?_
    have b1 : But [I] s.heap h' := fun b o hb e => hs'.extBut b o (fun h => hb (by simp [h])) e
    have b2 : Ext S s.heap h' := fun b o hb e => b1 b o (fun h => hb (by rw [List.mem_singleton.mp h]; exact hI)) e
    exact hQ v h' s.toks (rv.ext b2) ⟨hit', st.2.1.extBut hs'.extBut hlI, st.2.2.ext b2⟩ b1
  go := fun t i d v s Q E _ _ h2 hs rv hm hQ => by
    rcases hs with ⟨x, p, rfl⟩ | ⟨es, k, p, rfl⟩
    · exact wpAny_pure (hQ s.heap hm fun _ _ _ e => e)
    · obtain ⟨l, rfl⟩ := h2 rfl
      obtain ⟨T, vs', rfl, _⟩ := rv
      exact wpAny_letOwnedTupleGo_listiter hm.1 (hQ s.heap hm fun _ _ _ e => e)
  done := fun s Q E st hQ => wpAny_pyNext_list_end hh st.1 st.2.1 (by simpa [st.2.2.length] using (Nat.le_refl ds.length)) fun h' he' => hQ h' s.toks fun b o hb e => he' b o (fun h => hb (by simp [h])) e
  self := fun _ _ _ _ st hQ => wpAny_pyIter_listiter st.1 hQ

theorem itr_plain {I : Addr} {n : Nat} {P : Nat → Value → Prop} {St : Nat → Heap → Prop} {ds : List D} (W : Walks prog w A I [I] [I] n P St) (hI : I ∈ S) (hn : ds.length = n)
    (hlv : ∀ i h, St i h → ∃ o, h.get? I = some o) (hnt : ∀ d ∈ ds, ∀ l, d ≠ .tuple l) (hP : ∀ i v d, P i v → ds[i]? = some d → ∀ h, Rep C h S d v) :
    Itr prog w A C S I [I] false ds St (fun i _ h => St (i + 1) h) where
  sub := fun b hb => by rw [List.mem_singleton.mp hb]; exact hI
  live := fun i h st b hb => by rw [List.mem_singleton.mp hb]; exact hlv i h st
  frame := fun i h h' st hk => W.frame i h h' st fun b hb o e => hk b o (.inl hb) e
  item := fun i d s Q E hd _ st hQ => by
    have lt : i < n := by rw [← hn]; exact (List.getElem?_eq_some_iff.mp hd).1
    exact W.item i s Q E lt st fun v h' tk hp st' hk => hQ v h' tk (hP i v d hp hd h') st' hk
  go := fun t i d v s Q E hd _ h2 hs rv hm hQ => by
    rcases hs with ⟨x, p, rfl⟩ | ⟨es, k, p, rfl⟩
    · exact wpAny_pure (hQ s.heap hm fun _ _ _ e => e)
    · obtain ⟨l, rfl⟩ := h2 rfl
      exact absurd rfl (hnt _ (List.mem_of_getElem? hd) l)
  done := fun s Q E st hQ => W.done s Q E (hn ▸ st) hQ
  self := W.self

theorem itr_enum (hh : A.handled = none) {e it l : Addr} {vs : List Value} {ds : List D} (he : e ∈ S) (hi : it ∈ S) (hei : e ≠ it) (hl : l ∉ S) :
    Itr prog w A C S e [e, it] true (enumD 0 ds)
      (fun i h => ((∃ old, IsEnum h e it i old) ∧ h.IsListIter it l i ∧ h.IsList l vs.toArray) ∧ Reps C h S ds vs)
      (fun i v h => ∃ T, v = .ref T ∧ ((∃ x, IsEnumOut h e it ((i : Int) + 1) x T) ∧ h.IsListIter it l (i + 1) ∧ h.IsList l vs.toArray ∧ T ≠ e ∧ T ≠ it) ∧ Reps C h S ds vs) := by
  have W := WalksT.enumerate (prog := prog) (w := w) hh e it l hei (fun q => hl (q ▸ he)) (fun q => hl (q ▸ hi)) vs.toArray
  have len : ∀ (n : Nat) (r : List D), (enumD n r).length = r.length := fun n r => by
    induction r generalizing n with
    | nil => rfl
    | cons a r ih => simp only [enumD, List.length_cons, ih]
  have get : ∀ (r : List D) (n i : Nat) (d : D), (enumD n r)[i]? = some d → ∃ a, r[i]? = some a ∧ d = .tuple [.int ((n + i : Nat) : Int), a] := fun r => by
    induction r with
    | nil => intro n i d h; simp [enumD] at h
    | cons a r ih =>
      intro n i d h
      cases i with
      | zero => simp only [enumD, List.getElem?_cons_zero, Option.some.injEq] at h; exact ⟨a, rfl, by rw [← h]; simp⟩
      | succ i =>
        simp only [enumD, List.getElem?_cons_succ] at h
        obtain ⟨b, hb, e⟩ := ih (n + 1) i d h
        exact ⟨b, by simpa using hb, by rw [e]; congr 4; omega⟩
  have wrS : ∀ b ∈ [e, it], b ∈ S := fun b hb => by
    rcases List.mem_cons.mp hb with rfl | hb
    · exact he
    · rw [List.mem_singleton.mp hb]; exact hi
  exact {
    sub := wrS
    live := fun i h st b hb => by
      obtain ⟨⟨⟨old, q⟩, ⟨o, ho, _⟩, _⟩, _⟩ := st
      rcases List.mem_cons.mp hb with rfl | hb
      · exact ⟨_, q⟩
      · rw [List.mem_singleton.mp hb]; exact ⟨o, ho⟩
    frame := fun i h h' st hk => ⟨W.frame i h h' st.1 fun b hb o q => by
        rcases List.mem_cons.mp hb with rfl | hb
        · exact hk _ o (.inl (by simp)) q
        · rcases List.mem_cons.mp hb with rfl | hb
          · exact hk _ o (.inl (by simp)) q
          · rw [List.mem_singleton.mp hb] at q ⊢; exact hk l o (.inr hl) q, st.2.ext fun b o hb q => hk b o (.inr hb) q⟩
    item := fun i d s Q E hd lv st hQ => by
      obtain ⟨a, ha, rfl⟩ := get ds 0 i d hd
      obtain ⟨v, hv, rv⟩ := st.2.get ha
      have lt : i < vs.toArray.size := by simpa using (List.getElem?_eq_some_iff.mp hv).1
      refine W.item i s Q E lt st.1 fun T vals h' tk hPt hT hTup hMid hk => ?_
      obtain ⟨t, x, hx, rfl⟩ := hPt
      have xv : x = v := by have : vs[i]? = some x := by simpa using hx
                            rw [hv] at this; cases this; rfl
      subst xv
      have b2 : Ext S s.heap h' := fun b o hb q => hk b o (fun m => hb (wrS b m)) q
      have TS : T ∉ S := fun m => by obtain ⟨o, ho⟩ := lv T m; exact Nat.lt_irrefl _ (Nat.lt_of_lt_of_le (Heap.lt_size ho) hT)
      exact hQ (.ref T) h' tk ⟨T, [.int i t, x], rfl, TS, hTup, _, _, rfl, ⟨t, by simp⟩, _, _, rfl, rv.ext b2, rfl⟩ ⟨T, rfl, hMid, st.2.ext b2⟩ hk
    go := fun t i d v s Q E hd h1 _ hs rv hm hQ => by
      obtain ⟨T, rfl, hm, hr⟩ := hm
      rcases hs with ⟨x, p, rfl⟩ | ⟨es, k, p, rfl⟩
      · exact absurd (h1 rfl) (fun q => Bool.noConfusion (show false = true from q))
      · exact W.go es k p i T s Q E hm fun h' st' hk => hQ h' ⟨st', hr.ext fun b o hb q => hk b o (fun m => hb (wrS b m)) q⟩ hk
    done := fun s Q E st hQ => W.done s Q E (by
      have : (enumD 0 ds).length = vs.toArray.size := by rw [len, List.size_toArray, st.2.length]
      rw [← this]; exact st.1) hQ
    self := fun i s Q E st hQ => W.self i s Q E st.1 hQ }
end

/-! zip of two -/
structure Drw (prog : Program) (w : World) (A : Around) (C : Addr) (S : List Addr) (it : Addr) (ds : List D) (St : Nat → Heap → Prop) : Prop where
  live : ∀ i h, St i h → ∃ o, h.get? it = some o
  frame : ∀ i h h', St i h → (∀ b o, (b = it ∨ b ∉ S) → h.get? b = some o → h'.get? b = some o) → St i h'
  item : ∀ i d (s : Shared) (Q : Value → Shared → Prop) (E : Value → Shared → Prop), ds[i]? = some d → St i s.heap →
    (∀ x h' tk, Rep C h' S d x → St (i + 1) h' → Heap.SameBut it s.heap h' → Q x { s with heap := h', toks := tk }) → wpAny (model prog w) A (Builtin.SmallTypes.nextOf (.ref it)) Q E s
  done : ∀ (s : Shared) (Q : Value → Shared → Prop) (E : Value → Shared → Prop), St ds.length s.heap →
    (∀ h' e, Heap.ExtBut it s.heap h' → (∃ o, h'.get? e = some o ∧ o.cls = .type "StopIteration") → E (.ref e) { s with heap := h' }) → wpAny (model prog w) A (Builtin.SmallTypes.nextOf (.ref it)) Q E s

section
variable {prog : Program} {w : World} {A : Around} {C : Addr} {S : List Addr}
theorem drw_list (hh : A.handled = none) {it l : Addr} {vs : List Value} {ds : List D} (hi : it ∈ S) (hl : l ∉ S) :
    Drw prog w A C S it ds (fun i h => (h.IsListIter it l i ∧ h.IsList l vs.toArray) ∧ Reps C h S ds vs) := by
  have W := Draws.list (prog := prog) (w := w) hh it l (fun q => hl (q ▸ hi)) vs.toArray
  exact {
    live := fun i h st => W.live i h st.1
    frame := fun i h h' st hk => ⟨W.frame i h h' st.1 fun b hb o q => by
      rcases List.mem_cons.mp hb with rfl | hb
      · exact hk _ o (.inl rfl) q
      · rw [List.mem_singleton.mp hb] at q ⊢; exact hk l o (.inr hl) q, st.2.ext fun b o hb q => hk b o (.inr hb) q⟩
    item := fun i d s Q E hd st hQ => by
      obtain ⟨v, hv, rv⟩ := st.2.get hd
      have lt : i < vs.toArray.size := by simpa using (List.getElem?_eq_some_iff.mp hv).1
      refine W.item i s Q E lt st.1 fun x h' tk hp st' hk => ?_
      have xv : x = v := by have : vs[i]? = some x := by simpa using hp
                            rw [hv] at this; cases this; rfl
      subst xv
      have b2 : Ext S s.heap h' := fun b o hb q => hk.extBut b o (fun m => hb (m ▸ hi)) q
      exact hQ x h' tk (rv.ext b2) ⟨st', st.2.ext b2⟩ hk
    done := fun s Q E st hE => W.done s Q E (by
      have : ds.length = vs.toArray.size := by rw [List.size_toArray, st.2.length]
      rw [← this]; exact st.1) hE }
theorem strChars_get {x : Str} {i : Nat} {d : D} (h : (strChars x)[i]? = some d) : ∃ c, x.cps[i]? = some c ∧ d = .str ⟨#[c]⟩ := by
  unfold strChars at h
  rw [List.getElem?_map] at h
  cases q : x.cps.toList[i]? with
  | none => rw [q] at h; cases h
  | some c => rw [q] at h; cases h; exact ⟨c, by simpa using q, rfl⟩
theorem strChars_len (x : Str) : (strChars x).length = x.cps.size := by simp [strChars]

theorem drw_str (hh : A.handled = none) {it : Addr} {x : Str} {t : Tok} (hi : it ∈ S) :
    Drw prog w A C S it (strChars x) (fun i h => h.IsStrIter it (strIterType x) x t i) := by
  have W : Draws prog w A it [it] x.cps.size (fun i v => ∃ c u, x.cps[i]? = some c ∧ v = .str ⟨#[c]⟩ u) (fun i h => h.IsStrIter it (strIterType x) x t i) := by
    unfold strIterType
    cases ha : x.cps.all (· < 128)
    · simpa using Draws.strWide hh it x t
    · simpa using Draws.strAscii hh it x t
  exact {
    live := W.live
    frame := fun i h h' st hk => W.frame i h h' st fun b hb o q => by rw [List.mem_singleton.mp hb] at q ⊢; exact hk _ o (.inl rfl) q
    item := fun i d s Q E hd st hQ => by
      obtain ⟨c, hc, rfl⟩ := strChars_get hd
      have lt : i < x.cps.size := (Array.getElem?_eq_some_iff.mp hc).1
      refine W.item i s Q E lt st fun v h' tk hp st' hk => ?_
      obtain ⟨c', u, hc', rfl⟩ := hp
      rw [hc] at hc'; cases hc'
      exact hQ _ h' tk ⟨u, rfl⟩ st' hk
    done := fun s Q E st hE => W.done s Q E (by rw [strChars_len] at st; exact st) hE }
end

structure ZA (S : List Addr) (z TI TO i1 i2 : Addr) : Prop where
  zS : z ∈ S
  TOS : TO ∈ S
  i1S : i1 ∈ S
  i2S : i2 ∈ S
  TIS : TI ∉ S
  TOz : TO ≠ z
  i1z : i1 ≠ z
  i2z : i2 ≠ z
  TOi1 : TO ≠ i1
  TOi2 : TO ≠ i2
  i12 : i1 ≠ i2

section
variable {prog : Program} {w : World} {A : Around} {E : Value → Shared → Prop} {s : Shared} {C : Addr} {S : List Addr}

theorem zip_item {z TI TO i1 i2 : Addr} {k : Nat} {xs ys : List D} {x y : D} {a b : Value} {St1 St2 : Nat → Heap → Prop} {Q : Value → Shared → Prop} (D : ZA S z TI TO i1 i2)
    (D1 : Drw prog w A C S i1 xs St1) (D2 : Drw prog w A C S i2 ys St2) (lv : Live S s.heap)
    (hz : IsZip s.heap z TI TO .none) (hTI : IsPair s.heap TI (.ref i1) (.ref i2)) (hTO : IsPair s.heap TO a b)
    (h1 : St1 k s.heap) (h2 : St2 k s.heap) (hx : xs[k]? = some x) (hy : ys[k]? = some y)
    (hQ : ∀ h' tk a b, IsZip h' z TI TO (rawInt s.heap.objs.size) → IsPair h' TO a b → St1 (k + 1) h' → St2 (k + 1) h' → IsPair h' s.heap.objs.size a b → Rep C h' S x a → Rep C h' S y b →
      But [z, TO, i1, i2] s.heap h' → Q (.ref s.heap.objs.size) { s with heap := h', toks := tk }) :
    wpAny (model prog w) A (Builtin.«zip.__next__» ⟨[.ref z], []⟩) (fun fin s' => ∃ v, fin = .done (.ret v) ∧ Q v s') E s := by
  have e4 : ∀ {c o} {h h' : Heap}, Heap.SameBut c h h' → ∀ b, b ≠ c → h.get? b = some o → h'.get? b = some o := fun hs b hb q => hs.extBut b _ hb q
  have inS : ∀ {c : Addr}, c ∈ S → ∀ b, b ∉ S → b ≠ c := fun hc b hb q => hb (q ▸ hc)
  show wpAny _ _ (field (.ref z) 2 >>= _) _ _ _
  refine wpAny_bind (wpAny_field hz rfl (x := .bool false) rfl ?_)
  show wpAny _ _ (field (.ref z) 3 >>= _) _ _ _
  refine wpAny_bind (wpAny_field hz rfl (x := .ref TI) rfl ?_)
  refine wpAny_bind (wpAny_seqItems hTI rfl ?_)
  show wpAny _ _ (Builtin.SmallTypes.ownedTupleIsFree (.ref z) >>= _) _ _ _
  refine wpAny_bind ?_
  unfold Builtin.SmallTypes.ownedTupleIsFree
  refine wpAny_bind (wpAny_field hz rfl (x := .none) rfl (wpAny_pure ?_))
  simp only [if_true]
  refine wpAny_bind (wpAny_rule ?_)
  refine wpAny_bind (wpAny_field hz rfl (x := .ref TO) rfl ?_)
  refine wpAny_bind (wpAny_setField_rec hz (by simp) fun h₁ hz₁ hs₁ => ?_)
  replace hz₁ : IsZip h₁ z TI TO .ellipsis := hz₁
  refine wpAny_bind ?_
  simp only [List.zipIdx_cons, List.zipIdx_nil, List.forIn_cons, List.forIn_nil]
  refine wpAny_bind (wpAny_bind (wpAny_onRaise ?_))
  show wpAny _ _ (Builtin.SmallTypes.nextOf (.ref i1) >>= _) _ _ _
  have s1₁ : St1 k h₁ := D1.frame _ _ _ h1 fun b o hb q => hs₁.extBut b o (by rcases hb with rfl | hb; exact D.i1z; exact inS D.zS b hb) q
  have s2₁ : St2 k h₁ := D2.frame _ _ _ h2 fun b o hb q => hs₁.extBut b o (by rcases hb with rfl | hb; exact D.i2z; exact inS D.zS b hb) q
  refine wpAny_bind (D1.item _ _ _ _ _ hx s1₁ fun a' h₂ tk₂ ra s1₂ hs₂ => wpAny_pure ?_)
  replace hs₂ : Heap.SameBut i1 h₁ h₂ := hs₂
  have hTO₂ : IsPair h₂ TO a b := hs₂.extBut _ _ D.TOi1 (hs₁.extBut _ _ D.TOz hTO)
  have s2₂ : St2 k h₂ := D2.frame _ _ _ s2₁ fun b o hb q => hs₂.extBut b o (by rcases hb with rfl | hb; exact D.i12.symm; exact inS D.i1S b hb) q
  refine wpAny_bind (wpAny_seqItems hTO₂ rfl ?_)
  refine wpAny_bind (wpAny_updateSeq_pair hTO₂ fun h₃ hTO₃ hs₃ => ?_)
  replace hs₃ : Heap.SameBut TO h₂ h₃ := hs₃
  replace hTO₃ : IsPair h₃ TO a' b := hTO₃
  have s1₃ : St1 (k + 1) h₃ := D1.frame _ _ _ s1₂ fun b o hb q => hs₃.extBut b o (by rcases hb with rfl | hb; exact D.TOi1.symm; exact inS D.TOS b hb) q
  have s2₃ : St2 k h₃ := D2.frame _ _ _ s2₂ fun b o hb q => hs₃.extBut b o (by rcases hb with rfl | hb; exact D.TOi2.symm; exact inS D.TOS b hb) q
  have ra₃ : Rep C h₃ S x a' := ra.ext fun b o hb q => hs₃.extBut b o (inS D.TOS b hb) q
  refine wpAny_bind (wpAny_letGo (wpAny_pure ?_))
  refine wpAny_bind (wpAny_bind (wpAny_onRaise ?_))
  show wpAny _ _ (Builtin.SmallTypes.nextOf (.ref i2) >>= _) _ _ _
  refine wpAny_bind (D2.item _ _ _ _ _ hy s2₃ fun b' h₄ tk₄ rb s2₄ hs₄ => wpAny_pure ?_)
  replace hs₄ : Heap.SameBut i2 h₃ h₄ := hs₄
  have s1₄ : St1 (k + 1) h₄ := D1.frame _ _ _ s1₃ fun b o hb q => hs₄.extBut b o (by rcases hb with rfl | hb; exact D.i12; exact inS D.i2S b hb) q
  have ra₄ : Rep C h₄ S x a' := ra₃.ext fun b o hb q => hs₄.extBut b o (inS D.i2S b hb) q
  have hTO₄ : IsPair h₄ TO a' b := hs₄.extBut _ _ D.TOi2 hTO₃
  refine wpAny_bind (wpAny_seqItems hTO₄ rfl ?_)
  refine wpAny_bind (wpAny_updateSeq_pair hTO₄ fun h₅ hTO₅ hs₅ => ?_)
  replace hs₅ : Heap.SameBut TO h₄ h₅ := hs₅
  replace hTO₅ : IsPair h₅ TO a' b' := hTO₅
  have s1₅ : St1 (k + 1) h₅ := D1.frame _ _ _ s1₄ fun b o hb q => hs₅.extBut b o (by rcases hb with rfl | hb; exact D.TOi1.symm; exact inS D.TOS b hb) q
  have s2₅ : St2 (k + 1) h₅ := D2.frame _ _ _ s2₄ fun b o hb q => hs₅.extBut b o (by rcases hb with rfl | hb; exact D.TOi2.symm; exact inS D.TOS b hb) q
  have ra₅ : Rep C h₅ S x a' := ra₄.ext fun b o hb q => hs₅.extBut b o (inS D.TOS b hb) q
  have rb₅ : Rep C h₅ S y b' := rb.ext fun b o hb q => hs₅.extBut b o (inS D.TOS b hb) q
  refine wpAny_bind (wpAny_letGo (wpAny_pure (wpAny_pure ?_)))
  refine wpAny_bind (wpAny_seqItems hTO₅ rfl ?_)
  refine wpAny_bind (wpAny_newTuple ?_)
  have hsz : h₅.objs.size = s.heap.objs.size := by rw [hs₅.1, hs₄.1, hs₃.1, hs₂.1, hs₁.1]
  have hz₅ : IsZip h₅ z TI TO .ellipsis := hs₅.extBut _ _ D.TOz.symm (hs₄.extBut _ _ D.i2z.symm (hs₃.extBut _ _ D.TOz.symm (hs₂.extBut _ _ D.i1z.symm hz₁)))
  have hk₅ : But [z, TO, i1, i2] s.heap h₅ := fun c o hc e => by
    simp only [List.mem_cons, List.not_mem_nil, or_false, not_or] at hc
    exact hs₅.extBut _ _ hc.2.1 (hs₄.extBut _ _ hc.2.2.2 (hs₃.extBut _ _ hc.2.1 (hs₂.extBut _ _ hc.2.2.1 (hs₁.extBut _ _ hc.1 e))))
  have hzlt : z < h₅.objs.size := Heap.lt_size hz₅
  show wpAny _ _ (Builtin.SmallTypes.ownedTupleHandOut (.ref z) (.ref h₅.objs.size) >>= _) _ _ _
  refine wpAny_bind ?_
  unfold Builtin.SmallTypes.ownedTupleHandOut
  have hz₆ : IsZip (h₅.push { cls := .type "tuple", data := .seq #[a', b'] }) z TI TO .ellipsis := Heap.get?_push_of_some _ hz₅
  refine wpAny_bind (wpAny_setField_rec hz₆ (by simp) fun h₇ hz₇ hs₇ => ?_)
  replace hs₇ : Heap.SameBut z (h₅.push { cls := .type "tuple", data := .seq #[a', b'] }) h₇ := hs₇
  replace hz₇ : IsZip h₇ z TI TO (rawInt h₅.objs.size) := hz₇
  refine wpAny_setField_rec hz₇ (by simp) fun h₈ hz₈ hs₈ => ?_
  replace hs₈ : Heap.SameBut z h₇ h₈ := hs₈
  replace hz₈ : IsZip h₈ z TI TO (rawInt h₅.objs.size) := hz₈
  have up : ∀ c o, c ≠ z → h₅.get? c = some o → h₈.get? c = some o := fun c o c1 e => hs₈.extBut _ _ c1 (hs₇.extBut _ _ c1 (Heap.get?_push_of_some _ e))
  have upS : Ext S h₅ h₈ := fun c o hc e => up c o (inS D.zS c hc) e
  have hT₈ : IsPair h₈ h₅.objs.size a' b' := hs₈.extBut _ _ (Nat.ne_of_gt hzlt) (hs₇.extBut _ _ (Nat.ne_of_gt hzlt) (Heap.get?_push_size _ rfl))
  have s1₈ : St1 (k + 1) h₈ := D1.frame _ _ _ s1₅ fun b o hb q => up b o (by rcases hb with rfl | hb; exact D.i1z; exact inS D.zS b hb) q
  have s2₈ : St2 (k + 1) h₈ := D2.frame _ _ _ s2₅ fun b o hb q => up b o (by rcases hb with rfl | hb; exact D.i2z; exact inS D.zS b hb) q
  rw [hsz] at hz₈ hT₈
  refine wpAny_pure ⟨_, rfl, ?_⟩
  show Q (.ref h₅.objs.size) _
  rw [hsz]
  exact hQ h₈ _ a' b' hz₈ (up _ _ D.TOz hTO₅) s1₈ s2₈ hT₈ (ra₅.ext upS) (rb₅.ext upS) fun c o hc e => up c o (fun q => hc (by simp [q])) (hk₅ c o hc e)

theorem zip_end {z TI TO i1 i2 : Addr} {k : Nat} {xs ys : List D} {a b : Value} {St1 St2 : Nat → Heap → Prop} {Q : Fin → Shared → Prop} (D : ZA S z TI TO i1 i2)
    (D1 : Drw prog w A C S i1 xs St1) (D2 : Drw prog w A C S i2 ys St2)
    (hz : IsZip s.heap z TI TO .none) (hTI : IsPair s.heap TI (.ref i1) (.ref i2)) (hTO : IsPair s.heap TO a b)
    (h1 : St1 k s.heap) (h2 : St2 k s.heap) (hend : xs.length = k ∨ (k < xs.length ∧ ys.length = k))
    (hE : ∀ h' e tk, But [z, TO, i1, i2] s.heap h' → (∃ o, h'.get? e = some o ∧ o.cls = .type "StopIteration") → E (.ref e) { s with heap := h', toks := tk }) :
    wpAny (model prog w) A (Builtin.«zip.__next__» ⟨[.ref z], []⟩) Q E s := by
  have inS : ∀ {c : Addr}, c ∈ S → ∀ b, b ∉ S → b ≠ c := fun hc b hb q => hb (q ▸ hc)
  show wpAny _ _ (field (.ref z) 2 >>= _) _ _ _
  refine wpAny_bind (wpAny_field hz rfl (x := .bool false) rfl ?_)
  show wpAny _ _ (field (.ref z) 3 >>= _) _ _ _
  refine wpAny_bind (wpAny_field hz rfl (x := .ref TI) rfl ?_)
  refine wpAny_bind (wpAny_seqItems hTI rfl ?_)
  show wpAny _ _ (Builtin.SmallTypes.ownedTupleIsFree (.ref z) >>= _) _ _ _
  refine wpAny_bind ?_
  unfold Builtin.SmallTypes.ownedTupleIsFree
  refine wpAny_bind (wpAny_field hz rfl (x := .none) rfl (wpAny_pure ?_))
  simp only [if_true]
  refine wpAny_bind (wpAny_rule ?_)
  refine wpAny_bind (wpAny_field hz rfl (x := .ref TO) rfl ?_)
  refine wpAny_bind (wpAny_setField_rec hz (by simp) fun h₁ hz₁ hs₁ => ?_)
  replace hz₁ : IsZip h₁ z TI TO .ellipsis := hz₁
  refine wpAny_bind ?_
  simp only [List.zipIdx_cons, List.zipIdx_nil, List.forIn_cons, List.forIn_nil]
  refine wpAny_bind (wpAny_bind (wpAny_onRaise ?_))
  show wpAny _ _ (Builtin.SmallTypes.nextOf (.ref i1) >>= _) _ _ _
  have s1₁ : St1 k h₁ := D1.frame _ _ _ h1 fun b o hb q => hs₁.extBut b o (by rcases hb with rfl | hb; exact D.i1z; exact inS D.zS b hb) q
  have s2₁ : St2 k h₁ := D2.frame _ _ _ h2 fun b o hb q => hs₁.extBut b o (by rcases hb with rfl | hb; exact D.i2z; exact inS D.zS b hb) q
  have nm : ∀ {c : Addr}, c ∉ [z, TO, i1, i2] → c ≠ z ∧ c ≠ TO ∧ c ≠ i1 ∧ c ≠ i2 := fun hc => by simpa using hc
  rcases hend with rfl | ⟨hlt, rfl⟩
  · refine wpAny_bind (D1.done _ _ _ s1₁ fun h₂ e hs₂ he => ?_)
    replace hs₂ : Heap.ExtBut i1 h₁ h₂ := hs₂
    obtain ⟨oe, hoe, hce⟩ := he
    have hz₂ : IsZip h₂ z TI TO .ellipsis := hs₂ _ _ D.i1z.symm hz₁
    have hez : e ≠ z := fun x => by subst x; rw [hz₂] at hoe; cases hoe; simp at hce
    refine wpAny_setField_rec hz₂ (by simp) fun h₃ _ hs₃ => hE h₃ e _ (fun c o hc x => hs₃.extBut _ _ (nm hc).1 (hs₂ _ _ (nm hc).2.2.1 (hs₁.extBut _ _ (nm hc).1 x))) ⟨oe, hs₃.extBut _ _ hez hoe, hce⟩
  · refine wpAny_bind (D1.item _ _ _ _ _ (List.getElem?_eq_getElem hlt) s1₁ fun a' h₂ tk₂ ra s1₂ hs₂ => wpAny_pure ?_)
    replace hs₂ : Heap.SameBut i1 h₁ h₂ := hs₂
    have hTO₂ : IsPair h₂ TO a b := hs₂.extBut _ _ D.TOi1 (hs₁.extBut _ _ D.TOz hTO)
    have s2₂ : St2 ys.length h₂ := D2.frame _ _ _ s2₁ fun b o hb q => hs₂.extBut b o (by rcases hb with rfl | hb; exact D.i12.symm; exact inS D.i1S b hb) q
    refine wpAny_bind (wpAny_seqItems hTO₂ rfl ?_)
    refine wpAny_bind (wpAny_updateSeq_pair hTO₂ fun h₃ hTO₃ hs₃ => ?_)
    replace hs₃ : Heap.SameBut TO h₂ h₃ := hs₃
    have s2₃ : St2 ys.length h₃ := D2.frame _ _ _ s2₂ fun b o hb q => hs₃.extBut b o (by rcases hb with rfl | hb; exact D.TOi2.symm; exact inS D.TOS b hb) q
    refine wpAny_bind (wpAny_letGo (wpAny_pure ?_))
    refine wpAny_bind (wpAny_bind (wpAny_onRaise ?_))
    show wpAny _ _ (Builtin.SmallTypes.nextOf (.ref i2) >>= _) _ _ _
    refine wpAny_bind (D2.done _ _ _ s2₃ fun h₄ e hs₄ he => ?_)
    replace hs₄ : Heap.ExtBut i2 h₃ h₄ := hs₄
    obtain ⟨oe, hoe, hce⟩ := he
    have hz₄ : IsZip h₄ z TI TO .ellipsis := hs₄ _ _ D.i2z.symm (hs₃.extBut _ _ D.TOz.symm (hs₂.extBut _ _ D.i1z.symm hz₁))
    have hez : e ≠ z := fun x => by subst x; rw [hz₄] at hoe; cases hoe; simp at hce
    refine wpAny_setField_rec hz₄ (by simp) fun h₅ _ hs₅ => hE h₅ e _ (fun c o hc x => hs₅.extBut _ _ (nm hc).1 (hs₄ _ _ (nm hc).2.2.2 (hs₃.extBut _ _ (nm hc).2.1 (hs₂.extBut _ _ (nm hc).2.2.1 (hs₁.extBut _ _ (nm hc).1 x))))) ⟨oe, hs₅.extBut _ _ hez hoe, hce⟩
end

section
variable {prog : Program} {w : World} {A : Around} {C : Addr} {S : List Addr}
theorem zipD_get : ∀ {xs ys : List D} {i : Nat} {d : D}, (zipD xs ys)[i]? = some d → ∃ a b, xs[i]? = some a ∧ ys[i]? = some b ∧ d = .tuple [a, b]
  | [], _, _, _, h => by simp [zipD] at h
  | _ :: _, [], _, _, h => by simp [zipD] at h
  | a :: xs, b :: ys, 0, d, h => by simp [zipD] at h; exact ⟨a, b, rfl, rfl, h.symm⟩
  | a :: xs, b :: ys, i + 1, d, h => by
    simp only [zipD, List.getElem?_cons_succ] at h
    obtain ⟨p, q, h1, h2, h3⟩ := zipD_get h
    exact ⟨p, q, by simpa using h1, by simpa using h2, h3⟩
theorem zipD_len : ∀ (xs ys : List D), (zipD xs ys).length = min xs.length ys.length
  | [], _ => by simp [zipD]
  | _ :: _, [] => by simp [zipD]
  | a :: xs, b :: ys => by simp only [zipD, List.length_cons, zipD_len xs ys]; omega

theorem itr_zip {z TI TO i1 i2 : Addr} {xs ys : List D} {St1 St2 : Nat → Heap → Prop} (D : ZA S z TI TO i1 i2)
    (D1 : Drw prog w A.in1 C S i1 xs St1) (D2 : Drw prog w A.in1 C S i2 ys St2) :
    Itr prog w A C S z [z, TO, i1, i2] true (zipD xs ys)
      (fun i h => IsZip h z TI TO .none ∧ IsPair h TI (.ref i1) (.ref i2) ∧ (∃ a b, IsPair h TO a b) ∧ St1 i h ∧ St2 i h)
      (fun i v h => ∃ T, v = .ref T ∧ IsZip h z TI TO (rawInt T) ∧ IsPair h TI (.ref i1) (.ref i2) ∧ (∃ a b, IsPair h TO a b) ∧ St1 (i + 1) h ∧ St2 (i + 1) h) := by
  have inS : ∀ {c : Addr}, c ∈ S → ∀ b, b ∉ S → b ≠ c := fun hc b hb q => hb (q ▸ hc)
  have wrS : ∀ b ∈ [z, TO, i1, i2], b ∈ S := fun b hb => by
    simp only [List.mem_cons, List.not_mem_nil, or_false] at hb
    rcases hb with rfl | rfl | rfl | rfl
    · exact D.zS
    · exact D.TOS
    · exact D.i1S
    · exact D.i2S
  have TIw : TI ∉ [z, TO, i1, i2] := fun m => D.TIS (wrS _ m)
  exact {
    sub := wrS
    live := fun i h st b hb => by
      obtain ⟨q1, _, ⟨x, y, q2⟩, q3, q4⟩ := st
      simp only [List.mem_cons, List.not_mem_nil, or_false] at hb
      rcases hb with rfl | rfl | rfl | rfl
      · exact ⟨_, q1⟩
      · exact ⟨_, q2⟩
      · exact D1.live _ _ q3
      · exact D2.live _ _ q4
    frame := fun i h h' st hk => ⟨hk _ _ (.inl (by simp)) st.1, hk _ _ (.inr D.TIS) st.2.1, (let ⟨a, b, q⟩ := st.2.2.1; ⟨a, b, hk _ _ (.inl (by simp)) q⟩),
      D1.frame _ _ _ st.2.2.2.1 fun b o hb q => hk b o (by rcases hb with rfl | hb; exact .inl (by simp); exact .inr hb) q,
      D2.frame _ _ _ st.2.2.2.2 fun b o hb q => hk b o (by rcases hb with rfl | hb; exact .inl (by simp); exact .inr hb) q⟩
    item := fun i d s Q E hd lv st hQ => by
      obtain ⟨x, y, hx, hy, rfl⟩ := zipD_get hd
      obtain ⟨hz, hTI, ⟨a, b, hTO⟩, h1, h2⟩ := st
      have hT : s.TypeIs (.ref z) "zip" := ⟨_, hz, rfl⟩
      unfold pyNext
      refine wpAny_bind (wpAny_attempt (wpAny_callSpecial?_slot (name := Str.ofString "__next__") hT F.slot_zip_next
        (wpAny_call_entry F.slot_zip_next hT F.entry_zip_next
          (zip_item D D1 D2 lv hz hTI hTO h1 h2 hx hy fun h' tk a' b' a1 a2 a3 a4 a5 ra rb hk => wpAny_pure ?_) (F.args_zip_next_1 _))))
      refine hQ _ h' tk ⟨_, [a', b'], rfl, lv.fresh (get_size _), ⟨_, a5, rfl, _, rfl⟩, _, _, rfl, ra, _, _, rfl, rb, rfl⟩
        ⟨_, rfl, a1, hk _ _ TIw hTI, ⟨_, _, a2⟩, a3, a4⟩ hk
    go := fun t i d v s Q E hd h1 _ hs rv hm hQ => by
      obtain ⟨T, rfl, hz, hTI, ⟨a, b, hTO⟩, s1, s2⟩ := hm
      rcases hs with ⟨x, p, rfl⟩ | ⟨es, k, p, rfl⟩
      · exact absurd (h1 rfl) (fun q => Bool.noConfusion (show false = true from q))
      · refine wpAny_letOwnedTupleGo_zip hz fun h' hz' hs' => hQ h' ⟨hz', hs'.extBut _ _ (inS D.zS _ D.TIS) hTI, ⟨a, b, hs'.extBut _ _ D.TOz hTO⟩,
          D1.frame _ _ _ s1 fun b o hb q => hs'.extBut b o (by rcases hb with rfl | hb; exact D.i1z; exact inS D.zS b hb) q,
          D2.frame _ _ _ s2 fun b o hb q => hs'.extBut b o (by rcases hb with rfl | hb; exact D.i2z; exact inS D.zS b hb) q⟩
          fun c o hc q => hs'.extBut _ _ (fun x => hc (by simp [x])) q
    done := fun s Q E st hQ => by
      obtain ⟨hz, hTI, ⟨a, b, hTO⟩, h1, h2⟩ := st
      have hT : s.TypeIs (.ref z) "zip" := ⟨_, hz, rfl⟩
      unfold pyNext
      refine wpAny_bind (wpAny_attempt (wpAny_callSpecial?_slot (name := Str.ofString "__next__") hT F.slot_zip_next
        (wpAny_call_entry F.slot_zip_next hT F.entry_zip_next
          (zip_end D D1 D2 hz hTI hTO h1 h2 (by rw [zipD_len]; omega) fun h' e tk hk he => ?_) (F.args_zip_next_1 _))))
      obtain ⟨o, ho, hc⟩ := he
      refine wpAny_bind (wpAny_isInstance (T := "StopIteration") (b := true) ⟨o, ho, hc⟩ isSubtype_stop ?_)
      exact wpAny_pure (hQ h' tk hk)
    self := fun i s Q E st hQ => wpAny_pyIter_zip st.1 hQ }
end
end Mine

set_option maxRecDepth 10000
set_option genInjectivity false
set_option genSizeOf false
set_option genSizeOfSpec false
namespace Mine

structure Vw (C : Addr) (h : Heap) (S : List Addr) (env : Env) (ρ : Rho) : Prop where
  kind : env.scope.kind = .function
  gl : env.globals = mainGlobals
  bl : env.builtins = builtinsNs
  ns : ∃ m, h.Ns env.locals m ∧ ∀ x d, ρ x = some d → env.kindOf x = some .local → ∃ v, m x = some v ∧ Rep C h S d v
  cell : ∀ x, env.kindOf x = some .cell → ∃ c ov, env.cells.lookup x = some c ∧ h.IsCell c ov ∧ ∀ d, ρ x = some d → ∃ v, ov = some v ∧ Rep C h S d v
  only : ∀ x d, ρ x = some d → env.kindOf x = some .local ∨ env.kindOf x = some .cell
  inj : ∀ x y c, env.cells.lookup x = some c → env.cells.lookup y = some c → x = y

structure Own (sc : Scope) (own : List Addr) (env : Env) : Prop where
  loc : env.locals ∈ own
  mem : ∀ a ∈ own, a = env.locals ∨ ∃ x, sc.names.lookup x = some .cell ∧ env.cells.lookup x = some a
  kinds : ∀ x k, sc.names.lookup x = some k → (k = .local ∨ k = .cell) → env.kindOf x = some k
  cel : ∀ x, sc.names.lookup x = some .cell → ∃ c, env.cells.lookup x = some c ∧ c ∈ own
  apart : ∀ x c, env.cells.lookup x = some c → c ≠ env.locals
  inj : ∀ x y c, env.cells.lookup x = some c → env.cells.lookup y = some c → x = y

section
variable {C : Addr} {h h' : Heap} {S S' own : List Addr} {env : Env} {ρ ρ' : Rho} {sc : Scope}

theorem Vw.keeps (V : Vw C h S env ρ) (e : Ext0 h h') : Vw C h' S env ρ where
  kind := V.kind
  gl := V.gl
  bl := V.bl
  ns := let ⟨m, n, q⟩ := V.ns; ⟨m, n.keeps e, fun x d hx hk => let ⟨v, a, b⟩ := q x d hx hk; ⟨v, a, b.keeps e⟩⟩
  cell := fun x hx => let ⟨c, ov, a, b, q⟩ := V.cell x hx; ⟨c, ov, a, b.keeps e, fun d hd => let ⟨v, x, y⟩ := q d hd; ⟨v, x, y.keeps e⟩⟩
  only := V.only
  inj := V.inj
theorem Vw.weak (V : Vw C h S env ρ) (e : ∀ a ∈ S', a ∈ S ∨ h.get? a = none) : Vw C h S' env ρ where
  kind := V.kind
  gl := V.gl
  bl := V.bl
  ns := let ⟨m, n, q⟩ := V.ns; ⟨m, n, fun x d hx hk => let ⟨v, a, b⟩ := q x d hx hk; ⟨v, a, b.weak e⟩⟩
  cell := fun x hx => let ⟨c, ov, a, b, q⟩ := V.cell x hx; ⟨c, ov, a, b, fun d hd => let ⟨v, x, y⟩ := q d hd; ⟨v, x, y.weak e⟩⟩
  only := V.only
  inj := V.inj
theorem Vw.mono (V : Vw C h S env ρ') (e : ∀ x d, ρ x = some d → ρ' x = some d) : Vw C h S env ρ where
  kind := V.kind
  gl := V.gl
  bl := V.bl
  ns := let ⟨m, n, q⟩ := V.ns; ⟨m, n, fun x d hx hk => q x d (e _ _ hx) hk⟩
  cell := fun x hx => let ⟨c, ov, a, b, q⟩ := V.cell x hx; ⟨c, ov, a, b, fun d hd => q d (e _ _ hd)⟩
  only := fun x d hx => V.only x d (e _ _ hx)
  inj := V.inj
/-- a change within S, away from the frame's own places -/
theorem Vw.but {wr : List Addr} (V : Vw C h S env ρ) (b : But wr h h') (hw : ∀ a ∈ wr, a ∈ S) (hl : env.locals ∉ wr) (hc : ∀ x c, env.kindOf x = some .cell → env.cells.lookup x = some c → c ∉ wr) : Vw C h' S env ρ where
  kind := V.kind
  gl := V.gl
  bl := V.bl
  ns := let ⟨m, n, q⟩ := V.ns; ⟨m, n.at' fun o e => b _ o hl e, fun x d hx hk => let ⟨v, p, r⟩ := q x d hx hk; ⟨v, p, r.ext fun a o ha e => b a o (fun m => ha (hw a m)) e⟩⟩
  cell := fun x hx => let ⟨c, ov, p, ⟨o, ho, hd⟩, q⟩ := V.cell x hx; ⟨c, ov, p, ⟨o, b _ _ (hc x c hx p) ho, hd⟩, fun d hd => let ⟨v, x, y⟩ := q d hd; ⟨v, x, y.ext fun a o ha e => b a o (fun m => ha (hw a m)) e⟩⟩
  only := V.only
  inj := V.inj

theorem Vw.ownLive (V : Vw C h S env ρ) (O : Own sc own env) : Live own h := fun a ha => by
  rcases O.mem a ha with rfl | ⟨x, hx, hc⟩
  · obtain ⟨m, ⟨o, _, _, ho, _⟩, _⟩ := V.ns; exact ⟨o, ho⟩
  · obtain ⟨c, ov, hc', ⟨o, ho, _⟩, _⟩ := V.cell x (O.kinds x _ hx (.inr rfl))
    rw [hc] at hc'; cases hc'
    exact ⟨o, ho⟩
theorem Vw.setL (V : Vw C h S env ρ) (O : Own sc own env) (ho : ∀ a ∈ own, a ∈ S) {x : Str} {d : D} {v : Value} (hk : env.kindOf x = some .local) (r : Rep C h S d v) {m : Str → Option Value} (hm : h.Ns env.locals m)
    (hn : h'.Ns env.locals (fun y => if y = x then some v else m y)) (hs : Heap.SameBut env.locals h h') : Vw C h' S env (upd ρ x d) := by
  have e : Ext S h h' := fun b o hb q => hs.extBut b o (fun c => hb (c ▸ ho _ O.loc)) q
  obtain ⟨m₀, n₀, q₀⟩ := V.ns
  have mm : ∀ y, m₀ y = m y := fun y => by
    obtain ⟨o, es, ep, a1, a2, a3, a4⟩ := n₀
    obtain ⟨o', es', ep', b1, b2, b3, b4⟩ := hm
    rw [a1] at b1; cases b1
    rw [a2] at b2; cases b2
    rw [← a4, ← b4]
  refine ⟨V.kind, V.gl, V.bl, ⟨_, hn, fun y d' hy hky => ?_⟩, fun y hy => ?_, fun y d' hy => ?_, V.inj⟩
  · unfold upd at hy
    split at hy
    · rename_i e1; cases hy; exact ⟨v, by simp [e1], r.ext e⟩
    · rename_i e1
      obtain ⟨u, a, b⟩ := q₀ y d' hy hky
      exact ⟨u, by simp [e1, ← mm, a], b.ext e⟩
  · obtain ⟨c, ov, a, b, q⟩ := V.cell y hy
    refine ⟨c, ov, a, b.sameBut hs (O.apart y c a), fun d' hd' => ?_⟩
    unfold upd at hd'
    split at hd'
    · rename_i e1; subst e1; rw [hk] at hy; cases hy
    · obtain ⟨u, a', b'⟩ := q d' hd'; exact ⟨u, a', b'.ext e⟩
  · unfold upd at hy
    split at hy
    · rename_i e1; subst e1; exact .inl hk
    · exact V.only y d' hy

theorem Vw.setC (V : Vw C h S env ρ) (O : Own sc own env) {x : Str} {d : D} {v : Value} {c : Addr} (hk : env.kindOf x = some .cell) (r : Rep C h S d v) (hc : env.cells.lookup x = some c) (hcS : c ∈ S)
    (hn : h'.IsCell c (some v)) (hs : Heap.SameBut c h h') : Vw C h' S env (upd ρ x d) := by
  have e : Ext S h h' := fun b o hb q => hs.extBut b o (fun c => hb (c ▸ hcS)) q
  obtain ⟨m₀, n₀, q₀⟩ := V.ns
  refine ⟨V.kind, V.gl, V.bl, ⟨_, n₀.sameBut hs (O.apart x c hc).symm, fun y d' hy hky => ?_⟩, fun y hy => ?_, fun y d' hy => ?_, V.inj⟩
  · unfold upd at hy
    split at hy
    · rename_i e1; subst e1; rw [hk] at hky; cases hky
    · obtain ⟨u, a, b⟩ := q₀ y d' hy hky
      exact ⟨u, a, b.ext e⟩
  · by_cases e1 : y = x
    · subst e1
      exact ⟨c, some v, hc, hn, fun d' hd' => by unfold upd at hd'; rw [if_pos rfl] at hd'; cases hd'; exact ⟨v, rfl, r.ext e⟩⟩
    · obtain ⟨c', ov, a, b, q⟩ := V.cell y hy
      refine ⟨c', ov, a, b.sameBut hs (fun e2 => e1 (by subst e2; exact O.inj y x c' a hc)), fun d' hd' => ?_⟩
      unfold upd at hd'
      rw [if_neg e1] at hd'
      obtain ⟨u, a', b'⟩ := q d' hd'; exact ⟨u, a', b'.ext e⟩
  · unfold upd at hy
    split at hy
    · rename_i e1; subst e1; exact .inr hk
    · exact V.only y d' hy
end

section
variable {prog : Program} {w : World} {A : Around} {E : Value → Shared → Prop} {s : Shared} {C : Addr} {S own : List Addr} {env : Env} {ρ : Rho} {sc : Scope}

theorem kind_ok (hk : env.scope.kind = .function) : (env.scope.kind == .class || (env.scope.kind == .module && env.locals != env.globals)) = false := by rw [hk]; rfl

theorem store_sound {x : Str} {d : D} {v : Value} {Q : Unit → Shared → Prop} (O : Own sc own env) (ho : ∀ a ∈ own, a ∈ S) (V : Vw C s.heap S env ρ) (r : Rep C s.heap S d v) (hx : tgtOk sc x = true)
    (hQ : ∀ h' tk, Vw C h' S env (upd ρ x d) → But own s.heap h' → Q () { s with heap := h', toks := tk }) : wpAny (model prog w) A (storeName env x v) Q E s := by
  unfold tgtOk at hx
  rw [Bool.or_eq_true, beq_iff_eq, beq_iff_eq] at hx
  rcases hx with hx | hx
  · have hk := O.kinds x _ hx (.inl rfl)
    obtain ⟨m, n, q⟩ := id V.ns
    exact wpAny_storeName_local hk n (fun h' hn hs => hQ h' _ (V.setL O ho hk r n hn hs) fun b o hb e => hs.extBut b o (fun c => hb (c ▸ O.loc)) e) (kind_ok V.kind)
  · have hk := O.kinds x _ hx (.inr rfl)
    obtain ⟨c, hc, hco⟩ := O.cel x hx
    obtain ⟨c', ov, hc', hov, _⟩ := V.cell x hk
    rw [hc] at hc'; cases hc'
    exact wpAny_storeName_cell V.kind hk hc hov fun h' hn hs => hQ h' _ (V.setC O hk r hc (ho c hco) hn hs) fun b o hb e => hs.extBut b o (fun q => hb (q ▸ hco)) e

theorem bind_sound {t : Expr} {ρ' : Rho} {d : D} {v : Value} {Q : Unit → Shared → Prop} (hh : A.handled = none) (O : Own sc own env) (ho : ∀ a ∈ own, a ∈ S) (h : bindT sc ρ t d = some ρ') (V : Vw C s.heap S env ρ)
    (r : Rep C s.heap S d v) (hQ : ∀ h' tk, Vw C h' S env ρ' → But own s.heap h' → Q () { s with heap := h', toks := tk }) : wpAny (model prog w) A (assign t env v) Q E s := by
  rcases bindT_inv h with ⟨x, p, rfl, hx, rfl⟩ | ⟨x, px, y, py, k, p, a, b, rfl, rfl, hx1, hx2, rfl⟩
  · exact wpAny_assign_Name (store_sound O ho V r hx hQ)
  · obtain ⟨T, vs, rfl, hT, ht, va, r1, rfl, ra, vb, r2, rfl, rb, rfl⟩ := r
    refine wpAny_assign_Tuple hh ht rfl rfl fun h' hx => ?_
    have hx0 : Ext0 s.heap h' := fun b o e => hx b o (Nat.ne_of_lt (Heap.lt_size e)) e
    have V1 := V.keeps hx0
    show wpAny _ _ (holding [vb] (assign (.Name x px) env va) >>= fun _ => assignInOrder [assign (.Name y py) env] [vb]) _ _ _
    refine wpAny_bind (wpAny_holding (wpAny_assign_Name (store_sound O ho V1 (ra.keeps hx0) hx1 fun h₁ tk₁ V₁ b₁ => ?_)))
    show wpAny _ _ (holding [] (assign (.Name y py) env vb) >>= fun _ => assignInOrder [] []) _ _ _
    refine wpAny_bind (wpAny_holding (wpAny_assign_Name (store_sound O ho V₁ ((rb.keeps hx0).ext fun c o hc e => b₁ c o (fun m => hc (ho c m)) e) hx2 fun h₂ tk₂ V₂ b₂ => ?_)))
    exact wpAny_pure (hQ h₂ tk₂ V₂ fun c o hc e => b₂ c o hc (b₁ c o hc (hx0 c o e)))

theorem bindT_mono {t : Expr} {ρ ρ' : Rho} {d : D} (h : bindT sc (freeOf sc ρ) t d = some ρ') : ∀ y e, freeOf sc ρ y = some e → ρ' y = some e := by
  intro y e hy
  have hf : sc.names.lookup y = some .free := by
    unfold freeOf at hy; split at hy
    · assumption
    · cases hy
  have no : ∀ x, tgtOk sc x = true → y ≠ x := fun x hx q => by
    subst q; unfold tgtOk at hx; rw [hf] at hx; exact absurd hx (by decide)
  rcases bindT_inv h with ⟨x, p, rfl, hx, rfl⟩ | ⟨x, px, z, py, k, p, a, b, rfl, rfl, hx1, hx2, rfl⟩
  · unfold upd; rw [if_neg (no _ hx)]; exact hy
  · unfold upd; rw [if_neg (no _ hx2), if_neg (no _ hx1)]; exact hy
theorem bindT_form {t : Expr} {ρ ρ' : Rho} {d : D} (h : bindT sc ρ t d = some ρ') : ((∃ x p, t = .Name x p) ∨ (∃ es k p, t = .Tuple es k p)) ∧ (isTup t = true → ∃ l, d = .tuple l) := by
  rcases bindT_inv h with ⟨x, p, rfl, hx, rfl⟩ | ⟨x, px, z, py, k, p, a, b, rfl, rfl, hx1, hx2, rfl⟩
  · exact ⟨.inl ⟨_, _, rfl⟩, fun q => Bool.noConfusion (show false = true from q)⟩
  · exact ⟨.inr ⟨_, _, _, rfl⟩, fun _ => ⟨_, rfl⟩⟩
end

/-! cells of a comprehension -/
theorem cellsFrom_app : ∀ (names : List (Str × NameKind)) (n : Nat) (acc : List (Str × Addr)), cellsFrom n names acc = cellsFrom n names [] ++ acc
  | [], _, _ => rfl
  | (x, k) :: r, n, acc => by
    unfold cellsFrom
    split
    · rw [cellsFrom_app r (n + 1) ((x, n) :: acc), cellsFrom_app r (n + 1) [(x, n)], List.append_assoc]; rfl
    · exact cellsFrom_app r n acc
theorem cellsFrom_mem : ∀ (names : List (Str × NameKind)) (n : Nat) {x : Str} {c : Addr}, (x, c) ∈ cellsFrom n names [] → (x, NameKind.cell) ∈ names
  | [], _, _, _, h => nomatch h
  | (y, k) :: r, n, x, c, h => by
    unfold cellsFrom at h
    split at h
    · rename_i hk
      rw [cellsFrom_app] at h
      rcases List.mem_append.mp h with h | h
      · exact .tail _ (cellsFrom_mem r _ h)
      · cases List.mem_singleton.mp h; rw [beq_iff_eq.mp hk]; exact .head _
    · exact .tail _ (cellsFrom_mem r _ h)
theorem lookup_app_some {α : Type} {l r : List (Str × α)} {x : Str} {c : α} (h : l.lookup x = some c) : (l ++ r).lookup x = some c := by
  induction l with
  | nil => cases h
  | cons a l ih =>
    obtain ⟨y, b⟩ := a
    rw [List.cons_append, List.lookup_cons]
    rw [List.lookup_cons] at h
    split at h
    · simpa using h
    · simpa using ih h
theorem lookup_app_none {α : Type} {l r : List (Str × α)} {x : Str} (h : l.lookup x = none) : (l ++ r).lookup x = r.lookup x := by
  induction l with
  | nil => rfl
  | cons a l ih =>
    obtain ⟨y, b⟩ := a
    rw [List.cons_append, List.lookup_cons]
    rw [List.lookup_cons] at h
    split at h
    · cases h
    · simpa using ih h
theorem lookup_none_of {α : Type} {l : List (Str × α)} {x : Str} (h : ∀ c, (x, c) ∉ l) : l.lookup x = none := by
  cases q : l.lookup x with
  | none => rfl
  | some c => exact absurd (mem_of_lookup q) (h c)
theorem cellsFrom_has : ∀ (names : List (Str × NameKind)) (n : Nat) {x : Str}, (x, NameKind.cell) ∈ names → ∃ c, (cellsFrom n names []).lookup x = some c
  | (y, k) :: r, n, x, h => by
    unfold cellsFrom
    rcases List.mem_cons.mp h with e | h
    · obtain ⟨e1, e2⟩ := Prod.mk.inj e
      subst e1; subst e2
      rw [if_pos (by rfl), cellsFrom_app]
      cases q : (cellsFrom (n + 1) r []).lookup x with
      | some c => exact ⟨c, lookup_app_some q⟩
      | none => exact ⟨n, by rw [lookup_app_none q]; simp [List.lookup]⟩
    · split
      · rw [cellsFrom_app]
        obtain ⟨c, hc⟩ := cellsFrom_has r (n + 1) h
        exact ⟨c, lookup_app_some hc⟩
      · exact cellsFrom_has r n h
theorem mem_names_of {α : Type} {l : List (Str × α)} {x : Str} {a b : α} (nd : (l.map (·.1)).Nodup) (h1 : (x, a) ∈ l) (h2 : (x, b) ∈ l) : a = b := by
  induction l with
  | nil => cases h1
  | cons p l ih =>
    rw [List.map_cons, List.nodup_cons] at nd
    rcases List.mem_cons.mp h1 with e | m1 <;> rcases List.mem_cons.mp h2 with e' | m2
    · rw [← e'] at e; cases e; rfl
    · exact absurd (List.mem_map.mpr ⟨_, m2, rfl⟩) (by rw [← e] at nd; exact nd.1)
    · exact absurd (List.mem_map.mpr ⟨_, m1, rfl⟩) (by rw [← e'] at nd; exact nd.1)
    · exact ih nd.2 m1 m2
theorem lookup_of_mem {α : Type} {l : List (Str × α)} {x : Str} {a : α} (nd : (l.map (·.1)).Nodup) (h : (x, a) ∈ l) : l.lookup x = some a := by
  cases q : l.lookup x with
  | none =>
    exfalso
    induction l with
    | nil => cases h
    | cons p l ih =>
      obtain ⟨y, b⟩ := p
      rw [List.lookup_cons] at q
      split at q
      · cases q
      · rename_i hne
        rcases List.mem_cons.mp h with e | h
        · cases e; simp at hne
        · exact ih (List.nodup_cons.mp nd).2 h q
  | some b => rw [mem_names_of nd (mem_of_lookup q) h]

noncomputable def closureIs (env : Env) : List (Str × NameKind) → List (Str × Addr) → List (Str × Addr)
  | [], acc => acc
  | (x, k) :: r, acc => if k == .free then (match env.cells.lookup x with | some c => closureIs env r ((x, c) :: acc) | none => closureIs env r acc) else closureIs env r acc
theorem closure_forIn {env : Env} : ∀ (names : List (Str × NameKind)) (acc : List (Str × Addr)) (f : Str × NameKind → List (Str × Addr) → Sem (ForInStep (List (Str × Addr))))
    (_ : ∀ n k cs, f (n, k) cs = if k == .free then (do let c ← cellOf env n; pure (.yield ((n, c) :: cs))) else pure (.yield cs)), (∀ x ∈ names, x.2 = .free → ∃ c, env.cells.lookup x.1 = some c) →
    forIn names acc f = pure (closureIs env names acc)
  | [], acc, f, _, _ => by rw [List.forIn_nil]; rfl
  | (x, k) :: r, acc, f, hf, hx => by
    rw [List.forIn_cons, hf]
    unfold closureIs
    split
    · rename_i hk
      obtain ⟨c, hc⟩ := hx _ (.head _) (beq_iff_eq.mp hk)
      have : cellOf env x = pure c := by unfold cellOf; simp only at hc; rw [hc]
      rw [this, hc]
      exact closure_forIn r _ f hf fun y hy => hx y (.tail _ hy)
    · exact closure_forIn r _ f hf fun y hy => hx y (.tail _ hy)
theorem closure_is {env : Env} {scope : Scope} (hx : ∀ x ∈ scope.names, x.2 = .free → ∃ c, env.cells.lookup x.1 = some c) : closureFor scope env = pure (closureIs env scope.names []) := by
  simp only [closureFor]
  rw [closure_forIn scope.names [] _ (fun n k cs => rfl) hx]
  rfl
theorem closureIs_mem {env : Env} : ∀ (names : List (Str × NameKind)) (acc : List (Str × Addr)) {x : Str} {c : Addr}, (x, c) ∈ closureIs env names acc → (x, c) ∈ acc ∨ (env.cells.lookup x = some c ∧ (x, NameKind.free) ∈ names)
  | [], _, _, _, h => .inl h
  | (y, k) :: r, acc, x, c, h => by
    unfold closureIs at h
    split at h
    · rename_i hk
      split at h
      · rename_i c' hc'
        rcases closureIs_mem r _ h with h | h
        · rcases List.mem_cons.mp h with e | h
          · cases e; exact .inr ⟨hc', by rw [beq_iff_eq.mp hk]; exact .head _⟩
          · exact .inl h
        · exact .inr ⟨h.1, .tail _ h.2⟩
      · exact (closureIs_mem r _ h).imp id fun q => ⟨q.1, .tail _ q.2⟩
    · exact (closureIs_mem r _ h).imp id fun q => ⟨q.1, .tail _ q.2⟩
theorem closureIs_acc {env : Env} : ∀ (names : List (Str × NameKind)) (acc : List (Str × Addr)) {x : Str} {c : Addr}, (x, c) ∈ acc → ∃ c', (x, c') ∈ closureIs env names acc
  | [], _, _, _, h => ⟨_, h⟩
  | (y, k) :: r, acc, x, c, h => by
    unfold closureIs
    split
    · split
      · exact closureIs_acc r _ (.tail _ h)
      · exact closureIs_acc r _ h
    · exact closureIs_acc r _ h
theorem closureIs_has {env : Env} : ∀ (names : List (Str × NameKind)) (acc : List (Str × Addr)) {x : Str} {c : Addr}, (x, NameKind.free) ∈ names → env.cells.lookup x = some c → ∃ c', (x, c') ∈ closureIs env names acc
  | (y, k) :: r, acc, x, c, h, hc => by
    unfold closureIs
    rcases List.mem_cons.mp h with e | h
    · cases e
      rw [if_pos (by rfl), hc]
      exact closureIs_acc r _ (.head _)
    · split
      · split
        · exact closureIs_has r _ h hc
        · exact closureIs_has r _ h hc
      · exact closureIs_has r _ h hc
end Mine

set_option maxRecDepth 10000
set_option genInjectivity false
set_option genSizeOf false
set_option genSizeOfSpec false
namespace Mine

noncomputable def EvOK (prog : Program) (w : World) (C : Addr) (KK : Heap → Prop) (dp : Nat) (f : Ih) : Prop :=
  ∀ sc ρ e d, f sc ρ e = some d → ∀ (env : Env) (S : List Addr) (A : Around) (s : Shared) (Q : Value → Shared → Prop) (E : Value → Shared → Prop),
    env.scope = sc → KK s.heap → Vw C s.heap S env ρ → Live S s.heap → Rm dp A → Gets C S s d Q → wpAny (model prog w) A (eval e env) Q E s
noncomputable def TsOK (prog : Program) (w : World) (C : Addr) (KK : Heap → Prop) (dp : Nat) (f : Scope → Rho → Expr → Option Bool) : Prop :=
  ∀ sc ρ e b, f sc ρ e = some b → ∀ (env : Env) (S : List Addr) (A : Around) (s : Shared) (Q : Bool → Shared → Prop) (E : Value → Shared → Prop),
    env.scope = sc → KK s.heap → Vw C s.heap S env ρ → Live S s.heap → Rm dp A → (∀ s', Keeps s s' → Q b s') → wpAny (model prog w) A (isTrue e env (eval e env)) Q E s

section
variable {prog : Program} {w : World} {A : Around} {C : Addr} {KK : Heap → Prop} {dp : Nat} {R : Result → Shared → Prop} {s : Shared}

theorem compLoop_rule {elt target iter : Expr} {ifs : List Expr} {scope : Scope} {pos : Pos} {it acc : Value} {env : Env} (I : Nat → Shared → Prop)
    (turn : ∀ n s, I n s → ∀ E, (∀ e s', E e s' = notedBy (model prog w) A env (fun e s' => R (.error e) s') e s') → wpAny (model prog w) A (pyNext it) (fun r s₁ => match r with
      | none => R (.ok .next) s₁
      | some v => wpAny (model prog w) A (letOwnedTupleGo target it v) (fun _ s₁' => wpAny (model prog w) A (assign target env v) (fun _ s₂ =>
          wpAny (model prog w) A (forIn ifs true fun c r => if r = true then do let ok ← isTrue c env (eval c env); pure (ForInStep.yield ok) else pure (ForInStep.yield r)) (fun ok s₃ =>
            if ok = true then wpAny (model prog w) A (eval elt env) (fun x s₄ =>
              wpAny (model prog w) A (call (.builtin "list.append") [acc, x]) (fun _ s₅ => ∃ m, m < n ∧ I m s₅) E s₄) E s₃
            else ∃ m, m < n ∧ I m s₃) E s₂) E s₁') E s₁) E s)
    (n : Nat) (h : I n s) :
    codeAny (model prog w) A (.compLoop (.ListComp elt [⟨target, iter, ifs, 0⟩] scope pos) 0 it acc env) R s := by
  refine codeAny_loop rfl I (fun n s hI => ?_) n h
  show wpAny _ A ((compTurn (.ListComp elt [⟨target, iter, ifs, 0⟩] scope pos) 0 it acc env).onRaise (fun x => do noteFrame x env; theTreesLotGoes x)) _ _ s
  refine wpAny_noted ?_
  rw [compTurn_list]
  refine wpAny_bind (wpAny_standAt (wpAny_bind (wpAny_mono (turn n s hI (notedBy (model prog w) A env fun e s' => R (.error e) s') fun _ _ => rfl) (fun r s₁ h₁ => ?_) fun _ _ h' => h')))
  cases r with
  | none => exact wpAny_pure h₁
  | some v =>
    refine wpAny_bind (wpAny_mono h₁ (fun _ s₁' h₁' => ?_) fun _ _ h' => h')
    refine wpAny_bind (wpAny_mono h₁' (fun _ s₂ h₂ => wpAny_bind (wpAny_mono h₂ (fun ok s₃ h₃ => ?_) fun _ _ h' => h')) fun _ _ h' => h')
    cases ok with
    | false => exact wpAny_pure ⟨rfl, h₃⟩
    | true =>
      exact wpAny_bind (wpAny_bind (wpAny_mono h₃ (fun x s₄ h₄ => wpAny_bind (wpAny_mono h₄ (fun _ s₅ h₅ => wpAny_pure (wpAny_pure ⟨rfl, h₅⟩)) fun _ _ h' => h')) fun _ _ h' => h'))

theorem ifs_sound {ih : Ih} {ifs : List Expr} {b : Bool} {sc : Scope} {ρ : Rho} (ts : TsOK prog w C KK dp fun sc ρ e => evT (ih sc ρ) e) (h : evIfs (ih sc ρ) ifs = some b) {env : Env} {S : List Addr} {Q : Bool → Shared → Prop} {E : Value → Shared → Prop}
    (he : env.scope = sc) (hK : KK s.heap) (V : Vw C s.heap S env ρ) (lv : Live S s.heap) (rm : Rm dp A) (hQ : ∀ s', Keeps s s' → Q b s') :
    wpAny (model prog w) A (forIn ifs true fun c r => if r = true then do let ok ← isTrue c env (eval c env); pure (ForInStep.yield ok) else pure (ForInStep.yield r)) Q E s := by
  unfold evIfs at h
  split at h
  · cases h; exact wpAny_tests_nil (hQ s (Keeps.refl s))
  · exact wpAny_tests_one (ts _ _ _ _ h env S A s Q E he hK V lv rm hQ)
  · cases h

theorem Keeps.setHeap {s s' : Shared} (k : Keeps s s') : ∃ h' tk, s' = { s with heap := h', toks := tk } ∧ Ext0 s.heap h' := k

theorem turns_inv {f : D → Option (Option D)} {l rest : List D} {k : Nat} {d : D} (hg : l[k]? = some d) (h : turns f (l.drop k) = some rest) :
    ∃ ox rest', f d = some ox ∧ turns f (l.drop (k + 1)) = some rest' ∧ rest = (match ox with | some y => y :: rest' | none => rest') := by
  obtain ⟨hk, rfl⟩ := List.getElem?_eq_some_iff.mp hg
  rw [List.drop_eq_getElem_cons hk] at h
  unfold turns at h
  cases h1 : f l[k] with
  | none => rw [h1] at h; cases h
  | some ox =>
    rw [h1] at h
    simp only at h
    cases h2 : turns f (l.drop (k + 1)) with
    | none => rw [h2] at h; cases h
    | some rest' => rw [h2] at h; cases h; exact ⟨ox, rest', rfl, rfl, rfl⟩
theorem comp_inv {ih : Ih} {sc csc : Scope} {ρ : Rho} {elt tgt : Expr} {ifs : List Expr} {d : D} {ox : Option D} (h : compTurnD ih sc ρ elt tgt ifs csc d = some ox) :
    ∃ ρ' b, bindT csc (freeOf csc ρ) tgt d = some ρ' ∧ evIfs (ih (relS csc sc) ρ') ifs = some b ∧ (if b = true then ∃ y, ih (relS csc sc) ρ' elt = some y ∧ ox = some y else ox = none) := by
  unfold compTurnD at h
  cases h1 : bindT csc (freeOf csc ρ) tgt d with
  | none => rw [h1] at h; cases h
  | some ρ' =>
    rw [h1] at h
    simp only at h
    cases h2 : evIfs (ih (relS csc sc) ρ') ifs with
    | none => rw [h2] at h; cases h
    | some b =>
      rw [h2] at h
      cases b with
      | false => cases h; exact ⟨ρ', false, rfl, h2, rfl⟩
      | true =>
        obtain ⟨y, hy, e⟩ := Option.map_eq_some_iff.mp (show (ih (relS csc sc) ρ' elt).map some = some ox from h)
        exact ⟨ρ', true, rfl, h2, y, hy, e.symm⟩
theorem comp_loop {ih : Ih} {elt tgt iter : Expr} {ifs : List Expr} {csc : Scope} {pos : Pos} {env cenv : Env} {S' wr own : List Addr} {ρ : Rho} {I Dx : Addr} {tup : Bool} {ds out : List D} {St : Nat → Heap → Prop} {Mid : Nat → Value → Heap → Prop}
    (ev : EvOK prog w C KK dp ih) (ts : TsOK prog w C KK dp fun sc ρ e => evT (ih sc ρ) e) (hKeep : ∀ h h', KK h → But (Dx :: own ++ wr) h h' → KK h')
    (ht : turns (compTurnD ih env.scope ρ elt tgt ifs csc) ds = some out) (hsmall : ds.length ≤ small) (W : Itr prog w A C S' I wr tup ds St Mid) (hfit : tup = true → isTup tgt = true)
    (hce : cenv.scope = relS csc env.scope) (O : Own csc own cenv) (hoS : ∀ a ∈ own, a ∈ S') (hwS : ∀ a ∈ wr, a ∈ S') (hDS : Dx ∈ S') (hDo : Dx ∉ own) (hDw : Dx ∉ wr) (how : ∀ a ∈ own, a ∉ wr)
    (hcw : ∀ x c, cenv.cells.lookup x = some c → c ∉ wr ∧ c ≠ Dx)
    (hK : KK s.heap) (V : Vw C s.heap S' cenv (freeOf csc ρ)) (hst : St 0 s.heap) (hD : s.heap.PlainList Dx #[]) (lv : Live S' s.heap) (rm : Rm dp A)
    (hR : ∀ h' tk ys, Vw C h' S' cenv (freeOf csc ρ) → h'.PlainList Dx ys → Reps C h' S' out ys.toList → But (Dx :: own ++ wr) s.heap h' → R (.ok .next) { s with heap := h', toks := tk }) :
    codeAny (model prog w) A (.compLoop (.ListComp elt [⟨tgt, iter, ifs, 0⟩] csc pos) 0 (.ref I) (.ref Dx) cenv) R s := by
  have hls : ∀ {h h' : Heap}, But (Dx :: own ++ wr) h h' → Ext S' h h' := fun b c o hc e => b c o (fun m => hc (by
    rcases List.mem_append.mp m with m | m
    · rcases List.mem_cons.mp m with rfl | m
      · exact hDS
      · exact hoS _ m
    · exact hwS _ m)) e
  have hloc : cenv.locals ∉ wr := how _ O.loc
  have hlD : cenv.locals ≠ Dx := fun e => hDo (e ▸ O.loc)
  refine compLoop_rule (fun n s' => ∃ k outs rest h' tk ys, s' = { s with heap := h', toks := tk } ∧ k ≤ ds.length ∧ turns (compTurnD ih env.scope ρ elt tgt ifs csc) (ds.drop k) = some rest ∧ out = outs ++ rest ∧ n = ds.length + 1 - k ∧
    outs.length ≤ k ∧ Vw C h' S' cenv (freeOf csc ρ) ∧ St k h' ∧ h'.PlainList Dx ys ∧ Reps C h' S' outs ys.toList ∧ But (Dx :: own ++ wr) s.heap h' ∧ Live S' h') ?_ (ds.length + 1)
    ⟨0, [], out, s.heap, s.toks, #[], rfl, Nat.zero_le _, ht, rfl, rfl, Nat.le_refl _, V, hst, hD, rfl, fun _ _ _ e => e, lv⟩
  rintro n s' ⟨k, outs, rest, H, tk, ys, rfl, hk, htk, rfl, rfl, hok, V, hst, hD', hr, hb, lv⟩ E -
  have hKH : KK H := hKeep _ _ hK hb
  by_cases hlt : k < ds.length
  · have hget : ds[k]? = some ds[k] := List.getElem?_eq_getElem hlt
    generalize ds[k] = d at hget
    obtain ⟨ox, rest', ht1, ht2, rfl⟩ := turns_inv hget htk
    obtain ⟨ρ', b, hbt, hif, hox⟩ := comp_inv ht1
    obtain ⟨hform, htt⟩ := bindT_form hbt
    refine W.item k d _ _ _ hget lv hst fun v h₁ tk₁ rv hmid b₁ => ?_
    have e₁ : Ext S' H h₁ := fun c o hc e => b₁ c o (fun m => hc (hwS _ m)) e
    refine W.go tgt k d v _ _ _ hget hfit htt hform rv hmid fun h₂ hst₂ b₂ => ?_
    have e₂ : Ext S' h₁ h₂ := fun c o hc e => b₂ c o (fun m => hc (hwS _ m)) e
    have V₂ : Vw C h₂ S' cenv (freeOf csc ρ) := V.but (wr := wr) (fun c o hc e => b₂ c o hc (b₁ c o hc e)) hwS hloc fun x c _ e => (hcw x c e).1
    refine bind_sound rm.handled O hoS hbt V₂ (rv.ext e₂) fun h₃ tk₃ V₃ b₃ => ?_
    have e₃ : Ext S' h₂ h₃ := fun c o hc e => b₃ c o (fun m => hc (hoS _ m)) e
    have st₃ : St (k + 1) h₃ := W.frame _ _ _ hst₂ fun b o hb e => b₃ b o (fun m => by
      rcases hb with hb | hb
      · exact how b m hb
      · exact hb (hoS b m)) e
    have but₃ : But (own ++ wr) H h₃ := fun c o hc e => b₃ c o (fun m => hc (List.mem_append.mpr (.inl m))) (b₂ c o (fun m => hc (List.mem_append.mpr (.inr m))) (b₁ c o (fun m => hc (List.mem_append.mpr (.inr m))) e))
    have lv₃ : Live S' h₃ := fun a ha => by
      obtain ⟨o, ho⟩ := lv a ha
      by_cases m : a ∈ own ++ wr
      · rcases List.mem_append.mp m with m | m
        · exact V₃.ownLive O a m
        · exact W.live _ _ st₃ a m
      · exact ⟨o, but₃ a o m ho⟩
    have all₃ : But (Dx :: own ++ wr) s.heap h₃ := fun c o hc e => but₃ c o (fun m => hc (.tail _ m)) (hb c o hc e)
    have K₃ : KK h₃ := hKeep _ _ hK all₃
    have D₃ : h₃.PlainList Dx ys := hD'.at fun o e => but₃ _ o (fun m => (List.mem_append.mp m).elim hDo hDw) e
    have r₃ : Reps C h₃ S' outs ys.toList := hr.ext fun c o hc e => but₃ c o (fun m => (List.mem_append.mp m).elim (fun m => hc (hoS _ m)) fun m => hc (hwS _ m)) e
    refine ifs_sound (s := { s with heap := h₃, toks := tk₃ }) ts hif hce K₃ V₃ lv₃ rm fun s' k₄ => ?_
    obtain ⟨h₄, tk₄, rfl, x₄⟩ := k₄
    replace x₄ : Ext0 h₃ h₄ := x₄
    have V₄ := V₃.keeps x₄
    have st₄ : St (k + 1) h₄ := W.frame _ _ _ st₃ fun b o _ e => x₄ b o e
    have D₄ : h₄.PlainList Dx ys := D₃.at fun o e => x₄ _ o e
    have r₄ := r₃.keeps x₄
    have lv₄ := lv₃.keeps x₄
    have all₄ : But (Dx :: own ++ wr) s.heap h₄ := fun c o hc e => x₄ c o (all₃ c o hc e)
    cases b with
    | false =>
      cases (show ox = none from hox)
      simp only [if_neg (show ¬ (false = true) by decide)]
      exact ⟨ds.length + 1 - (k + 1), by omega, k + 1, outs, rest', h₄, tk₄, ys, rfl, hlt, ht2, rfl, rfl, by omega, V₄.mono (bindT_mono hbt), st₄, D₄, r₄, all₄, lv₄⟩
    | true =>
      obtain ⟨y, hel, rfl⟩ := (show ∃ y, ih (relS csc env.scope) ρ' elt = some y ∧ ox = some y from hox)
      simp only [if_true]
      refine ev _ _ _ _ hel cenv S' A { s with heap := h₄, toks := tk₄ } _ _ hce (hKeep _ _ hK all₄) V₄ lv₄ rm fun yv s₅ k₅ ry => ?_
      obtain ⟨h₅, tk₅, rfl, x₅⟩ := k₅
      replace x₅ : Ext0 h₄ h₅ := x₅
      replace ry : Rep C h₅ S' y yv := ry
      have hys : ys.size ≤ sizeLine := by
        have e1 := hr.length
        have e2 := size_line
        have e3 := small_is
        have e4 : ys.toList.length = ys.size := by simp
        omega
      refine wpAny_list_append_plain (hsz := hys) (D₄.at fun o e => x₅ _ o e) fun h₆ D₆ hs₆ => ?_
      replace hs₆ : Heap.SameBut Dx h₅ h₆ := hs₆
      have x₆ : Ext S' h₅ h₆ := fun c o hc e => hs₆.extBut c o (fun q => hc (q ▸ hDS)) e
      refine ⟨ds.length + 1 - (k + 1), by omega, k + 1, outs ++ [y], rest', h₆, tk₅, ys.push yv, rfl, hlt, ht2, by simp, rfl, by rw [List.length_append, List.length_singleton]; omega, ?_, ?_, D₆, ?_, ?_, ?_⟩
      · exact ((V₄.mono (bindT_mono hbt)).keeps x₅).but (wr := [Dx]) (fun c o hc e => hs₆.extBut c o (fun q => hc (by simp [q])) e) (fun a ha => by rw [List.mem_singleton.mp ha]; exact hDS)
          (fun m => hlD (List.mem_singleton.mp m)) fun x c _ e m => (hcw x c e).2 (List.mem_singleton.mp m)
      · exact W.frame _ _ _ st₄ fun b o hbb e => hs₆.extBut b o (fun q => by
          rcases hbb with hbb | hbb
          · exact hDw (q ▸ hbb)
          · exact hbb (q ▸ hDS)) (x₅ b o e)
      · rw [Array.toList_push]
        exact ((r₄.keeps x₅).ext x₆).append (Reps.one (ry.ext x₆))
      · exact fun c o hc e => hs₆.extBut c o (fun q => hc (by rw [q]; exact .head _)) (x₅ c o (all₄ c o hc e))
      · intro a ha
        by_cases q : a = Dx
        · subst q; obtain ⟨n, ho⟩ := D₆; exact ⟨_, ho⟩
        · obtain ⟨o, ho⟩ := lv₄ a ha
          exact ⟨o, hs₆.extBut a o q (x₅ a o ho)⟩
  · have hke : k = ds.length := by omega
    subst hke
    rw [List.drop_length] at htk
    cases htk
    refine W.done _ _ _ hst fun h₁ tk₁ b₁ => ?_
    replace b₁ : But wr H h₁ := b₁
    refine hR h₁ tk₁ ys (V.but b₁ hwS hloc fun x c _ e => (hcw x c e).1) (hD'.at fun o e => b₁ _ o hDw e) (by rw [List.append_nil]; exact hr.ext fun c o hc e => b₁ c o (fun m => hc (hwS _ m)) e) fun c o hc e => ?_
    exact b₁ c o (fun m => hc (List.mem_append.mpr (.inr m))) (hb c o hc e)

structure KOK (KK : Heap → Prop) (kA : Addr → Prop) : Prop where
  keep : ∀ h h', KK h → (∀ b o, kA b → h.get? b = some o → h'.get? b = some o) → KK h'
  live : ∀ h a, KK h → kA a → ∃ o, h.get? a = some o
theorem KOK.keeps {kA : Addr → Prop} (KO : KOK KK kA) {h h' : Heap} (k : KK h) (e : Ext0 h h') : KK h' := KO.keep h h' k fun b o _ q => e b o q

theorem relS_lookup {csc sc : Scope} : ∀ {names : List (Str × NameKind)} {x : Str} {k : NameKind}, names.lookup x = some k →
    (names.map fun (n, k) => if (k == .free && sc.kind == .function && sc.names.lookup n == some .cell) then (n, NameKind.cell) else (n, k)).lookup x =
      some (if (k == .free && sc.kind == .function && sc.names.lookup x == some .cell) = true then .cell else k)
  | [], _, _, h => nomatch h
  | (n, k') :: r, x, k, h => by
    have ih := @relS_lookup csc sc r x k
    rw [List.map_cons]
    rw [List.lookup_cons] at h
    cases hx : x == n with
    | true =>
      rw [hx] at h; cases h
      have : x = n := beq_iff_eq.mp hx
      subst this
      dsimp only
      split <;> simp [List.lookup_cons]
    | false =>
      rw [hx] at h
      have := ih h
      dsimp only
      split
      · rw [List.lookup_cons, hx]; exact this
      · rw [List.lookup_cons, hx]; exact this
theorem relS_none {csc sc : Scope} : ∀ {names : List (Str × NameKind)} {x : Str} {k : NameKind},
    (names.map fun (n, k) => if (k == .free && sc.kind == .function && sc.names.lookup n == some .cell) then (n, NameKind.cell) else (n, k)).lookup x = some k → ∃ k', names.lookup x = some k'
  | [], _, _, h => nomatch h
  | (n, k') :: r, x, k, h => by
    have ih := @relS_none csc sc r x k
    rw [List.map_cons] at h
    rw [List.lookup_cons]
    cases hx : x == n with
    | true => exact ⟨k', rfl⟩
    | false =>
      dsimp only at h
      split at h
      · rw [List.lookup_cons, hx] at h; exact ih h
      · rw [List.lookup_cons, hx] at h; exact ih h

theorem cellsFrom_nodup : ∀ (names : List (Str × NameKind)) (n : Nat), (names.map (·.1)).Nodup → ((cellsFrom n names []).map (·.1)).Nodup
  | [], _, _ => List.nodup_nil
  | (x, k) :: r, n, h => by
    rw [List.map_cons, List.nodup_cons] at h
    unfold cellsFrom
    split
    · rw [cellsFrom_app, List.map_append, List.nodup_append]
      refine ⟨cellsFrom_nodup r _ h.2, by simp, fun a ha b hb e => ?_⟩
      obtain ⟨⟨y, c⟩, hm, rfl⟩ := List.mem_map.mp ha
      have hb' : b = x := by simpa using hb
      exact h.1 (List.mem_map.mpr ⟨_, cellsFrom_mem _ _ hm, by rw [← hb', ← e]⟩)
    · exact cellsFrom_nodup r _ h.2

theorem comp_block {ih : Ih} {kA : Addr → Prop} {elt tgt iter : Expr} {ifs : List Expr} {csc : Scope} {pos : Pos} {env : Env} {S wr : List Addr} {ρ : Rho} {I : Addr} {tup : Bool} {ds out : List D} {h₀ : Heap} {E : Value → Shared → Prop}
    {RR : Value → Addr → Result → Shared → Prop} (KO : KOK KK kA)
    (ev : EvOK prog w C KK dp ih) (ts : TsOK prog w C KK dp fun sc ρ e => evT (ih sc ρ) e) (hoc : okComp csc = true) (hof : okFree csc env.scope = true)
    (ht : turns (compTurnD ih env.scope ρ elt tgt ifs csc) ds = some out) (hsmall : ds.length ≤ small) (hfit : tup = true → isTup tgt = true)
    (K₀ : KK h₀) (V₀ : Vw C h₀ S env ρ) (lv₀ : Live S h₀) (x₀ : Ext0 h₀ s.heap) (hwf : ∀ a ∈ wr, h₀.get? a = none) (hwl : Live wr s.heap) (rm : Rm dp A)
    (W : ∀ S', (∀ a ∈ wr, a ∈ S') → (∀ a ∈ S, a ∈ S') → (∀ a ∈ S', a ∈ wr ∨ a ∈ S ∨ s.heap.get? a = none) → ∃ St Mid, Itr prog w A C S' I wr tup ds St Mid ∧ St 0 s.heap)
    (hRR : ∀ Dx Cc h' tk m', s.heap.get? Dx = none → s.heap.get? Cc = none → Dx ≠ Cc → h'.Ns Cc m' → Rep C h' (Cc :: S) (.list out) (.ref Dx) → But wr s.heap h' → RR (.ref Dx) Cc (.ok .next) { s with heap := h', toks := tk }) :
    wpAny (model prog w) A (newList []) (fun acc s₃ => wpAny (model prog w) A (newFunctionEnv csc env.globals (closureIs env csc.names []) [] env.qual none .none (some env)) (fun cenv s₄ =>
      codeAny (model prog w) A (.compStart (.ListComp elt [⟨tgt, iter, ifs, 0⟩] csc pos) 0 (.ref I) acc { cenv with scope := relabel csc env }) (RR acc cenv.locals) s₄) E s₃) E s := by
  unfold okComp at hoc
  simp only [Bool.and_eq_true, beq_iff_eq, decide_eq_true_eq] at hoc
  obtain ⟨⟨hck, -⟩, hnd⟩ := hoc
  have hofr : ∀ x, (x, NameKind.free) ∈ csc.names → env.kindOf x = some .cell := fun x hx => by
    unfold okFree at hof
    have := List.all_eq_true.mp hof _ hx
    simp only [bne_self_eq_false, Bool.false_or, beq_iff_eq] at this
    exact this
  refine wpAny_newObj_type ?_
  simp only [newFunctionEnv, Option.isSome_some, if_true]
  refine wpAny_bind (wpAny_alloc ?_)
  refine wpAny_bind (wpAny_layCells _ (fun name kind cells => by cases hkc : kind == NameKind.cell <;> simp [hkc]) _ _ _ _ ?_)
  refine wpAny_bind (wpAny_pure (wpAny_pure ?_))
  generalize hH2 : s.heap.push { cls := .type "list", dict := none, data := .seq ([] : List Value).toArray } = H2
  have zD : H2.objs.size = s.heap.objs.size + 1 := by rw [← hH2, Heap.size_push]
  generalize hH3 : H2.push { cls := .type "dict", data := .dict #[] } = H3
  have zC : H3.objs.size = s.heap.objs.size + 2 := by rw [← hH3, Heap.size_push, zD]
  have ok := cellsFrom_ok csc.names H3 (s.heap.objs.size + 2) [] ⟨fun _ _ hm => (nomatch hm), List.Pairwise.nil⟩ (by rw [zC]; exact Nat.le_refl _)
  rw [zC] at ok
  dsimp only
  rw [zC, zD]
  rw [cellsFrom_app]
  generalize hcs : cellsFrom (s.heap.objs.size + 2) csc.names [] = cs at ok
  generalize hH4 : pushCells H3 csc.names = H4 at ok
  have e34 : Ext0 H3 H4 := by rw [← hH4]; exact pushCells_keeps _ _
  have e23 : Ext0 H2 H3 := by rw [← hH3]; exact push_ext _ _
  have e12 : Ext0 s.heap H2 := by rw [← hH2]; exact push_ext _ _
  have e14 : Ext0 s.heap H4 := fun b o e => e34 b o (e23 b o (e12 b o e))
  have fresh : ∀ a, s.heap.objs.size ≤ a → s.heap.get? a = none := fun a ha => by
    cases e : s.heap.get? a with
    | none => rfl
    | some o' => exact absurd (Heap.lt_size e) (Nat.not_lt.mpr ha)
  have low : ∀ {a : Addr} {o}, s.heap.get? a = some o → a < s.heap.objs.size := fun e => Heap.lt_size e
  have csm : ∀ x c, (x, c) ∈ cs → (x, NameKind.cell) ∈ csc.names ∧ s.heap.objs.size + 2 ≤ c := fun x c hm => ⟨cellsFrom_mem _ _ (hcs ▸ hm), (ok.empty x c hm).2⟩
  have clm : ∀ x c, (x, c) ∈ closureIs env csc.names [] → env.cells.lookup x = some c ∧ (x, NameKind.free) ∈ csc.names := fun x c hm => (closureIs_mem _ _ hm).resolve_left (by intro h; cases h)
  have clv : ∀ x c, (x, c) ∈ closureIs env csc.names [] → (∃ o, s.heap.get? c = some o) ∧ c ∉ wr := fun x c hm => by
    obtain ⟨h1, h2⟩ := clm x c hm
    obtain ⟨c', ov, hc', ⟨o, ho, _⟩, _⟩ := V₀.cell x (hofr x h2)
    rw [h1] at hc'; cases hc'
    exact ⟨⟨o, x₀ _ _ ho⟩, fun m => by rw [hwf c m] at ho; cases ho⟩
  have sizes : ∀ {a : Addr}, (∃ o, s.heap.get? a = some o) → ∀ n, a ≠ s.heap.objs.size + n := fun ⟨_, ho⟩ n e => by
    have := low ho; rw [e] at this; exact Nat.lt_irrefl _ (Nat.lt_of_le_of_lt (Nat.le_add_right _ n) this)
  -- lookups in the new frame's cells
  have lkC : ∀ x, (x, NameKind.cell) ∈ csc.names → ∃ c, cs.lookup x = some c := fun x hx => by rw [← hcs]; exact cellsFrom_has _ _ hx
  have lkF : ∀ x, (x, NameKind.free) ∈ csc.names → cs.lookup x = none := fun x hx => lookup_none_of fun c m => by
    have := mem_names_of hnd (csm x c m).1 hx; cases this
  have split : ∀ {x c}, (cs ++ closureIs env csc.names []).lookup x = some c → (x, c) ∈ cs ∨ (x, c) ∈ closureIs env csc.names [] := fun h => List.mem_append.mp (mem_of_lookup h)
  let own : List Addr := (s.heap.objs.size + 1) :: cs.map (·.2)
  let S' : List Addr := s.heap.objs.size :: (own ++ wr ++ S)
  have ownm : ∀ {a : Addr}, a ∈ own → a = s.heap.objs.size + 1 ∨ ∃ x, (x, a) ∈ cs := fun m => by
    rcases List.mem_cons.mp m with e | m
    · exact .inl e
    · obtain ⟨⟨x, c⟩, hm, rfl⟩ := List.mem_map.mp m; exact .inr ⟨x, hm⟩
  have ownge : ∀ {a : Addr}, a ∈ own → s.heap.objs.size + 1 ≤ a := fun {a} m => by
    rcases ownm m with rfl | ⟨x, hx⟩
    · exact Nat.le_refl _
    · exact Nat.le_of_succ_le (csm x a hx).2
  have ownf : ∀ {a : Addr}, a ∈ own → s.heap.get? a = none := fun m => fresh _ (Nat.le_of_succ_le (ownge m))
  have h0f : ∀ {a : Addr}, s.heap.get? a = none → h₀.get? a = none := fun {a} ha => by
    cases e : h₀.get? a with
    | none => rfl
    | some o => rw [x₀ a o e] at ha; cases ha
  have wrl : ∀ {a : Addr}, s.heap.get? a = none → a ∉ wr := fun {a} ha m => by obtain ⟨o, ho⟩ := hwl a m; rw [ha] at ho; cases ho
  have weak0 : ∀ a ∈ S', a ∈ S ∨ h₀.get? a = none := fun a ha => by
    rcases List.mem_cons.mp ha with rfl | ha
    · exact .inr (h0f (fresh _ (Nat.le_refl _)))
    · rcases List.mem_append.mp ha with ha | ha
      · rcases List.mem_append.mp ha with ha | ha
        · exact .inr (h0f (ownf ha))
        · exact .inr (hwf a ha)
      · exact .inl ha
  let cenv : Env := { scope := relabel csc env, locals := s.heap.objs.size + 1, globals := env.globals, cells := cs ++ closureIs env csc.names [], qual := env.qual, code := env.code, frame := env.frame, builtins := env.builtins }
  have kC : ∀ {x k}, csc.names.lookup x = some k → cenv.kindOf x = some (if (k == .free && env.scope.kind == .function && env.scope.names.lookup x == some .cell) = true then .cell else k) := fun h => relS_lookup (csc := csc) (sc := env.scope) h
  have kOwn : ∀ {x k}, csc.names.lookup x = some k → k ≠ .free → cenv.kindOf x = some k := fun {x k} h hne => by
    rw [kC h, if_neg]
    simp [hne]
  have kFree : ∀ {x}, csc.names.lookup x = some .free → cenv.kindOf x = some .cell := fun {x} h => by
    rw [kC h, if_pos]
    have h2 : env.scope.names.lookup x = some .cell := hofr x (mem_of_lookup h)
    simp [V₀.kind, h2]
  have cinj : ∀ x y c, (cs ++ closureIs env csc.names []).lookup x = some c → (cs ++ closureIs env csc.names []).lookup y = some c → x = y := fun x y c hx hy => by
    rcases split hx with mx | mx <;> rcases split hy with my | my
    · exact name_of_addr ok.apart mx my
    · exact absurd (csm x c mx).2 (Nat.not_le.mpr (Nat.lt_of_lt_of_le (let ⟨o, ho⟩ := (clv y c my).1; low ho) (Nat.le_add_right _ 2)))
    · exact absurd (csm y c my).2 (Nat.not_le.mpr (Nat.lt_of_lt_of_le (let ⟨o, ho⟩ := (clv x c mx).1; low ho) (Nat.le_add_right _ 2)))
    · exact V₀.inj x y c (clm x c mx).1 (clm y c my).1
  have O : Own csc own cenv := {
    loc := .head _
    mem := fun a m => by
      rcases ownm m with e | ⟨x, hx⟩
      · exact .inl e
      · obtain ⟨c, hc⟩ := lkC x (csm x a hx).1
        have hca : c = a := by
          have m2 := mem_of_lookup hc
          rw [← hcs] at hx m2
          exact mem_names_of (cellsFrom_nodup _ _ hnd) m2 hx
        exact .inr ⟨x, lookup_of_mem hnd (csm x a hx).1, by show (cs ++ _).lookup x = _; rw [lookup_app_some hc, hca]⟩
    kinds := fun x k hk hk2 => kOwn hk (by rcases hk2 with rfl | rfl <;> decide)
    cel := fun x hx => by
      obtain ⟨c, hc⟩ := lkC x (mem_of_lookup hx)
      exact ⟨c, lookup_app_some hc, .tail _ (List.mem_map.mpr ⟨_, mem_of_lookup hc, rfl⟩)⟩
    apart := fun x c hc => by
      rcases split hc with m | m
      · exact Nat.ne_of_gt (csm x c m).2
      · exact sizes (clv x c m).1 1
    inj := cinj }
  have V : Vw C H4 S' cenv (freeOf csc ρ) := {
    kind := hck
    gl := V₀.gl
    bl := V₀.bl
    ns := ⟨fun _ => none, by
      have : H3.Ns (s.heap.objs.size + 1) (fun _ => none) := by rw [← hH3, ← zD]; exact Heap.Ns.new H2 (.type "dict")
      exact this.keeps e34, fun x d hx hk => by
        unfold freeOf at hx
        split at hx
        · rename_i hf; rw [kFree hf] at hk; cases hk
        · cases hx⟩
    cell := fun x hx => by
      obtain ⟨k, hk⟩ := relS_none (csc := csc) (sc := env.scope) hx
      by_cases hf : k = .free
      · subst hf
        have hm := mem_of_lookup hk
        obtain ⟨c, ov, hc, hcell, hrep⟩ := V₀.cell x (hofr x hm)
        obtain ⟨c', hc'⟩ := closureIs_has csc.names [] hm hc
        have hcl : (closureIs env csc.names []).lookup x = some c := by
          cases q : (closureIs env csc.names []).lookup x with
          | none => exfalso; revert hc' q; generalize closureIs env csc.names [] = l; intro hc' q
                    induction l with
                    | nil => cases hc'
                    | cons p l ih =>
                      obtain ⟨y, b⟩ := p
                      rw [List.lookup_cons] at q
                      split at q
                      · cases q
                      · rename_i hne
                        rcases List.mem_cons.mp hc' with e | h
                        · cases e; simp at hne
                        · exact ih h q
          | some c'' => rw [← hc, (clm x c'' (mem_of_lookup q)).1]
        refine ⟨c, ov, by show (cs ++ _).lookup x = _; rw [lookup_app_none (lkF x hm)]; exact hcl, (hcell.keeps x₀).keeps e14, fun d hd => ?_⟩
        unfold freeOf at hd
        rw [if_pos hk] at hd
        obtain ⟨v, e, r⟩ := hrep d hd
        exact ⟨v, e, ((r.weak (S' := S') weak0).keeps x₀).keeps e14⟩
      · have hkk := kOwn hk hf
        rw [hx] at hkk; cases hkk
        obtain ⟨c, hc⟩ := lkC x (mem_of_lookup hk)
        exact ⟨c, none, lookup_app_some hc, (ok.empty x c (mem_of_lookup hc)).1, fun d hd => by unfold freeOf at hd; rw [hk, if_neg (by decide)] at hd; cases hd⟩
    only := fun x d hx => by
      unfold freeOf at hx
      split at hx
      · rename_i hf; exact .inr (kFree hf)
      · cases hx
    inj := cinj }
  have oS : ∀ a ∈ own, a ∈ S' := fun a m => .tail _ (List.mem_append.mpr (.inl (List.mem_append.mpr (.inl m))))
  have wS : ∀ a ∈ wr, a ∈ S' := fun a m => .tail _ (List.mem_append.mpr (.inl (List.mem_append.mpr (.inr m))))
  have sS : ∀ a ∈ S, a ∈ S' := fun a m => .tail _ (List.mem_append.mpr (.inr m))
  obtain ⟨St, Mid, I0, st0⟩ := W S' wS sS fun a ha => by
    rcases List.mem_cons.mp ha with rfl | ha
    · exact .inr (.inr (fresh _ (Nat.le_refl _)))
    · rcases List.mem_append.mp ha with ha | ha
      · rcases List.mem_append.mp ha with ha | ha
        · exact .inr (.inr (ownf ha))
        · exact .inl ha
      · exact .inr (.inl ha)
  have st4 : St 0 H4 := I0.frame _ _ _ st0 fun b o _ e => e14 b o e
  have D4 : H4.PlainList s.heap.objs.size #[] := ⟨_, e34 _ _ (e23 _ _ (by rw [← hH2]; exact Heap.get?_push_size _ rfl))⟩
  have K4 : KK H4 := KO.keeps (KO.keeps K₀ x₀) e14
  have lv4 : Live S' H4 := fun a ha => by
    rcases List.mem_cons.mp ha with rfl | ha
    · obtain ⟨n, ho⟩ := D4; exact ⟨_, ho⟩
    · rcases List.mem_append.mp ha with ha | ha
      · rcases List.mem_append.mp ha with ha | ha
        · exact V.ownLive O a ha
        · obtain ⟨o, ho⟩ := hwl a ha; exact ⟨o, e14 _ _ ho⟩
      · obtain ⟨o, ho⟩ := lv₀ a ha; exact ⟨o, e14 _ _ (x₀ _ _ ho)⟩
  have loop : codeAny (model prog w) A (.compLoop (.ListComp elt [⟨tgt, iter, ifs, 0⟩] csc pos) 0 (.ref I) (.ref s.heap.objs.size) cenv) (RR (.ref s.heap.objs.size) (s.heap.objs.size + 1))
      { s with heap := H4 } := by
    refine comp_loop (S' := S') (env := env) (cenv := cenv) (own := own) ev ts (fun h h' k b => KO.keep h h' k fun a o ka e => b a o (fun m => ?_) e) ht hsmall I0 hfit rfl O oS wS (.head _)
      (fun m => Nat.not_succ_le_self _ (ownge m)) (wrl (fresh _ (Nat.le_refl _))) (fun a m => wrl (ownf m)) (fun x c hc => ?_) K4 V st4 D4 lv4 rm fun h' tk ys V' pl reps but => ?_
    · obtain ⟨o', ho'⟩ := KO.live h₀ a K₀ ka
      rcases List.mem_append.mp m with m | m
      · rcases List.mem_cons.mp m with rfl | m
        · rw [h0f (fresh _ (Nat.le_refl _))] at ho'; cases ho'
        · rw [h0f (ownf m)] at ho'; cases ho'
      · rw [hwf a m] at ho'; cases ho'
    · rcases split hc with m | m
      · exact ⟨wrl (fresh _ (Nat.le_trans (Nat.le_add_right _ 2) (csm x c m).2)), fun e => by have := (csm x c m).2; rw [e] at this; exact Nat.not_succ_le_self _ (Nat.le_of_succ_le this)⟩
      · exact ⟨(clv x c m).2, sizes (clv x c m).1 0⟩
    · obtain ⟨m', hn, _⟩ := V'.ns
      have nD : s.heap.objs.size ≠ s.heap.objs.size + 1 := Nat.ne_of_lt (Nat.lt_succ_self _)
      refine hRR s.heap.objs.size (s.heap.objs.size + 1) h' tk m' (fresh _ (Nat.le_refl _)) (fresh _ (Nat.le_succ _)) nD hn ⟨_, ys.toList, rfl, fun m => ?_, by simpa using pl.isList, reps.weak fun a ha => ?_⟩ fun b o hb e => ?_
      · rcases List.mem_cons.mp m with e | m
        · exact nD e
        · obtain ⟨o, ho⟩ := lv₀ _ m
          rw [h0f (fresh _ (Nat.le_refl _))] at ho; cases ho
      · rcases List.mem_cons.mp ha with rfl | ha
        · exact .inl (oS _ (.head _))
        · exact .inl (sS _ ha)
      · refine but b o (fun m => ?_) (e14 b o e)
        rcases List.mem_append.mp m with m | m
        · rcases List.mem_cons.mp m with rfl | m
          · rw [fresh _ (Nat.le_refl _)] at e; cases e
          · rw [ownf m] at e; cases e
        · exact hb m
  exact codeAny_compStart_list loop (I0.self 0 _ _ _ st4 loop)
end
end Mine

set_option maxRecDepth 10000
namespace Mine

noncomputable def isPairs : Src → Bool
  | .plain _ => false
  | .pairs _ => true
noncomputable def Ready (prog : Program) (w : World) (A : Around) (C : Addr) (S : List Addr) (h₀ : Heap) (src : Src) (xv : Value) (s₁ : Shared) : Prop :=
  ∀ (Q : Value → Shared → Prop) (E : Value → Shared → Prop), (∀ I wr h₂, Ext0 s₁.heap h₂ → (∀ a ∈ wr, h₀.get? a = none) → Live wr h₂ →
    (∀ S', (∀ a ∈ wr, a ∈ S') → (∀ a ∈ S, a ∈ S') → (∀ a ∈ S', a ∈ wr ∨ a ∈ S ∨ h₂.get? a = none) → ∃ St Mid, Itr prog w A C S' I wr (isPairs src) src.items St Mid ∧ St 0 h₂) → Q (.ref I) { s₁ with heap := h₂ }) →
    wpAny (model prog w) A (pyIter xv) Q E s₁

section
variable {prog : Program} {w : World} {A : Around} {E : Value → Shared → Prop} {s : Shared} {C : Addr} {S : List Addr}

theorem none_back {h h' : Heap} (e : Ext0 h h') {a : Addr} (n : h'.get? a = none) : h.get? a = none := by
  cases q : h.get? a with
  | none => rfl
  | some o => rw [e a o q] at n; cases n
theorem size_none (h : Heap) (n : Nat) : h.get? (h.objs.size + n) = none := by
  cases q : h.get? (h.objs.size + n) with
  | none => rfl
  | some o => exact absurd (Heap.lt_size q) (Nat.not_lt.mpr (Nat.le_add_right _ n))

theorem ready_seq {d : D} {l : List D} {v : Value} {h₀ : Heap} (hh : A.handled = none) (h : seqOf d = some l) (r : Rep C s.heap S d v) (x₀ : Ext0 h₀ s.heap) (lv : Live S s.heap) : Ready prog w A C S h₀ (.plain l) v s := by
  intro Q E hQ
  unfold seqOf at h
  split at h
  · rename_i x
    split at h
    · cases h
      obtain ⟨t, rfl⟩ := r
      refine wpAny_pyIter_strU ?_
      have hI : (s.heap.push { cls := .type (strIterType x), data := .fields #[.str x t, .int 0 0] }).get? s.heap.objs.size = some { cls := .type (strIterType x), data := .fields #[.str x t, .int 0 0] } := Heap.get?_push_size _ rfl
      refine hQ s.heap.objs.size [s.heap.objs.size] _ (push_ext _ _) (fun a ha => by rw [List.mem_singleton.mp ha]; exact none_back x₀ (get_size _)) (fun a ha => by rw [List.mem_singleton.mp ha]; exact ⟨_, hI⟩) fun S' h1 h2 h3 => ?_
      have W : Walks prog w A s.heap.objs.size [s.heap.objs.size] [s.heap.objs.size] x.cps.size (SignAt x) (fun i h => h.IsStrIter s.heap.objs.size (strIterType x) x t i) := by
        unfold strIterType
        cases ha : x.cps.all (· < 128)
        · simpa using Walks.strWide hh _ x t
        · simpa using Walks.strAscii hh _ x t
      exact ⟨_, _, itr_plain W (h1 _ (.head _)) (strChars_len x) (fun i h st => let ⟨o, ho, _⟩ := st; ⟨o, ho⟩) (fun d hd l e => by subst e; obtain ⟨i, hi⟩ := List.getElem?_of_mem hd; obtain ⟨c, _, e⟩ := strChars_get hi; cases e)
        (fun i v d hp hd h => by
          obtain ⟨c, hc, rfl⟩ := strChars_get hd
          obtain ⟨c', u, hc', rfl⟩ := hp
          rw [hc] at hc'; cases hc'
          exact ⟨u, rfl⟩), ⟨_, hI, rfl, rfl⟩⟩
    · cases h
  · split at h
    · cases h
      obtain ⟨la, vs, rfl, hla, hL, rs⟩ := r
      refine wpAny_pyIter_list hL ?_
      have hI : (s.heap.push { cls := .type "list_iterator", data := .fields #[.ref la, .int 0 0] }).get? s.heap.objs.size = some { cls := .type "list_iterator", data := .fields #[.ref la, .int 0 0] } := Heap.get?_push_size _ rfl
      refine hQ s.heap.objs.size [s.heap.objs.size] _ (push_ext _ _) (fun a ha => by rw [List.mem_singleton.mp ha]; exact none_back x₀ (get_size _)) (fun a ha => by rw [List.mem_singleton.mp ha]; exact ⟨_, hI⟩) fun S' h1 h2 h3 => ?_
      have wk : ∀ a ∈ S', a ∈ S ∨ s.heap.get? a = none := fun a ha => by
        rcases h3 a ha with h | h | h
        · rw [List.mem_singleton.mp h]; exact .inr (get_size _)
        · exact .inl h
        · exact .inr (none_back (push_ext _ _) h)
      have hl' : la ∉ S' := notin_weak wk hla (let ⟨o, ho, _⟩ := hL; ⟨o, ho⟩)
      exact ⟨_, _, itr_list hh (vs := vs) (h1 _ (.head _)) hl', ⟨_, hI, rfl, rfl⟩, hL.at fun o e => push_ext _ _ _ o e, (rs.weak wk).keeps (push_ext _ _)⟩
    · cases h
  · cases h

theorem call_range_sound {n : Int} {t : Tok} {h₀ : Heap} {Q : Value → Shared → Prop} (hh : A.handled = none) (h0 : 0 ≤ n) (h1 : n ≤ small) (x₀ : Ext0 h₀ s.heap)
    (hQ : ∀ v s', Keeps s s' → Ready prog w A C S h₀ (.plain ((List.range n.toNat).map fun (i : Nat) => PyData.int (i : Int))) v s' → Q v s') : wpAny (model prog w) A (call (.type "range") [.int n t]) Q E s := by
  have e2 := small_is
  refine call_range_1 (hQ _ _ ⟨_, _, rfl, push_ext _ _⟩ fun Q' E' hQ' => ?_)
  have hr : IsRange (s.heap.push { cls := .type "range", data := .fields #[.int 0 s.toks, .int n t, .int 1 (s.toks + 1)] }) s.heap.objs.size 0 n 1 s.toks t (s.toks + 1) := Heap.get?_push_size _ rfl
  have hrs : Builtin.Range.rangeSize 0 n 1 = n := by
    unfold Builtin.Range.rangeSize
    rw [if_pos (by decide)]
    split <;> omega
  refine wpAny_pyIter_range hr (by
    unfold Builtin.Range.small
    rw [hrs]
    simp [Builtin.Range.rangeFitsLong]; omega
    ) ?_
  rw [hrs]
  have hI : ((s.heap.push { cls := .type "range", data := .fields #[.int 0 s.toks, .int n t, .int 1 (s.toks + 1)] }).push { cls := .type "range_iterator", data := .fields #[rawInt 0, rawInt n, rawInt 1] }).get?
      (s.heap.push { cls := .type "range", data := .fields #[.int 0 s.toks, .int n t, .int 1 (s.toks + 1)] }).objs.size = some { cls := .type "range_iterator", data := .fields #[rawInt 0, rawInt n, rawInt 1] } := Heap.get?_push_size _ rfl
  refine hQ' _ [(s.heap.push { cls := .type "range", data := .fields #[.int 0 s.toks, .int n t, .int 1 (s.toks + 1)] }).objs.size] _ (push_ext _ _) (fun a ha => by rw [List.mem_singleton.mp ha]; exact none_back (fun b o e => push_ext _ _ b o (x₀ b o e)) (get_size _)) (fun a ha => by rw [List.mem_singleton.mp ha]; exact ⟨_, hI⟩) fun S' h1 h2 h3 => ?_
  refine ⟨_, _, itr_plain (Walks.range hh _ 0 1 n.toNat) (h1 _ (.head _)) (by simp [Src.items]) (fun i h st => ⟨_, st⟩) (fun d hd l e => by subst e; simp [Src.items] at hd)
    (fun i v d hp hd h => ?_), ?_⟩
  · obtain ⟨u, rfl⟩ := hp
    simp only [Src.items, List.getElem?_map] at hd
    cases q : (List.range n.toNat)[i]? with
    | none => rw [q] at hd; cases hd
    | some j =>
      rw [q] at hd; cases hd
      have : j = i := by
        obtain ⟨h, e⟩ := List.getElem?_eq_some_iff.mp q
        simpa using e.symm
      subst this
      exact ⟨u, by simp⟩
  · show IsRangeIter _ _ _ _ _
    have e1 : (0 : Int) + ((0 : Nat) : Int) * 1 = 0 := by simp
    have e3 : ((n.toNat : Nat) : Int) - ((0 : Nat) : Int) = n := by omega
    rw [e1, e3]; exact hI

theorem call_enum_sound {l : List D} {v : Value} {h₀ : Heap} {Q : Value → Shared → Prop} (hh : A.handled = none) (r : Rep C s.heap S (.list l) v) (x₀ : Ext0 h₀ s.heap) (lv : Live S s.heap)
    (hQ : ∀ v s', Keeps s s' → Ready prog w A C S h₀ (.pairs (enumD 0 l)) v s' → Q v s') : wpAny (model prog w) A (call (.type "enumerate") [v]) Q E s := by
  obtain ⟨la, vs, rfl, hla, hL, rs⟩ := r
  refine call_enumerate_list hL fun h' hE hI hz hk => hQ _ _ ⟨h', s.toks, rfl, hk⟩ fun Q' E' hQ' => ?_
  refine wpAny_pyIter_enum hE ?_
  have iv : ∃ o, h'.get? s.heap.objs.size = some o := let ⟨o, ho, _⟩ := hI; ⟨o, ho⟩
  refine hQ' _ [s.heap.objs.size + 1, s.heap.objs.size] h' (fun _ _ e => e) (fun a ha => ?_) (fun a ha => ?_) fun S' h1 h2 h3 => ?_
  · rcases List.mem_cons.mp ha with rfl | ha
    · exact none_back x₀ (size_none _ 1)
    · rw [List.mem_singleton.mp ha]; exact none_back x₀ (get_size _)
  · rcases List.mem_cons.mp ha with rfl | ha
    · exact ⟨_, hE⟩
    · rw [List.mem_singleton.mp ha]; exact iv
  · have wk : ∀ a ∈ S', a ∈ S ∨ s.heap.get? a = none := fun a ha => by
      rcases h3 a ha with h | h | h
      · rcases List.mem_cons.mp h with rfl | h
        · exact .inr (size_none _ 1)
        · rw [List.mem_singleton.mp h]; exact .inr (get_size _)
      · exact .inl h
      · exact .inr (none_back hk h)
    have hl' : la ∉ S' := notin_weak wk hla (let ⟨o, ho, _⟩ := hL; ⟨o, ho⟩)
    exact ⟨_, _, itr_enum hh (vs := vs) (h1 _ (.head _)) (h1 _ (.tail _ (.head _))) (Nat.succ_ne_self _) hl', ⟨⟨.none, hE⟩, hI, hL.at fun o e => hk _ o e⟩, (rs.weak wk).keeps hk⟩

/-! zip -/
noncomputable def itObj : Value → Obj
  | .str x t => { cls := .type (strIterType x), data := .fields #[.str x t, .int 0 0] }
  | v => { cls := .type "list_iterator", data := .fields #[v, .int 0 0] }
noncomputable abbrev zH2 (h : Heap) (u v : Value) : Heap := (h.push (itObj u)).push (itObj v)
noncomputable abbrev zH3 (h : Heap) (u v : Value) : Heap := (zH2 h u v).push { cls := .type "tuple", data := .seq #[.ref h.objs.size, .ref (h.push (itObj u)).objs.size] }
noncomputable abbrev zH4 (h : Heap) (u v : Value) : Heap := (zH3 h u v).push { cls := .type "tuple", data := .seq #[.none, .none] }
noncomputable abbrev zH5 (h : Heap) (u v : Value) : Heap := (zH4 h u v).push { cls := .type "zip", data := .fields #[.none, .bool false, .bool false, .ref (zH2 h u v).objs.size, .ref (zH3 h u v).objs.size] }

set_option maxHeartbeats 4000000 in
theorem meets_zip_ss (x y : Str) (t u : Tok) :
    Meets (Builtin.«zip.__new__» ⟨[.type "zip", .str x t, .str y u], []⟩) (fun _ R s => R (.ok (.ret (.ref (zH4 s.heap (.str x t) (.str y u)).objs.size))) { s with heap := zH5 s.heap (.str x t) (.str y u) }) :=
  .of_wp fun prog w A R s h => by
    obtain ⟨hp, g, d, tk, os⟩ := s
    have hsub := sub_zip
    wp_walk using wpAny_pyIter_strU
    exact ⟨_, rfl, h⟩
set_option maxHeartbeats 4000000 in
theorem meets_zip_sl (x : Str) (t : Tok) (l : Addr) (ys : Array Value) :
    Meets (Builtin.«zip.__new__» ⟨[.type "zip", .str x t, .ref l], []⟩) (fun _ R s => s.heap.IsList l ys ∧ R (.ok (.ret (.ref (zH4 s.heap (.str x t) (.ref l)).objs.size))) { s with heap := zH5 s.heap (.str x t) (.ref l) }) :=
  .of_wp fun prog w A R s h => by
    obtain ⟨hp, g, d, tk, os⟩ := s; obtain ⟨hl, h⟩ := h
    have hsub := sub_zip
    have hL2 : Heap.IsList (Shared.heap ⟨hp.push { cls := .type (strIterType x), data := .fields #[.str x t, .int 0 0] }, g, d, tk, os⟩) l ys := Heap.IsList.push hl _
    wp_walk using wpAny_pyIter_strU, wpAny_pyIter_list hL2
    exact ⟨_, rfl, h⟩

theorem zip_made (h : Heap) (u v : Value) : IsZip (zH5 h u v) (h.objs.size + 4) (h.objs.size + 2) (h.objs.size + 3) .none ∧ IsPair (zH5 h u v) (h.objs.size + 2) (.ref h.objs.size) (.ref (h.objs.size + 1)) ∧
      IsPair (zH5 h u v) (h.objs.size + 3) .none .none ∧ (zH5 h u v).get? h.objs.size = some (itObj u) ∧ (zH5 h u v).get? (h.objs.size + 1) = some (itObj v) ∧ (zH4 h u v).objs.size = h.objs.size + 4 ∧ Ext0 h (zH5 h u v) := by
  have z1 : (h.push (itObj u)).objs.size = h.objs.size + 1 := Heap.size_push ..
  have z2 : (zH2 h u v).objs.size = h.objs.size + 2 := by rw [Heap.size_push, z1]
  have z3 : (zH3 h u v).objs.size = h.objs.size + 3 := by rw [Heap.size_push, z2]
  have z4 : (zH4 h u v).objs.size = h.objs.size + 4 := by rw [Heap.size_push, z3]
  have fr : ∀ v, (itObj v).isFreed = false := fun v => by cases v <;> rfl
  have g5 : (zH5 h u v).get? (zH4 h u v).objs.size = some _ := Heap.get?_push_size _ rfl
  have g4 : (zH5 h u v).get? (zH3 h u v).objs.size = some _ := Heap.get?_push_of_some _ (Heap.get?_push_size _ rfl)
  have g3 : (zH5 h u v).get? (zH2 h u v).objs.size = some _ := Heap.get?_push_of_some _ (Heap.get?_push_of_some _ (Heap.get?_push_size _ rfl))
  have g2 : (zH5 h u v).get? (h.push (itObj u)).objs.size = some (itObj v) := Heap.get?_push_of_some _ (Heap.get?_push_of_some _ (Heap.get?_push_of_some _ (Heap.get?_push_size _ (fr v))))
  have g1 : (zH5 h u v).get? h.objs.size = some (itObj u) := Heap.get?_push_of_some _ (Heap.get?_push_of_some _ (Heap.get?_push_of_some _ (Heap.get?_push_of_some _ (Heap.get?_push_size _ (fr u)))))
  rw [z2, z3, z4] at g5
  rw [z1, z2] at g3
  rw [z3] at g4
  rw [z1] at g2
  exact ⟨g5, g3, g4, g1, g2, z4, fun c o x => Heap.get?_push_of_some _ (Heap.get?_push_of_some _ (Heap.get?_push_of_some _ (Heap.get?_push_of_some _ (Heap.get?_push_of_some _ x))))⟩

theorem ready_zip {u v : Value} {xs ys : List D} {h₀ : Heap} (hh : A.handled = none) (x₀ : Ext0 h₀ s.heap) (lv : Live S s.heap)
    (D1 : ∀ S' h', Ext0 s.heap h' → (∀ a ∈ S', a ∈ S ∨ s.heap.get? a = none) → s.heap.objs.size ∈ S' → h'.get? s.heap.objs.size = some (itObj u) → ∃ St, Drw prog w A.in1 C S' s.heap.objs.size xs St ∧ St 0 h')
    (D2 : ∀ S' h', Ext0 s.heap h' → (∀ a ∈ S', a ∈ S ∨ s.heap.get? a = none) → s.heap.objs.size + 1 ∈ S' → h'.get? (s.heap.objs.size + 1) = some (itObj v) → ∃ St, Drw prog w A.in1 C S' (s.heap.objs.size + 1) ys St ∧ St 0 h') :
    Ready prog w A C S h₀ (.pairs (zipD xs ys)) (.ref (s.heap.objs.size + 4)) { s with heap := zH5 s.heap u v } := by
  obtain ⟨hz, hTI, hTO, g1, g2, -, hk⟩ := zip_made s.heap u v
  intro Q E hQ
  refine wpAny_pyIter_zip hz ?_
  have no : ∀ n, h₀.get? (s.heap.objs.size + n) = none := fun n => none_back x₀ (size_none _ n)
  refine hQ _ [s.heap.objs.size + 4, s.heap.objs.size + 3, s.heap.objs.size, s.heap.objs.size + 1] _ (fun _ _ e => e) (fun a ha => ?_) (fun a ha => ?_) fun S' h1 h2 h3 => ?_
  · simp only [List.mem_cons, List.not_mem_nil, or_false] at ha
    rcases ha with rfl | rfl | rfl | rfl
    · exact no 4
    · exact no 3
    · exact no 0
    · exact no 1
  · simp only [List.mem_cons, List.not_mem_nil, or_false] at ha
    rcases ha with rfl | rfl | rfl | rfl
    · exact ⟨_, hz⟩
    · exact ⟨_, hTO⟩
    · exact ⟨_, g1⟩
    · exact ⟨_, g2⟩
  · have wk : ∀ a ∈ S', a ∈ S ∨ s.heap.get? a = none := fun a ha => by
      rcases h3 a ha with h | h | h
      · simp only [List.mem_cons, List.not_mem_nil, or_false] at h
        rcases h with rfl | rfl | rfl | rfl
        · exact .inr (size_none _ 4)
        · exact .inr (size_none _ 3)
        · exact .inr (get_size _)
        · exact .inr (size_none _ 1)
      · exact .inl h
      · exact .inr (none_back hk h)
    obtain ⟨St1, d1, s1⟩ := D1 S' _ hk wk (h1 _ (by simp)) g1
    obtain ⟨St2, d2, s2⟩ := D2 S' _ hk wk (h1 _ (by simp)) g2
    have TIS : s.heap.objs.size + 2 ∉ S' := fun m => by
      rcases h3 _ m with h | h | h
      · simp only [List.mem_cons, List.not_mem_nil, or_false] at h
        rcases h with h | h | h | h
        · exact absurd (Nat.add_left_cancel (h : s.heap.objs.size + 2 = s.heap.objs.size + 4)) (by decide)
        · exact absurd (Nat.add_left_cancel (h : s.heap.objs.size + 2 = s.heap.objs.size + 3)) (by decide)
        · exact absurd h (Nat.ne_of_gt (Nat.lt_add_of_pos_right (by decide)))
        · exact absurd (Nat.add_left_cancel (h : s.heap.objs.size + 2 = s.heap.objs.size + 1)) (by decide)
      · exact lv.fresh (size_none _ 2) h
      · exact absurd hTI (by unfold IsPair; rw [h]; simp)
    have ne : ∀ i j : Nat, i ≠ j → s.heap.objs.size + i ≠ s.heap.objs.size + j := fun i j hij e => hij (Nat.add_left_cancel e)
    exact ⟨_, _, itr_zip ⟨h1 _ (by simp), h1 _ (by simp), h1 _ (by simp), h1 _ (by simp), TIS, ne 3 4 (by decide), ne 0 4 (by decide), ne 1 4 (by decide), ne 3 0 (by decide), ne 3 1 (by decide), ne 0 1 (by decide)⟩ d1 d2, hz, hTI, ⟨_, _, hTO⟩, s1, s2⟩

theorem drw_of_str (hh : A.handled = none) {x : Str} {t : Tok} {i : Addr} : ∀ S' h', (i ∈ S') → h'.get? i = some (itObj (.str x t)) → ∃ St, Drw prog w A.in1 C S' i (strChars x) St ∧ St 0 h' :=
  fun _ _ hi hg => ⟨_, drw_str (A := A.in1) (t := t) hh hi, ⟨_, hg, rfl, rfl⟩⟩

theorem call_zip_ss {x y : Str} {t u : Tok} {h₀ : Heap} {Q : Value → Shared → Prop} (hh : A.handled = none) (x₀ : Ext0 h₀ s.heap) (lv : Live S s.heap)
    (hQ : ∀ v s', Keeps s s' → Ready prog w A C S h₀ (.pairs (zipD (strChars x) (strChars y))) v s' → Q v s') : wpAny (model prog w) A (call (.type "zip") [.str x t, .str y u]) Q E s := by
  refine callType_new F.called_zip (by decide) (F.typeCall_zip_2 _ _) (F.newCall_zip_2 _ _) (fun obj => F.args_object_init_3 obj _ _) F.entry_zip_new (meets_zip_ss x y t u) ?_
  obtain ⟨hz, _, _, _, _, z4, hk⟩ := zip_made s.heap (.str x t) (.str y u)
  show _ ∧ _
  rw [z4]
  exact ⟨⟨_, hz, rfl⟩, hQ _ _ ⟨_, s.toks, rfl, hk⟩ (ready_zip hh x₀ lv (fun S' h' _ _ hi hg => drw_of_str hh S' h' hi hg) fun S' h' _ _ hi hg => drw_of_str hh S' h' hi hg)⟩
theorem call_zip_sl {x : Str} {t : Tok} {l : List D} {v : Value} {h₀ : Heap} {Q : Value → Shared → Prop} (hh : A.handled = none) (x₀ : Ext0 h₀ s.heap) (lv : Live S s.heap) (r : Rep C s.heap S (.list l) v)
    (hQ : ∀ v s', Keeps s s' → Ready prog w A C S h₀ (.pairs (zipD (strChars x) l)) v s' → Q v s') : wpAny (model prog w) A (call (.type "zip") [.str x t, v]) Q E s := by
  obtain ⟨la, vs, rfl, hla, hL, rs⟩ := r
  refine callType_new F.called_zip (by decide) (F.typeCall_zip_2 _ _) (F.newCall_zip_2 _ _) (fun obj => F.args_object_init_3 obj _ _) F.entry_zip_new (meets_zip_sl x t la vs.toArray) ⟨hL, ?_⟩
  obtain ⟨hz, _, _, _, _, z4, hk⟩ := zip_made s.heap (.str x t) (.ref la)
  show _ ∧ _
  rw [z4]
  refine ⟨⟨_, hz, rfl⟩, hQ _ _ ⟨_, s.toks, rfl, hk⟩ (ready_zip hh x₀ lv (fun S' h' _ _ hi hg => drw_of_str hh S' h' hi hg) fun S' h' e wk hi hg => ?_)⟩
  exact ⟨_, drw_list (A := A.in1) (vs := vs) hh hi (notin_weak wk hla (let ⟨o, ho, _⟩ := hL; ⟨o, ho⟩)), ⟨⟨_, hg, rfl, rfl⟩, hL.at fun o q => e _ o q⟩, (rs.weak wk).keeps e⟩
end
end Mine

set_option maxRecDepth 10000
set_option genInjectivity false
set_option genSizeOf false
set_option genSizeOfSpec false
namespace Mine

theorem KX {s s' : Shared} (k : PySem.Keeps s s') : Ext0 s.heap s'.heap := Keeps.ext k
theorem KT {s s' s'' : Shared} (a : PySem.Keeps s s') (b : PySem.Keeps s' s'') : PySem.Keeps s s'' := Keeps.trans a b
noncomputable def kwv : Option Bool → List (Str × Value)
  | none => []
  | some b => [(Str.ofString "name", .bool b)]
structure Wd (prog : Program) (w : World) (C : Addr) (G : Kn) (KK : Heap → Prop) (kA : Addr → Prop) (mg : Str → Option Value) (dp : Nat) : Prop where
  ko : KOK KK kA
  g : ∀ h, KK h → h.Ns mainGlobals mg
  b : ∀ h, KK h → ∃ mb, h.Ns builtinsNs mb ∧ ∀ x : Str, x ≠ "__name__" → mb x = bootBuiltins x
  miss : ∀ x, ((bk x).isSome = true ∨ (sk x).isSome = true) → mg x = none
  fn : ∀ g ds d, G.fn g ds = some d → ∃ a o fd, mg g = some (.ref a) ∧ o.data = .func fd ∧ (∀ h, KK h → h.get? a = some o) ∧
      ∀ (A : Around) (s : Shared) (S : List Addr) (vs : List Value) (Q : Value → Shared → Prop) (E : Value → Shared → Prop), KK s.heap → Live S s.heap → Rm dp A → Reps C s.heap S ds vs → Gets C S s d Q → wpAny (model prog w) A (call (.ref a) vs) Q E s
  gc : ∀ x d, G.gc x = some d → ∃ v, mg x = some v ∧ ∀ h S, Rep C h S d v
  me : ∀ m kvs ds kw d, G.me m kvs ds kw = some d → ∃ a o fd, o.data = .func fd ∧ (∀ h, KK h → h.get? a = some o) ∧
      (∀ (A : Around) (s : Shared) (Q : Value × List Value → Shared → Prop) (E : Value → Shared → Prop) (S : List Addr) (x dx l : Addr) (us : List Value) (pl : Sem Bool), KK s.heap → Tab C s.heap S kvs x dx l us → Q (.ref a, [.ref x]) s → wpAny (model prog w) A (getMethod (.ref x) m pl) Q E s) ∧
      ∀ (A : Around) (s : Shared) (S : List Addr) (x dx l : Addr) (us vs : List Value) (Q : Value → Shared → Prop) (E : Value → Shared → Prop), KK s.heap → Live S s.heap → Rm dp A → Tab C s.heap S kvs x dx l us → Reps C s.heap S ds vs → Gets C S s d Q →
        wpAny (model prog w) A (call (.ref a) (.ref x :: vs) (kwv kw)) Q E s
  hd : ∀ (A : Around) (s : Shared) (Q : Value → Shared → Prop) (E : Value → Shared → Prop) (S : List Addr) (kvs : List (D × D)) (x dx l : Addr) (us : List Value), KK s.heap → Tab C s.heap S kvs x dx l us → (∀ tk, Q (.ref l) { s with toks := tk }) →
    wpAny (model prog w) A (getAttr (.ref x) (Str.ofString "_headers") true) Q E s

noncomputable def noStar : Expr → Bool
  | .Starred .. => false
  | _ => true
theorem starEach_cons {e : Expr} {rest : List Expr} {env : Env} (h : noStar e = true) : starEach (e :: rest) env = (false, eval e env) :: starEach rest env := by
  cases e <;> first | rfl | (cases h)
theorem hbase {o : Expr} {m : Str} {env : Env} (h : okBase o = true) : attributeBase o m env (eval o env) = eval o env := by
  cases o <;> first | rfl | skip
  rename_i f args kws p
  cases f <;> first | rfl | skip
  cases args <;> first | rfl | skip
  cases kws <;> first | rfl | skip
  cases (show false = true from h)
theorem notSet_fold {e : Expr} {env : Env} (h : isSetE e = false) (x : Value) : foldedSetIterable e env x = pure x := by
  cases e <;> first | rfl | cases (show true = false from h)
theorem notSet_marks {op : CmpOp} {e : Expr} (h : isSetE e = false) : behindInMarks op e = false := by
  cases e <;> first | rfl | cases (show true = false from h)
theorem sub_ops {slice : Expr} {o i : Value} : ∃ ops, subscripted slice false o i = operate ops (getItem o i) := by
  cases slice <;> first | exact ⟨[o, i], rfl⟩ | skip
  rename_i a b c p
  cases c <;> exact ⟨_, rfl⟩

theorem Tups.reps {C : Addr} {h : Heap} {S : List Addr} : ∀ {kvs : List (D × D)} {vs : List Value}, Tups h S kvs vs → Reps C h S (kvs.map fun p => .tuple [p.1, p.2]) vs
  | [], _, x => x
  | (.str _, .str _) :: _, _, ⟨p, t, u, rest, e, hp, ht, r⟩ => ⟨_, _, e, ⟨p, _, rfl, hp, ht, _, _, rfl, ⟨t, rfl⟩, _, _, rfl, ⟨u, rfl⟩, rfl⟩, r.reps⟩
  | (.none, _) :: _, _, x => x.elim
  | (.bool _, _) :: _, _, x => x.elim
  | (.int _, _) :: _, _, x => x.elim
  | (.list _, _) :: _, _, x => x.elim
  | (.tuple _, _) :: _, _, x => x.elim
  | (.dict _, _) :: _, _, x => x.elim
  | (.str _, .none) :: _, _, x => x.elim
  | (.str _, .bool _) :: _, _, x => x.elim
  | (.str _, .int _) :: _, _, x => x.elim
  | (.str _, .list _) :: _, _, x => x.elim
  | (.str _, .tuple _) :: _, _, x => x.elim
  | (.str _, .dict _) :: _, _, x => x.elim

noncomputable def bnm : BK → String
  | .len => "len" | .chr => "chr" | .int => "int" | .min => "min"
noncomputable def snm : SK → String
  | .zip => "zip" | .enumerate => "enumerate" | .range => "range"
noncomputable def mnm : MK → String
  | .index => "index" | .join => "join" | .split => "split" | .find => "find" | .lower => "lower" | .upper => "upper"
theorem bk_eq {g : Str} {k : BK} (h : bk g = some k) : g = Str.ofString (bnm k) := by
  unfold bk at h
  repeat (split at h; · cases h; assumption)
  cases h
theorem sk_eq {g : Str} {k : SK} (h : sk g = some k) : g = Str.ofString (snm k) := by
  unfold sk at h
  repeat (split at h; · cases h; assumption)
  cases h
theorem mk_eq {g : Str} {k : MK} (h : mk g = some k) : g = Str.ofString (mnm k) := by
  unfold mk at h
  repeat (split at h; · cases h; assumption)
  cases h
theorem boot_bk (k : BK) : bootBuiltins (Str.ofString (bnm k)) = some (bval k) := by cases k <;> decide +kernel
theorem boot_sk (k : SK) : bootBuiltins (Str.ofString (snm k)) = some (.type (snm k)) := by cases k <;> decide +kernel
theorem slot_mk (k : MK) : Slot "str" (Str.ofString (mnm k)) (mval k) ∧ typeOf (.builtin (mval k)) = pure (.type "method_descriptor") := by
  cases k
  · exact ⟨F.slot_str_index, F.type_str_index⟩
  · exact ⟨F.slot_str_join, F.type_str_join⟩
  · exact ⟨F.slot_str_split, F.type_str_split⟩
  · exact ⟨F.slot_str_find, F.type_str_find⟩
  · exact ⟨F.slot_str_lower, F.type_str_lower⟩
  · exact ⟨F.slot_str_upper, F.type_str_upper⟩

structure Fre (prog : Program) (w : World) (C : Addr) (KK : Heap → Prop) (dp : Nat) (ih : Ih) : Prop where
  ev : EvOK prog w C KK dp ih
  star : ∀ sc ρ x p, ih sc ρ (.Starred x p) = none
  ts : TsOK prog w C KK dp fun sc ρ e => evT (ih sc ρ) e

section
variable {prog : Program} {w : World} {A : Around} {E : Value → Shared → Prop} {s : Shared} {C : Addr} {S : List Addr} {KK : Heap → Prop} {kA : Addr → Prop} {dp : Nat} {G : Kn} {mg : Str → Option Value} {ih : Ih} {sc : Scope} {ρ : Rho} {env : Env}

theorem Fre.noStar (F : Fre prog w C KK dp ih) {e : Expr} {d : D} (h : ih sc ρ e = some d) : noStar e = true := by
  cases e <;> first | rfl | (rw [F.star] at h; cases h)

theorem args_sound (F : Fre prog w C KK dp ih) (W : KOK KK kA) {pos : Pos} : ∀ {es : List Expr} {ds : List D} {s : Shared} {Q : List Value → Shared → Prop}, evAll (ih sc ρ) es = some ds → env.scope = sc → KK s.heap → Vw C s.heap S env ρ → Live S s.heap → Rm dp A →
    (∀ vs s', Keeps s s' → Reps C s'.heap S ds vs → Q vs s') → wpAny (model prog w) A (spliced (backTo pos (starEach es env))) Q E s
  | [], ds, s, Q, h, _, _, _, _, _, hQ => by cases h; exact Calls.spliced_nil (hQ [] s (Keeps.refl s) rfl)
  | e :: r, ds, s, Q, h, he, hK, V, lv, rm, hQ => by
    unfold evAll at h
    split at h
    · cases h
    · rename_i d hd
      split at h
      · cases h
      · rename_i ds' hds
        cases h
        rw [starEach_cons (F.noStar hd)]
        refine Calls.spliced_cons (F.ev _ _ _ _ hd env S A s _ _ he hK V lv rm fun v s₁ k₁ r₁ => ?_)
        refine args_sound F W hds he (W.keeps hK (KX k₁)) (V.keeps (KX k₁)) (lv.keeps (KX k₁)) rm fun vs s₂ k₂ r₂ => ?_
        exact hQ _ _ (KT k₁ k₂) ⟨v, vs, rfl, r₁.keeps (KX k₂), r₂⟩

theorem plain_args (F : Fre prog w C KK dp ih) {pos : Pos} : ∀ {es : List Expr} {ds : List D}, evAll (ih sc ρ) es = some ds → (backTo pos (starEach es env)).any (·.1) = false
  | [], _, _ => rfl
  | e :: r, ds, h => by
    unfold evAll at h
    split at h
    · cases h
    · rename_i d hd
      split at h
      · cases h
      · rename_i ds' hds
        rw [starEach_cons (F.noStar hd)]
        show (false || _) = false
        rw [Bool.false_or]; exact plain_args F hds
theorem plain_all (F : Fre prog w C KK dp ih) {pos : Pos} : ∀ {es : List Expr} {ds : List D}, evAll (ih sc ρ) es = some ds → (backTo pos (starEach es env)).all (fun x => !x.1) = true
  | [], _, _ => rfl
  | e :: r, ds, h => by
    unfold evAll at h
    split at h
    · cases h
    · rename_i d hd
      split at h
      · cases h
      · rename_i ds' hds
        rw [starEach_cons (F.noStar hd)]
        show (true && _) = true
        rw [Bool.true_and]; exact plain_all F hds

theorem evalArgs_sound (F : Fre prog w C KK dp ih) (W : KOK KK kA) {pos : Pos} {f : Value} {es : List Expr} {ds : List D} {Q : Args → Shared → Prop} (h : evAll (ih sc ρ) es = some ds) (he : env.scope = sc) (hK : KK s.heap) (V : Vw C s.heap S env ρ) (lv : Live S s.heap) (rm : Rm dp A)
    (hQ : ∀ vs s', Keeps s s' → Reps C s'.heap S ds vs → Q ⟨vs, []⟩ s') : wpAny (model prog w) A (evalArgs f true (backTo pos (starEach es env)) []) Q E s := by
  cases es with
  | nil => cases h; exact PyProof.Rows.evalArgs_none (hQ [] s (Keeps.refl s) rfl)
  | cons e r =>
    have hn : noStar e = true := by
      unfold evAll at h
      split at h
      · cases h
      · rename_i d hd; exact F.noStar hd
    have := args_sound (E := E) (pos := pos) (Q := fun vs s' => Q ⟨vs, []⟩ s') F W h he hK V lv rm hQ
    rw [starEach_cons hn] at this ⊢
    exact Calls.evalArgs_plain this

theorem name_sound (W : Wd prog w C G KK kA mg dp) {x : Str} {pos : Pos} {d : D} {Q : Value → Shared → Prop} (h : evName G sc ρ x = some d) (he : env.scope = sc) (hK : KK s.heap) (V : Vw C s.heap S env ρ) (hQ : Gets C S s d Q) :
    wpAny (model prog w) A (eval (.Name x pos) env) Q E s := by
  unfold evName at h
  split at h
  · cases h
  · rename_i hne
    have hd : (x == ("__debug__" : Str)) = false := by simpa using hne
    split at h
    · rename_i d' hd'
      cases h
      rcases V.only x d hd' with hk | hk
      · obtain ⟨m, n, q⟩ := V.ns
        obtain ⟨v, hv, r⟩ := q x d hd' hk
        exact wpAny_Name (wpAny_loadName_local V.kind hk n hv (hQ.now r)) hd
      · obtain ⟨c, ov, hc, hi, q⟩ := V.cell x hk
        obtain ⟨v, rfl, r⟩ := q d hd'
        exact wpAny_Name (wpAny_loadName_cell V.kind hk hc hi (hQ.now r)) hd
    · split at h
      · rename_i hg
        obtain ⟨v, hv, r⟩ := W.gc x d h
        have hk : env.kindOf x = some .globalImplicit := by unfold isGlob at hg; rw [← he] at hg; simpa [Env.kindOf] using hg
        exact Calls.Name_function_global V.kind hk (Calls.loadGlobal_global (mg := mg) (by rw [V.gl]; exact W.g _ hK) hv (hQ.now (r _ _))) hd
      · cases h

theorem glob_load (W : Wd prog w C G KK kA mg dp) {x : Str} {pos : Pos} {v : Value} {Q : Value → Shared → Prop} (hg : isGlob sc x = true) (hne : (x == ("__debug__" : Str)) = false) (he : env.scope = sc) (hK : KK s.heap) (V : Vw C s.heap S env ρ)
    (hv : mg x = some v ∨ (mg x = none ∧ x ≠ "__name__" ∧ bootBuiltins x = some v)) (h : Q v s) : wpAny (model prog w) A (eval (.Name x pos) env) Q E s := by
  have hk : env.kindOf x = some .globalImplicit := by unfold isGlob at hg; rw [← he] at hg; simpa [Env.kindOf] using hg
  rcases hv with hv | ⟨hm, hn, hb⟩
  · exact Calls.Name_function_global V.kind hk (Calls.loadGlobal_global (mg := mg) (by rw [V.gl]; exact W.g _ hK) hv h) hne
  · obtain ⟨mb, n, q⟩ := W.b _ hK
    exact Calls.Name_function_global V.kind hk (Calls.loadGlobal_builtin (mg := mg) (mb := mb) (by rw [V.gl]; exact W.g _ hK) hm (by rw [V.bl]; exact n) ((q x hn).trans hb) h) hne

theorem cmpE_sound (F : Fre prog w C KK dp ih) (W : KOK KK kA) {l r : Expr} {op : CmpOp} {a b : D} {c : Bool} (hl : ih sc ρ l = some a) (hr : ih sc ρ r = some b) (h : cmpD op a b = some c) (he : env.scope = sc) (hK : KK s.heap) (V : Vw C s.heap S env ρ) (lv : Live S s.heap) (rm : Rm dp A)
    {Q : Value → Shared → Prop} (hQ : ∀ s', Keeps s s' → Q (.bool c) s') :
    wpAny (model prog w) A (eval l env) (fun a s₁ => wpAny (model prog w) A (eval r env) (fun b s₂ => wpAny (model prog w) A (compareOp op a b) Q E s₂) E s₁) E s := by
  refine F.ev _ _ _ _ hl env S A s _ _ he hK V lv rm fun va s₁ k₁ ra => ?_
  refine F.ev _ _ _ _ hr env S A s₁ _ _ he (W.keeps hK (KX k₁)) (V.keeps (KX k₁)) (lv.keeps (KX k₁)) rm fun vb s₂ k₂ rb => ?_
  exact cmp_sound (rm.le (Nat.zero_le _)) h (ra.keeps (KX k₂)) rb (hQ s₂ (KT k₁ k₂))
end
end Mine

set_option maxRecDepth 10000
namespace Mine

section
variable {prog : Program} {w : World} {A : Around} {E : Value → Shared → Prop} {s : Shared} {C : Addr} {S : List Addr} {KK : Heap → Prop} {kA : Addr → Prop} {dp : Nat} {G : Kn} {mg : Str → Option Value} {ih : Ih} {sc : Scope} {ρ : Rho} {env : Env}

theorem optI_sound (F : Fre prog w C KK dp ih) {o : Option Expr} {i : Option Int} {Q : Value → Shared → Prop} (h : evOptI (ih sc ρ) o = some i) (he : env.scope = sc) (hK : KK s.heap) (V : Vw C s.heap S env ρ) (lv : Live S s.heap) (rm : Rm dp A)
    (hQ : ∀ v s', PySem.Keeps s s' → PartIs v i → Q v s') : wpAny (model prog w) A (evalPart o env) Q E s := by
  unfold evOptI at h
  split at h
  · cases h; exact wpAny_pure (hQ _ _ (Keeps.refl s) PartIs.none)
  · split at h
    · rename_i e i' hi
      cases h
      exact F.ev _ _ _ _ hi env S A s Q E he hK V lv rm fun v s' k r => hQ v s' k (PartIs.int r)
    · cases h

theorem seq_lookup {d i r : D} {v : Value} (h : Rep C s.heap S d v) (hs : (∃ x, d = .str x) ∨ (∃ l, d = .list l) ∨ (∃ l, d = .tuple l)) : ∃ T id, s.TypeIs v T ∧ typeLookup (.type T) "__getitem__" = pure (some (.builtin id)) := by
  rcases hs with ⟨x, rfl⟩ | ⟨l, rfl⟩ | ⟨l, rfl⟩
  · obtain ⟨t, rfl⟩ := h; exact ⟨"str", _, typeIs_str _ _ _, F.slot_str_getitem.lookup⟩
  · obtain ⟨a, vs, rfl, ha, hl, _⟩ := h; exact ⟨"list", _, hl.typeIs, F.slot_list_getitem.lookup⟩
  · obtain ⟨a, vs, rfl, ha, hl, _⟩ := h; exact ⟨"tuple", _, hl.typeIs, F.slot_tuple_getitem.lookup⟩
theorem slD_seq {d r : D} {lo hi : Option Int} (h : slD d lo hi = some r) : (∃ x, d = .str x) ∨ (∃ l, d = .list l) ∨ (∃ l, d = .tuple l) := by
  unfold slD at h
  split at h
  · exact .inl ⟨_, rfl⟩
  · exact .inr (.inl ⟨_, rfl⟩)
  · cases h
theorem revD_seq {d r : D} (h : revD d = some r) : (∃ x, d = .str x) ∨ (∃ l, d = .list l) ∨ (∃ l, d = .tuple l) := by
  unfold revD at h
  split at h
  · exact .inl ⟨_, rfl⟩
  · cases h
theorem ixD_seq {d i r : D} (h : ixD d i = some r) : (∃ x, d = .str x) ∨ (∃ l, d = .list l) ∨ (∃ l, d = .tuple l) := by
  unfold ixD at h
  split at h
  · exact .inl ⟨_, rfl⟩
  · exact .inr (.inl ⟨_, rfl⟩)
  · exact .inr (.inr ⟨_, rfl⟩)
  · cases h

theorem sub_sound (F : Fre prog w C KK dp ih) (W : KOK KK kA) {v sl : Expr} {pos : Pos} {d r : D} {Q : Value → Shared → Prop} (hv : ih sc ρ v = some d) (h : evSub (ih sc ρ) d sl = some r) (he : env.scope = sc) (hK : KK s.heap) (V : Vw C s.heap S env ρ) (lv : Live S s.heap) (rm : Rm dp A)
    (hQ : Gets C S s r Q) : wpAny (model prog w) A (eval (.Subscript v sl pos) env) Q E s := by
  refine Subscript_ (F.ev _ _ _ _ hv env S A s _ _ he hK V lv rm fun vv s₁ k₁ r₁ => ?_)
  have K₁ := W.keeps hK (KX k₁)
  have V₁ := V.keeps (KX k₁)
  have lv₁ := lv.keeps (KX k₁)
  obtain ⟨ops, hops⟩ := @sub_ops sl vv (.ref 0)
  unfold evSub at h
  split at h
  · rename_i lo hi st p
    split at h
    · split at h
      · rename_i l u hl hu
        refine wpAny_Slice (optI_sound F hl he K₁ V₁ lv₁ rm fun va s₂ k₂ p₂ => optI_sound F hu he (W.keeps K₁ (KX k₂)) (V₁.keeps (KX k₂)) (lv₁.keeps (KX k₂)) rm fun vb s₃ k₃ p₃ => wpAny_pure ?_)
        have k13 := KT k₂ k₃
        have e4 : Ext0 s₁.heap (s₃.heap.push { cls := .type "slice", data := .fields #[va, vb, .none] }) := fun b o e => push_ext _ _ b o (KX k13 b o e)
        have r₄ := r₁.keeps e4
        obtain ⟨T, id, hT, hlk⟩ := seq_lookup (i := d) (r := d) (s := { s₃ with heap := s₃.heap.push { cls := .type "slice", data := .fields #[va, vb, .none] } }) r₄ (slD_seq h)
        obtain ⟨ops, hops⟩ := @sub_ops (.Slice lo hi none p) vv (.ref s₃.heap.objs.size)
        refine tail_any hT hlk (sl_sound (lv₁.keeps e4) h r₄ ⟨_, Heap.get?_push_size _ rfl, rfl, rfl⟩ p₂ p₃ fun v' s' k' r' => hQ v' s' ?_ r') hops
        exact KT k₁ (KT k13 (KT (Keeps.of (t := s₃.toks) (push_ext _ _)) k'))
      · cases h
    · split at h
      · split at h
        · rename_i i hi
          split at h
          · rename_i e1; subst e1
            refine wpAny_Slice (wpAny_pure (wpAny_pure ?_))
            refine F.ev _ _ _ _ hi env S A s₁ _ _ he K₁ V₁ lv₁ rm fun va s₃ k₃ p₃ => ?_
            obtain ⟨t, rfl⟩ := p₃
            have e4 : Ext0 s₁.heap (s₃.heap.push { cls := .type "slice", data := .fields #[.none, .none, .int (-1) t] }) := fun b o e => push_ext _ _ b o (KX k₃ b o e)
            have r₄ := r₁.keeps e4
            obtain ⟨T, id, hT, hlk⟩ := seq_lookup (i := d) (r := d) (s := { s₃ with heap := s₃.heap.push { cls := .type "slice", data := .fields #[.none, .none, .int (-1) t] } }) r₄ (revD_seq h)
            obtain ⟨ops, hops⟩ := @sub_ops (.Slice none none (some _) p) vv (.ref s₃.heap.objs.size)
            refine tail_any hT hlk (rev_sound h r₄ ⟨_, Heap.get?_push_size _ rfl, rfl, rfl⟩ fun v' s' k' r' => hQ v' s' ?_ r') hops
            exact KT k₁ (KT k₃ (KT (Keeps.of (t := s₃.toks) (push_ext _ _)) k'))
          · cases h
        · cases h
      · cases h
  · split at h
    · rename_i i hi
      refine F.ev _ _ _ _ hi env S A s₁ _ _ he K₁ V₁ lv₁ rm fun vi s₂ k₂ r₂ => ?_
      have r₁' := r₁.keeps (KX k₂)
      obtain ⟨T, id, hT, hlk⟩ := seq_lookup (i := d) (r := d) r₁' (ixD_seq h)
      obtain ⟨ops, hops⟩ := @sub_ops sl vv vi
      exact tail_any hT hlk (ix_sound h r₁' r₂ fun v' s' k' r' => hQ v' s' (KT k₁ (KT k₂ k')) r') hops
    · cases h

theorem kw_form {kws : List Keyword} {kw : Option Bool} (h : kwOf kws = some kw) : (kws = [] ∧ kw = none) ∨ ∃ b k p q, kws = [⟨some (Str.ofString "name"), .Constant (.bool b) k p, q⟩] ∧ kw = some b := by
  unfold kwOf at h
  split at h
  · cases h; exact .inl ⟨rfl, rfl⟩
  · split at h
    · rename_i hn; cases h; subst hn; exact .inr ⟨_, _, _, _, rfl, rfl⟩
    · cases h
  · cases h

theorem attr_sound (F : Fre prog w C KK dp ih) (W : Wd prog w C G KK kA mg dp) {o : Expr} {m : Str} {args : List Expr} {kws : List Keyword} {apos pos : Pos} {kw : Option Bool} {d r : D} {ds : List D} {Q : Value → Shared → Prop}
    (hb : okBase o = true) (hl : (apos.endLine == pos.line) = true) (hlen : args.length < 20) (hkw : kwOf kws = some kw) (ho : ih sc ρ o = some d) (ha : evAll (ih sc ρ) args = some ds) (h : callD G m d ds kw = some r)
    (he : env.scope = sc) (hK : KK s.heap) (V : Vw C s.heap S env ρ) (lv : Live S s.heap) (rm : Rm dp A)
    (hQ : Gets C S s r Q) : wpAny (model prog w) A (eval (.Call (.Attribute o m apos) args kws pos) env) Q E s := by
  rw [arm_eval_Call, hbase hb]
  refine wpAny_bind (F.ev _ _ _ _ ho env S A s _ _ he hK V lv rm fun ov s₁ k₁ r₁ => ?_)
  have K₁ := W.ko.keeps hK (KX k₁)
  have V₁ := V.keeps (KX k₁)
  have lv₁ := lv.keeps (KX k₁)
  refine wpAny_bind (wpAny_standAt ?_)
  have hall : (backToKw pos (keywordEach kws env)).all (fun x => x.1.isSome) = true := by
    rcases kw_form hkw with ⟨rfl, _⟩ | ⟨b, k, p, q, rfl, _⟩ <;> rfl
  have hform : methodCallForm (args.length + kws.length) (backTo pos (starEach args env)) (backToKw pos (keywordEach kws env)) = true := by
    unfold methodCallForm
    rw [plain_all F ha, hall]
    have : kws.length ≤ 1 := by rcases kw_form hkw with ⟨rfl, _⟩ | ⟨b, k, p, q, rfl, _⟩ <;> simp
    simp only [Bool.true_and, decide_eq_true_eq]
    split <;> omega
  have hpos : methodCallPos true o env apos pos = pure pos := by unfold methodCallPos; simp [hl]
  unfold methodCall
  rw [hform]
  unfold calleeOf
  rw [if_pos rfl]
  unfold callD at h
  split at h
  · split at h
    · rename_i x k hkk
      obtain ⟨t, rfl⟩ := r₁
      have hme := mk_eq hkk
      subst hme
      obtain ⟨sl, ty⟩ := slot_mk k
      rcases kw_form hkw with ⟨rfl, _⟩ | ⟨b, k', p, q, rfl, hk'⟩
      · refine wpAny_bind (wpAny_holding (getMethod_builtin (typeIs_str _ _ _) PySem.F.plainAttrs_str sl ty (fun a e => nomatch e) ?_))
        refine wpAny_bind (wpAny_of_eq hpos ?_)
        refine Calls.callWith_builtin (plain_args F ha) (evalArgs_sound F W.ko ha he K₁ V₁ lv₁ rm fun vs s₂ k₂ r₂ => ?_)
        exact callM_sound (lv₁.keeps (KX k₂)) h r₂ fun v' s' k' r' => hQ v' s' (KT k₁ (KT k₂ k')) r'
      · cases hk'
    · cases h
  · rename_i kvs
    split at h
    · cases h
    rename_i hpin
    rcases r₁ with ⟨pa, rfl, _⟩ | ⟨x, dx, l, us, rfl, T⟩
    · exact absurd rfl hpin
    obtain ⟨a, ob, fd, hdat, hget, gm, hcall⟩ := W.me _ _ _ _ _ h
    refine wpAny_bind (wpAny_holding (gm A s₁ _ _ S x dx l us _ K₁ T ?_))
    refine wpAny_bind (wpAny_of_eq hpos ?_)
    rcases kw_form hkw with ⟨rfl, rfl⟩ | ⟨b, k', p, q, rfl, rfl⟩
    · refine Calls.callWith_function (o := ob) (fd := fd) (evalArgs_sound F W.ko ha he K₁ V₁ lv₁ rm fun vs s₂ k₂ r₂ => ⟨⟨hget _ (W.ko.keeps K₁ (KX k₂)), hdat⟩, ?_⟩)
      exact hcall A s₂ S x dx l us vs _ _ (W.ko.keeps K₁ (KX k₂)) (lv₁.keeps (KX k₂)) rm (T.ext (KX k₂ |> Ext0.ext)) r₂ fun v' s' k' r' => hQ v' s' (KT k₁ (KT k₂ k')) r'
    · refine callWith_function_kw (o := ob) (fd := fd) ?_
      have fin : ∀ (vs : List Value) (s₂ : Shared), PySem.Keeps s₁ s₂ → Reps C s₂.heap S ds vs → wpAny (model prog w) A (evalAll ((backToKw pos (keywordEach [⟨some (Str.ofString "name"), .Constant (.bool b) k' p, q⟩] env)).map (·.2)))
          (fun ks s₃ => (s₃.heap.get? a = some ob ∧ ob.data = .func fd) ∧ wpAny (model prog w) A (call (.ref a) ([.ref x] ++ vs) (((backToKw pos (keywordEach [⟨some (Str.ofString "name"), .Constant (.bool b) k' p, q⟩] env)).filterMap (·.1)).zip ks)) Q E s₃) E s₂ := fun vs s₂ k₂ r₂ => by
        refine kwAll_cons (Constant_bool (kwAll_nil ⟨⟨hget _ (W.ko.keeps K₁ (KX k₂)), hdat⟩, ?_⟩))
        exact hcall A s₂ S x dx l us vs _ _ (W.ko.keeps K₁ (KX k₂)) (lv₁.keeps (KX k₂)) rm (T.ext (KX k₂ |> Ext0.ext)) r₂ fun v' s' k' r' => hQ v' s' (KT k₁ (KT k₂ k')) r'
      cases args with
      | nil => cases ha; exact evalArgs_kw2_nil hall (fin [] s₁ (Keeps.refl s₁) rfl)
      | cons e rest =>
        have hn : noStar e = true := by
          unfold Mine.evAll at ha
          split at ha
          · cases ha
          · rename_i d hd; exact F.noStar hd
        exact evalArgs_kw2 hall (args_sound F W.ko ha he K₁ V₁ lv₁ rm fun vs s₂ k₂ r₂ => fin vs s₂ k₂ r₂) (starEach_cons hn)
  · cases h

theorem call_sound (F : Fre prog w C KK dp ih) (W : Wd prog w C G KK kA mg dp) {f : Expr} {args : List Expr} {kws : List Keyword} {pos : Pos} {r : D} {Q : Value → Shared → Prop}
    (h : evCall G (ih sc ρ) sc ρ f args kws pos = some r) (he : env.scope = sc) (hK : KK s.heap) (V : Vw C s.heap S env ρ) (lv : Live S s.heap) (rm : Rm dp A)
    (hQ : Gets C S s r Q) : wpAny (model prog w) A (eval (.Call f args kws pos) env) Q E s := by
  unfold evCall at h
  split at h
  · rename_i g gp
    split at h
    · rename_i hc
      simp only [Bool.and_eq_true, decide_eq_true_eq, List.isEmpty_iff] at hc
      obtain ⟨⟨⟨rfl, hg⟩, -⟩, hdb⟩ := hc
      have hne : (g == ("__debug__" : Str)) = false := by simpa using hdb
      split at h
      · cases h
      · rename_i ds ha
        refine Call_ ?_
        split at h
        · rename_i k hk
          have hge := bk_eq hk
          have miss := W.miss g (.inl (by rw [hk]; rfl))
          subst hge
          refine glob_load W hg hne he hK V (.inr ⟨miss, by cases k <;> decide, boot_bk k⟩) ?_
          have go : ∀ vs s', PySem.Keeps s s' → Reps C s'.heap S ds vs → wpAny (model prog w) A (call (bval k) vs) Q E s' := fun vs s' k' r' =>
            callB_sound (rm.le (Nat.zero_le _)) h r' fun v'' s'' k'' r'' => hQ v'' s'' (KT k' k'') r''
          cases k
          · exact Calls.callWith_builtin (plain_args F ha) (evalArgs_sound F W.ko ha he hK V lv rm go)
          · exact Calls.callWith_builtin (plain_args F ha) (evalArgs_sound F W.ko ha he hK V lv rm go)
          · exact PySem.callWith_type (plain_args F ha) (evalArgs_sound F W.ko ha he hK V lv rm go)
          · exact Calls.callWith_builtin (plain_args F ha) (evalArgs_sound F W.ko ha he hK V lv rm go)
        · obtain ⟨a, o, fd, hm, hdat, hget, hcall⟩ := W.fn _ _ _ h
          refine glob_load W hg hne he hK V (.inl hm) ?_
          refine Calls.callWith_function (o := o) (fd := fd) (evalArgs_sound F W.ko ha he hK V lv rm fun vs s' k' r' => ⟨⟨hget _ (W.ko.keeps hK (KX k')), hdat⟩, ?_⟩)
          exact hcall A s' S vs _ _ (W.ko.keeps hK (KX k')) (lv.keeps (KX k')) rm r' fun v'' s'' k'' r'' => hQ v'' s'' (KT k' k'') r''
    · cases h
  · rename_i o m apos
    split at h
    · rename_i hc
      simp only [Bool.and_eq_true, decide_eq_true_eq] at hc
      split at h
      · rename_i kw d ds hkw ho ha
        exact attr_sound F W hc.1.1 hc.1.2 hc.2 hkw ho ha h he hK V lv rm hQ
      · cases h
    · cases h
  · cases h

theorem src_sound (F : Fre prog w C KK dp ih) (W : Wd prog w C G KK kA mg dp) {e : Expr} {src : Src} {Q : Value → Shared → Prop} (h : evSrc (ih sc ρ) sc e = some src) (he : env.scope = sc) (hK : KK s.heap) (V : Vw C s.heap S env ρ) (lv : Live S s.heap) (rm : Rm dp A)
    (hQ : ∀ v s', PySem.Keeps s s' → Ready prog w A C S s.heap src v s' → Q v s') : wpAny (model prog w) A (eval e env) Q E s := by
  unfold evSrc at h
  split at h
  · rename_i k ds hs
    unfold srcCall at hs
    split at hs
    · rename_i f args kws pos
      split at hs
      · rename_i g gp
        split at hs
        · rename_i hg
          split at hs
          · rename_i k' hk
            cases ha : Mine.evAll (ih sc ρ) args with
            | none => rw [ha] at hs; cases hs
            | some ds' =>
            rw [ha] at hs; cases hs
            have hge := sk_eq hk
            have miss := W.miss g (.inr (by rw [hk]; rfl))
            subst hge
            refine Call_ (glob_load W hg (by cases k <;> decide) he hK V (.inr ⟨miss, by cases k <;> decide, boot_sk k⟩) ?_)
            refine PySem.callWith_type (plain_args F ha) (evalArgs_sound F W.ko ha he hK V lv rm fun vs s' kk r => ?_)
            have x₀ := KX kk
            have lv' := lv.keeps x₀
            show wpAny _ _ (call _ ([] ++ vs) _) _ _ _
            rw [List.nil_append]
            cases k with
            | zip =>
              replace h : zipK ds = some src := h
              unfold zipK at h
              split at h
              · split at h
                · cases h
                  obtain ⟨v1, r1, rfl, ⟨t, rfl⟩, v2, r2, rfl, ⟨u, rfl⟩, rfl⟩ := r
                  exact call_zip_ss rm.handled x₀ lv' fun v s'' k'' rd => hQ v s'' (KT kk k'') rd
                · cases h
                  obtain ⟨v1, r1, rfl, ⟨t, rfl⟩, v2, r2, rfl, rl, rfl⟩ := r
                  exact call_zip_sl rm.handled x₀ lv' rl fun v s'' k'' rd => hQ v s'' (KT kk k'') rd
                · cases h
              · cases h
            | enumerate =>
              replace h : (oneL ds).bind (fun l => if l.length ≤ small then some (Src.pairs (enumD 0 l)) else none) = some src := h
              obtain ⟨l, hy, h⟩ := Option.bind_eq_some_iff.mp h
              by_cases hz : l.length ≤ small
              · rw [if_pos hz] at h
                cases h
                rw [oneL_eq hy] at r
                obtain ⟨v1, r1, rfl, rl, rfl⟩ := r
                exact call_enum_sound rm.handled rl x₀ lv' fun v s'' k'' rd => hQ v s'' (KT kk k'') rd
              · rw [if_neg hz] at h; cases h
            | range =>
              replace h : (oneI ds).bind (fun n => if 0 ≤ n ∧ n ≤ small then some (Src.plain ((List.range n.toNat).map fun (i : Nat) => PyData.int (i : Int))) else none) = some src := h
              obtain ⟨n, hy, h⟩ := Option.bind_eq_some_iff.mp h
              by_cases hn : 0 ≤ n ∧ n ≤ small
              · rw [if_pos hn] at h
                cases h
                rw [oneI_eq hy] at r
                obtain ⟨v1, r1, rfl, ⟨t, rfl⟩, rfl⟩ := r
                exact call_range_sound rm.handled hn.1 hn.2 x₀ fun v s'' k'' rd => hQ v s'' (KT kk k'') rd
              · rw [if_neg hn] at h; cases h
          · cases hs
        · cases hs
      · cases hs
    · cases hs
  · split at h
    · rename_i d hd
      cases hq : seqOf d with
      | none => rw [hq] at h; cases h
      | some l =>
      rw [hq] at h; cases h
      exact F.ev _ _ _ _ hd env S A s _ _ he hK V lv rm fun v s' k r => hQ v s' k (ready_seq rm.handled hq r (KX k) (lv.keeps (KX k)))
    · cases h
end
end Mine

set_option maxRecDepth 10000
namespace Mine

section
variable {prog : Program} {w : World} {A : Around} {E : Value → Shared → Prop} {s : Shared} {C : Addr} {S : List Addr} {KK : Heap → Prop} {kA : Addr → Prop} {dp : Nat} {G : Kn} {mg : Str → Option Value} {ih : Ih} {sc : Scope} {ρ : Rho} {env : Env}

theorem comp_core (F : Fre prog w C KK dp ih) (W : Wd prog w C G KK kA mg dp) {elt : Expr} {gens : List Comprehension} {csc : Scope} {pos : Pos} {d : D} {use : Option (Value → Sem Unit)} {Q : Value → Shared → Prop}
    (h : evComp ih sc ρ elt gens csc = some d) (he : env.scope = sc) (hK : KK s.heap) (V : Vw C s.heap S env ρ) (lv : Live S s.heap) (rm : Rm dp A)
    (hR : ∀ Dx Cc h' tk m', s.heap.get? Dx = none → s.heap.get? Cc = none → Dx ≠ Cc → h'.Ns Cc m' → Rep C h' (Cc :: S) d (.ref Dx) → Ext0 s.heap h' → compPost (model prog w) A E use Q (.ref Dx) Cc (.ok .next) { s with heap := h', toks := tk }) :
    ∃ g : Comprehension, gens = [g] ∧ wpAny (model prog w) A (comprehension (.ListComp elt gens csc pos) csc env (firstIterPos gens pos) (newList []) false (eval g.iter env) use) Q E s ∧ g.is_async = 0 := by
  subst he
  unfold evComp at h
  split at h
  · rename_i tgt iter ifs
    split at h
    · rename_i hc
      simp only [Bool.and_eq_true, Bool.not_eq_true'] at hc
      obtain ⟨⟨hoc, hof⟩, hset⟩ := hc
      split at h
      · cases h
      · rename_i src hsrc
        split at h
        · rename_i hf
          simp only [Bool.and_eq_true, decide_eq_true_eq] at hf
          cases ht : turns (compTurnD ih env.scope ρ elt tgt ifs csc) src.items with
          | none => rw [ht] at h; cases h
          | some out =>
          rw [ht] at h; cases h
          have hocc := hoc
          unfold okComp at hocc
          simp only [Bool.and_eq_true, beq_iff_eq, decide_eq_true_eq] at hocc
          obtain ⟨⟨hck, hnm⟩, hnd⟩ := hocc
          have hfr : ∀ x ∈ csc.names, x.2 = .free → ∃ c, env.cells.lookup x.1 = some c := fun x hx hxf => by
            have := List.all_eq_true.mp hof _ hx
            rw [hxf] at this
            simp only [bne_self_eq_false, Bool.false_or, beq_iff_eq] at this
            obtain ⟨c, ov, hc, _⟩ := V.cell x.1 this
            exact ⟨c, hc⟩
          have hnames : ∀ x ∈ csc.names, x.2 = .local → csc.names.lookup x.1 = some .local := fun x hx hl => by
            have := List.all_eq_true.mp hnm _ hx
            rw [hl] at this
            simpa using this
          refine ⟨_, rfl, ?_, rfl⟩
          refine wpAny_comprehension_free (use := use) rfl (fun x => notSet_fold hset x) (closure_is hfr) hck hnames ?_
          refine src_sound F W hsrc rfl hK V lv rm fun xv s₁ k₁ rd => ?_
          refine rd _ _ fun I wr h₂ e₂ hwf hwl hW => ?_
          have e02 : Ext0 s.heap h₂ := fun b o e => e₂ b o (KX k₁ b o e)
          obtain ⟨h₁, tk₁, rfl, -⟩ := id k₁
          have hfit : isPairs src = true → isTup tgt = true := fun hp => by
            have := hf.1
            cases src <;> first | exact this | (cases hp)
          refine comp_block (s := { s with heap := h₂, toks := tk₁ }) (RR := fun acc Cc => compPost (model prog w) A E use Q acc Cc) W.ko F.ev F.ts hoc hof ht hf.2 hfit hK V lv e02 hwf hwl rm hW fun Dx Cc h' tk m' hD hC hne hn hr hb => ?_
          exact hR Dx Cc h' tk m' (none_back e02 hD) (none_back e02 hC) hne hn hr fun b o e => hb b o (fun m => by rw [hwf b m] at e; cases e) (e02 b o e)
        · cases h
    · cases h
  · cases h

theorem comp_sound (F : Fre prog w C KK dp ih) (W : Wd prog w C G KK kA mg dp) {elt : Expr} {gens : List Comprehension} {csc : Scope} {pos : Pos} {d : D} {Q : Value → Shared → Prop}
    (h : evComp ih sc ρ elt gens csc = some d) (he : env.scope = sc) (hK : KK s.heap) (V : Vw C s.heap S env ρ) (lv : Live S s.heap) (rm : Rm dp A) (hQ : Gets C S s d Q) :
    wpAny (model prog w) A (eval (.ListComp elt gens csc pos) env) Q E s := by
  obtain ⟨g, rfl, hw, ha⟩ := comp_core (E := E) (pos := pos) (use := none) (Q := Q) F W h he hK V lv rm fun Dx Cc h' tk m' hD hC hne hn hr x => ⟨m', hn, fun h'' hs => by
    have e1 : Ext (Cc :: S) h' h'' := fun b o hb e => hs.extBut b o (fun q => hb (q ▸ .head _)) e
    exact hQ _ _ ⟨h'', tk, rfl, fun b o e => hs.extBut b o (fun q => by rw [q, hC] at e; cases e) (x b o e)⟩ ((hr.ext e1).weak fun a ha => .inl (.tail _ ha))⟩
  obtain ⟨tgt, iter, ifs, as⟩ := g
  cases ha
  rw [eval_ListComp]
  exact hw

theorem const_sound {c : Const} {k : Nat} {pos : Pos} {d : D} {Q : Value → Shared → Prop} (h : evConst c = some d) (hQ : Gets C S s d Q) : wpAny (model prog w) A (eval (.Constant c k pos) env) Q E s := by
  unfold evConst at h
  split at h
  · cases h; exact wpAny_Constant_none (hQ.now rfl)
  · cases h; exact wpAny_Constant_bool (hQ.now rfl)
  · cases h; exact fun _ _ _ => hQ.toks _ ⟨_, rfl⟩
  · cases h; exact wpAny_Constant_str (hQ.toks _ ⟨_, rfl⟩)
  · cases h

theorem evAll_len {f : Expr → Option D} : ∀ {es : List Expr} {ds : List D}, Mine.evAll f es = some ds → ds.length = es.length
  | [], _, h => by cases h; rfl
  | e :: r, ds, h => by
    unfold Mine.evAll at h
    split at h
    · cases h
    · split at h
      · cases h
      · rename_i hr
        cases h
        rw [List.length_cons, List.length_cons, evAll_len hr]
theorem step_sound (F : Fre prog w C KK dp ih) (W : Wd prog w C G KK kA mg dp) : EvOK prog w C KK dp (evStep G ih) := by
  intro sc ρ e d h env S A s Q E he hK V lv rm hQ
  cases e with
  | Constant c k p => exact const_sound h hQ
  | Name x p => exact name_sound W h he hK V hQ
  | Compare l ops rs p =>
    cases ops with
    | nil => cases (show none = some d from h)
    | cons op ops =>
    cases rs with
    | nil => cases ops <;> cases (show none = some d from h)
    | cons r rs =>
    cases ops with
    | cons _ _ => cases (show none = some d from h)
    | nil =>
    cases rs with
    | cons _ _ => cases (show none = some d from h)
    | nil =>
    delta evStep at h
    dsimp only at h
    split at h
    · cases h
    · rename_i hs
      split at h
      · rename_i a b ha hb
        cases hc : cmpD op a b with
        | none => rw [hc] at h; cases h
        | some c =>
        rw [hc] at h; cases h
        exact wpAny_Compare1 (cmpE_sound F W.ko ha hb hc he hK V lv rm fun s' k => hQ _ _ k rfl) (notSet_marks (by simpa using hs))
      · cases h
  | IfExp t a b p =>
    delta evStep at h
    dsimp only at h
    refine IfExp_ ?_
    split at h
    · rename_i ht
      exact F.ts _ _ _ _ ht env S A s _ _ he hK V lv rm fun s' k => F.ev _ _ _ _ h env S A s' _ _ he (W.ko.keeps hK (KX k)) (V.keeps (KX k)) (lv.keeps (KX k)) rm fun v s'' k' r => hQ v s'' (KT k k') r
    · rename_i ht
      exact F.ts _ _ _ _ ht env S A s _ _ he hK V lv rm fun s' k => F.ev _ _ _ _ h env S A s' _ _ he (W.ko.keeps hK (KX k)) (V.keeps (KX k)) (lv.keeps (KX k)) rm fun v s'' k' r => hQ v s'' (KT k k') r
    · cases h
  | BinOp l op r p =>
    delta evStep at h
    dsimp only at h
    split at h
    · rename_i a b ha hb
      refine wpAny_BinOp (F.ev _ _ _ _ ha env S A s _ _ he hK V lv rm fun va s₁ k₁ ra => ?_)
      refine F.ev _ _ _ _ hb env S A s₁ _ _ he (W.ko.keeps hK (KX k₁)) (V.keeps (KX k₁)) (lv.keeps (KX k₁)) rm fun vb s₂ k₂ rb => ?_
      exact bin_sound ((lv.keeps (KX k₁)).keeps (KX k₂)) h (ra.keeps (KX k₂)) rb fun v s' k r => hQ v s' (KT (KT k₁ k₂) k) r
    · cases h
  | UnaryOp op x p =>
    delta evStep at h
    dsimp only at h
    split at h
    · rename_i hx
      cases h
      refine wpAny_UnaryOp (F.ev _ _ _ _ hx env S A s _ _ he hK V lv rm fun va s₁ k₁ ra => ?_)
      obtain ⟨t, rfl⟩ := ra
      refine neg_int ?_
      exact hQ _ _ (KT k₁ (Keeps.tok _ _)) ⟨_, rfl⟩
    · cases h
  | Tuple es c p =>
    replace h : (if es.length ≤ small then (Mine.evAll (ih sc ρ) es).map PyData.tuple else none) = some d := h
    by_cases hle : es.length ≤ small
    · rw [if_pos hle] at h
      obtain ⟨ds, ha, rfl⟩ := Option.map_eq_some_iff.mp h
      refine Tuple_ (args_sound F W.ko ha he hK V lv rm fun vs s' k r => ?_)
      have hl : vs.length ≤ sizeLine := by
        have e1 := r.length
        have e2 := evAll_len ha
        have e3 := size_line
        have e4 := small_is
        omega
      refine wpAny_newTuple (hsz := hl) (hQ _ _ (KT k (Keeps.of (t := s'.toks) (push_ext _ _))) (tuple_new (lv.keeps (KX k)) r))
    · rw [if_neg hle] at h; cases h
  | List es p =>
    replace h : (if es.length ≤ small then (Mine.evAll (ih sc ρ) es).map PyData.list else none) = some d := h
    by_cases hle : es.length ≤ small
    · rw [if_pos hle] at h
      obtain ⟨ds, ha, rfl⟩ := Option.map_eq_some_iff.mp h
      refine List_ (args_sound F W.ko ha he hK V lv rm fun vs s' k r => ?_)
      have hl : vs.length ≤ sizeLine := by
        have e1 := r.length
        have e2 := evAll_len ha
        have e3 := size_line
        have e4 := small_is
        omega
      refine wpAny_newObj_type (hd := by simpa [sizeOk] using hl) (hQ _ _ (KT k (Keeps.of (t := s'.toks) (push_ext _ _))) (list_new (lv.keeps (KX k)) r))
    · rw [if_neg hle] at h; cases h
  | Subscript v sl p =>
    delta evStep at h
    dsimp only at h
    split at h
    · rename_i v hv
      exact sub_sound F W.ko hv h he hK V lv rm hQ
    · cases h
  | Call f args kws pos => exact call_sound F W h he hK V lv rm hQ
  | ListComp elt gens csc p => exact comp_sound F W h he hK V lv rm hQ
  | Attribute o a p =>
    delta evStep at h
    dsimp only at h
    split at h
    · rename_i hb
      simp only [Bool.and_eq_true, decide_eq_true_eq] at hb
      split at h
      · rename_i kvs hk
        split at h
        · rename_i hpin
          cases h
          rw [arm_eval_Attribute, hbase hb.1, hb.2]
          refine wpAny_bind (F.ev _ _ _ _ hk env S A s _ _ he hK V lv rm fun ov s₁ k₁ r₁ => ?_)
          rcases r₁ with ⟨pa, rfl, _⟩ | ⟨x, dx, l, us, rfl, T⟩
          · cases (show true = false from hpin.2)
          refine wpAny_bind (wpAny_standAt (wpAny_bind (wpAny_holding (W.hd A s₁ _ _ S kvs x dx l us (W.ko.keeps hK (KX k₁)) T fun tk => ?_))))
          refine wpAny_bind (wpAny_letTemporaryGo (wpAny_pure ?_))
          exact hQ _ _ (KT k₁ (Keeps.tok _ _)) ⟨l, us, rfl, T.hl, T.lst, T.tups.reps⟩
        · cases h
      · cases h
    · cases h
  | _ => cases (show none = some d from h)

theorem ts1_sound (F : EvOK prog w C KK dp ih) (W : Wd prog w C G KK kA mg dp) (F' : EvOK prog w C KK dp (evStep G ih)) (st : ∀ sc ρ x p, ih sc ρ (.Starred x p) = none) (T : TsOK prog w C KK dp fun sc ρ e => evT (ih sc ρ) e) :
    TsOK prog w C KK dp fun sc ρ e => evT1 (evStep G ih sc ρ) e := by
  intro sc ρ e b h env S A s Q E he hK V lv rm hQ
  have gen : ∀ d, evStep G ih sc ρ e = some d → truD d = some b → wpAny (model prog w) A (eval e env) (fun v s₁ => wpAny (model prog w) A (truthy v) Q E s₁) E s := fun d hd ht =>
    F' _ _ _ _ hd env S A s _ _ he hK V lv rm fun v s₁ k₁ r₁ => tru_sound ht r₁ fun s₂ k₂ => hQ s₂ (KT k₁ k₂)
  have gen2 : (match evStep G ih sc ρ e with | some d => truD d | none => none) = some b → wpAny (model prog w) A (eval e env) (fun v s₁ => wpAny (model prog w) A (truthy v) Q E s₁) E s := fun hh => by
    split at hh
    · rename_i d hd; exact gen d hd hh
    · cases hh
  cases e <;> first
    | (exact isTrue_plain (gen2 h))
    | (cases h; done)
    | skip
  rename_i l ops rs pos
  delta evT1 at h
  dsimp only at h
  split at h
  · rename_i d hd
    delta evStep at hd
    dsimp only at hd
    split at hd
    · rename_i op r
      split at hd
      · cases hd
      · rename_i hs
        split at hd
        · rename_i a b' ha hb
          cases hc : cmpD op a b' with
          | none => rw [hc] at hd; cases hd
          | some c =>
          rw [hc] at hd; cases hd
          cases h
          have Fr : Fre prog w C KK dp ih := ⟨F, st, T⟩
          have := cmpE_sound (E := E) Fr W.ko ha hb hc he hK V lv rm (Q := fun v s₃ => wpAny (model prog w) A (truthy v) Q E s₃) fun s' k => tru_sound (C := C) (S := S) (d := .bool _) rfl rfl fun s₂ k₂ => hQ s₂ (KT k k₂)
          exact wpAny_isTrue_Compare1 this (notSet_marks (by simpa using hs))
        · cases hd
    · cases hd
  · cases h

theorem evT_cases (ih : Expr → Option D) (e : Expr) : (∃ op vs p, e = .BoolOp op vs p) ∨ evT ih e = evT1 ih e := by
  cases e <;> first | exact .inl ⟨_, _, _, rfl⟩ | exact .inr rfl
theorem ts_sound (T1 : TsOK prog w C KK dp fun sc ρ e => evT1 (ih sc ρ) e) (W : KOK KK kA) : TsOK prog w C KK dp fun sc ρ e => evT (ih sc ρ) e := by
  intro sc ρ e b h env S A s Q E he hK V lv rm hQ
  replace h : evT (ih sc ρ) e = some b := h
  rcases evT_cases (ih sc ρ) e with ⟨op, vs, pos, rfl⟩ | q
  · replace h : evTs (ih sc ρ) op vs = some b := h
    show wpAny _ _ (allTrue op vs env) _ _ _
    induction vs generalizing s with
    | nil => unfold evTs at h; cases h; exact wpAny_pure (hQ s (Keeps.refl s))
    | cons x r IH =>
      show wpAny _ A (do
        match op, ← isTrue x env (eval x env) with
        | .And, false => pure false
        | .Or, true => pure true
        | _, _ => allTrue op r env) Q E s
      unfold evTs at h
      cases hx : evT1 (ih sc ρ) x with
      | none => rw [hx] at h; cases op <;> cases h
      | some c =>
        rw [hx] at h
        refine wpAny_bind (T1 _ _ _ _ hx env S A s _ _ he hK V lv rm fun s' k => ?_)
        have go : evTs (ih sc ρ) op r = some b → wpAny (model prog w) A (allTrue op r env) Q E s' := fun hh => IH s' (W.keeps hK (KX k)) (V.keeps (KX k)) (lv.keeps (KX k)) (fun s'' k' => hQ s'' (KT k k')) hh
        cases op <;> cases c <;> first
          | (cases h; exact wpAny_pure (hQ s' k))
          | exact go h
  · exact T1 sc ρ e b (q.symm.trans h) env S A s Q E he hK V lv rm hQ

theorem ev_sound (W : Wd prog w C G KK kA mg dp) : ∀ n, Fre prog w C KK dp (ev G n)
  | 0 => ⟨fun _ _ _ _ h => (by cases h), fun _ _ _ _ => rfl, ts_sound (ih := ev G 0) (fun sc ρ e b h => by
      exfalso
      replace h : evT1 (fun _ => none) e = some b := h
      cases e <;> cases (show none = some b from h)) W.ko⟩
  | n + 1 => by
    have F := ev_sound W n
    have F' := step_sound F W
    exact ⟨F', fun _ _ _ _ => rfl, ts_sound (ts1_sound F.ev W F' F.star F.ts) W.ko⟩
end
end Mine

set_option maxRecDepth 10000
set_option genInjectivity false
set_option genSizeOf false
set_option genSizeOfSpec false
namespace Mine

inductive Fl
  | next (ρ : Rho)
  | ret (d : D)

inductive Ex (G : Kn) (sc : Scope) : Rho → List Stmt → Fl → Prop
  | nil {ρ} : Ex G sc ρ [] (.next ρ)
  | assign {ρ x p e q r f n d} : ev G n sc ρ e = some d → tgtOk sc x = true → Ex G sc (upd ρ x d) r f → Ex G sc ρ (.Assign [.Name x p] e q :: r) f
  | pair {ρ x px y py k tp e₁ e₂ k' vp q r f n d₁ d₂} : ev G n sc ρ e₁ = some d₁ → ev G n sc ρ e₂ = some d₂ → sc.names.lookup x = some .local → sc.names.lookup y = some .local → x ≠ y → px.line = py.line → [e₁, e₂].all (foldedForSure 8) = false → [e₁, e₂].all (constantsAlone 8) = false →
      Ex G sc (upd (upd ρ y d₂) x d₁) r f → Ex G sc ρ (.Assign [.Tuple [.Name x px, .Name y py] k tp] (.Tuple [e₁, e₂] k' vp) q :: r) f
  | aug {ρ x p op e q r f n a b c} : ρ x = some (.int a) → ev G n sc ρ e = some (.int b) → ((op = .Add ∧ c = a + b) ∨ (op = .Sub ∧ c = a - b)) → tgtOk sc x = true → Ex G sc (upd ρ x (.int c)) r f →
      Ex G sc ρ (.AugAssign (.Name x p) op e q :: r) f
  | ifN {ρ t b₁ b₂ p r f n c ρ'} : evT (ev G n sc ρ) t = some c → Ex G sc ρ (if c then b₁ else b₂) (.next ρ') → Ex G sc ρ' r f → Ex G sc ρ (.If t b₁ b₂ p :: r) f
  | ifR {ρ t b₁ b₂ p r d n c} : evT (ev G n sc ρ) t = some c → Ex G sc ρ (if c then b₁ else b₂) (.ret d) → Ex G sc ρ (.If t b₁ b₂ p :: r) (.ret d)
  | wh {t b p r f n} (ρs : Nat → Rho) (k : Nat) : (∀ i, i < k → evT (ev G n sc (ρs i)) t = some true) → (∀ i, i < k → Ex G sc (ρs i) b (.next (ρs (i + 1)))) → evT (ev G n sc (ρs k)) t = some false → Ex G sc (ρs k) r f →
      Ex G sc (ρs 0) (.While t b [] p :: r) f
  | for {t it b p r f n src} (ρs ρt : Nat → Rho) : isSetE it = false → evSrc (ev G n sc (ρs 0)) sc it = some src → src.fits t = true →
      (∀ i d, src.items[i]? = some d → bindT sc (ρs i) t d = some (ρt i)) → (∀ i, i < src.items.length → Ex G sc (ρt i) b (.next (ρs (i + 1)))) → Ex G sc (ρs src.items.length) r f →
      Ex G sc (ρs 0) (.For t it b [] p :: r) f
  | forR {t it b p r d n src k} (ρs ρt : Nat → Rho) : isSetE it = false → evSrc (ev G n sc (ρs 0)) sc it = some src → src.fits t = true → k < src.items.length →
      (∀ i d, i ≤ k → src.items[i]? = some d → bindT sc (ρs i) t d = some (ρt i)) → (∀ i, i < k → Ex G sc (ρt i) b (.next (ρs (i + 1)))) → Ex G sc (ρt k) b (.ret d) →
      Ex G sc (ρs 0) (.For t it b [] p :: r) (.ret d)
  | ret {ρ e p r n d} : ev G n sc ρ e = some d → Ex G sc ρ (.Return (some e) p :: r) (.ret d)
  | assert {ρ t m p r f n} : evT (ev G n sc ρ) t = some true → Ex G sc ρ r f → Ex G sc ρ (.Assert t m p :: r) f

noncomputable def Post (C : Addr) (S own : List Addr) (env : Env) (s : Shared) (Q : Flow → Shared → Prop) : Fl → Prop
  | .next ρ => ∀ h' tk, Vw C h' S env ρ → Live S h' → But own s.heap h' → Q .next { s with heap := h', toks := tk }
  | .ret d => ∀ v h' tk, Rep C h' S d v → Live S h' → But own s.heap h' → Q (.ret v) { s with heap := h', toks := tk }

section
variable {prog : Program} {w : World} {A : Around} {E : Value → Shared → Prop} {s : Shared} {C : Addr} {S own : List Addr} {KK : Heap → Prop} {kA : Addr → Prop} {dp : Nat} {G : Kn} {mg : Str → Option Value} {ih : Ih} {sc : Scope} {ρ : Rho} {env : Env}

theorem Post.after {s' : Shared} {f : Fl} {Q : Flow → Shared → Prop} (P : Post C S own env s Q f) {h : Heap} {tk : Nat} (e : s' = { s with heap := h, toks := tk }) (b : But own s.heap h) : Post C S own env s' Q f := by
  subst e
  cases f with
  | next ρ => exact fun h' tk' V lv bb => P h' tk' V lv fun a o ha q => bb a o ha (b a o ha q)
  | ret d => exact fun v h' tk' r lv bb => P v h' tk' r lv fun a o ha q => bb a o ha (b a o ha q)
theorem Post.keeps {s' : Shared} {f : Fl} {Q : Flow → Shared → Prop} (P : Post C S own env s Q f) (k : PySem.Keeps s s') : Post C S own env s' Q f := by
  obtain ⟨h, tk, e, x⟩ := k
  exact P.after e fun b o _ q => x b o q

theorem live_store {h h' : Heap} {ρ' : Rho} (lv : Live S h) (O : Own sc own env) (V : Vw C h' S env ρ') (b : But own h h') : Live S h' := fun a ha => by
  by_cases m : a ∈ own
  · exact V.ownLive O a m
  · obtain ⟨o, ho⟩ := lv a ha; exact ⟨o, b a o m ho⟩

theorem assign_sound (W : Wd prog w C G KK kA mg dp) {n : Nat} {x : Str} {p : Pos} {e : Expr} {q : Pos} {d : D} {Q : Flow → Shared → Prop} (h : ev G n sc ρ e = some d) (hx : tgtOk sc x = true) (he : env.scope = sc) (O : Own sc own env) (ho : ∀ a ∈ own, a ∈ S)
    (hK : KK s.heap) (V : Vw C s.heap S env ρ) (lv : Live S s.heap) (rm : Rm dp A) (P : Post C S own env s Q (.next (upd ρ x d))) : wpAny (model prog w) A (exec (.Assign [.Name x p] e q) env) Q E s := by
  have plain : swapsWith e (some (.Name x p)) q.line env = pure false → wpAny (model prog w) A (exec (.Assign [.Name x p] e q) env) Q E s := fun hs => by
    refine wpAny_Assign_Name ((ev_sound W n).ev _ _ _ _ h env S A s _ _ he hK V lv rm fun v s₁ k₁ r₁ => ?_) hs
    refine store_sound O ho (V.keeps (KX k₁)) r₁ hx fun h' tk V' b' => ?_
    obtain ⟨h₁, tk₁, rfl, x₁⟩ := k₁
    exact P h' tk V' (live_store (lv.keeps x₁) O V' b') fun a o ha q => b' a o ha (x₁ a o q)
  by_cases hl : ∃ elt gens csc pos, e = .ListComp elt gens csc pos
  · obtain ⟨elt, gens, csc, pos, rfl⟩ := hl
    cases hb : (env.blockKind == .function && env.kindOf x == some .local && p.line == (Expr.ListComp elt gens csc pos).pos.line && !(csc.names.any fun (n, k) => n == x && (k == .local || k == .cell))) with
    | false => exact plain (by show (pure _ : Sem Bool) = _; rw [hb])
    | true =>
      rw [exec_Assign_Name_used _ _ _ _ (by show (pure _ : Sem Bool) = _; rw [hb])]
      refine wpAny_bind (wpAny_standAt (wpAny_bind ?_))
      cases n with
      | zero => cases h
      | succ n =>
      replace h : evComp (ev G n) sc ρ elt gens csc = some d := h
      obtain ⟨g, rfl, hw, ha⟩ := comp_core (E := E) (pos := pos) (use := some (assign (.Name x p) env)) (Q := fun _ s' => Q .next s') (ev_sound W n) W h he hK V lv rm fun Dx Cc h' tk m' hD hC hne hn hr x' => by
        have hCS : Cc ∉ S := lv.fresh hC
        have hCo : Cc ∉ own := fun m => hCS (ho _ m)
        have V1 : Vw C h' (Cc :: S) env ρ := (V.weak (S' := Cc :: S) fun a ha => by
          rcases List.mem_cons.mp ha with rfl | ha
          · exact .inr hC
          · exact .inl ha).keeps x'
        show wpAny _ A (assign (.Name x p) env (.ref Dx)) _ _ _
        refine wpAny_assign_Name (store_sound O (fun a ha => .tail _ (ho a ha)) V1 hr hx fun h₂ tk₂ V₂ b₂ => ?_)
        refine ⟨m', hn.at' fun o q => b₂ _ o hCo q, fun h₃ hs₃ => ?_⟩
        have b₃ : But [Cc] h₂ h₃ := fun b o hb q => hs₃.extBut b o (fun m => hb (by simp [m])) q
        have V₃ : Vw C h₃ S env (upd ρ x d) := (V₂.but (wr := [Cc]) b₃ (fun a ha => by rw [List.mem_singleton.mp ha]; exact .head _) (fun m => hCo (List.mem_singleton.mp m ▸ O.loc)) (fun y c hy hc m => by
          rw [List.mem_singleton.mp m] at hc
          obtain ⟨c', ov, hc', ⟨o, ho', _⟩, _⟩ := V.cell y hy
          rw [hc] at hc'; cases hc'
          rw [hC] at ho'; cases ho')).weak fun a ha => .inl (.tail _ ha)
        have bb : But own s.heap h₃ := fun a o ha q => b₃ a o (fun m => by rw [List.mem_singleton.mp m, hC] at q; cases q) (b₂ a o ha (x' a o q))
        exact P h₃ _ V₃ (live_store lv O V₃ bb) bb
      obtain ⟨tgt, iter, ifs, as⟩ := g
      cases ha
      show wpAny _ A (comprehension _ csc env _ (newList []) false (eval iter env) (some (assign (.Name x p) env)) >>= fun _ => pure ()) _ _ _
      exact wpAny_bind (wpAny_mono hw (fun _ s' hq => wpAny_pure (wpAny_pure hq)) fun _ _ e => e)
  · refine plain ?_
    cases n with
    | zero => cases h
    | succ n =>
      cases e <;> first
        | rfl
        | exact absurd ⟨_, _, _, _, rfl⟩ hl
        | (cases h; done)

theorem loadN_sound {x : Str} {a : Int} {Q : Value → Shared → Prop} (h : ρ x = some (.int a)) (V : Vw C s.heap S env ρ) (hQ : ∀ t, Q (.int a t) s) : wpAny (model prog w) A (loadName env x) Q E s := by
  rcases V.only x _ h with hk | hk
  · obtain ⟨m, n, q⟩ := V.ns
    obtain ⟨v, hv, ⟨t, rfl⟩⟩ := q x _ h hk
    exact wpAny_loadName_local V.kind hk n hv (hQ t)
  · obtain ⟨c, ov, hc, hi, q⟩ := V.cell x hk
    obtain ⟨v, rfl, ⟨t, rfl⟩⟩ := q _ h
    exact wpAny_loadName_cell V.kind hk hc hi (hQ t)

theorem swap_is {x y : Str} {px py tp vp : Pos} {k k' : Nat} {e₁ e₂ : Expr} (h1 : noStar e₁ = true) (h2 : noStar e₂ = true) (hk : env.scope.kind = .function) (hx : env.kindOf x = some .local) (hy : env.kindOf y = some .local) (hne : x ≠ y) (hl : px.line = py.line)
    (f1 : [e₁, e₂].all (foldedForSure 8) = false) (f2 : [e₁, e₂].all (constantsAlone 8) = false) : swappedStores [.Tuple [.Name x px, .Name y py] k tp] (.Tuple [e₁, e₂] k' vp) env = pure (some [x, y]) := by
  have ed : ([x, y] : List Str).eraseDups = [x, y] := by
    simp [List.eraseDups_cons, beq_iff_eq, hne.symm]
  have bk : env.blockKind = .function := by unfold Env.blockKind; rw [hk]; rfl
  unfold swappedStores
  show (if _ then _ else _) = _
  rw [if_neg (by rw [bk]; simp)]
  split
  · rename_i hc
    simp only [List.any_cons, List.any_nil, Bool.or_false, Bool.or_eq_true] at hc
    rcases hc with hc | hc
    · cases e₁ <;> first | cases (show false = true from hc) | cases (show false = true from h1)
    · cases e₂ <;> first | cases (show false = true from hc) | cases (show false = true from h2)
  · have p1 : (Expr.Name x px).pos = px := rfl
    have p2 : (Expr.Name y py).pos = py := rfl
    simp [hx, hy, hl, ed, f1, f2, p1, p2]

theorem Own.look {x : Str} {k : NameKind} (O : Own sc own env) (h : sc.names.lookup x = some k) (hk : k = .local ∨ k = .cell) : tgtOk sc x = true := by
  unfold tgtOk; rcases hk with rfl | rfl <;> simp [h]

theorem pair_sound (W : Wd prog w C G KK kA mg dp) {n : Nat} {x y : Str} {px py tp vp q : Pos} {k k' : Nat} {e₁ e₂ : Expr} {d₁ d₂ : D} {Q : Flow → Shared → Prop} (h1 : ev G n sc ρ e₁ = some d₁) (h2 : ev G n sc ρ e₂ = some d₂) (hx : sc.names.lookup x = some .local) (hy : sc.names.lookup y = some .local)
    (hne : x ≠ y) (hl : px.line = py.line) (f1 : [e₁, e₂].all (foldedForSure 8) = false) (f2 : [e₁, e₂].all (constantsAlone 8) = false) (he : env.scope = sc) (O : Own sc own env) (ho : ∀ a ∈ own, a ∈ S)
    (hK : KK s.heap) (V : Vw C s.heap S env ρ) (lv : Live S s.heap) (rm : Rm dp A) (P : Post C S own env s Q (.next (upd (upd ρ y d₂) x d₁))) :
    wpAny (model prog w) A (exec (.Assign [.Tuple [.Name x px, .Name y py] k tp] (.Tuple [e₁, e₂] k' vp) q) env) Q E s := by
  have F := ev_sound W n
  refine Assign_Tuple_swapped (names := [x, y]) ?_ rfl (swap_is (F.noStar h1) (F.noStar h2) V.kind (O.kinds x _ hx (.inl rfl)) (O.kinds y _ hy (.inl rfl)) hne hl f1 f2)
  have ha : Mine.evAll (ev G n sc ρ) [e₁, e₂] = some [d₁, d₂] := by simp [Mine.evAll, h1, h2]
  refine Tuple_ (args_sound F W.ko ha he hK V lv rm fun vs s₁ k₁ r₁ => ?_)
  obtain ⟨v₁, r, rfl, rv₁, v₂, r', rfl, rv₂, rfl⟩ := r₁
  refine wpAny_newTuple ?_
  have ht : (s₁.heap.push { cls := .type "tuple", data := .seq #[v₁, v₂] }).IsTuple s₁.heap.objs.size #[v₁, v₂] := ⟨_, Heap.get?_push_size _ rfl, rfl, _, rfl⟩
  refine wpAny_unpackItems_tuple (items := #[v₁, v₂]) rm.handled ht fun h' hx' => ?_
  have x0 : Ext0 s₁.heap h' := fun b o e => hx' b o (Nat.ne_of_lt (Nat.lt_of_lt_of_le (Heap.lt_size e) (by rw [Heap.size_push]; exact Nat.le_succ _))) (push_ext _ _ b o e)
  have x1 : Ext0 s.heap h' := fun b o e => x0 b o (KX k₁ b o e)
  show wpAny _ _ (holding [v₁] (bindName env y v₂) >>= fun _ => assignInOrder [fun v => bindName env x v] [v₁]) _ _ _
  refine wpAny_bind (wpAny_holding (bindName_ (store_sound O ho (V.keeps x1) (rv₂.keeps x0) (O.look hy (.inl rfl)) fun h₂ tk₂ V₂ b₂ => ?_)))
  show wpAny _ _ (holding [] (bindName env x v₁) >>= fun _ => assignInOrder [] []) _ _ _
  refine wpAny_bind (wpAny_holding (bindName_ (store_sound O ho V₂ ((rv₁.keeps x0).ext fun a o ha e => b₂ a o (fun m => ha (ho a m)) e) (O.look hx (.inl rfl)) fun h₃ tk₃ V₃ b₃ => ?_)))
  have bb : But own s.heap h₃ := fun a o ha e => b₃ a o ha (b₂ a o ha (x1 a o e))
  obtain ⟨hh, tt, rfl, _⟩ := k₁
  exact wpAny_pure (P h₃ tk₃ V₃ (live_store lv O V₃ bb) bb)

theorem aug_sound (W : Wd prog w C G KK kA mg dp) {n : Nat} {x : Str} {p q : Pos} {op : Operator} {e : Expr} {a b c : Int} {Q : Flow → Shared → Prop} (h1 : ρ x = some (.int a)) (h2 : ev G n sc ρ e = some (.int b)) (hop : (op = .Add ∧ c = a + b) ∨ (op = .Sub ∧ c = a - b)) (hx : tgtOk sc x = true)
    (he : env.scope = sc) (O : Own sc own env) (ho : ∀ a ∈ own, a ∈ S) (hK : KK s.heap) (V : Vw C s.heap S env ρ) (lv : Live S s.heap) (rm : Rm dp A) (P : Post C S own env s Q (.next (upd ρ x (.int c)))) :
    wpAny (model prog w) A (exec (.AugAssign (.Name x p) op e q) env) Q E s := by
  refine wpAny_AugAssign_Name (loadN_sound h1 V fun t => ?_)
  refine (ev_sound W n).ev _ _ _ _ h2 env S A s _ _ he hK V lv rm fun v s₁ k₁ r₁ => ?_
  obtain ⟨u, rfl⟩ := r₁
  have V₁ := V.keeps (KX k₁)
  have fin : wpAny (model prog w) A (storeName env x (.int c s₁.toks)) (fun _ => Q .next) E { s₁ with toks := s₁.toks + 1 } := by
    refine store_sound (d := .int c) O ho V₁ ⟨_, rfl⟩ hx fun h' tk V' b' => ?_
    obtain ⟨h₁, tk₁, rfl, x₁⟩ := k₁
    exact P h' tk V' (live_store (lv.keeps x₁) O V' b') fun a o ha q => b' a o ha (x₁ a o q)
  rcases hop with ⟨rfl, rfl⟩ | ⟨rfl, rfl⟩
  · exact AutoIntOps.iadd_0 fin
  · exact AutoIntOps.isub_0 fin

noncomputable def SOK (prog : Program) (w : World) (C : Addr) (KK : Heap → Prop) (kA : Addr → Prop) (dp : Nat) (sc : Scope) (ρ : Rho) (ss : List Stmt) (f : Fl) : Prop :=
  ∀ (env : Env) (S own : List Addr) (A : Around) (s : Shared) (Q : Flow → Shared → Prop) (E : Value → Shared → Prop), env.scope = sc → Own sc own env → (∀ a ∈ own, a ∈ S) → (∀ a ∈ own, ¬ kA a) →
    KK s.heap → Vw C s.heap S env ρ → Live S s.heap → Rm dp A → Post C S own env s Q f → wpAny (model prog w) A (execs ss env) Q E s

theorem for_sound (W : Wd prog w C G KK kA mg dp) {t it : Expr} {b r : List Stmt} {p : Pos} {f : Fl} {n : Nat} {src : Src} (ρs ρt : Nat → Rho) (k : Nat) (hset : isSetE it = false) (hsrc : evSrc (ev G n sc (ρs 0)) sc it = some src) (hfit : src.fits t = true) (hk : k ≤ src.items.length)
    (hbt : ∀ i d, i < k → src.items[i]? = some d → bindT sc (ρs i) t d = some (ρt i)) (hb : ∀ i, i < k → SOK prog w C KK kA dp sc (ρt i) b (.next (ρs (i + 1))))
    (fin : (k = src.items.length ∧ SOK prog w C KK kA dp sc (ρs k) r f) ∨ ∃ d v, src.items[k]? = some d ∧ bindT sc (ρs k) t d = some (ρt k) ∧ SOK prog w C KK kA dp sc (ρt k) b (.ret v) ∧ f = .ret v) :
    SOK prog w C KK kA dp sc (ρs 0) (.For t it b [] p :: r) f := by
  intro env S own A s Q E he O ho hok hK V lv rm P
  refine wpAny_execs_cons (wpAny_For (src_sound (ev_sound W n) W hsrc he hK V lv rm fun xv s₁ k₁ rd => rd _ _ fun I wr h₂ e₂ hwf hwl hW => ?_) (fun x => notSet_fold hset x))
  have e02 : Ext0 s.heap h₂ := fun b o e => e₂ b o (KX k₁ b o e)
  obtain ⟨h₁, tk₁, rfl, -⟩ := id k₁
  have hfit' : isPairs src = true → isTup t = true := fun hp => by cases src <;> first | exact hfit | (cases hp)
  have wf : ∀ a o, s.heap.get? a = some o → a ∉ wr := fun a o e m => by rw [hwf a m] at e; cases e
  have owr : ∀ a ∈ own, a ∉ wr := fun a ha m => by obtain ⟨o, ho'⟩ := lv a (ho a ha); exact wf a o ho' m
  obtain ⟨St, Mid, I0, st0⟩ := hW (wr ++ S) (fun a m => List.mem_append.mpr (.inl m)) (fun a m => List.mem_append.mpr (.inr m)) fun a ha => (List.mem_append.mp ha).imp id .inl
  have oS : ∀ a ∈ own, a ∈ wr ++ S := fun a m => List.mem_append.mpr (.inr (ho a m))
  have wS : ∀ a ∈ wr, a ∈ wr ++ S := fun a m => List.mem_append.mpr (.inl m)
  have K₂ : KK h₂ := W.ko.keeps hK e02
  have kwr : ∀ a, kA a → a ∉ wr := fun a ka m => by obtain ⟨o, ho'⟩ := W.ko.live _ a hK ka; exact wf a o ho' m
  have V₂ : Vw C h₂ (wr ++ S) env (ρs 0) := (V.weak (S' := wr ++ S) fun a ha => (List.mem_append.mp ha).symm.imp id (hwf a)).keeps e02
  have lv₂ : Live (wr ++ S) h₂ := fun a ha => by
    rcases List.mem_append.mp ha with m | m
    · exact hwl a m
    · obtain ⟨o, ho'⟩ := lv a m; exact ⟨o, e02 a o ho'⟩
  have cells : ∀ x c, env.kindOf x = some .cell → env.cells.lookup x = some c → c ∉ wr := fun x c hx hc => by
    obtain ⟨c', ov, hc', ⟨o, ho', _⟩, _⟩ := V.cell x hx
    rw [hc] at hc'; cases hc'
    exact wf c o ho'
  have back : ∀ {H H' : Heap}, But (own ++ wr) h₂ H → But own H H' → But (own ++ wr) h₂ H' := fun b1 b2 a o ha e => b2 a o (fun m => ha (List.mem_append.mpr (.inl m))) (b1 a o ha e)
  have toOwn : ∀ {H : Heap}, But (own ++ wr) h₂ H → But own s.heap H := fun b1 a o ha e => b1 a o (fun m => (List.mem_append.mp m).elim ha (wf a o e)) (e02 a o e)
  have kk : ∀ {H : Heap}, But (own ++ wr) h₂ H → KK H := fun b1 => W.ko.keep _ _ K₂ fun a o ka e => b1 a o (fun m => (List.mem_append.mp m).elim (fun m => hok a m ka) (kwr a ka)) e
  refine codeAny_forLoop_any (fun m s' => ∃ i h' tk, s' = { s with heap := h', toks := tk } ∧ i ≤ k ∧ m = src.items.length + 1 - i ∧ Vw C h' (wr ++ S) env (ρs i) ∧ St i h' ∧ Live (wr ++ S) h' ∧ But (own ++ wr) h₂ h') ?_ (src.items.length + 1)
    ⟨0, h₂, tk₁, rfl, Nat.zero_le _, rfl, V₂, st0, lv₂, fun _ _ _ e => e⟩
  rintro m s' ⟨i, H, tk, rfl, hik, rfl, V, st, lv, bb⟩
  -- one item
  have turn : ∀ (d : D) {R : Option Value → Shared → Prop} {E' : Value → Shared → Prop}, src.items[i]? = some d → bindT sc (ρs i) t d = some (ρt i) →
      (∀ v h₁ tk₁, (∀ (Q' : Unit → Shared → Prop) (E'' : Value → Shared → Prop), (∀ h₂', Vw C h₂' (wr ++ S) env (ρs i) → St (i + 1) h₂' → Rep C h₂' (wr ++ S) d v → But wr H h₂' → Q' () { s with heap := h₂', toks := tk₁ }) → wpAny (model prog w) A (letOwnedTupleGo t (.ref I) v) Q' E'' { s with heap := h₁, toks := tk₁ }) → R (some v) { s with heap := h₁, toks := tk₁ }) →
      wpAny (model prog w) A (pyNext (.ref I)) R E' { s with heap := H, toks := tk } := fun d R E' hd hbd hR => by
    obtain ⟨hform, htt⟩ := bindT_form hbd
    refine I0.item i d _ _ _ hd lv st fun v h₁ tk₁ rv hmid b₁ => hR v h₁ tk₁ fun Q' E'' hQ' => ?_
    refine I0.go t i d v _ _ _ hd hfit' htt hform rv hmid fun h₂' st' b₂ => hQ' h₂' ?_ st' (rv.ext fun a o ha e => b₂ a o (fun m => ha (wS a m)) e) fun a o ha e => b₂ a o ha (b₁ a o ha e)
    exact V.but (wr := wr) (fun a o ha e => b₂ a o ha (b₁ a o ha e)) wS (owr _ O.loc) cells
  -- after the binding
  have body : ∀ (d : D) (v : Value) (h₂' : Heap) (tk₁ : Nat) (g : Fl) (Q' : Flow → Shared → Prop) (E' E'' : Value → Shared → Prop), src.items[i]? = some d → bindT sc (ρs i) t d = some (ρt i) → SOK prog w C KK kA dp sc (ρt i) b g → Vw C h₂' (wr ++ S) env (ρs i) → St (i + 1) h₂' →
      Rep C h₂' (wr ++ S) d v → But wr H h₂' →
      (∀ h₃ tk₃, Live (wr ++ S) h₃ → But (own ++ wr) h₂ h₃ → St (i + 1) h₃ → Post C (wr ++ S) own env { s with heap := h₃, toks := tk₃ } Q' g) →
      wpAny (model prog w) A (assign t env v) (fun _ s₂ => wpAny (model prog w) A (execs b env) Q' E' s₂) E'' { s with heap := h₂', toks := tk₁ } := fun d v h₂' tk₁ g Q' E' E'' hd hbd hs V' st' rv b' hP => by
    refine bind_sound rm.handled O oS hbd V' rv fun h₃ tk₃ V₃ b₃ => ?_
    have st₃ : St (i + 1) h₃ := I0.frame _ _ _ st' fun a o ha e => b₃ a o (fun m => ha.elim (owr a m) fun q => q (oS a m)) e
    have b23 : But (own ++ wr) h₂ h₃ := fun a o ha e => b₃ a o (fun m => ha (List.mem_append.mpr (.inl m))) (b' a o (fun m => ha (List.mem_append.mpr (.inr m))) (bb a o ha e))
    have lv₃ : Live (wr ++ S) h₃ := fun a ha => by
      by_cases mo : a ∈ own
      · exact V₃.ownLive O a mo
      · by_cases mw : a ∈ wr
        · exact I0.live _ _ st₃ a mw
        · obtain ⟨o, ho'⟩ := lv a ha
          exact ⟨o, b₃ a o mo (b' a o mw ho')⟩
    exact hs env (wr ++ S) own A _ _ _ he O oS hok (kk b23) V₃ lv₃ rm (hP h₃ tk₃ lv₃ b23 st₃)
  by_cases hlt : i < k
  · have hlen : i < src.items.length := Nat.lt_of_lt_of_le hlt hk
    have hget : src.items[i]? = some src.items[i] := List.getElem?_eq_getElem hlen
    have hbd := hbt i _ hlt hget
    refine turn _ hget hbd fun v h₁ tk₁ hgo => hgo _ _ fun h₂' V' st' rv b' => ?_
    refine body _ v h₂' tk₁ (.next (ρs (i + 1))) _ _ _ hget hbd (hb i hlt) V' st' rv b' fun h₃ tk₃ lv₃ b23 st₃ => fun h₄ tk₄ V₄ lv₄ b₄ => ?_
    replace b₄ : But own h₃ h₄ := b₄
    exact ⟨src.items.length + 1 - (i + 1), by omega, i + 1, h₄, tk₄, rfl, hlt, rfl, V₄, I0.frame _ _ _ st₃ (fun a o ha e => b₄ a o (fun m => ha.elim (owr a m) fun q => q (oS a m)) e), lv₄, back b23 b₄⟩
  · have hik' : i = k := by omega
    subst hik'
    rcases fin with ⟨hlen, hr⟩ | ⟨d, v, hget, hbd, hs, rfl⟩
    · refine I0.done _ _ _ (hlen ▸ st) fun h₃ tk₃ b₃ => wpAny_execs_nil ?_
      replace b₃ : But wr H h₃ := b₃
      have b23 : But (own ++ wr) h₂ h₃ := fun a o ha e => b₃ a o (fun m => ha (List.mem_append.mpr (.inr m))) (bb a o ha e)
      have V₃ : Vw C h₃ S env (ρs i) := (V.but (wr := wr) b₃ wS (owr _ O.loc) cells).weak fun a ha => .inl (List.mem_append.mpr (.inr ha))
      have lv₃ : Live S h₃ := fun a ha => by
        obtain ⟨o, ho'⟩ := (‹Live S s.heap›) a ha
        by_cases mo : a ∈ own
        · exact V₃.ownLive O a mo
        · exact ⟨o, toOwn b23 a o mo ho'⟩
      exact hr env S own A _ _ _ he O ho hok (kk b23) V₃ lv₃ rm (P.after rfl (toOwn b23))
    · refine turn d hget hbd fun v' h₁ tk₁ hgo => hgo _ _ fun h₂' V' st' rv b' => ?_
      refine body d v' h₂' tk₁ (.ret v) _ _ _ hget hbd hs V' st' rv b' fun h₃ tk₃ lv₃ b23 st₃ => fun u h₄ tk₄ r₄ lv₄ b₄ => ?_
      replace b₄ : But own h₃ h₄ := b₄
      exact P u h₄ tk₄ (r₄.weak fun a ha => .inl (List.mem_append.mpr (.inr ha))) (fun a ha => lv₄ a (List.mem_append.mpr (.inr ha))) (toOwn (back b23 b₄))

theorem while_sound (W : Wd prog w C G KK kA mg dp) {t : Expr} {b r : List Stmt} {p : Pos} {f : Fl} {n : Nat} (ρs : Nat → Rho) (k : Nat) (ht : ∀ i, i < k → evT (ev G n sc (ρs i)) t = some true) (hb : ∀ i, i < k → SOK prog w C KK kA dp sc (ρs i) b (.next (ρs (i + 1))))
    (hf : evT (ev G n sc (ρs k)) t = some false) (hr : SOK prog w C KK kA dp sc (ρs k) r f) : SOK prog w C KK kA dp sc (ρs 0) (.While t b [] p :: r) f := by
  intro env S own A s Q E he O ho hok hK V lv rm P
  have F := ev_sound W n
  refine wpAny_execs_cons (wpAny_While ?_)
  refine codeAny_whileLoop (fun m s' => ∃ i h' tk, s' = { s with heap := h', toks := tk } ∧ i ≤ k ∧ m = k + 1 - i ∧ Vw C h' S env (ρs i) ∧ Live S h' ∧ But own s.heap h') ?_ (k + 1) ⟨0, s.heap, s.toks, rfl, Nat.zero_le _, rfl, V, lv, fun _ _ _ e => e⟩
  rintro m s' ⟨i, H, tk, rfl, hik, rfl, V, lv, bb⟩
  have kk : ∀ {H : Heap}, But own s.heap H → KK H := fun b1 => W.ko.keep _ _ hK fun a o ka e => b1 a o (fun m => hok a m ka) e
  by_cases hlt : i < k
  · refine F.ts _ _ _ _ (ht i hlt) env S A { s with heap := H, toks := tk } _ _ he (kk bb) V lv rm fun s₁ k₁ => ?_
    obtain ⟨h₁, tk₁, rfl, x₁⟩ := k₁
    replace x₁ : Ext0 H h₁ := x₁
    have b1 : But own s.heap h₁ := fun a o ha e => x₁ a o (bb a o ha e)
    simp only [if_true]
    refine hb i hlt env S own A _ _ _ he O ho hok (kk b1) (V.keeps x₁) (lv.keeps x₁) rm fun h₂ tk₂ V₂ lv₂ b₂ => ?_
    exact ⟨k + 1 - (i + 1), by omega, i + 1, h₂, tk₂, rfl, hlt, rfl, V₂, lv₂, fun a o ha e => b₂ a o ha (b1 a o ha e)⟩
  · have : i = k := by omega
    subst this
    refine F.ts _ _ _ _ hf env S A { s with heap := H, toks := tk } _ _ he (kk bb) V lv rm fun s₁ k₁ => ?_
    obtain ⟨h₁, tk₁, rfl, x₁⟩ := k₁
    replace x₁ : Ext0 H h₁ := x₁
    have b1 : But own s.heap h₁ := fun a o ha e => x₁ a o (bb a o ha e)
    simp only [Bool.false_eq_true, if_false]
    exact wpAny_execs_nil (hr env S own A _ _ _ he O ho hok (kk b1) (V.keeps x₁) (lv.keeps x₁) rm (P.after rfl b1))

theorem ex_sound (W : Wd prog w C G KK kA mg dp) {ss : List Stmt} {f : Fl} (h : Ex G sc ρ ss f) : SOK prog w C KK kA dp sc ρ ss f := by
  induction h with
  | nil => intro env S own A s Q E he O ho hok hK V lv rm P; exact wpAny_execs_nil (P s.heap s.toks V lv fun _ _ _ e => e)
  | assign h1 h2 _ IH =>
    intro env S own A s Q E he O ho hok hK V lv rm P
    refine wpAny_execs_cons (assign_sound W h1 h2 he O ho hK V lv rm fun h' tk V' lv' b' => ?_)
    exact IH env S own A _ _ _ he O ho hok (W.ko.keep _ _ hK fun b o kb e => b' b o (fun m => hok b m kb) e) V' lv' rm (P.after rfl b')
  | pair h1 h2 hx hy hne hl f1 f2 _ IH =>
    intro env S own A s Q E he O ho hok hK V lv rm P
    refine wpAny_execs_cons (pair_sound W h1 h2 hx hy hne hl f1 f2 he O ho hK V lv rm fun h' tk V' lv' b' => ?_)
    exact IH env S own A _ _ _ he O ho hok (W.ko.keep _ _ hK fun b o kb e => b' b o (fun m => hok b m kb) e) V' lv' rm (P.after rfl b')
  | aug h1 h2 hop hx _ IH =>
    intro env S own A s Q E he O ho hok hK V lv rm P
    refine wpAny_execs_cons (aug_sound W h1 h2 hop hx he O ho hK V lv rm fun h' tk V' lv' b' => ?_)
    exact IH env S own A _ _ _ he O ho hok (W.ko.keep _ _ hK fun b o kb e => b' b o (fun m => hok b m kb) e) V' lv' rm (P.after rfl b')
  | @ifN ρ t b₁ b₂ p r f n c ρ' h1 _ _ IH1 IH2 =>
    intro env S own A s Q E he O ho hok hK V lv rm P
    refine wpAny_execs_cons (wpAny_If ((ev_sound W _).ts _ _ _ _ h1 env S A s _ _ he hK V lv rm fun s₁ k₁ => ?_))
    have go : wpAny (model prog w) A (execs (if c then b₁ else b₂) env) (fun f s' => match f with | .next => wpAny (model prog w) A (execs r env) Q E s' | f => Q f s') E s₁ := by
      refine IH1 env S own A _ _ _ he O ho hok (W.ko.keeps hK (KX k₁)) (V.keeps (KX k₁)) (lv.keeps (KX k₁)) rm fun h' tk V' lv' b' => ?_
      obtain ⟨h₁, tk₁, rfl, x₁⟩ := k₁
      have bb : But own s.heap h' := fun a o ha e => b' a o ha (x₁ a o e)
      exact IH2 env S own A _ _ _ he O ho hok (W.ko.keep _ _ hK fun b o kb e => bb b o (fun m => hok b m kb) e) V' lv' rm (P.after rfl bb)
    cases c <;> exact go
  | @ifR ρ t b₁ b₂ p r d n c h1 _ IH1 =>
    intro env S own A s Q E he O ho hok hK V lv rm P
    refine wpAny_execs_cons (wpAny_If ((ev_sound W _).ts _ _ _ _ h1 env S A s _ _ he hK V lv rm fun s₁ k₁ => ?_))
    have go : wpAny (model prog w) A (execs (if c then b₁ else b₂) env) (fun f s' => match f with | .next => wpAny (model prog w) A (execs r env) Q E s' | f => Q f s') E s₁ := by
      refine IH1 env S own A _ _ _ he O ho hok (W.ko.keeps hK (KX k₁)) (V.keeps (KX k₁)) (lv.keeps (KX k₁)) rm fun v h' tk r' lv' b' => ?_
      obtain ⟨h₁, tk₁, rfl, x₁⟩ := k₁
      exact P v h' tk r' lv' fun a o ha e => b' a o ha (x₁ a o e)
    cases c <;> exact go
  | wh ρs k ht _ hf _ IHb IHr => exact while_sound W ρs k ht IHb hf IHr
  | «for» ρs ρt hset hsrc hfit hbt _ _ IHb IHr => exact for_sound W ρs ρt _ hset hsrc hfit (Nat.le_refl _) (fun i d _ hd => hbt i d hd) IHb (.inl ⟨rfl, IHr⟩)
  | @forR t it b p r d n src k ρs ρt hset hsrc hfit hlt hbt _ _ IHb IHr =>
    exact for_sound W ρs ρt k hset hsrc hfit (Nat.le_of_lt hlt) (fun i d hi hd => hbt i d (Nat.le_of_lt hi) hd) IHb (.inr ⟨_, _, List.getElem?_eq_getElem hlt, hbt k _ (Nat.le_refl _) (List.getElem?_eq_getElem hlt), IHr, rfl⟩)
  | ret h1 =>
    intro env S own A s Q E he O ho hok hK V lv rm P
    refine wpAny_execs_cons (wpAny_Return_some ((ev_sound W _).ev _ _ _ _ h1 env S A s _ _ he hK V lv rm fun v s₁ k₁ r₁ => ?_))
    obtain ⟨h₁, tk₁, rfl, x₁⟩ := k₁
    exact P v h₁ tk₁ r₁ (lv.keeps x₁) fun a o _ e => x₁ a o e
  | assert h1 _ IH =>
    intro env S own A s Q E he O ho hok hK V lv rm P
    refine wpAny_execs_cons (wpAny_Assert_holds ((ev_sound W _).ts _ _ _ _ h1 env S A s _ _ he hK V lv rm fun s₁ k₁ => ⟨rfl, ?_⟩))
    exact IH env S own A _ _ _ he O ho hok (W.ko.keeps hK (KX k₁)) (V.keeps (KX k₁)) (lv.keeps (KX k₁)) rm (P.keeps k₁)
end
end Mine

set_option maxRecDepth 10000
set_option genInjectivity false
set_option genSizeOf false
set_option genSizeOfSpec false
namespace Mine

/-- what is known of a function object -/
structure FnAt (KK : Heap → Prop) (a : Addr) (o : Obj) (fd : FuncData) (body : List Stmt) : Prop where
  get : ∀ h, KK h → h.get? a = some o
  dat : o.data = .func fd
  lim : ∀ h, KK h → h.NoLimit
  cod : ∀ h, KK h → h.CodeRec fd.code fd.qualname
  bod : fd.body = .stmts body
  clo : fd.closure = []
  glo : fd.globals = mainGlobals
  bui : fd.builtins = builtinsNs
  cor : fd.scope.isCoroutine = false
  gen : fd.scope.isGenerator = false
  knd : fd.scope.kind = .function
  nod : (fd.scope.names.map (·.1)).Nodup

noncomputable def rhoOf : List (Str × D) → Rho := fun l y => l.lookup y

theorem bindL_get {kindOf : Str → Option NameKind} : ∀ {binds : List (Str × Value)} {m : Str → Option Value} {x : Str} {v : Value}, (binds.map (·.1)).Nodup → binds.lookup x = some v → kindOf x = some .local → bindL kindOf binds m x = some v
  | (n, u) :: r, m, x, v, nd, h, hk => by
    rw [List.map_cons, List.nodup_cons] at nd
    unfold bindL
    rw [List.lookup_cons] at h
    cases hx : x == n with
    | true =>
      rw [hx] at h; cases h
      have : x = n := beq_iff_eq.mp hx
      subst this
      rw [if_pos hk]
      have none : ∀ {r : List (Str × Value)} {m : Str → Option Value}, x ∉ r.map (·.1) → bindL kindOf r m x = m x := fun {r} => by
        induction r with
        | nil => intro m _; rfl
        | cons p r ih =>
          intro m hn
          obtain ⟨y, b⟩ := p
          rw [List.map_cons, List.mem_cons, not_or] at hn
          unfold bindL
          rw [ih hn.2]
          split
          · exact if_neg hn.1
          · rfl
      rw [none nd.1, if_pos rfl]
    | false => rw [hx] at h; exact bindL_get nd.2 h hk
theorem bindC_get {kindOf : Str → Option NameKind} : ∀ {binds : List (Str × Value)} {m : Str → Option Value} {x : Str} {v : Value}, (binds.map (·.1)).Nodup → binds.lookup x = some v → kindOf x ≠ some .local → bindC kindOf binds m x = some v
  | (n, u) :: r, m, x, v, nd, h, hk => by
    rw [List.map_cons, List.nodup_cons] at nd
    unfold bindC
    rw [List.lookup_cons] at h
    cases hx : x == n with
    | true =>
      rw [hx] at h; cases h
      have : x = n := beq_iff_eq.mp hx
      subst this
      rw [if_neg hk]
      have none : ∀ {r : List (Str × Value)} {m : Str → Option Value}, x ∉ r.map (·.1) → bindC kindOf r m x = m x := fun {r} => by
        induction r with
        | nil => intro m _; rfl
        | cons p r ih =>
          intro m hn
          obtain ⟨y, b⟩ := p
          rw [List.map_cons, List.mem_cons, not_or] at hn
          unfold bindC
          rw [ih hn.2]
          split
          · rfl
          · exact if_neg hn.1
      rw [none nd.1, if_pos rfl]
    | false => rw [hx] at h; exact bindC_get nd.2 h hk

theorem zip_lookup {C : Addr} {h : Heap} {S : List Addr} : ∀ {ps : List Str} {ds : List D} {vs : List Value} {x : Str} {d : D}, Reps C h S ds vs → (ps.zip ds).lookup x = some d → ∃ v, (ps.zip vs).lookup x = some v ∧ Rep C h S d v
  | [], _, _, _, _, _, h => by simp at h
  | _ :: _, [], _, _, _, _, h => by simp at h
  | p :: ps, e :: ds, vs, x, d, ⟨v, r, e1, ra, rr⟩, h => by
    subst e1
    rw [List.zip_cons_cons, List.lookup_cons] at h ⊢
    cases hx : x == p with
    | true => rw [hx] at h; cases h; exact ⟨v, rfl, ra⟩
    | false => rw [hx] at h; exact zip_lookup rr h

section
variable {prog : Program} {w : World} {A : Around} {E : Value → Shared → Prop} {s : Shared} {C : Addr} {S : List Addr} {KK : Heap → Prop} {kA : Addr → Prop} {dp : Nat}

theorem codeAny_call_cellsA {R : Result → Shared → Prop} {a : Addr} {o : Obj} {fd : FuncData} {body : List Stmt} {args : Args} {binds : List (Str × Value)}
    (hroom : A.depth < recursionLimit) (ho : s.heap.get? a = some o) (hdata : o.data = .func fd) (hlim : s.heap.NoLimit) (hcd : s.heap.CodeRec fd.code fd.qualname)
    (hbody : fd.body = .stmts body) (hbind : ∀ (A : Around) (Q : List (Str × Value) → Shared → Prop) (E : Value → Shared → Prop), Q binds s → wpAny (model prog w) A (bindArgs fd args) Q E s) (hclo : fd.closure = [])
    (hkind : ∀ x ∈ binds, fd.scope.names.lookup x.1 = some .local ∨ (fd.scope.names.lookup x.1 = some .cell ∧ ((cellsFrom (s.heap.objs.size + 1) fd.scope.names []).lookup x.1).isSome = true))
    (hco : fd.scope.isCoroutine = false) (hgen : fd.scope.isGenerator = false) (hk : fd.scope.kind = .function)
    (h : ∀ s₁, InCallC s (callEnvC fd s.heap.objs.size a).locals (bindL (callEnvC fd s.heap.objs.size a).kindOf binds fun _ => none) (callEnvC fd s.heap.objs.size a).cells
        (bindC (callEnvC fd s.heap.objs.size a).kindOf binds fun _ => none) s₁ →
      wpAny (model prog w) (A.deeper (callEnvC fd s.heap.objs.size a)) (execs body (callEnvC fd s.heap.objs.size a)) (fun f s' => R (.ok (.ret (match f with | .ret v => v | _ => .none))) s')
        (fun e s' => wpAny (model prog w) (A.deeper (callEnvC fd s.heap.objs.size a)) (leaving (callEnvC fd s.heap.objs.size a) e) (fun _ s'' => R (.error e) s'') (fun e' s'' => R (.error e') s'') s') s₁) :
    codeAny (model prog w) A (.call (.ref a) args) R s := by
  refine codeAny_call_function hroom ho hdata hco hgen hbody hcd ?_
  rw [hclo]
  refine hbind _ _ _ (wpAny_newFunctionEnv_cells hk hkind fun env he s' x => ?_)
  subst he
  exact ⟨hlim.keeps x.toInCall.keep, codeAny_func (h s' x)⟩

/-- a call of a known function: the frame -/
theorem frame_soundW {a : Addr} {o : Obj} {fd : FuncData} {body : List Stmt} (KO : KOK KK kA) (F : FnAt KK a o fd body) {args : Args} {ps : List Str} {ds : List D} {vs : List Value} {Q : Value → Shared → Prop} (hbind : ∀ (A : Around) (Q : List (Str × Value) → Shared → Prop) (E : Value → Shared → Prop), Q (ps.zip vs) s → wpAny (model prog w) A (bindArgs fd args) Q E s)
    (hlen : ps.length = vs.length) (hps : ps.Nodup) (hpk : ∀ x ∈ ps, fd.scope.names.lookup x = some .local ∨ fd.scope.names.lookup x = some .cell) (hK : KK s.heap) (lv : Live S s.heap) (rm : Rm (dp + 1) A) (r : Reps C s.heap S ds vs)
    (h : ∀ env S' own s₁, PySem.Keeps s s₁ → env.scope = fd.scope → Own fd.scope own env → (∀ a ∈ own, a ∈ S') → (∀ a ∈ own, s.heap.get? a = none) → (∀ a ∈ S, a ∈ S') → Vw C s₁.heap S' env (rhoOf (ps.zip ds)) → Live S' s₁.heap →
      wpAny (model prog w) (A.deeper env) (execs body env) (fun f s' => Q (match f with | .ret v => v | _ => .none) s') (fun e s' => wpAny (model prog w) (A.deeper env) (leaving env e) (fun _ s'' => E e s'') (fun e' s'' => E e' s'') s') s₁) :
    wpAny (model prog w) A (call (.ref a) args.pos args.kw) Q E s := by
  have hmap : ∀ (ps : List Str) (vs : List Value), ps.length = vs.length → (ps.zip vs).map (·.1) = ps := fun ps => by
    induction ps with
    | nil => intro vs _; rfl
    | cons p ps ih =>
      intro vs hl
      cases vs with
      | nil => simp at hl
      | cons v vs => simp only [List.zip_cons_cons, List.map_cons]; rw [ih vs (by simpa using hl)]
  have mem : ∀ x ∈ ps.zip vs, x.1 ∈ ps := fun x hx => by
    have h1 : x.1 ∈ (ps.zip vs).map (·.1) := List.mem_map.mpr ⟨x, hx, rfl⟩
    rw [hmap ps vs hlen] at h1
    exact h1
  refine wpAny_call (codeAny_call_cellsA (args := ⟨args.pos, args.kw⟩) (by have := rm.depth; omega) (F.get _ hK) F.dat (F.lim _ hK) (F.cod _ hK) F.bod hbind F.clo (fun x hx => ?_) F.cor F.gen F.knd fun s₁ x => ?_)
  · rcases hpk x.1 (mem x hx) with hk | hk
    · exact .inl hk
    · refine .inr ⟨hk, ?_⟩
      obtain ⟨c, hc⟩ := cellsFrom_has fd.scope.names (s.heap.objs.size + 1) (mem_of_lookup hk)
      rw [hc]; rfl
  · generalize henv : callEnvC fd s.heap.objs.size a = env at x ⊢
    have e1 : env.scope = fd.scope := by rw [← henv]; rfl
    have e2 : env.locals = s.heap.objs.size := by rw [← henv]; rfl
    have e3 : env.cells = cellsFrom (s.heap.objs.size + 1) fd.scope.names [] := by rw [← henv]; rfl
    have e4 : env.globals = mainGlobals := by rw [← henv]; exact F.glo
    have e5 : env.builtins = builtinsNs := by rw [← henv]; exact F.bui
    have kd : ∀ y, env.kindOf y = fd.scope.names.lookup y := fun y => by show env.scope.names.lookup y = _; rw [e1]
    obtain ⟨h', tk, es, hk⟩ := x.done
    have keep : Ext0 s.heap s₁.heap := by rw [es]; exact hk
    have inj : ∀ x' y c, env.cells.lookup x' = some c → env.cells.lookup y = some c → x' = y := fun x' y c hx hy => name_of_addr x.apart (mem_of_lookup hx) (mem_of_lookup hy)
    let own : List Addr := env.locals :: env.cells.map (·.2)
    have O : Own fd.scope own env := {
      loc := .head _
      mem := fun b hb => by
        rcases List.mem_cons.mp hb with e | hb
        · exact .inl e
        · obtain ⟨⟨y, c⟩, hm, rfl⟩ := List.mem_map.mp hb
          refine .inr ⟨y, lookup_of_mem F.nod (cellsFrom_mem _ _ (e3 ▸ hm)), ?_⟩
          exact lookup_of_mem (e3 ▸ cellsFrom_nodup _ _ F.nod) hm
      kinds := fun y k hy _ => by rw [kd, hy]
      cel := fun y hy => by
        obtain ⟨c, hc⟩ := cellsFrom_has fd.scope.names (s.heap.objs.size + 1) (mem_of_lookup hy)
        rw [← e3] at hc
        exact ⟨c, hc, .tail _ (List.mem_map.mpr ⟨_, mem_of_lookup hc, rfl⟩)⟩
      apart := fun y c hc => Nat.ne_of_gt (x.above y c (mem_of_lookup hc))
      inj := inj }
    have ownf : ∀ b ∈ own, s.heap.get? b = none := fun b hb => by
      have ge : s.heap.objs.size ≤ b := by
        rcases List.mem_cons.mp hb with rfl | hb
        · rw [e2]; exact Nat.le_refl _
        · obtain ⟨⟨y, c⟩, hm, rfl⟩ := List.mem_map.mp hb
          have := x.above y c hm
          rw [e2] at this; exact Nat.le_of_lt this
      cases q : s.heap.get? b with
      | none => rfl
      | some o => exact absurd (Heap.lt_size q) (Nat.not_lt.mpr ge)
    have rr : Reps C s₁.heap (own ++ S) ds vs := (r.weak fun b hb => (List.mem_append.mp hb).symm.imp id (ownf b)).keeps keep
    have V : Vw C s₁.heap (own ++ S) env (rhoOf (ps.zip ds)) := {
      kind := by rw [e1]; exact F.knd
      gl := e4
      bl := e5
      ns := ⟨_, x.toInCall.ns, fun y d hy hky => by
        obtain ⟨v, hv, rv⟩ := zip_lookup rr hy
        exact ⟨v, bindL_get (by rw [hmap ps vs hlen]; exact hps) hv hky, rv⟩⟩
      cell := fun y hy => by
        obtain ⟨c, hc, -⟩ := O.cel y (by rw [← kd]; exact hy)
        refine ⟨c, _, hc, x.cell y c hc, fun d hd => ?_⟩
        obtain ⟨v, hv, rv⟩ := zip_lookup rr hd
        exact ⟨v, bindC_get (by rw [hmap ps vs hlen]; exact hps) hv (by rw [hy]; decide), rv⟩
      only := fun y d hy => by
        obtain ⟨v, hv, rv⟩ := zip_lookup rr hy
        rw [kd]; exact hpk y (mem _ (mem_of_lookup hv))
      inj := inj }
    have lv' : Live (own ++ S) s₁.heap := fun b hb => by
      rcases List.mem_append.mp hb with hb | hb
      · exact V.ownLive O b hb
      · obtain ⟨o, ho⟩ := lv b hb; exact ⟨o, keep b o ho⟩
    exact h env (own ++ S) own s₁ ⟨h', tk, es, hk⟩ e1 O (fun b hb => List.mem_append.mpr (.inl hb)) ownf (fun b hb => List.mem_append.mpr (.inr hb)) V lv'

theorem frame_sound {a : Addr} {o : Obj} {fd : FuncData} {body : List Stmt} (KO : KOK KK kA) (F : FnAt KK a o fd body) {args : Args} {ps : List Str} {ds : List D} {vs : List Value} {Q : Value → Shared → Prop} (hbind : bindArgs fd args = pure (ps.zip vs))
    (hlen : ps.length = vs.length) (hps : ps.Nodup) (hpk : ∀ x ∈ ps, fd.scope.names.lookup x = some .local ∨ fd.scope.names.lookup x = some .cell) (hK : KK s.heap) (lv : Live S s.heap) (rm : Rm (dp + 1) A) (r : Reps C s.heap S ds vs)
    (h : ∀ env S' own s₁, PySem.Keeps s s₁ → env.scope = fd.scope → Own fd.scope own env → (∀ a ∈ own, a ∈ S') → (∀ a ∈ own, s.heap.get? a = none) → (∀ a ∈ S, a ∈ S') → Vw C s₁.heap S' env (rhoOf (ps.zip ds)) → Live S' s₁.heap →
      wpAny (model prog w) (A.deeper env) (execs body env) (fun f s' => Q (match f with | .ret v => v | _ => .none) s') (fun e s' => wpAny (model prog w) (A.deeper env) (leaving env e) (fun _ s'' => E e s'') (fun e' s'' => E e' s'') s') s₁) :
    wpAny (model prog w) A (call (.ref a) args.pos args.kw) Q E s :=
  frame_soundW KO F (fun A Q E q => wpAny_of_eq hbind q) hlen hps hpk hK lv rm r h

theorem fn_sound {G : Kn} {mg : Str → Option Value} (W : Wd prog w C G KK kA mg dp) {a : Addr} {o : Obj} {fd : FuncData} {body : List Stmt} (F : FnAt KK a o fd body) {args : Args} {ps : List Str} {ds : List D} {vs : List Value} {d : D} {Q : Value → Shared → Prop} (hbind : bindArgs fd args = pure (ps.zip vs))
    (hlen : ps.length = vs.length) (hps : ps.Nodup) (hpk : ∀ x ∈ ps, fd.scope.names.lookup x = some .local ∨ fd.scope.names.lookup x = some .cell) (hK : KK s.heap) (lv : Live S s.heap) (rm : Rm (dp + 1) A) (r : Reps C s.heap S ds vs)
    (hex : Ex G fd.scope (rhoOf (ps.zip ds)) body (.ret d)) (hQ : Gets C S s d Q) : wpAny (model prog w) A (call (.ref a) args.pos args.kw) Q E s := by
  refine frame_sound W.ko F hbind hlen hps hpk hK lv rm r fun env S' own s₁ k₁ e1 O oS ownf sS V lv' => ?_
  refine ex_sound W hex env S' own _ s₁ _ _ e1 O oS (fun b hb ka => ?_) (W.ko.keeps hK (KX k₁)) V lv' (rm.deeper env) fun v h' tk rv lv'' bb => ?_
  · obtain ⟨o, ho⟩ := W.ko.live _ b hK ka
    rw [ownf b hb] at ho; cases ho
  · obtain ⟨h₁, tk₁, rfl, x₁⟩ := k₁
    exact hQ v _ ⟨h', tk, rfl, fun b o e => bb b o (fun m => by rw [ownf b m] at e; cases e) (x₁ b o e)⟩ (rv.weak fun b hb => .inl (sS b hb))
end
end Mine

set_option genInjectivity false
set_option genSizeOf false
set_option genSizeOfSpec false
namespace Mine
noncomputable abbrev KP (P : Params) : Frag := hd.heap_39 P
noncomputable def fdA (P : Params) (a : Addr) : FuncData := match (KP P).lookup a with | some ⟨_, _, .func fd, _⟩ => fd | _ => default
noncomputable def bdA (P : Params) (a : Addr) : List Stmt := match (fdA P a).body with | .stmts b => b | _ => []
noncomputable def fnObj (fd : FuncData) : Obj := { cls := .type "function", dict := none, data := .func fd, slots := #[] }

structure Base (w : World) (mg mb : Str → Option Value) (hB : Heap) : Prop where
  k : (KP w.params).In hB
  g : hB.Ns mainGlobals mg
  b : hB.Ns builtinsNs mb
  bb : ∀ x : Str, x ≠ "__name__" → mb x = bootBuiltins x
  lim : hB.NoLimit

noncomputable abbrev KB (hB : Heap) : Heap → Prop := fun h => Ext0 hB h
noncomputable abbrev kB (hB : Heap) : Addr → Prop := fun a => ∃ o, hB.get? a = some o
theorem koB (hB : Heap) : KOK (KB hB) (kB hB) where
  keep := fun h h' k e b o q => e b o ⟨o, q⟩ (k b o q)
  live := fun h a k ⟨o, q⟩ => ⟨o, k a o q⟩

theorem fnAt {w : World} {mg mb : Str → Option Value} {hB : Heap} (B : Base w mg mb hB) (a : Addr) (h1 : (KP w.params).lookup a = some (fnObj (fdA w.params a))) (h2 : (fdA w.params a).body = .stmts (bdA w.params a)) (h3 : codeIn (KP w.params) (fdA w.params a).code (fdA w.params a).qualname = true)
    (h4 : (fdA w.params a).closure = []) (h5 : (fdA w.params a).globals = mainGlobals) (h6 : (fdA w.params a).builtins = builtinsNs) (h7 : (fdA w.params a).scope.isCoroutine = false) (h8 : (fdA w.params a).scope.isGenerator = false) (h9 : (fdA w.params a).scope.kind = .function)
    (h10 : decide ((fdA w.params a).scope.names.map (·.1)).Nodup = true) : FnAt (KB hB) a (fnObj (fdA w.params a)) (fdA w.params a) (bdA w.params a) where
  get := fun h k => k _ _ (B.k _ _ h1)
  dat := rfl
  lim := fun h k => B.lim.keeps k
  cod := fun h k => (codeRec_of B.k h3).keeps k
  bod := h2
  clo := h4
  glo := h5
  bui := h6
  cor := h7
  gen := h8
  knd := h9
  nod := of_decide_eq_true h10

theorem at45 {w : World} {mg mb : Str → Option Value} {hB : Heap} (B : Base w mg mb hB) : FnAt (KB hB) 45 (fnObj (fdA w.params 45)) (fdA w.params 45) (bdA w.params 45) :=
  fnAt B 45 (by kernel_rfl) (by kernel_rfl) (by kernel_rfl) (by kernel_rfl) (by kernel_rfl) (by kernel_rfl) (by kernel_rfl) (by kernel_rfl) (by kernel_rfl) (by kernel_rfl)

noncomputable def coll (a b : Str) : Int := PyProof.Rows.b2i (decide (b.cps.toList < a.cps.toList)) - PyProof.Rows.b2i (decide (a.cps.toList < b.cps.toList))
theorem run_coll {P : Params} {G : Kn} {x y : Str} : Ex G (fdA P 45).scope (rhoOf ([Str.ofString "a", Str.ofString "b"].zip [.str x, .str y])) (bdA P 45) (.ret (.int (coll x y))) := by
  refine Ex.ret (n := 5) ?_
  kernel_rfl
theorem bind_coll {P : Params} {u v : Value} : bindArgs (fdA P 45) ⟨[u, v], []⟩ = pure ([Str.ofString "a", Str.ofString "b"].zip [u, v]) := by kernel_rfl

structure FnC (w : World) (C : Addr) (hB : Heap) (mg : Str → Option Value) (dp : Nat) (g : Str) (f : List D → Option D) : Prop where
  ok : ∀ ds d, f ds = some d → ∃ a o fd, mg g = some (.ref a) ∧ o.data = .func fd ∧ (∀ h, KB hB h → h.get? a = some o) ∧
      ∀ (A : Around) (s : Shared) (S : List Addr) (vs : List Value) (Q : Value → Shared → Prop) (E : Value → Shared → Prop), KB hB s.heap → Live S s.heap → Rm dp A → Reps C s.heap S ds vs → Gets C S s d Q →
        wpAny (model PySem.Challenge.rw_tc0025_01.prog w) A (call (.ref a) vs) Q E s
theorem FnC.up {w : World} {C : Addr} {hB : Heap} {mg : Str → Option Value} {dp dp' : Nat} {g : Str} {f : List D → Option D} (F : FnC w C hB mg dp g f) (h : dp ≤ dp') : FnC w C hB mg dp' g f :=
  ⟨fun ds d e => let ⟨a, o, fd, h1, h2, h3, h4⟩ := F.ok ds d e; ⟨a, o, fd, h1, h2, h3, fun A s S vs Q E k l r => h4 A s S vs Q E k l (r.le h)⟩⟩

noncomputable abbrev Me := List (D × D) → List D → Option Bool → Option D
structure MeC (w : World) (C : Addr) (hB : Heap) (dp : Nat) (m : Str) (f : Me) : Prop where
  ok : ∀ kvs ds kw d, f kvs ds kw = some d → ∃ a o fd, o.data = .func fd ∧ (∀ h, KB hB h → h.get? a = some o) ∧
      (∀ (A : Around) (s : Shared) (Q : Value × List Value → Shared → Prop) (E : Value → Shared → Prop) (S : List Addr) (x dx l : Addr) (us : List Value) (pl : Sem Bool), KB hB s.heap → Tab C s.heap S kvs x dx l us → Q (.ref a, [.ref x]) s →
        wpAny (model PySem.Challenge.rw_tc0025_01.prog w) A (getMethod (.ref x) m pl) Q E s) ∧
      ∀ (A : Around) (s : Shared) (S : List Addr) (x dx l : Addr) (us vs : List Value) (Q : Value → Shared → Prop) (E : Value → Shared → Prop), KB hB s.heap → Live S s.heap → Rm dp A → Tab C s.heap S kvs x dx l us → Reps C s.heap S ds vs → Gets C S s d Q →
        wpAny (model PySem.Challenge.rw_tc0025_01.prog w) A (call (.ref a) (.ref x :: vs) (kwv kw)) Q E s
theorem MeC.up {w : World} {C : Addr} {hB : Heap} {dp dp' : Nat} {m : Str} {f : Me} (F : MeC w C hB dp m f) (h : dp ≤ dp') : MeC w C hB dp' m f :=
  ⟨fun kvs ds kw d e => let ⟨a, o, fd, h1, h2, h3, h4⟩ := F.ok kvs ds kw d e; ⟨a, o, fd, h1, h2, h3, fun A s S x dx l us vs Q E k lv r => h4 A s S x dx l us vs Q E k lv (r.le h)⟩⟩

noncomputable def Gk (fs : List (Str × (List D → Option D))) (ms : List (Str × Me)) (cs : List (Str × D)) : Kn where
  fn := fun g ds => match fs.lookup g with | some f => f ds | none => none
  me := fun m kvs ds kw => match ms.lookup m with | some f => f kvs ds kw | none => none
  gc := fun x => cs.lookup x

/-- the class of the tables -/
noncomputable def CH : Addr := 185
noncomputable def HdC (w : World) (hB : Heap) : Prop := ∀ (A : Around) (s : Shared) (Q : Value → Shared → Prop) (E : Value → Shared → Prop) (S : List Addr) (kvs : List (D × D)) (x dx l : Addr) (us : List Value), KB hB s.heap → Tab CH s.heap S kvs x dx l us →
    (∀ tk, Q (.ref l) { s with toks := tk }) → wpAny (model PySem.Challenge.rw_tc0025_01.prog w) A (getAttr (.ref x) (Str.ofString "_headers") true) Q E s

theorem bk_names {x : Str} (h : (bk x).isSome = true ∨ (sk x).isSome = true) : x ∈ [Str.ofString "len", Str.ofString "chr", Str.ofString "int", Str.ofString "min", Str.ofString "zip", Str.ofString "enumerate", Str.ofString "range"] := by
  rcases h with h | h
  · cases q : bk x with
    | none => rw [q] at h; cases h
    | some k => rw [bk_eq q]; cases k <;> simp [bnm]
  · cases q : sk x with
    | none => rw [q] at h; cases h
    | some k => rw [sk_eq q]; cases k <;> simp [snm]

theorem wd_of {w : World} {mg mb : Str → Option Value} {hB : Heap} (B : Base w mg mb hB) {dp : Nat} {fs : List (Str × (List D → Option D))} {ms : List (Str × Me)} {cs : List (Str × D)} (hfs : ∀ p ∈ fs, FnC w CH hB mg dp p.1 p.2) (hms : ∀ p ∈ ms, MeC w CH hB dp p.1 p.2)
    (hcs : ∀ p ∈ cs, ∃ v, mg p.1 = some v ∧ ∀ h S, Rep CH h S p.2 v) (hh : HdC w hB) : Wd PySem.Challenge.rw_tc0025_01.prog w CH (Gk fs ms cs) (KB hB) (kB hB) mg dp where
  ko := koB hB
  g := fun h k => B.g.keeps k
  b := fun h k => ⟨mb, B.b.keeps k, B.bb⟩
  miss := fun x hx => by
    have := bk_names hx
    simp only [List.mem_cons, List.not_mem_nil, or_false] at this
    rcases this with rfl | rfl | rfl | rfl | rfl | rfl | rfl <;> exact mg_none_of B.k B.g (by kernel_rfl)
  fn := fun g ds d h => by
    simp only [Gk] at h
    split at h
    · rename_i f hf; exact (hfs _ (PySem.mem_of_lookup hf)).ok ds d h
    · cases h
  gc := fun x d h => hcs _ (PySem.mem_of_lookup h)
  me := fun m kvs ds kw d h => by
    simp only [Gk] at h
    split at h
    · rename_i f hf; exact (hms _ (PySem.mem_of_lookup hf)).ok kvs ds kw d h
    · cases h
  hd := hh

theorem mgA {w : World} {mg mb : Str → Option Value} {hB : Heap} (B : Base w mg mb hB) {x : Str} {a : Addr} (e : nsIn (KP w.params) mainGlobals x = some (some (.ref a))) : mg x = some (.ref a) := mg_of B.k B.g e

/-- a contract from runs of the body -/
theorem fnC_of {w : World} {mg mb : Str → Option Value} {hB : Heap} (_B : Base w mg mb hB) {dp : Nat} {G : Kn} (W : Wd PySem.Challenge.rw_tc0025_01.prog w CH G (KB hB) (kB hB) mg dp) {g : Str} {a : Addr} {f : List D → Option D} {ps : List Str}
    (F : FnAt (KB hB) a (fnObj (fdA w.params a)) (fdA w.params a) (bdA w.params a)) (hm : mg g = some (.ref a)) (hps : decide ps.Nodup = true) (hpk : ps.all (fun x => (fdA w.params a).scope.names.lookup x == some .local || (fdA w.params a).scope.names.lookup x == some .cell) = true)
    (hbind : ∀ vs : List Value, vs.length = ps.length → bindArgs (fdA w.params a) ⟨vs, []⟩ = pure (ps.zip vs)) (hlen : ∀ ds d, f ds = some d → ds.length = ps.length)
    (hex : ∀ ds d, f ds = some d → Ex G (fdA w.params a).scope (rhoOf (ps.zip ds)) (bdA w.params a) (.ret d)) : FnC w CH hB mg (dp + 1) g f where
  ok := fun ds d h => ⟨a, _, _, hm, F.dat, F.get, fun A s S vs Q E hK lv rm r hQ => by
    have hl : vs.length = ps.length := by rw [r.length, hlen ds d h]
    refine fn_sound W F (args := ⟨vs, []⟩) (hbind vs hl) hl.symm (of_decide_eq_true hps) (fun x hx => ?_) hK lv rm r (hex ds d h) hQ
    have := List.all_eq_true.mp hpk x hx
    simpa using this⟩

noncomputable def collF : List D → Option D
  | [.str x, .str y] => some (.int (coll x y))
  | _ => none
theorem coll_C {w : World} {mg mb : Str → Option Value} {hB : Heap} (B : Base w mg mb hB) (hh : HdC w hB) : FnC w CH hB mg 1 (Str.ofString "_strcoll") collF := by
  refine fnC_of B (G := Gk [] [] []) (wd_of B (by simp) (by simp) (by simp) hh) (at45 B) (mgA B (by kernel_rfl)) (ps := [Str.ofString "a", Str.ofString "b"]) (by kernel_rfl) (by kernel_rfl) ?_ ?_ ?_
  · intro vs hl
    match vs, hl with
    | [u, v], _ => exact bind_coll
  · intro ds d h
    unfold collF at h
    split at h
    · rfl
    · cases h
  · intro ds d h
    unfold collF at h
    split at h
    · cases h; exact run_coll
    · cases h
end Mine

namespace Mine

theorem upd_upd (ρ : Rho) (x : Str) (a b : D) : upd (upd ρ x a) x b = upd ρ x b := by
  funext y; unfold upd; split <;> rfl

section
variable {G : Kn} {sc : Scope} {t : Expr} {b r : List Stmt} {p : Pos} {f : Fl}
theorem wh_down (ρ : Nat → Rho) (n k l : Nat) (hl : l ≤ k) (hT : ∀ i, l < i → i ≤ k → evT (ev G n sc (ρ i)) t = some true) (hF : evT (ev G n sc (ρ l)) t = some false)
    (hb : ∀ i, l < i → i ≤ k → Ex G sc (ρ i) b (.next (ρ (i - 1)))) (hr : Ex G sc (ρ l) r f) : Ex G sc (ρ k) (.While t b [] p :: r) f := by
  have := Ex.wh (G := G) (sc := sc) (t := t) (b := b) (p := p) (r := r) (f := f) (n := n) (fun i => ρ (k - i)) (k - l) (fun i hi => hT _ (by omega) (by omega)) (fun i hi => by
    have h := hb (k - i) (by omega) (by omega)
    rwa [show k - i - 1 = k - (i + 1) by omega] at h) (by rwa [show k - (k - l) = l by omega]) (by rwa [show k - (k - l) = l by omega])
  simpa using this
theorem wh_up (ρ : Nat → Rho) (n k l : Nat) (hl : k ≤ l) (hT : ∀ i, k ≤ i → i < l → evT (ev G n sc (ρ i)) t = some true) (hF : evT (ev G n sc (ρ l)) t = some false)
    (hb : ∀ i, k ≤ i → i < l → Ex G sc (ρ i) b (.next (ρ (i + 1)))) (hr : Ex G sc (ρ l) r f) : Ex G sc (ρ k) (.While t b [] p :: r) f := by
  have := Ex.wh (G := G) (sc := sc) (t := t) (b := b) (p := p) (r := r) (f := f) (n := n) (fun i => ρ (k + i)) (l - k) (fun i hi => hT _ (by omega) (by omega)) (fun i hi => hb (k + i) (by omega) (by omega))
    (by rwa [show k + (l - k) = l by omega]) (by rwa [show k + (l - k) = l by omega])
  simpa using this
end

/-- the first place from the left of the run of greater signs that ends before k -/
noncomputable def lo (l : List Nat) (x : Nat) : Nat → Nat
  | 0 => 0
  | k + 1 => if x < l.getD k 0 then lo l x k else k + 1
/-- the place behind the run of greater signs that starts at j, r signs to go -/
noncomputable def hi (l : List Nat) (x : Nat) : Nat → Nat → Nat
  | 0, j => j
  | r + 1, j => if x < l.getD j 0 then hi l x r (j + 1) else j
theorem lo_le (l : List Nat) (x : Nat) : ∀ k, lo l x k ≤ k
  | 0 => Nat.le_refl _
  | k + 1 => by unfold lo; split; exact Nat.le_succ_of_le (lo_le l x k); exact Nat.le_refl _
theorem lo_run (l : List Nat) (x : Nat) : ∀ k i, lo l x k < i → i ≤ k → x < l.getD (i - 1) 0
  | 0, i, h1, h2 => by unfold lo at h1; omega
  | k + 1, i, h1, h2 => by
    unfold lo at h1
    split at h1
    · by_cases e : i = k + 1
      · subst e; assumption
      · exact lo_run l x k i h1 (by omega)
    · omega
theorem lo_stop (l : List Nat) (x : Nat) : ∀ k, lo l x k = 0 ∨ ¬ x < l.getD (lo l x k - 1) 0
  | 0 => .inl rfl
  | k + 1 => by
    unfold lo
    split
    · exact lo_stop l x k
    · exact .inr ‹¬ x < l.getD k 0›
theorem hi_ge (l : List Nat) (x : Nat) : ∀ r j, j ≤ hi l x r j ∧ hi l x r j ≤ j + r
  | 0, j => by unfold hi; omega
  | r + 1, j => by
    unfold hi
    split
    · have := hi_ge l x r (j + 1); omega
    · omega
theorem hi_run (l : List Nat) (x : Nat) : ∀ r j i, j ≤ i → i < hi l x r j → x < l.getD i 0
  | 0, j, i, h1, h2 => by unfold hi at h2; omega
  | r + 1, j, i, h1, h2 => by
    unfold hi at h2
    split at h2
    · by_cases e : i = j
      · subst e; assumption
      · exact hi_run l x r (j + 1) i (by omega) h2
    · omega
theorem hi_stop (l : List Nat) (x : Nat) : ∀ r j, hi l x r j = j + r ∨ ¬ x < l.getD (hi l x r j) 0
  | 0, j => .inl rfl
  | r + 1, j => by
    unfold hi
    split
    · rcases hi_stop l x r (j + 1) with h | h
      · exact .inl (by omega)
      · exact .inr h
    · exact .inr ‹_›

theorem coll1 (a b : Nat) : (coll ⟨#[a]⟩ ⟨#[b]⟩ == 1) = decide (b < a) := by
  have l1 : ∀ u v : Nat, ([u] < [v]) ↔ u < v := fun u v => by rw [List.cons_lt_cons_iff]; simp
  unfold coll
  simp only [l1]
  by_cases h1 : b < a
  · have h2 : ¬ a < b := by omega
    simp [h1, h2, PyProof.Rows.b2i]
  · by_cases h2 : a < b <;> simp [h1, h2, PyProof.Rows.b2i]
theorem upd3 (ρ : Rho) {x y : Str} (h : x ≠ y) (a b c : D) : upd (upd (upd ρ x a) y b) x c = upd (upd ρ x c) y b := by
  funext z; unfold upd
  by_cases h1 : z = x
  · subst h1; simp [h]
  · simp [h1]

noncomputable abbrev GC : Kn := Gk [(Str.ofString "_strcoll", collF)] [] []
theorem evT_and2 {ih : Expr → Option D} {e₁ e₂ : Expr} {p : Pos} {c : Bool} (h1 : evT1 ih e₁ = some true) (h2 : evT1 ih e₂ = some c) : evT ih (.BoolOp .And [e₁, e₂] p) = some c := by
  show evTs ih .And [e₁, e₂] = some c
  unfold evTs
  rw [h1]
  show evTs ih .And [e₂] = some c
  unfold evTs
  rw [h2]
  cases c <;> rfl

noncomputable abbrev rS (w sg : Str) (p h l : Nat) : Rho := upd (upd (upd (rhoOf ([Str.ofString "word", Str.ofString "sign"].zip [.str w, .str sg])) (Str.ofString "place") (.int p)) (Str.ofString "high") (.int h)) (Str.ofString "low") (.int l)

theorem run_sides {P : Params} {a b c d e x p : Nat} (ho : Builtin.Str.occurrences ⟨#[a, b, c, d, e]⟩ ⟨#[x]⟩ 0 5 1 = [p]) (hp : p < 5) :
    Ex GC (fdA P 203).scope (rhoOf ([Str.ofString "word", Str.ofString "sign"].zip [.str ⟨#[a, b, c, d, e]⟩, .str ⟨#[x]⟩])) (bdA P 203)
      (.ret (.tuple [.str (Txt.slice ⟨#[a, b, c, d, e]⟩ none (some ((lo [a, b, c, d, e] x p : Nat) : Int))), .str (Txt.slice ⟨#[a, b, c, d, e]⟩ (some ((lo [a, b, c, d, e] x p : Nat) : Int)) (some (p : Int))),
        .str (Txt.slice ⟨#[a, b, c, d, e]⟩ (some ((p : Int) + 1)) (some ((hi [a, b, c, d, e] x (4 - p) (p + 1) : Nat) : Int))), .str (Txt.slice ⟨#[a, b, c, d, e]⟩ (some ((hi [a, b, c, d, e] x (4 - p) (p + 1) : Nat) : Int)) none)])) := by
  refine Ex.assign (n := 8) (d := .int p) (Eq.trans (b := callM .index ⟨#[a, b, c, d, e]⟩ [.str ⟨#[x]⟩]) (by kernel_rfl) ?_) (by kernel_rfl) ?_
  · show (Builtin.Str.occurrences _ _ 0 5 1).head?.map (fun (i : Nat) => PyData.int (i : Int)) = _
    rw [ho]; rfl
  refine Ex.pair (n := 8) (d₁ := .int p) (d₂ := .int ((p + 1 : Nat) : Int)) (by kernel_rfl) (by kernel_rfl) (by kernel_rfl) (by kernel_rfl) (by decide +kernel) (by rfl) (by kernel_rfl) (by kernel_rfl) ?_
  refine wh_down (fun i => rS ⟨#[a, b, c, d, e]⟩ ⟨#[x]⟩ p (p + 1) i) 9 p (lo [a, b, c, d, e] x p) (lo_le _ _ _) (fun i h1 h2 => ?_) ?_ (fun i h1 h2 => ?_) ?_
  · have hg := lo_run [a, b, c, d, e] x p i h1 h2
    rcases (show i = 1 ∨ i = 2 ∨ i = 3 ∨ i = 4 by omega) with rfl | rfl | rfl | rfl
    · refine evT_and2 (by kernel_rfl) (Eq.trans (b := some (coll ⟨#[a]⟩ ⟨#[x]⟩ == 1)) (by kernel_rfl) (by rw [coll1]; simpa using hg))
    · refine evT_and2 (by kernel_rfl) (Eq.trans (b := some (coll ⟨#[b]⟩ ⟨#[x]⟩ == 1)) (by kernel_rfl) (by rw [coll1]; simpa using hg))
    · refine evT_and2 (by kernel_rfl) (Eq.trans (b := some (coll ⟨#[c]⟩ ⟨#[x]⟩ == 1)) (by kernel_rfl) (by rw [coll1]; simpa using hg))
    · refine evT_and2 (by kernel_rfl) (Eq.trans (b := some (coll ⟨#[d]⟩ ⟨#[x]⟩ == 1)) (by kernel_rfl) (by rw [coll1]; simpa using hg))
  · have hs := lo_stop [a, b, c, d, e] x p
    have hle := lo_le [a, b, c, d, e] x p
    generalize lo [a, b, c, d, e] x p = i at hs hle
    rcases (show i = 0 ∨ i = 1 ∨ i = 2 ∨ i = 3 ∨ i = 4 by omega) with rfl | rfl | rfl | rfl | rfl
    · kernel_rfl
    · refine evT_and2 (by kernel_rfl) (Eq.trans (b := some (coll ⟨#[a]⟩ ⟨#[x]⟩ == 1)) (by kernel_rfl) (by rw [coll1]; simpa using hs))
    · refine evT_and2 (by kernel_rfl) (Eq.trans (b := some (coll ⟨#[b]⟩ ⟨#[x]⟩ == 1)) (by kernel_rfl) (by rw [coll1]; simpa using hs))
    · refine evT_and2 (by kernel_rfl) (Eq.trans (b := some (coll ⟨#[c]⟩ ⟨#[x]⟩ == 1)) (by kernel_rfl) (by rw [coll1]; simpa using hs))
    · refine evT_and2 (by kernel_rfl) (Eq.trans (b := some (coll ⟨#[d]⟩ ⟨#[x]⟩ == 1)) (by kernel_rfl) (by rw [coll1]; simpa using hs))
  · refine Ex.aug (n := 3) (a := (i : Int)) (b := 1) (c := ((i - 1 : Nat) : Int)) (by kernel_rfl) (by kernel_rfl) (.inr ⟨rfl, by omega⟩) (by kernel_rfl) ?_
    rw [upd_upd]; exact Ex.nil
  generalize lo [a, b, c, d, e] x p = l
  refine wh_up (fun j => rS ⟨#[a, b, c, d, e]⟩ ⟨#[x]⟩ p j l) 9 (p + 1) (hi [a, b, c, d, e] x (4 - p) (p + 1)) (hi_ge _ _ _ _).1 (fun j h1 h2 => ?_) ?_ (fun j h1 h2 => ?_) ?_
  · have hg := hi_run [a, b, c, d, e] x (4 - p) (p + 1) j h1 h2
    have := (hi_ge [a, b, c, d, e] x (4 - p) (p + 1)).2
    rcases (show j = 1 ∨ j = 2 ∨ j = 3 ∨ j = 4 by omega) with rfl | rfl | rfl | rfl
    · refine evT_and2 (by kernel_rfl) (Eq.trans (b := some (coll ⟨#[b]⟩ ⟨#[x]⟩ == 1)) (by kernel_rfl) (by rw [coll1]; simpa using hg))
    · refine evT_and2 (by kernel_rfl) (Eq.trans (b := some (coll ⟨#[c]⟩ ⟨#[x]⟩ == 1)) (by kernel_rfl) (by rw [coll1]; simpa using hg))
    · refine evT_and2 (by kernel_rfl) (Eq.trans (b := some (coll ⟨#[d]⟩ ⟨#[x]⟩ == 1)) (by kernel_rfl) (by rw [coll1]; simpa using hg))
    · refine evT_and2 (by kernel_rfl) (Eq.trans (b := some (coll ⟨#[e]⟩ ⟨#[x]⟩ == 1)) (by kernel_rfl) (by rw [coll1]; simpa using hg))
  · have hs := hi_stop [a, b, c, d, e] x (4 - p) (p + 1)
    have hge := hi_ge [a, b, c, d, e] x (4 - p) (p + 1)
    generalize hi [a, b, c, d, e] x (4 - p) (p + 1) = j at hs hge
    rcases (show j = 1 ∨ j = 2 ∨ j = 3 ∨ j = 4 ∨ j = 5 by omega) with rfl | rfl | rfl | rfl | rfl
    · refine evT_and2 (by kernel_rfl) (Eq.trans (b := some (coll ⟨#[b]⟩ ⟨#[x]⟩ == 1)) (by kernel_rfl) (by rw [coll1]; rcases hs with hs | hs; omega; simpa using hs))
    · refine evT_and2 (by kernel_rfl) (Eq.trans (b := some (coll ⟨#[c]⟩ ⟨#[x]⟩ == 1)) (by kernel_rfl) (by rw [coll1]; rcases hs with hs | hs; omega; simpa using hs))
    · refine evT_and2 (by kernel_rfl) (Eq.trans (b := some (coll ⟨#[d]⟩ ⟨#[x]⟩ == 1)) (by kernel_rfl) (by rw [coll1]; rcases hs with hs | hs; omega; simpa using hs))
    · refine evT_and2 (by kernel_rfl) (Eq.trans (b := some (coll ⟨#[e]⟩ ⟨#[x]⟩ == 1)) (by kernel_rfl) (by rw [coll1]; rcases hs with hs | hs; omega; simpa using hs))
    · kernel_rfl
  · refine Ex.aug (n := 3) (a := (j : Int)) (b := 1) (c := ((j + 1 : Nat) : Int)) (by kernel_rfl) (by kernel_rfl) (.inl ⟨rfl, by omega⟩) (by kernel_rfl) ?_
    rw [upd3 _ (by decide +kernel)]; exact Ex.nil
  exact Ex.ret (n := 8) (by kernel_rfl)
end Mine

set_option genInjectivity false
set_option genSizeOf false
set_option genSizeOfSpec false
namespace Mine

section
variable {G : Kn} {n : Nat} {sc csc : Scope} {ρ : Rho}
theorem ev_comp {elt tgt iter : Expr} {ifs : List Expr} {pos : Pos} {src : Src} {out : List D} (hoc : okComp csc = true) (hof : okFree csc sc = true) (hs : isSetE iter = false) (hsrc : evSrc (ev G n sc ρ) sc iter = some src) (hfit : src.fits tgt = true)
    (hlen : src.items.length ≤ small) (ht : turns (compTurnD (ev G n) sc ρ elt tgt ifs csc) src.items = some out) : ev G (n + 1) sc ρ (.ListComp elt [⟨tgt, iter, ifs, 0⟩] csc pos) = some (.list out) := by
  show evComp (ev G n) sc ρ elt [⟨tgt, iter, ifs, 0⟩] csc = _
  unfold evComp
  simp only [hoc, hof, hs, hsrc, hfit, hlen, ht]
  rfl
theorem turns_if {α : Type} {f : D → Option (Option D)} {item g : α → D} {p : α → Bool} : ∀ {l : List α}, (∀ d ∈ l, f (item d) = some (if p d then some (g d) else none)) → turns f (l.map item) = some ((l.filter p).map g)
  | [], _ => rfl
  | d :: l, h => by
    rw [List.map_cons]
    unfold turns
    rw [h d (.head _), turns_if fun e he => h e (.tail _ he)]
    cases hp : p d <;> simp [hp]
theorem turns_map {α : Type} {f : D → Option (Option D)} {item g : α → D} : ∀ {l : List α}, (∀ d ∈ l, f (item d) = some (some (g d))) → turns f (l.map item) = some (l.map g)
  | [], _ => rfl
  | d :: l, h => by
    rw [List.map_cons]
    unfold turns
    rw [h d (.head _), turns_map fun e he => h e (.tail _ he)]
    rfl
noncomputable def rB (sc' : Scope) (ρ : Rho) (tgt : Expr) (d : D) : Rho := (bindT sc' (freeOf sc' ρ) tgt d).getD fun _ => none
theorem turn_if {ih : Ih} {elt tgt cond : Expr} {d y : D} {c : Bool} (hb : (bindT csc (freeOf csc ρ) tgt d).isSome = true) (hc : evT (ih (relS csc sc) (rB csc ρ tgt d)) cond = some c) (hy : c = true → ih (relS csc sc) (rB csc ρ tgt d) elt = some y) :
    compTurnD ih sc ρ elt tgt [cond] csc d = some (if c then some y else none) := by
  obtain ⟨ρ', e⟩ := Option.isSome_iff_exists.mp hb
  have e2 : rB csc ρ tgt d = ρ' := by unfold rB; rw [e]; rfl
  rw [e2] at hc hy
  unfold compTurnD
  rw [e]
  simp only [evIfs, hc]
  cases c with
  | false => rfl
  | true => simp only [hy rfl]; rfl
theorem turn_no {ih : Ih} {elt tgt : Expr} {d y : D} (hb : (bindT csc (freeOf csc ρ) tgt d).isSome = true) (hy : ih (relS csc sc) (rB csc ρ tgt d) elt = some y) : compTurnD ih sc ρ elt tgt [] csc d = some (some y) := by
  obtain ⟨ρ', e⟩ := Option.isSome_iff_exists.mp hb
  have e2 : rB csc ρ tgt d = ρ' := by unfold rB; rw [e]; rfl
  rw [e2] at hy
  unfold compTurnD
  rw [e]
  simp only [evIfs, hy]
  rfl
theorem ev_len {e : Expr} {gp pos : Pos} {l : List D} (hg : isGlob sc (Str.ofString "len") = true) (h : ev G n sc ρ e = some (.list l)) (hl : l.length ≤ small) :
    ev G (n + 1) sc ρ (.Call (.Name (Str.ofString "len") gp) [e] [] pos) = some (.int l.length) := by
  (rw [ev_succ]; delta evStep evCall; dsimp only; simp only [Mine.evAll, hg, h])
  have e1 : bk (Str.ofString "len") = some .len := by kernel_rfl
  have e2 : decide (Str.ofString "len" ≠ Str.ofString "__debug__") = true := by decide +kernel
  rw [e1, e2]
  exact if_pos hl
end

theorem all65 {P : Nat → Prop} (h : ∀ n, n < 65 → P n) : ∀ n, n < 65 → P n := h
noncomputable def code (r : Nat) : Nat := 33 + r + (if 12 < r then 1 else 0) + (if 30 < r then 26 else 0)
noncomputable def upto (P : Nat → Prop) : Nat → Prop
  | 0 => True
  | n + 1 => P n ∧ upto P n
theorem upto_get {P : Nat → Prop} : ∀ {n : Nat}, upto P n → ∀ k, k < n → P k
  | n + 1, h, k, hk => by
    by_cases e : k = n
    · subst e; exact h.1
    · exact upto_get h.2 k (by omega)
noncomputable abbrev G0 : Kn := Gk [] [] []
theorem run_sign {P : Params} : ∀ k, k < 65 → Ex G0 (fdA P 196).scope (rhoOf ([Str.ofString "rank"].zip [.int (k : Nat)])) (bdA P 196) (.ret (.str ⟨#[code k]⟩)) := by
  refine upto_get ?_
  repeat (first | exact trivial | refine ⟨Ex.ret (n := 8) (by kernel_rfl), ?_⟩)

theorem run_falls {P : Params} {a b c d e : Nat} : Ex GC (fdA P 222).scope (rhoOf ([Str.ofString "text"].zip [.str ⟨#[a, b, c, d, e]⟩])) (bdA P 222)
    (.ret (.int (([(a, b), (b, c), (c, d), (d, e)].filter fun p => decide (p.2 < p.1)).length : Nat))) := by
  refine Ex.ret (n := 9) ?_
  refine (ev_len (n := 8) (l := (([(a, b), (b, c), (c, d), (d, e)].filter fun p => decide (p.2 < p.1)).map fun p => .str ⟨#[p.1]⟩)) (by kernel_rfl) ?_ ?_).trans (by simp)
  · refine (ev_comp (n := 7) (src := .pairs ([(a, b), (b, c), (c, d), (d, e)].map fun p => .tuple [.str ⟨#[p.1]⟩, .str ⟨#[p.2]⟩])) (by kernel_rfl) (by kernel_rfl) (by kernel_rfl) (by kernel_rfl) (by kernel_rfl) (by show 4 ≤ 1000; decide) ?_)
    refine turns_if (p := fun p : Nat × Nat => decide (p.2 < p.1)) fun q _ => ?_
    obtain ⟨u, v⟩ := q
    exact turn_if (by kernel_rfl) (Eq.trans (b := some (coll ⟨#[u]⟩ ⟨#[v]⟩ == 1)) (by kernel_rfl) (by rw [coll1])) fun _ => by kernel_rfl
  · have := List.length_filter_le (fun p : Nat × Nat => decide (p.2 < p.1)) [(a, b), (b, c), (c, d), (d, e)]
    have e2 := small_is
    simp only [List.length_map, List.length_cons, List.length_nil] at this ⊢
    omega

/-! for loops by recursion -/
inductive FN (G : Kn) (sc : Scope) (t : Expr) (b : List Stmt) : Rho → List D → Rho → Prop
  | nil {ρ} : FN G sc t b ρ [] ρ
  | cons {ρ ρ₁ ρ₂ ρ' d ds} : bindT sc ρ t d = some ρ₁ → Ex G sc ρ₁ b (.next ρ₂) → FN G sc t b ρ₂ ds ρ' → FN G sc t b ρ (d :: ds) ρ'
theorem FN.seq {G : Kn} {sc : Scope} {t : Expr} {b : List Stmt} {ρ ρ' : Rho} {ds : List D} (h : FN G sc t b ρ ds ρ') : ∃ ρs ρt : Nat → Rho, ρs 0 = ρ ∧ ρs ds.length = ρ' ∧ (∀ i d, ds[i]? = some d → bindT sc (ρs i) t d = some (ρt i)) ∧ ∀ i, i < ds.length → Ex G sc (ρt i) b (.next (ρs (i + 1))) := by
  induction h with
  | @nil ρ => exact ⟨fun _ => ρ, fun _ => ρ, rfl, rfl, fun i d h => by simp at h, fun i h => by simp at h⟩
  | @cons ρ ρ₁ ρ₂ ρ' d ds hb hx _ ih =>
    obtain ⟨ρs, ρt, h0, h1, h2, h3⟩ := ih
    refine ⟨fun i => match i with | 0 => ρ | i + 1 => ρs i, fun i => match i with | 0 => ρ₁ | i + 1 => ρt i, rfl, h1, fun i e he => ?_, fun i hi => ?_⟩
    · cases i with
      | zero => simp at he; subst he; exact hb
      | succ i => exact h2 i e (by simpa using he)
    · cases i with
      | zero => show Ex G sc ρ₁ b (.next (ρs 0)); rw [h0]; exact hx
      | succ i => exact h3 i (by simpa using hi)
theorem Ex.forN {G : Kn} {sc : Scope} {t it : Expr} {b r : List Stmt} {p : Pos} {f : Fl} {n : Nat} {src : Src} {ρ ρ' : Rho} (hs : isSetE it = false) (hsrc : evSrc (ev G n sc ρ) sc it = some src) (hfit : src.fits t = true) (h : FN G sc t b ρ src.items ρ') (hr : Ex G sc ρ' r f) :
    Ex G sc ρ (.For t it b [] p :: r) f := by
  obtain ⟨ρs, ρt, h0, h1, h2, h3⟩ := h.seq
  subst h0
  exact Ex.for ρs ρt hs hsrc hfit h2 h3 (h1 ▸ hr)
theorem Ex.forD {G : Kn} {sc : Scope} {t it : Expr} {b r : List Stmt} {p : Pos} {n : Nat} {src : Src} {ρ ρ₁ ρ₂ : Rho} {ds₁ ds₂ : List D} {d v : D} (hs : isSetE it = false) (hsrc : evSrc (ev G n sc ρ) sc it = some src) (hfit : src.fits t = true) (he : src.items = ds₁ ++ d :: ds₂)
    (h : FN G sc t b ρ ds₁ ρ₁) (hb : bindT sc ρ₁ t d = some ρ₂) (hx : Ex G sc ρ₂ b (.ret v)) : Ex G sc ρ (.For t it b [] p :: r) (.ret v) := by
  obtain ⟨ρs, ρt, h0, h1, h2, h3⟩ := h.seq
  subst h0
  have hlen : ds₁.length < src.items.length := by rw [he, List.length_append, List.length_cons]; omega
  refine Ex.forR (k := ds₁.length) ρs (fun i => if i = ds₁.length then ρ₂ else ρt i) hs hsrc hfit hlen (fun i e hi hg => ?_) (fun i hi => ?_) ?_
  · rw [he] at hg
    by_cases q : i = ds₁.length
    · subst q
      rw [List.getElem?_append_right (Nat.le_refl _)] at hg
      simp at hg; subst hg
      simp only [if_true, h1]; exact hb
    · simp only [if_neg q]
      rw [List.getElem?_append_left (by omega)] at hg
      exact h2 i e hg
  · simp only [if_neg (show i ≠ ds₁.length by omega)]; exact h3 i hi
  · simp only [if_true]; exact hx

/-! first unlike -/
noncomputable abbrev rF (one other : Str) (u v : Nat) : Rho := upd (upd (rhoOf ([Str.ofString "one", Str.ofString "other"].zip [.str one, .str other])) (Str.ofString "sign") (.str ⟨#[u]⟩)) (Str.ofString "met") (.str ⟨#[v]⟩)
noncomputable def pairD (p : Nat × Nat) : D := .tuple [.str ⟨#[p.1]⟩, .str ⟨#[p.2]⟩]
theorem rF_again (one other : Str) (u v u' v' : Nat) : upd (upd (rF one other u v) (Str.ofString "sign") (.str ⟨#[u']⟩)) (Str.ofString "met") (.str ⟨#[v']⟩) = rF one other u' v' := by
  funext z; simp only [rF, upd]
  split
  · rfl
  · split <;> rfl
theorem strne1 (a b : Nat) : ((⟨#[a]⟩ : Str) != ⟨#[b]⟩) = (a != b) := by
  by_cases h : a = b
  · subst h; simp
  · have : (⟨#[a]⟩ : Str) ≠ ⟨#[b]⟩ := fun e => h (by simpa using e)
    rw [bne_iff_ne.mpr this, bne_iff_ne.mpr h]
noncomputable def firstU (l : List (Nat × Nat)) : Int := match l.find? fun p => p.1 != p.2 with | some p => coll ⟨#[p.1]⟩ ⟨#[p.2]⟩ | none => 0

end Mine

namespace Mine
noncomputable abbrev u2 (ρ : Rho) (a b : Nat) : Rho := upd (upd ρ (Str.ofString "sign") (.str ⟨#[a]⟩)) (Str.ofString "met") (.str ⟨#[b]⟩)
theorem firstU_like {a : Nat} {l : List (Nat × Nat)} : firstU ((a, a) :: l) = firstU l := by simp [firstU]
theorem firstU_un {a b : Nat} {l : List (Nat × Nat)} (h : a ≠ b) : firstU ((a, b) :: l) = coll ⟨#[a]⟩ ⟨#[b]⟩ := by simp [firstU, h]
theorem strne_self (a : Str) : some (a != a) = some false := by simp
theorem strne_of {a b : Nat} (h : a ≠ b) : some ((⟨#[a]⟩ : Str) != ⟨#[b]⟩) = some true := by rw [strne1]; simp [h]

theorem run_first {P : Params} {a b c d e a' b' c' d' e' : Nat} :
    Ex GC (fdA P 210).scope (rhoOf ([Str.ofString "one", Str.ofString "other"].zip [.str ⟨#[a, b, c, d, e]⟩, .str ⟨#[a', b', c', d', e']⟩])) (bdA P 210)
      (.ret (.int (firstU [(a, a'), (b, b'), (c, c'), (d, d'), (e, e')]))) := by
  generalize hρ : rhoOf ([Str.ofString "one", Str.ofString "other"].zip [.str ⟨#[a, b, c, d, e]⟩, .str ⟨#[a', b', c', d', e']⟩]) = ρ
  have hsrc : ∀ (it : Expr), evSrc (ev GC 5 (fdA P 210).scope ρ) (fdA P 210).scope it = evSrc (ev GC 5 (fdA P 210).scope (rhoOf ([Str.ofString "one", Str.ofString "other"].zip [.str ⟨#[a, b, c, d, e]⟩, .str ⟨#[a', b', c', d', e']⟩]))) (fdA P 210).scope it := fun _ => by rw [hρ]
  by_cases h1 : a = a'
  · subst h1
    by_cases h2 : b = b'
    · subst h2
      by_cases h3 : c = c'
      · subst h3
        by_cases h4 : d = d'
        · subst h4
          by_cases h5 : e = e'
          · subst h5
            rw [firstU_like, firstU_like, firstU_like, firstU_like, firstU_like]
            refine Ex.forN (n := 5) (src := .pairs [pairD (a, a), pairD (b, b), pairD (c, c), pairD (d, d), pairD (e, e)]) (by kernel_rfl) ((hsrc _).trans (by kernel_rfl)) (by kernel_rfl)
              (.cons (ρ₁ := u2 ρ a a) (by kernel_rfl) (.ifN (n := 4) (c := false) (Eq.trans (by kernel_rfl) (strne_self ⟨#[a]⟩)) .nil .nil)
              (.cons (ρ₁ := u2 (u2 ρ a a) b b) (by kernel_rfl) (.ifN (n := 4) (c := false) (Eq.trans (by kernel_rfl) (strne_self ⟨#[b]⟩)) .nil .nil)
              (.cons (ρ₁ := u2 (u2 (u2 ρ a a) b b) c c) (by kernel_rfl) (.ifN (n := 4) (c := false) (Eq.trans (by kernel_rfl) (strne_self ⟨#[c]⟩)) .nil .nil)
              (.cons (ρ₁ := u2 (u2 (u2 (u2 ρ a a) b b) c c) d d) (by kernel_rfl) (.ifN (n := 4) (c := false) (Eq.trans (by kernel_rfl) (strne_self ⟨#[d]⟩)) .nil .nil)
              (.cons (ρ₁ := u2 (u2 (u2 (u2 (u2 ρ a a) b b) c c) d d) e e) (by kernel_rfl) (.ifN (n := 4) (c := false) (Eq.trans (by kernel_rfl) (strne_self ⟨#[e]⟩)) .nil .nil) .nil)))))
              (Ex.ret (n := 2) (by kernel_rfl))
          · rw [firstU_like, firstU_like, firstU_like, firstU_like, firstU_un h5]
            exact Ex.forD (n := 5) (src := .pairs [pairD (a, a), pairD (b, b), pairD (c, c), pairD (d, d), pairD (e, e')]) (ds₁ := [pairD (a, a), pairD (b, b), pairD (c, c), pairD (d, d)]) (by kernel_rfl) ((hsrc _).trans (by kernel_rfl)) (by kernel_rfl) rfl
              (.cons (ρ₁ := u2 ρ a a) (by kernel_rfl) (.ifN (n := 4) (c := false) (Eq.trans (by kernel_rfl) (strne_self ⟨#[a]⟩)) .nil .nil)
              (.cons (ρ₁ := u2 (u2 ρ a a) b b) (by kernel_rfl) (.ifN (n := 4) (c := false) (Eq.trans (by kernel_rfl) (strne_self ⟨#[b]⟩)) .nil .nil)
              (.cons (ρ₁ := u2 (u2 (u2 ρ a a) b b) c c) (by kernel_rfl) (.ifN (n := 4) (c := false) (Eq.trans (by kernel_rfl) (strne_self ⟨#[c]⟩)) .nil .nil)
              (.cons (ρ₁ := u2 (u2 (u2 (u2 ρ a a) b b) c c) d d) (by kernel_rfl) (.ifN (n := 4) (c := false) (Eq.trans (by kernel_rfl) (strne_self ⟨#[d]⟩)) .nil .nil) .nil))))
              (ρ₂ := u2 (u2 (u2 (u2 (u2 ρ a a) b b) c c) d d) e e') (by kernel_rfl) (.ifR (n := 4) (c := true) (Eq.trans (by kernel_rfl) (strne_of h5)) (Ex.ret (n := 5) (by kernel_rfl)))
        · rw [firstU_like, firstU_like, firstU_like, firstU_un h4]
          exact Ex.forD (n := 5) (src := .pairs [pairD (a, a), pairD (b, b), pairD (c, c), pairD (d, d'), pairD (e, e')]) (ds₁ := [pairD (a, a), pairD (b, b), pairD (c, c)]) (by kernel_rfl) ((hsrc _).trans (by kernel_rfl)) (by kernel_rfl) rfl
              (.cons (ρ₁ := u2 ρ a a) (by kernel_rfl) (.ifN (n := 4) (c := false) (Eq.trans (by kernel_rfl) (strne_self ⟨#[a]⟩)) .nil .nil)
              (.cons (ρ₁ := u2 (u2 ρ a a) b b) (by kernel_rfl) (.ifN (n := 4) (c := false) (Eq.trans (by kernel_rfl) (strne_self ⟨#[b]⟩)) .nil .nil)
              (.cons (ρ₁ := u2 (u2 (u2 ρ a a) b b) c c) (by kernel_rfl) (.ifN (n := 4) (c := false) (Eq.trans (by kernel_rfl) (strne_self ⟨#[c]⟩)) .nil .nil) .nil)))
              (ρ₂ := u2 (u2 (u2 (u2 ρ a a) b b) c c) d d') (by kernel_rfl) (.ifR (n := 4) (c := true) (Eq.trans (by kernel_rfl) (strne_of h4)) (Ex.ret (n := 5) (by kernel_rfl)))
      · rw [firstU_like, firstU_like, firstU_un h3]
        exact Ex.forD (n := 5) (src := .pairs [pairD (a, a), pairD (b, b), pairD (c, c'), pairD (d, d'), pairD (e, e')]) (ds₁ := [pairD (a, a), pairD (b, b)]) (by kernel_rfl) ((hsrc _).trans (by kernel_rfl)) (by kernel_rfl) rfl
              (.cons (ρ₁ := u2 ρ a a) (by kernel_rfl) (.ifN (n := 4) (c := false) (Eq.trans (by kernel_rfl) (strne_self ⟨#[a]⟩)) .nil .nil)
              (.cons (ρ₁ := u2 (u2 ρ a a) b b) (by kernel_rfl) (.ifN (n := 4) (c := false) (Eq.trans (by kernel_rfl) (strne_self ⟨#[b]⟩)) .nil .nil) .nil))
              (ρ₂ := u2 (u2 (u2 ρ a a) b b) c c') (by kernel_rfl) (.ifR (n := 4) (c := true) (Eq.trans (by kernel_rfl) (strne_of h3)) (Ex.ret (n := 5) (by kernel_rfl)))
    · rw [firstU_like, firstU_un h2]
      exact Ex.forD (n := 5) (src := .pairs [pairD (a, a), pairD (b, b'), pairD (c, c'), pairD (d, d'), pairD (e, e')]) (ds₁ := [pairD (a, a)]) (by kernel_rfl) ((hsrc _).trans (by kernel_rfl)) (by kernel_rfl) rfl
              (.cons (ρ₁ := u2 ρ a a) (by kernel_rfl) (.ifN (n := 4) (c := false) (Eq.trans (by kernel_rfl) (strne_self ⟨#[a]⟩)) .nil .nil) .nil)
              (ρ₂ := u2 (u2 ρ a a) b b') (by kernel_rfl) (.ifR (n := 4) (c := true) (Eq.trans (by kernel_rfl) (strne_of h2)) (Ex.ret (n := 5) (by kernel_rfl)))
  · rw [firstU_un h1]
    exact Ex.forD (n := 5) (src := .pairs [pairD (a, a'), pairD (b, b'), pairD (c, c'), pairD (d, d'), pairD (e, e')]) (ds₁ := []) (by kernel_rfl) ((hsrc _).trans (by kernel_rfl)) (by kernel_rfl) rfl
              .nil (ρ₂ := u2 ρ a a') (by kernel_rfl) (.ifR (n := 4) (c := true) (Eq.trans (by kernel_rfl) (strne_of h1)) (Ex.ret (n := 5) (by kernel_rfl)))
end Mine

namespace Mine
open Builtin.Str (occurrences)
noncomputable abbrev dots : Str := ⟨#[46, 46, 46]⟩
noncomputable abbrev wantS (x y : Nat) : Str := ⟨#[46, 46, 46, x, 46, 46, 46, y, 46, 46, 46]⟩
noncomputable abbrev GE : Kn := Gk [] [] [(Str.ofString "ELLIPSIS_MARKER", .str (Str.ofString "..."))]
theorem dots_is : Str.ofString "..." = dots := by kernel_rfl

theorem want_in (x y : Nat) : (occurrences (wantS x y) dots 0 11 1).isEmpty = false := by
  have := (StrLaws.found_iff (wantS x y) dots).mpr ⟨0, by show 3 ≤ 11; decide, by kernel_rfl⟩
  rw [show (wantS x y).length = 11 from rfl] at this
  simpa using this
noncomputable def psi (c : Nat) : Nat := if c = 46 then 46 else 0
theorem psi_list : ∀ l m : List Nat, (∀ c ∈ m, c = 46) → (l.map psi = m ↔ l = m)
  | [], _, _ => Iff.rfl
  | _ :: _, [], _ => ⟨fun h => (by cases h), fun h => (by cases h)⟩
  | a :: l, b :: m, h => by
    have hb := h b (.head _)
    rw [List.map_cons, List.cons.injEq, List.cons.injEq, psi_list l m fun c hc => h c (.tail _ hc)]
    refine and_congr ?_ Iff.rfl
    rw [hb]
    unfold psi
    by_cases q : a = 46
    · rw [if_pos q]; exact ⟨fun _ => q, fun _ => rfl⟩
    · rw [if_neg q]; exact ⟨fun h => (by cases h), fun h => absurd h q⟩
theorem psi_sub (s : Str) (i : Nat) : Builtin.Str.subAt s dots i = Builtin.Str.subAt ⟨s.cps.map psi⟩ dots i := by
  unfold Builtin.Str.subAt
  rw [Bool.eq_iff_iff, beq_iff_eq, beq_iff_eq, ← Array.map_extract, ← Array.toList_inj, ← Array.toList_inj, Array.toList_map]
  refine (psi_list _ _ fun c hc => ?_).symm
  simpa using hc
theorem psi_occ (s : Str) (lo hi lim : Nat) : occurrences s dots lo hi lim = occurrences ⟨s.cps.map psi⟩ dots lo hi lim := by
  rw [StrLaws.occ_eq, StrLaws.occ_eq]
  have : StrLaws.occBody s dots hi lim = StrLaws.occBody ⟨s.cps.map psi⟩ dots hi lim := by
    funext i st
    unfold StrLaws.occBody
    rw [psi_sub]
  rw [this]
theorem want_occ {x y : Nat} (hx : x ≠ 46) (hy : y ≠ 46) : occurrences (wantS x y) dots 0 11 12 = [0, 4, 8] := by
  have e : (⟨(wantS x y).cps.map psi⟩ : Str) = wantS 0 0 := by
    have p0 : psi 46 = 46 := rfl
    have px : psi x = 0 := if_neg hx
    have py : psi y = 0 := if_neg hy
    have := congrArg Str.mk (Array.toList_inj.mp (show ((wantS x y).cps.map psi).toList = (wantS 0 0).cps.toList by
      rw [Array.toList_map]
      show [psi 46, psi 46, psi 46, psi x, psi 46, psi 46, psi 46, psi y, psi 46, psi 46, psi 46] = _
      rw [p0, px, py]))
    exact this
  rw [psi_occ, e]
  kernel_rfl
theorem kind_ge (x : Str) : ¬ Builtin.Str.strKind x < 1 := by
  unfold Builtin.Str.strKind
  split
  · decide
  · split <;> decide
theorem want_split {x y : Nat} (hx : x ≠ 46) (hy : y ≠ 46) : splitD (wantS x y) dots = some (.list [.str ⟨#[]⟩, .str ⟨#[x]⟩, .str ⟨#[y]⟩, .str ⟨#[]⟩]) := by
  have h := want_occ hx hy
  have hk : decide (Builtin.Str.strKind (wantS x y) < Builtin.Str.strKind dots) = false := by
    have : Builtin.Str.strKind dots = 1 := by decide +kernel
    rw [this]; simpa using kind_ge (wantS x y)
  unfold splitD
  rw [hk]
  show (if (_ || _ || (3 == 0) || (occurrences (wantS x y) dots 0 11 12).isEmpty || _ || decide (small < (Builtin.Str.partsBetween (wantS x y) (occurrences (wantS x y) dots 0 11 12) 3).length)) = true then none else some (PyData.list ((Builtin.Str.partsBetween (wantS x y) (occurrences (wantS x y) dots 0 11 12) 3).map .str))) = _
  rw [h]
  kernel_rfl

noncomputable abbrev rE0 (x y : Nat) (got : Str) : Rho := rhoOf ([Str.ofString "want", Str.ofString "got"].zip [.str (wantS x y), .str got])
noncomputable abbrev rE1 (x y : Nat) (got : Str) : Rho := upd (rE0 x y got) (Str.ofString "ws") (.list [.str ⟨#[]⟩, .str ⟨#[x]⟩, .str ⟨#[y]⟩, .str ⟨#[]⟩])
noncomputable abbrev rE2 (x y : Nat) (got : Str) : Rho := upd (upd (rE1 x y got) (Str.ofString "endpos") (.int 5)) (Str.ofString "startpos") (.int 0)
noncomputable abbrev rE3 (x y : Nat) (got : Str) : Rho := upd (upd (rE2 x y got) (Str.ofString "w") (.str ⟨#[]⟩)) (Str.ofString "w") (.str ⟨#[]⟩)
/-- after a turn of the loop -/
noncomputable abbrev rW (ρ : Rho) (w : Str) (k j : Int) : Rho := upd (upd (upd ρ (Str.ofString "w") (.str w)) (Str.ofString "startpos") (.int k)) (Str.ofString "startpos") (.int j)

noncomputable def ell (got : Str) (x y : Nat) : Bool := match occurrences got ⟨#[x]⟩ 0 5 1 with
  | [] => false
  | i :: _ => match occurrences got ⟨#[y]⟩ (i + 1) 5 1 with
    | [] => false
    | _ :: _ => true

theorem occ_spec' (s sub : Str) (lo hi limit i : Nat) (h : i ∈ occurrences s sub lo hi limit) : i + sub.length ≤ hi := (StrLaws.occ_spec s sub lo hi limit i h).1
theorem run_ell {P : Params} {a b c d e x y : Nat} (hx : x ≠ 46) (hy : y ≠ 46) :
    Ex GE (fdA P 52).scope (rE0 x y ⟨#[a, b, c, d, e]⟩) (bdA P 52) (.ret (.bool (ell ⟨#[a, b, c, d, e]⟩ x y))) := by
  refine Ex.ifN (n := 5) (c := false) (Eq.trans (b := some (!!(occurrences (wantS x y) dots 0 11 1).isEmpty)) (by kernel_rfl) (by rw [want_in]; rfl)) .nil ?_
  refine Ex.assign (n := 5) (d := .list [.str ⟨#[]⟩, .str ⟨#[x]⟩, .str ⟨#[y]⟩, .str ⟨#[]⟩]) (Eq.trans (b := splitD (wantS x y) dots) (by kernel_rfl) (want_split hx hy)) (by kernel_rfl) ?_
  refine Ex.assert (n := 6) (by kernel_rfl) ?_
  refine Ex.pair (n := 6) (d₁ := .int 0) (d₂ := .int 5) (by kernel_rfl) (by kernel_rfl) (by kernel_rfl) (by kernel_rfl) (by decide +kernel) (by rfl) (by kernel_rfl) (by kernel_rfl) ?_
  refine Ex.assign (n := 6) (d := .str ⟨#[]⟩) (by kernel_rfl) (by kernel_rfl) ?_
  refine Ex.ifN (n := 5) (c := false) (by kernel_rfl) .nil ?_
  refine Ex.assign (n := 6) (d := .str ⟨#[]⟩) (by kernel_rfl) (by kernel_rfl) ?_
  refine Ex.ifN (n := 5) (c := false) (by kernel_rfl) .nil ?_
  refine Ex.ifN (n := 5) (c := false) (by kernel_rfl) .nil ?_
  cases h1 : occurrences ⟨#[a, b, c, d, e]⟩ ⟨#[x]⟩ 0 5 1 with
  | nil =>
    rw [show ell ⟨#[a, b, c, d, e]⟩ x y = false from by unfold ell; rw [h1]]
    refine Ex.forD (n := 4) (src := .plain [.str ⟨#[]⟩, .str ⟨#[x]⟩, .str ⟨#[y]⟩, .str ⟨#[]⟩]) (ds₁ := [.str ⟨#[]⟩]) (ρ₁ := rW (rE3 x y ⟨#[a, b, c, d, e]⟩) ⟨#[]⟩ 0 0) (ρ₂ := upd (rW (rE3 x y ⟨#[a, b, c, d, e]⟩) ⟨#[]⟩ 0 0) (Str.ofString "w") (.str ⟨#[x]⟩))
      (by kernel_rfl) (by kernel_rfl) (by kernel_rfl) rfl ?_ (by kernel_rfl) ?_
    · refine .cons (ρ₁ := upd (rE3 x y ⟨#[a, b, c, d, e]⟩) (Str.ofString "w") (.str ⟨#[]⟩)) (ρ₂ := rW (rE3 x y ⟨#[a, b, c, d, e]⟩) ⟨#[]⟩ 0 0) (by kernel_rfl) ?_ .nil
      exact .assign (n := 5) (d := .int 0) (by kernel_rfl) (by kernel_rfl) (.ifN (n := 5) (c := false) (by kernel_rfl) .nil (.aug (n := 4) (a := 0) (b := 0) (by kernel_rfl) (by kernel_rfl) (.inl ⟨rfl, rfl⟩) (by kernel_rfl) .nil))
    · refine .assign (n := 5) (d := .int (-1)) (Eq.trans (b := some (.int (match occurrences ⟨#[a, b, c, d, e]⟩ ⟨#[x]⟩ 0 5 1 with | k :: _ => (k : Int) | [] => -1))) (by kernel_rfl) (by rw [h1])) (by kernel_rfl) ?_
      exact .ifR (n := 5) (c := true) (by kernel_rfl) (.ret (n := 3) (by kernel_rfl))
  | cons i rest =>
    have hi : i + 1 ≤ 5 := (occ_spec' _ _ _ _ _ i (by rw [h1]; exact .head _))
    cases h2 : occurrences ⟨#[a, b, c, d, e]⟩ ⟨#[y]⟩ (i + 1) 5 1 with
    | nil =>
      rw [show ell ⟨#[a, b, c, d, e]⟩ x y = false from by unfold ell; rw [h1]; simp only; rw [h2]]
      refine Ex.forD (n := 4) (src := .plain [.str ⟨#[]⟩, .str ⟨#[x]⟩, .str ⟨#[y]⟩, .str ⟨#[]⟩]) (ds₁ := [.str ⟨#[]⟩, .str ⟨#[x]⟩]) (ρ₁ := rW (rW (rE3 x y ⟨#[a, b, c, d, e]⟩) ⟨#[]⟩ 0 0) ⟨#[x]⟩ (i : Nat) ((i + 1 : Nat) : Int))
        (ρ₂ := upd (rW (rW (rE3 x y ⟨#[a, b, c, d, e]⟩) ⟨#[]⟩ 0 0) ⟨#[x]⟩ (i : Nat) ((i + 1 : Nat) : Int)) (Str.ofString "w") (.str ⟨#[y]⟩))
        (by kernel_rfl) (by kernel_rfl) (by kernel_rfl) rfl ?_ (by kernel_rfl) ?_
      · refine .cons (ρ₁ := upd (rE3 x y ⟨#[a, b, c, d, e]⟩) (Str.ofString "w") (.str ⟨#[]⟩)) (ρ₂ := rW (rE3 x y ⟨#[a, b, c, d, e]⟩) ⟨#[]⟩ 0 0) (by kernel_rfl) ?_ (.cons (ρ₁ := upd (rW (rE3 x y ⟨#[a, b, c, d, e]⟩) ⟨#[]⟩ 0 0) (Str.ofString "w") (.str ⟨#[x]⟩)) (ρ₂ := rW (rW (rE3 x y ⟨#[a, b, c, d, e]⟩) ⟨#[]⟩ 0 0) ⟨#[x]⟩ (i : Nat) ((i + 1 : Nat) : Int)) (by kernel_rfl) ?_ .nil)
        · exact .assign (n := 5) (d := .int 0) (by kernel_rfl) (by kernel_rfl) (.ifN (n := 5) (c := false) (by kernel_rfl) .nil (.aug (n := 4) (a := 0) (b := 0) (by kernel_rfl) (by kernel_rfl) (.inl ⟨rfl, rfl⟩) (by kernel_rfl) .nil))
        · refine .assign (n := 5) (d := .int (i : Nat)) (Eq.trans (b := some (.int (match occurrences ⟨#[a, b, c, d, e]⟩ ⟨#[x]⟩ 0 5 1 with | k :: _ => (k : Int) | [] => -1))) (by kernel_rfl) (by rw [h1])) (by kernel_rfl) ?_
          refine .ifN (n := 5) (c := false) ?_ .nil (.aug (n := 4) (a := (i : Nat)) (b := 1) (by kernel_rfl) (by kernel_rfl) (.inl ⟨rfl, by omega⟩) (by kernel_rfl) .nil)
          rcases (show i = 0 ∨ i = 1 ∨ i = 2 ∨ i = 3 ∨ i = 4 by omega) with rfl | rfl | rfl | rfl | rfl <;> kernel_rfl
      · refine .assign (n := 5) (d := .int (-1)) ?_ (by kernel_rfl) (.ifR (n := 5) (c := true) (by kernel_rfl) (.ret (n := 3) (by kernel_rfl)))
        rcases (show i = 0 ∨ i = 1 ∨ i = 2 ∨ i = 3 ∨ i = 4 by omega) with rfl | rfl | rfl | rfl | rfl
        · exact Eq.trans (b := some (.int (match occurrences ⟨#[a, b, c, d, e]⟩ ⟨#[y]⟩ (0 + 1) 5 1 with | k :: _ => (k : Int) | [] => -1))) (by kernel_rfl) (by rw [h2])
        · exact Eq.trans (b := some (.int (match occurrences ⟨#[a, b, c, d, e]⟩ ⟨#[y]⟩ (1 + 1) 5 1 with | k :: _ => (k : Int) | [] => -1))) (by kernel_rfl) (by rw [h2])
        · exact Eq.trans (b := some (.int (match occurrences ⟨#[a, b, c, d, e]⟩ ⟨#[y]⟩ (2 + 1) 5 1 with | k :: _ => (k : Int) | [] => -1))) (by kernel_rfl) (by rw [h2])
        · exact Eq.trans (b := some (.int (match occurrences ⟨#[a, b, c, d, e]⟩ ⟨#[y]⟩ (3 + 1) 5 1 with | k :: _ => (k : Int) | [] => -1))) (by kernel_rfl) (by rw [h2])
        · exact Eq.trans (b := some (.int (match occurrences ⟨#[a, b, c, d, e]⟩ ⟨#[y]⟩ (4 + 1) 5 1 with | k :: _ => (k : Int) | [] => -1))) (by kernel_rfl) (by rw [h2])
    | cons j rest2 =>
      have hj : j + 1 ≤ 5 := (occ_spec' _ _ _ _ _ j (by rw [h2]; exact .head _))
      rw [show ell ⟨#[a, b, c, d, e]⟩ x y = true from by unfold ell; rw [h1]; simp only; rw [h2]]
      refine Ex.forN (n := 4) (src := .plain [.str ⟨#[]⟩, .str ⟨#[x]⟩, .str ⟨#[y]⟩, .str ⟨#[]⟩]) (ρ' := rW (rW (rW (rW (rE3 x y ⟨#[a, b, c, d, e]⟩) ⟨#[]⟩ 0 0) ⟨#[x]⟩ (i : Nat) ((i + 1 : Nat) : Int)) ⟨#[y]⟩ (j : Nat) ((j + 1 : Nat) : Int)) ⟨#[]⟩ ((j + 1 : Nat) : Int) ((j + 1 : Nat) : Int))
        (by kernel_rfl) (by kernel_rfl) (by kernel_rfl) ?_ (.ret (n := 3) (by kernel_rfl))
      refine .cons (ρ₁ := upd (rE3 x y ⟨#[a, b, c, d, e]⟩) (Str.ofString "w") (.str ⟨#[]⟩)) (ρ₂ := rW (rE3 x y ⟨#[a, b, c, d, e]⟩) ⟨#[]⟩ 0 0) (by kernel_rfl) ?_ (.cons (ρ₁ := upd (rW (rE3 x y ⟨#[a, b, c, d, e]⟩) ⟨#[]⟩ 0 0) (Str.ofString "w") (.str ⟨#[x]⟩)) (ρ₂ := rW (rW (rE3 x y ⟨#[a, b, c, d, e]⟩) ⟨#[]⟩ 0 0) ⟨#[x]⟩ (i : Nat) ((i + 1 : Nat) : Int)) (by kernel_rfl) ?_
        (.cons (ρ₁ := upd (rW (rW (rE3 x y ⟨#[a, b, c, d, e]⟩) ⟨#[]⟩ 0 0) ⟨#[x]⟩ (i : Nat) ((i + 1 : Nat) : Int)) (Str.ofString "w") (.str ⟨#[y]⟩)) (ρ₂ := rW (rW (rW (rE3 x y ⟨#[a, b, c, d, e]⟩) ⟨#[]⟩ 0 0) ⟨#[x]⟩ (i : Nat) ((i + 1 : Nat) : Int)) ⟨#[y]⟩ (j : Nat) ((j + 1 : Nat) : Int)) (by kernel_rfl) ?_
        (.cons (ρ₁ := upd (rW (rW (rW (rE3 x y ⟨#[a, b, c, d, e]⟩) ⟨#[]⟩ 0 0) ⟨#[x]⟩ (i : Nat) ((i + 1 : Nat) : Int)) ⟨#[y]⟩ (j : Nat) ((j + 1 : Nat) : Int)) (Str.ofString "w") (.str ⟨#[]⟩)) (by kernel_rfl) ?_ .nil)))
      · exact .assign (n := 5) (d := .int 0) (by kernel_rfl) (by kernel_rfl) (.ifN (n := 5) (c := false) (by kernel_rfl) .nil (.aug (n := 4) (a := 0) (b := 0) (by kernel_rfl) (by kernel_rfl) (.inl ⟨rfl, rfl⟩) (by kernel_rfl) .nil))
      · refine .assign (n := 5) (d := .int (i : Nat)) (Eq.trans (b := some (.int (match occurrences ⟨#[a, b, c, d, e]⟩ ⟨#[x]⟩ 0 5 1 with | k :: _ => (k : Int) | [] => -1))) (by kernel_rfl) (by rw [h1])) (by kernel_rfl) ?_
        refine .ifN (n := 5) (c := false) ?_ .nil (.aug (n := 4) (a := (i : Nat)) (b := 1) (by kernel_rfl) (by kernel_rfl) (.inl ⟨rfl, by omega⟩) (by kernel_rfl) .nil)
        rcases (show i = 0 ∨ i = 1 ∨ i = 2 ∨ i = 3 ∨ i = 4 by omega) with rfl | rfl | rfl | rfl | rfl <;> kernel_rfl
      · refine .assign (n := 5) (d := .int (j : Nat)) ?_ (by kernel_rfl) ?_
        · rcases (show i = 0 ∨ i = 1 ∨ i = 2 ∨ i = 3 ∨ i = 4 by omega) with rfl | rfl | rfl | rfl | rfl
          · exact Eq.trans (b := some (.int (match occurrences ⟨#[a, b, c, d, e]⟩ ⟨#[y]⟩ (0 + 1) 5 1 with | k :: _ => (k : Int) | [] => -1))) (by kernel_rfl) (by rw [h2])
          · exact Eq.trans (b := some (.int (match occurrences ⟨#[a, b, c, d, e]⟩ ⟨#[y]⟩ (1 + 1) 5 1 with | k :: _ => (k : Int) | [] => -1))) (by kernel_rfl) (by rw [h2])
          · exact Eq.trans (b := some (.int (match occurrences ⟨#[a, b, c, d, e]⟩ ⟨#[y]⟩ (2 + 1) 5 1 with | k :: _ => (k : Int) | [] => -1))) (by kernel_rfl) (by rw [h2])
          · exact Eq.trans (b := some (.int (match occurrences ⟨#[a, b, c, d, e]⟩ ⟨#[y]⟩ (3 + 1) 5 1 with | k :: _ => (k : Int) | [] => -1))) (by kernel_rfl) (by rw [h2])
          · exact Eq.trans (b := some (.int (match occurrences ⟨#[a, b, c, d, e]⟩ ⟨#[y]⟩ (4 + 1) 5 1 with | k :: _ => (k : Int) | [] => -1))) (by kernel_rfl) (by rw [h2])
        · refine .ifN (n := 5) (c := false) ?_ .nil (.aug (n := 4) (a := (j : Nat)) (b := 1) (by kernel_rfl) (by kernel_rfl) (.inl ⟨rfl, by omega⟩) (by kernel_rfl) .nil)
          rcases (show j = 0 ∨ j = 1 ∨ j = 2 ∨ j = 3 ∨ j = 4 by omega) with rfl | rfl | rfl | rfl | rfl <;> kernel_rfl
      · refine .assign (n := 5) (d := .int ((j + 1 : Nat) : Int)) ?_ (by kernel_rfl) ?_
        · rcases (show j = 0 ∨ j = 1 ∨ j = 2 ∨ j = 3 ∨ j = 4 by omega) with rfl | rfl | rfl | rfl | rfl <;> kernel_rfl
        · refine .ifN (n := 5) (c := false) ?_ .nil (.aug (n := 4) (a := ((j + 1 : Nat) : Int)) (b := 0) (by kernel_rfl) (by kernel_rfl) (.inl ⟨rfl, by omega⟩) (by kernel_rfl) .nil)
          rcases (show j = 0 ∨ j = 1 ∨ j = 2 ∨ j = 3 ∨ j = 4 by omega) with rfl | rfl | rfl | rfl | rfl <;> kernel_rfl
end Mine

set_option maxRecDepth 10000
set_option genInjectivity false
set_option genSizeOf false
set_option genSizeOfSpec false
namespace Mine

noncomputable abbrev JT := List Addr → Heap → Prop
/-- an invariant of the heap, on places ex of the frame's own -/
structure JOK (ex : List Addr) (J : JT) : Prop where
  frame : ∀ S h h', J S h → (∀ b o, (b ∈ ex ∨ b ∉ S) → h.get? b = some o → h'.get? b = some o) → J S h'
  weak : ∀ S S' h, J S h → (∀ a ∈ S', a ∈ S ∨ h.get? a = none) → J S' h
  live : ∀ S h, J S h → Live ex h

noncomputable def PostJ (C : Addr) (S own ex : List Addr) (J : JT) (env : Env) (s : Shared) (Q : Flow → Shared → Prop) : Fl → Prop
  | .next ρ => ∀ h' tk, Vw C h' S env ρ → J S h' → Live S h' → But (own ++ ex) s.heap h' → Q .next { s with heap := h', toks := tk }
  | .ret d => ∀ v h' tk, Rep C h' S d v → J S h' → Live S h' → But (own ++ ex) s.heap h' → Q (.ret v) { s with heap := h', toks := tk }
noncomputable def SJ (prog : Program) (w : World) (C : Addr) (KK : Heap → Prop) (kA : Addr → Prop) (dp : Nat) (sc : Scope) (ex : List Addr) (J J' : JT) (ρ : Rho) (ss : List Stmt) (f : Fl) : Prop :=
  ∀ (env : Env) (S own : List Addr) (A : Around) (s : Shared) (Q : Flow → Shared → Prop) (E : Value → Shared → Prop), env.scope = sc → Own sc own env → (∀ a ∈ own, a ∈ S) → (∀ a ∈ ex, a ∈ S) → (∀ a ∈ own, ¬ kA a) → (∀ a ∈ ex, ¬ kA a) → (∀ a ∈ own, a ∉ ex) →
    (∀ x c, env.kindOf x = some .cell → env.cells.lookup x = some c → c ∉ ex) → KK s.heap → Vw C s.heap S env ρ → J S s.heap → Live S s.heap → Rm dp A → PostJ C S own ex J' env s Q f → wpAny (model prog w) A (execs ss env) Q E s

section
variable {prog : Program} {w : World} {A : Around} {E : Value → Shared → Prop} {s : Shared} {C : Addr} {S own ex : List Addr} {KK : Heap → Prop} {kA : Addr → Prop} {dp : Nat} {G : Kn} {mg : Str → Option Value} {sc : Scope} {ρ : Rho} {env : Env} {J J' : JT}

theorem SOK.toJ {ss : List Stmt} {f : Fl} (h : SOK prog w C KK kA dp sc ρ ss f) (jo : JOK ex J) : SJ prog w C KK kA dp sc ex J J ρ ss f := by
  intro env S own A s Q E he O ho hx hok hxk hne hce hK V j lv rm P
  have jj : ∀ h', But own s.heap h' → J S h' := fun h' b => jo.frame _ _ _ j fun a o ha e => b a o (fun m => by
    rcases ha with ha | ha
    · exact hne a m ha
    · exact ha (ho a m)) e
  refine h env S own A s Q E he O ho hok hK V lv rm ?_
  cases f with
  | next ρ' => exact fun h' tk V' lv' b => P h' tk V' (jj h' b) lv' fun a o ha e => b a o (fun m => ha (List.mem_append.mpr (.inl m))) e
  | ret d => exact fun v h' tk r lv' b => P v h' tk r (jj h' b) lv' fun a o ha e => b a o (fun m => ha (List.mem_append.mpr (.inl m))) e

theorem PostJ.after {s' : Shared} {f : Fl} {Q : Flow → Shared → Prop} (P : PostJ C S own ex J env s Q f) {h : Heap} {tk : Nat} (e : s' = { s with heap := h, toks := tk }) (b : But (own ++ ex) s.heap h) : PostJ C S own ex J env s' Q f := by
  subst e
  cases f with
  | next ρ => exact fun h' tk' V j lv bb => P h' tk' V j lv fun a o ha q => bb a o ha (b a o ha q)
  | ret d => exact fun v h' tk' r j lv bb => P v h' tk' r j lv fun a o ha q => bb a o ha (b a o ha q)

theorem for_soundJ (W : Wd prog w C G KK kA mg dp) {t it : Expr} {b r : List Stmt} {p : Pos} {f : Fl} {n : Nat} {src : Src} (ρs ρt : Nat → Rho) (Js : Nat → JT) (jo : ∀ i, JOK ex (Js i)) (k : Nat) (hset : isSetE it = false) (hsrc : evSrc (ev G n sc (ρs 0)) sc it = some src) (hfit : src.fits t = true) (hk : k ≤ src.items.length)
    (hbt : ∀ i d, i < k → src.items[i]? = some d → bindT sc (ρs i) t d = some (ρt i)) (hb : ∀ i, i < k → SJ prog w C KK kA dp sc ex (Js i) (Js (i + 1)) (ρt i) b (.next (ρs (i + 1))))
    (fin : (k = src.items.length ∧ SJ prog w C KK kA dp sc ex (Js k) J' (ρs k) r f) ∨ ∃ d v, src.items[k]? = some d ∧ bindT sc (ρs k) t d = some (ρt k) ∧ SJ prog w C KK kA dp sc ex (Js k) J' (ρt k) b (.ret v) ∧ (∀ S S' h, J' S h → (∀ a ∈ S', a ∈ S ∨ h.get? a = none) → J' S' h) ∧ f = .ret v) :
    SJ prog w C KK kA dp sc ex (Js 0) J' (ρs 0) (.For t it b [] p :: r) f := by
  intro env S own A s Q E he O ho hx hok hxk hne hce hK V j lv rm P
  refine wpAny_execs_cons (wpAny_For (src_sound (ev_sound W n) W hsrc he hK V lv rm fun xv s₁ k₁ rd => rd _ _ fun I wr h₂ e₂ hwf hwl hW => ?_) (fun x => notSet_fold hset x))
  have e02 : Ext0 s.heap h₂ := fun b o e => e₂ b o (KX k₁ b o e)
  obtain ⟨h₁, tk₁, rfl, -⟩ := id k₁
  have hfit' : isPairs src = true → isTup t = true := fun hp => by cases src <;> first | exact hfit | (cases hp)
  have wf : ∀ a o, s.heap.get? a = some o → a ∉ wr := fun a o e m => by rw [hwf a m] at e; cases e
  have sw : ∀ a ∈ S, a ∉ wr := fun a ha m => by obtain ⟨o, ho'⟩ := lv a ha; exact wf a o ho' m
  have owr : ∀ a ∈ own, a ∉ wr := fun a ha => sw a (ho a ha)
  have xwr : ∀ a ∈ ex, a ∉ wr := fun a ha => sw a (hx a ha)
  obtain ⟨St, Mid, I0, st0⟩ := hW (wr ++ S) (fun a m => List.mem_append.mpr (.inl m)) (fun a m => List.mem_append.mpr (.inr m)) fun a ha => (List.mem_append.mp ha).imp id .inl
  have oS : ∀ a ∈ own, a ∈ wr ++ S := fun a m => List.mem_append.mpr (.inr (ho a m))
  have xS : ∀ a ∈ ex, a ∈ wr ++ S := fun a m => List.mem_append.mpr (.inr (hx a m))
  have wS : ∀ a ∈ wr, a ∈ wr ++ S := fun a m => List.mem_append.mpr (.inl m)
  have K₂ : KK h₂ := W.ko.keeps hK e02
  have kwr : ∀ a, kA a → a ∉ wr := fun a ka m => by obtain ⟨o, ho'⟩ := W.ko.live _ a hK ka; exact wf a o ho' m
  have wk : ∀ a ∈ wr ++ S, a ∈ S ∨ s.heap.get? a = none := fun a ha => (List.mem_append.mp ha).symm.imp id (hwf a)
  have V₂ : Vw C h₂ (wr ++ S) env (ρs 0) := (V.weak (S' := wr ++ S) wk).keeps e02
  have j₂ : Js 0 (wr ++ S) h₂ := (jo 0).frame _ _ _ ((jo 0).weak _ _ _ j wk) fun b o _ e => e02 b o e
  have lv₂ : Live (wr ++ S) h₂ := fun a ha => by
    rcases List.mem_append.mp ha with m | m
    · exact hwl a m
    · obtain ⟨o, ho'⟩ := lv a m; exact ⟨o, e02 a o ho'⟩
  have cells : ∀ x c, env.kindOf x = some .cell → env.cells.lookup x = some c → c ∉ wr := fun x c hx hc => by
    obtain ⟨c', ov, hc', ⟨o, ho', _⟩, _⟩ := V.cell x hx
    rw [hc] at hc'; cases hc'
    exact wf c o ho'
  have back : ∀ {H H' : Heap}, But (own ++ ex ++ wr) h₂ H → But (own ++ ex) H H' → But (own ++ ex ++ wr) h₂ H' := fun b1 b2 a o ha e => b2 a o (fun m => ha (List.mem_append.mpr (.inl m))) (b1 a o ha e)
  have toOwn : ∀ {H : Heap}, But (own ++ ex ++ wr) h₂ H → But (own ++ ex) s.heap H := fun b1 a o ha e => b1 a o (fun m => (List.mem_append.mp m).elim ha (wf a o e)) (e02 a o e)
  have kk : ∀ {H : Heap}, But (own ++ ex ++ wr) h₂ H → KK H := fun b1 => W.ko.keep _ _ K₂ fun a o ka e => b1 a o (fun m => (List.mem_append.mp m).elim (fun m => (List.mem_append.mp m).elim (fun m => hok a m ka) fun m => hxk a m ka) (kwr a ka)) e
  have notw : ∀ {a : Addr}, a ∈ wr ∨ a ∉ wr ++ S → a ∉ own ++ ex := fun ha m => by
    rcases List.mem_append.mp m with m | m
    · exact ha.elim (owr _ m) fun q => q (oS _ m)
    · exact ha.elim (xwr _ m) fun q => q (xS _ m)
  refine codeAny_forLoop_any (fun m s' => ∃ i h' tk, s' = { s with heap := h', toks := tk } ∧ i ≤ k ∧ m = src.items.length + 1 - i ∧ Vw C h' (wr ++ S) env (ρs i) ∧ Js i (wr ++ S) h' ∧ St i h' ∧ Live (wr ++ S) h' ∧ But (own ++ ex ++ wr) h₂ h') ?_ (src.items.length + 1)
    ⟨0, h₂, tk₁, rfl, Nat.zero_le _, rfl, V₂, j₂, st0, lv₂, fun _ _ _ e => e⟩
  rintro m s' ⟨i, H, tk, rfl, hik, rfl, V, j, st, lv, bb⟩
  have turn : ∀ (d : D) {R : Option Value → Shared → Prop} {E' : Value → Shared → Prop}, src.items[i]? = some d → bindT sc (ρs i) t d = some (ρt i) →
      (∀ v h₁ tk₁, (∀ (Q' : Unit → Shared → Prop) (E'' : Value → Shared → Prop), (∀ h₂', Vw C h₂' (wr ++ S) env (ρs i) → St (i + 1) h₂' → Rep C h₂' (wr ++ S) d v → But wr H h₂' → Q' () { s with heap := h₂', toks := tk₁ }) → wpAny (model prog w) A (letOwnedTupleGo t (.ref I) v) Q' E'' { s with heap := h₁, toks := tk₁ }) → R (some v) { s with heap := h₁, toks := tk₁ }) →
      wpAny (model prog w) A (pyNext (.ref I)) R E' { s with heap := H, toks := tk } := fun d R E' hd hbd hR => by
    obtain ⟨hform, htt⟩ := bindT_form hbd
    refine I0.item i d _ _ _ hd lv st fun v h₁ tk₁ rv hmid b₁ => hR v h₁ tk₁ fun Q' E'' hQ' => ?_
    refine I0.go t i d v _ _ _ hd hfit' htt hform rv hmid fun h₂' st' b₂ => hQ' h₂' ?_ st' (rv.ext fun a o ha e => b₂ a o (fun m => ha (wS a m)) e) fun a o ha e => b₂ a o ha (b₁ a o ha e)
    exact V.but (wr := wr) (fun a o ha e => b₂ a o ha (b₁ a o ha e)) wS (owr _ O.loc) cells
  have body : ∀ (d : D) (v : Value) (h₂' : Heap) (tk₁ : Nat) (g : Fl) (J₂ : JT) (Q' : Flow → Shared → Prop) (E' E'' : Value → Shared → Prop), src.items[i]? = some d → bindT sc (ρs i) t d = some (ρt i) → SJ prog w C KK kA dp sc ex (Js i) J₂ (ρt i) b g → Vw C h₂' (wr ++ S) env (ρs i) → St (i + 1) h₂' →
      Rep C h₂' (wr ++ S) d v → But wr H h₂' →
      (∀ h₃ tk₃, Live (wr ++ S) h₃ → But (own ++ ex ++ wr) h₂ h₃ → St (i + 1) h₃ → PostJ C (wr ++ S) own ex J₂ env { s with heap := h₃, toks := tk₃ } Q' g) →
      wpAny (model prog w) A (assign t env v) (fun _ s₂ => wpAny (model prog w) A (execs b env) Q' E' s₂) E'' { s with heap := h₂', toks := tk₁ } := fun d v h₂' tk₁ g J₂ Q' E' E'' hd hbd hs V' st' rv b' hP => by
    refine bind_sound rm.handled O oS hbd V' rv fun h₃ tk₃ V₃ b₃ => ?_
    have st₃ : St (i + 1) h₃ := I0.frame _ _ _ st' fun a o ha e => b₃ a o (fun m => notw ha (List.mem_append.mpr (.inl m))) e
    have b23 : But (own ++ ex ++ wr) h₂ h₃ := fun a o ha e => b₃ a o (fun m => ha (List.mem_append.mpr (.inl (List.mem_append.mpr (.inl m))))) (b' a o (fun m => ha (List.mem_append.mpr (.inr m))) (bb a o ha e))
    have j₃ : Js i (wr ++ S) h₃ := (jo i).frame _ _ _ j fun a o ha e => b₃ a o (fun m => by
      rcases ha with ha | ha
      · exact hne a m ha
      · exact ha (oS a m)) (b' a o (fun m => by
      rcases ha with ha | ha
      · exact xwr a ha m
      · exact ha (wS a m)) e)
    have lv₃ : Live (wr ++ S) h₃ := fun a ha => by
      by_cases mo : a ∈ own
      · exact V₃.ownLive O a mo
      · by_cases mw : a ∈ wr
        · exact I0.live _ _ st₃ a mw
        · obtain ⟨o, ho'⟩ := lv a ha
          exact ⟨o, b₃ a o mo (b' a o mw ho')⟩
    exact hs env (wr ++ S) own A _ _ _ he O oS xS hok hxk hne hce (kk b23) V₃ j₃ lv₃ rm (hP h₃ tk₃ lv₃ b23 st₃)
  have endLive : ∀ {H' : Heap} {ρ' : Rho} {J₂ : JT}, Vw C H' S env ρ' → Live ex H' → But (own ++ ex ++ wr) h₂ H' → Live S H' := fun V₃ lx b23 a ha => by
    obtain ⟨o, ho'⟩ := (‹Live S s.heap›) a ha
    by_cases mo : a ∈ own
    · exact V₃.ownLive O a mo
    · by_cases mx : a ∈ ex
      · exact lx a mx
      · exact ⟨o, toOwn b23 a o (fun m => (List.mem_append.mp m).elim mo mx) ho'⟩
  by_cases hlt : i < k
  · have hlen : i < src.items.length := Nat.lt_of_lt_of_le hlt hk
    have hget : src.items[i]? = some src.items[i] := List.getElem?_eq_getElem hlen
    have hbd := hbt i _ hlt hget
    refine turn _ hget hbd fun v h₁ tk₁ hgo => hgo _ _ fun h₂' V' st' rv b' => ?_
    refine body _ v h₂' tk₁ (.next (ρs (i + 1))) (Js (i + 1)) _ _ _ hget hbd (hb i hlt) V' st' rv b' fun h₃ tk₃ lv₃ b23 st₃ => fun h₄ tk₄ V₄ j₄ lv₄ b₄ => ?_
    replace b₄ : But (own ++ ex) h₃ h₄ := b₄
    exact ⟨src.items.length + 1 - (i + 1), by omega, i + 1, h₄, tk₄, rfl, hlt, rfl, V₄, j₄, I0.frame _ _ _ st₃ (fun a o ha e => b₄ a o (notw ha) e), lv₄, back b23 b₄⟩
  · have hik' : i = k := by omega
    subst hik'
    rcases fin with ⟨hlen, hr⟩ | ⟨d, v, hget, hbd, hs, hweak, rfl⟩
    · refine I0.done _ _ _ (hlen ▸ st) fun h₃ tk₃ b₃ => wpAny_execs_nil ?_
      replace b₃ : But wr H h₃ := b₃
      have b23 : But (own ++ ex ++ wr) h₂ h₃ := fun a o ha e => b₃ a o (fun m => ha (List.mem_append.mpr (.inr m))) (bb a o ha e)
      have V₃ : Vw C h₃ S env (ρs i) := (V.but (wr := wr) b₃ wS (owr _ O.loc) cells).weak fun a ha => .inl (List.mem_append.mpr (.inr ha))
      have j₃ : Js i S h₃ := (jo i).weak _ _ _ ((jo i).frame _ _ _ j fun a o ha e => b₃ a o (fun m => by
        rcases ha with ha | ha
        · exact xwr a ha m
        · exact ha (wS a m)) e) fun a ha => .inl (List.mem_append.mpr (.inr ha))
      exact hr env S own A _ _ _ he O ho hx hok hxk hne hce (kk b23) V₃ j₃ (endLive (J₂ := J') V₃ ((jo i).live _ _ j₃) b23) rm (P.after rfl (toOwn b23))
    · refine turn d hget hbd fun v' h₁ tk₁ hgo => hgo _ _ fun h₂' V' st' rv b' => ?_
      refine body d v' h₂' tk₁ (.ret v) J' _ _ _ hget hbd hs V' st' rv b' fun h₃ tk₃ lv₃ b23 st₃ => fun u h₄ tk₄ r₄ j₄ lv₄ b₄ => ?_
      replace b₄ : But (own ++ ex) h₃ h₄ := b₄
      exact P u h₄ tk₄ (r₄.weak fun a ha => .inl (List.mem_append.mpr (.inr ha))) (hweak _ _ _ j₄ fun a ha => .inl (List.mem_append.mpr (.inr ha))) (fun a ha => lv₄ a (List.mem_append.mpr (.inr ha))) (toOwn (back b23 b₄))
end
end Mine

namespace Mine
open Builtin.Str (occurrences)

theorem exec_of_execs {M : Model} {A : Around} {E : Value → Shared → Prop} {s : Shared} {env : Env} {st : Stmt} {Q : Flow → Shared → Prop} (h : wpAny M A (execs [st] env) Q E s) : wpAny M A (exec st env) Q E s := fun Γ p hΓ => by
  have h' := h Γ p hΓ
  rw [execs_cons, Sem.wp_bind'] at h'
  refine Sem.wp_mono M Γ _ (fun f p' s' h'' => ?_) (fun _ _ _ h => h) _ _ h'
  cases f <;> exact h''

/-- the four parts around a sign -/
structure Parts where
  F : Str
  L : Str
  R : Str
  N : Str
noncomputable def Parts.D (p : Parts) : D := .tuple [.str p.F, .str p.L, .str p.R, .str p.N]
/-- what _law_sides gives, without the wrapping -/
noncomputable def sidesP (a b c d e x : Nat) : Option Parts := match occurrences ⟨#[a, b, c, d, e]⟩ ⟨#[x]⟩ 0 5 1 with
  | [p] => if p < 5 then some ⟨Txt.slice ⟨#[a, b, c, d, e]⟩ none (some ((lo [a, b, c, d, e] x p : Nat) : Int)), Txt.slice ⟨#[a, b, c, d, e]⟩ (some ((lo [a, b, c, d, e] x p : Nat) : Int)) (some (p : Int)),
      Txt.slice ⟨#[a, b, c, d, e]⟩ (some ((p : Int) + 1)) (some ((hi [a, b, c, d, e] x (4 - p) (p + 1) : Nat) : Int)), Txt.slice ⟨#[a, b, c, d, e]⟩ (some ((hi [a, b, c, d, e] x (4 - p) (p + 1) : Nat) : Int)) none⟩ else none
  | _ => none
/-- the parts around a sign, for any two texts -/
noncomputable def sidesG (w s : Str) : Option Parts := match w.cps.toList, s.cps.toList with
  | [a, b, c, d, e], [x] => sidesP a b c d e x
  | _, _ => none
noncomputable def sidesF (ds : List D) : Option D := (twoS ds).bind fun p => (sidesG p.1 p.2).map Parts.D
theorem str_of_list {w : Str} {l : List Nat} (h : w.cps.toList = l) : w = ⟨l.toArray⟩ := by subst h; cases w; simp
theorem wd0 {w : World} {mg mb : Str → Option Value} {hB : Heap} (B : Base w mg mb hB) (hh : HdC w hB) : Wd PySem.Challenge.rw_tc0025_01.prog w CH (Gk [] [] []) (KB hB) (kB hB) mg 0 := wd_of B (by simp) (by simp) (by simp) hh
theorem wdC {w : World} {mg mb : Str → Option Value} {hB : Heap} (B : Base w mg mb hB) (hh : HdC w hB) : Wd PySem.Challenge.rw_tc0025_01.prog w CH GC (KB hB) (kB hB) mg 1 :=
  wd_of B (fun p hp => by rw [List.mem_singleton.mp hp]; exact coll_C B hh) (by simp) (by simp) hh

theorem sides_C {w : World} {mg mb : Str → Option Value} {hB : Heap} (B : Base w mg mb hB) (hh : HdC w hB) : FnC w CH hB mg 2 (Str.ofString "_law_sides") sidesF := by
  refine fnC_of B (wdC B hh) (a := 203) (fnAt B 203 (by kernel_rfl) (by kernel_rfl) (by kernel_rfl) (by kernel_rfl) (by kernel_rfl) (by kernel_rfl) (by kernel_rfl) (by kernel_rfl) (by kernel_rfl) (by kernel_rfl)) (mgA B (by kernel_rfl)) (ps := [Str.ofString "word", Str.ofString "sign"]) (by kernel_rfl) (by kernel_rfl) ?_ ?_ ?_
  · intro vs hl
    match vs, hl with
    | [u, v], _ => kernel_rfl
  · intro ds d h
    unfold sidesF at h
    obtain ⟨t, ht, h⟩ := Option.bind_eq_some_iff.mp h
    rw [twoS_eq ht]; rfl
  · intro ds d h
    unfold sidesF at h
    obtain ⟨t, ht, h⟩ := Option.bind_eq_some_iff.mp h
    obtain ⟨q, hq, rfl⟩ := Option.map_eq_some_iff.mp h
    rw [twoS_eq ht]
    unfold sidesG at hq
    split at hq
    · rename_i h1 h2
      unfold sidesP at hq
      split at hq
      · rename_i p ho
        split at hq
        · rename_i hp
          cases hq
          rw [str_of_list h1, str_of_list h2]
          exact run_sides ho hp
        · cases hq
      · cases hq
    · cases hq
end Mine

namespace Mine

theorem ev_name {G : Kn} {n : Nat} {sc : Scope} {ρ : Rho} {x : Str} {p : Pos} {d : D} (hx : decide (x = Str.ofString "__debug__") = false) (h : ρ x = some d) : ev G (n + 1) sc ρ (.Name x p) = some d := by
  have hx' : x ≠ Str.ofString "__debug__" := of_decide_eq_false hx
  (rw [ev_succ]; delta evStep; dsimp only; simp only [evName, if_neg hx', h])
theorem ev_adds {G : Kn} {n : Nat} {sc : Scope} {ρ : Rho} {l r : Expr} {p : Pos} {a b : Str} (h1 : ev G n sc ρ l = some (.str a)) (h2 : ev G n sc ρ r = some (.str b)) (hl : a.length + b.length ≤ small) : ev G (n + 1) sc ρ (.BinOp l .Add r p) = some (.str (a ++ b)) := by
  (rw [ev_succ]; delta evStep; dsimp only; simp only [h1, h2])
  exact if_pos hl
theorem ev_tup2 {G : Kn} {n : Nat} {sc : Scope} {ρ : Rho} {l r : Expr} {k : Nat} {p : Pos} {a b : D} (h1 : ev G n sc ρ l = some a) (h2 : ev G n sc ρ r = some b) : ev G (n + 1) sc ρ (.Tuple [l, r] k p) = some (.tuple [a, b]) := by
  have : ([l, r] : List Expr).length ≤ small := by show 2 ≤ 1000; decide
  (rw [ev_succ]; delta evStep; dsimp only; simp only [if_pos this, Mine.evAll, h1, h2]); rfl

section
variable {prog : Program} {w : World} {A : Around} {E : Value → Shared → Prop} {s : Shared} {C : Addr} {S own ex : List Addr} {KK : Heap → Prop} {kA : Addr → Prop} {dp : Nat} {G : Kn} {mg : Str → Option Value} {sc : Scope} {ρ : Rho} {env : Env} {J J' : JT}

theorem unpack4 (W : Wd prog w C G KK kA mg dp) {n : Nat} {x₁ x₂ x₃ x₄ : Str} {p₁ p₂ p₃ p₄ tp q cp : Pos} {k : Nat} {f : Expr} {as : List Expr} {kws : List Keyword} {d₁ d₂ d₃ d₄ : D} {Q : Flow → Shared → Prop} (h : ev G n sc ρ (.Call f as kws cp) = some (.tuple [d₁, d₂, d₃, d₄]))
    (t₁ : tgtOk sc x₁ = true) (t₂ : tgtOk sc x₂ = true) (t₃ : tgtOk sc x₃ = true) (t₄ : tgtOk sc x₄ = true) (he : env.scope = sc) (O : Own sc own env) (ho : ∀ a ∈ own, a ∈ S)
    (hK : KK s.heap) (V : Vw C s.heap S env ρ) (lv : Live S s.heap) (rm : Rm dp A) (P : ∀ h' tk, Vw C h' S env (upd (upd (upd (upd ρ x₁ d₁) x₂ d₂) x₃ d₃) x₄ d₄) → But own s.heap h' → Q .next { s with heap := h', toks := tk }) :
    wpAny (model prog w) A (exec (.Assign [.Tuple [.Name x₁ p₁, .Name x₂ p₂, .Name x₃ p₃, .Name x₄ p₄] k tp] (.Call f as kws cp) q) env) Q E s := by
  refine Assign_Tuple ((ev_sound W n).ev _ _ _ _ h env S A s _ _ he hK V lv rm fun v s₁ k₁ r₁ => ?_) rfl rfl
  obtain ⟨T, vs, rfl, hT, ht, v₁, w₁, rfl, r₁, v₂, w₂, rfl, r₂, v₃, w₃, rfl, r₃, v₄, w₄, rfl, r₄, rfl⟩ := r₁
  refine wpAny_assign_Tuple rm.handled ht rfl rfl fun h' hx => ?_
  have x0 : Ext0 s₁.heap h' := fun b o e => hx b o (Nat.ne_of_lt (Heap.lt_size e)) e
  have x1 : Ext0 s.heap h' := fun b o e => x0 b o (KX k₁ b o e)
  have V1 := V.keeps x1
  have bs : ∀ {h₁ h₂ : Heap}, But own h₁ h₂ → Ext S h₁ h₂ := fun b a o ha e => b a o (fun m => ha (ho a m)) e
  show wpAny _ _ (holding [v₂, v₃, v₄] (assign (.Name x₁ p₁) env v₁) >>= fun _ => assignInOrder [assign (.Name x₂ p₂) env, assign (.Name x₃ p₃) env, assign (.Name x₄ p₄) env] [v₂, v₃, v₄]) _ _ _
  refine wpAny_bind (wpAny_holding (wpAny_assign_Name (store_sound O ho V1 (r₁.keeps x0) t₁ fun h₁ tk₁ V₁ b₁ => ?_)))
  show wpAny _ _ (holding [v₃, v₄] (assign (.Name x₂ p₂) env v₂) >>= fun _ => assignInOrder [assign (.Name x₃ p₃) env, assign (.Name x₄ p₄) env] [v₃, v₄]) _ _ _
  refine wpAny_bind (wpAny_holding (wpAny_assign_Name (store_sound O ho V₁ ((r₂.keeps x0).ext (bs b₁)) t₂ fun h₂ tk₂ V₂ b₂ => ?_)))
  show wpAny _ _ (holding [v₄] (assign (.Name x₃ p₃) env v₃) >>= fun _ => assignInOrder [assign (.Name x₄ p₄) env] [v₄]) _ _ _
  refine wpAny_bind (wpAny_holding (wpAny_assign_Name (store_sound O ho V₂ (((r₃.keeps x0).ext (bs b₁)).ext (bs b₂)) t₃ fun h₃ tk₃ V₃ b₃ => ?_)))
  show wpAny _ _ (holding [] (assign (.Name x₄ p₄) env v₄) >>= fun _ => assignInOrder [] []) _ _ _
  refine wpAny_bind (wpAny_holding (wpAny_assign_Name (store_sound O ho V₃ ((((r₄.keeps x0).ext (bs b₁)).ext (bs b₂)).ext (bs b₃)) t₄ fun h₄ tk₄ V₄ b₄ => ?_)))
  obtain ⟨hh, tt, rfl, _⟩ := k₁
  exact wpAny_pure (P h₄ tk₄ V₄ fun a o ha e => b₄ a o ha (b₃ a o ha (b₂ a o ha (b₁ a o ha (x1 a o e)))))

/-- the list of an owned name -/
noncomputable def JL (C : Addr) (a : Addr) (l : List D) : JT := fun S h => ∃ ys, h.PlainList a ys ∧ Reps C h S l ys.toList
theorem JL_ok {a : Addr} {l : List D} : JOK [a] (JL C a l) where
  frame := fun S h h' ⟨ys, h1, h2⟩ k => ⟨ys, h1.at fun o e => k a o (.inl (.head _)) e, h2.ext fun b o hb e => k b o (.inr hb) e⟩
  weak := fun S S' h ⟨ys, h1, h2⟩ k => ⟨ys, h1, h2.weak k⟩
  live := fun S h ⟨ys, ⟨n, h1⟩, h2⟩ b hb => by rw [List.mem_singleton.mp hb]; exact ⟨_, h1⟩

theorem pin_val {a : Nat} {h : Heap} {v : Value} (r : Rep C h S (pinD a) v) : v = .ref a := by
  rcases r with ⟨b, e, rfl⟩ | ⟨x, dx, l, vs, _, T⟩
  · simp at e
    have e' : a = b := Int.ofNat.inj e
    rw [e']
  · exact T.tups.elim

theorem append_sound (W : Wd prog w C G KK kA mg dp) {n : Nat} {x : Str} {xp ap cp q : Pos} {e : Expr} {a : Nat} {d : D} {l : List D} {Q : Flow → Shared → Prop} (hx : ρ x = some (pinD a)) (hdb : (x == ("__debug__" : Str)) = false) (h : ev G n sc ρ e = some d) (hl : (ap.endLine == cp.line) = true) (hlen : l.length ≤ small)
    (he : env.scope = sc) (haS : a ∈ S) (hK : KK s.heap) (V : Vw C s.heap S env ρ) (lv : Live S s.heap) (rm : Rm dp A) (j : JL C a l S s.heap)
    (hlo : env.locals ≠ a) (hce : ∀ x c, env.kindOf x = some .cell → env.cells.lookup x = some c → c ≠ a)
    (P : ∀ h' tk, Vw C h' S env ρ → JL C a (l ++ [d]) S h' → But [a] s.heap h' → Q .next { s with heap := h', toks := tk }) :
    wpAny (model prog w) A (exec (.Expr (.Call (.Attribute (.Name x xp) (Str.ofString "append") ap) [e] [] cp) q) env) Q E s := by
  have F := ev_sound W n
  have hev : Mine.evAll (ev G n sc ρ) [e] = some [d] := by simp [Mine.evAll, h]
  refine wpAny_Expr_any (wpAny_Call_method_lateS (hbase rfl) (by
    rw [plain_all F hev]; rfl) hl ?_) (by unfold interactive; rw [V.kind]; rfl) rfl
  have load : ∀ {R : Value → Shared → Prop} {E' : Value → Shared → Prop}, R (.ref a) s → wpAny (model prog w) A (eval (.Name x xp) env) R E' s := fun hR => by
    rcases V.only x _ hx with hk | hk
    · obtain ⟨m, nn, qq⟩ := V.ns
      obtain ⟨v, hv, r⟩ := qq x _ hx hk
      rw [pin_val r] at hv
      exact wpAny_Name (wpAny_loadName_local V.kind hk nn hv hR) hdb
    · obtain ⟨c, ov, hc, hi, qq⟩ := V.cell x hk
      obtain ⟨v, rfl, r⟩ := qq _ hx
      rw [pin_val r] at hi
      exact wpAny_Name (wpAny_loadName_cell V.kind hk hc hi hR) hdb
  refine load ?_
  obtain ⟨ys, ⟨nn, hy⟩, ry⟩ := j
  refine ⟨"list", "list.append", PySem.F.plainAttrs_list, PySem.F.slot_list_append, PySem.F.type_list_append, ⟨_, hy, rfl⟩, fun b e => by cases e; exact ⟨_, hy, rfl⟩, ?_⟩
  refine Calls.callWith_builtin (plain_args F hev) (evalArgs_sound F W.ko hev he hK V lv rm fun vs s₁ k₁ r₁ => ?_)
  obtain ⟨v, r, rfl, rv, rfl⟩ := r₁
  obtain ⟨h₁, tk₁, rfl, x₁⟩ := k₁
  replace x₁ : Ext0 s.heap h₁ := x₁
  have hys : ys.size ≤ sizeLine := by
    have e1 := ry.length
    have e2 := size_line
    have e3 := small_is
    have e4 : ys.toList.length = ys.size := by simp
    omega
  refine wpAny_list_append_plain (hsz := hys) (⟨nn, x₁ _ _ hy⟩ : h₁.PlainList a ys) fun h₂ hp₂ hs₂ => ?_
  replace hs₂ : Heap.SameBut a h₁ h₂ := hs₂
  have b₂ : But [a] h₁ h₂ := fun b o hb e => hs₂.extBut b o (fun m => hb (by simp [m])) e
  have xS : Ext S h₁ h₂ := fun b o hb e => b₂ b o (fun m => hb (by rw [List.mem_singleton.mp m]; exact haS)) e
  refine P h₂ tk₁ ((V.keeps x₁).but (wr := [a]) b₂ (fun b hb => by rw [List.mem_singleton.mp hb]; exact haS) (fun m => hlo (List.mem_singleton.mp m)) fun y c hy hc m => hce y c hy hc (List.mem_singleton.mp m)) ⟨_, hp₂, ?_⟩ fun b o hb e => b₂ b o hb (x₁ b o e)
  rw [Array.toList_push]
  exact ((ry.keeps x₁).ext xS).append (Reps.one (rv.ext xS))

theorem Vw.unpin {x : Str} {a : Nat} {l : List D} {h : Heap} (V : Vw C h (a :: S) env ρ) (hx : ρ x = some (pinD a)) (haS : a ∉ S) (j : JL C a l (a :: S) h) : Vw C h S env (upd ρ x (.list l)) := by
  have wk : ∀ b ∈ S, b ∈ (a :: S) ∨ h.get? b = none := fun b hb => .inl (.tail _ hb)
  have V' := V.weak (S' := S) wk
  obtain ⟨ys, hp, ry⟩ := j
  have rl : Rep C h S (.list l) (.ref a) := ⟨a, ys.toList, rfl, haS, by simpa using hp.isList, ry.weak wk⟩
  obtain ⟨m, n, q⟩ := V'.ns
  refine ⟨V'.kind, V'.gl, V'.bl, ⟨m, n, fun y d hy hk => ?_⟩, fun y hy => ?_, fun y d hy => ?_, V'.inj⟩
  · unfold upd at hy
    split at hy
    · rename_i e; cases hy; subst e
      obtain ⟨v, hv, r⟩ := q y _ hx hk
      exact ⟨v, hv, by rw [pin_val r]; exact rl⟩
    · exact q y d hy hk
  · obtain ⟨c, ov, hc, hi, qq⟩ := V'.cell y hy
    refine ⟨c, ov, hc, hi, fun d hd => ?_⟩
    unfold upd at hd
    split at hd
    · rename_i e; cases hd; subst e
      obtain ⟨v, hv, r⟩ := qq _ hx
      exact ⟨v, hv, by rw [pin_val r]; exact rl⟩
    · exact qq d hd
  · unfold upd at hy
    split at hy
    · rename_i e; subst e; exact V'.only y _ hx
    · exact V'.only y d hy
end
end Mine

namespace Mine

noncomputable abbrev SP := Str × Str
noncomputable def pr (p : SP) : D := .tuple [.str p.1, .str p.2]
noncomputable def hopS (t c : Str) : Option Str := (sidesG t c).bind fun p => if p.F.length + p.R.length + c.length + p.L.length + p.N.length ≤ 100 then some (p.F ++ p.R ++ c ++ p.L ++ p.N) else none
noncomputable def hopsAll : List SP → Str → Option (List SP)
  | [], _ => some []
  | (h, t) :: r, c => match hopS t c, hopsAll r c with
    | some u, some l => if h.length + c.length ≤ 100 then some ((h ++ c, u) :: l) else none
    | _, _ => none
noncomputable def wordsL : List SP → List Nat → Option (List SP)
  | ws, [] => some ws
  | ws, c :: cs => match hopsAll ws ⟨#[c]⟩ with
    | some more => if ws.length + more.length ≤ 100 then wordsL (ws ++ more) cs else none
    | none => none

theorem hopS_sides {t c u : Str} (h : hopS t c = some u) : ∃ f l r e, sidesF [.str t, .str c] = some (.tuple [.str f, .str l, .str r, .str e]) ∧ f.length + r.length + c.length + l.length + e.length ≤ 100 ∧ u = f ++ r ++ c ++ l ++ e := by
  unfold hopS at h
  obtain ⟨p, hp, h⟩ := Option.bind_eq_some_iff.mp h
  by_cases hl : p.F.length + p.R.length + c.length + p.L.length + p.N.length ≤ 100
  · rw [if_pos hl] at h
    cases h
    exact ⟨p.F, p.L, p.R, p.N, by show (sidesG t c).map Parts.D = _; rw [hp]; rfl, hl, rfl⟩
  · rw [if_neg hl] at h; cases h
theorem hopsAll_get : ∀ {ws more : List SP} {c : Str}, hopsAll ws c = some more → more.length = ws.length ∧ ∀ (i : Nat) (h t : Str), ws[i]? = some (h, t) → ∃ u, hopS t c = some u ∧ h.length + c.length ≤ 100 ∧ more[i]? = some (h ++ c, u)
  | [], _, _, h => by cases h; exact ⟨rfl, fun i h t e => by simp at e⟩
  | (h, t) :: r, more, c, hh => by
    unfold hopsAll at hh
    split at hh
    · rename_i u l hu hl
      split at hh
      · rename_i hlen
        cases hh
        obtain ⟨h1, h2⟩ := hopsAll_get hl
        refine ⟨by simp [h1], fun i h' t' e => ?_⟩
        cases i with
        | zero => simp at e; obtain ⟨rfl, rfl⟩ := e; exact ⟨u, hu, hlen, rfl⟩
        | succ i => obtain ⟨u', a, b, d⟩ := h2 i h' t' (by simpa using e); exact ⟨u', a, b, by simpa using d⟩
      · cases hh
    · cases hh
theorem wordsL_seq : ∀ {cs : List Nat} {ws out : List SP}, wordsL ws cs = some out → ∃ f : Nat → List SP, f 0 = ws ∧ f cs.length = out ∧ ∀ (i c : Nat), cs[i]? = some c → ∃ more, hopsAll (f i) ⟨#[c]⟩ = some more ∧ f (i + 1) = f i ++ more ∧ (f i).length + more.length ≤ 100
  | [], ws, out, h => by cases h; exact ⟨fun _ => ws, rfl, rfl, fun i c e => by simp at e⟩
  | c :: cs, ws, out, h => by
    unfold wordsL at h
    split at h
    · rename_i more hm
      split at h
      · rename_i hl
        obtain ⟨f, h0, h1, h2⟩ := wordsL_seq h
        refine ⟨fun i => match i with | 0 => ws | i + 1 => f i, rfl, h1, fun i c' e => ?_⟩
        cases i with
        | zero => simp at e; subst e; exact ⟨more, hm, h0, hl⟩
        | succ i => exact h2 i c' (by simpa using e)
      · cases h
    · cases h

noncomputable abbrev GW : Kn := Gk [(Str.ofString "_law_sides", sidesF)] [] []
theorem ev_addl {G : Kn} {n : Nat} {sc : Scope} {ρ : Rho} {l r : Expr} {p : Pos} {a b : List D} (h1 : ev G n sc ρ l = some (.list a)) (h2 : ev G n sc ρ r = some (.list b)) (hl : a.length + b.length ≤ small) : ev G (n + 1) sc ρ (.BinOp l .Add r p) = some (.list (a ++ b)) := by
  (rw [ev_succ]; delta evStep; dsimp only; simp only [h1, h2])
  exact if_pos hl

noncomputable abbrev rw0 (word movers : Str) : Rho := rhoOf ([Str.ofString "word", Str.ofString "movers"].zip [.str word, .str movers])
noncomputable abbrev rw1 (word movers : Str) (ws : List SP) : Rho := upd (rw0 word movers) (Str.ofString "words") (.list (ws.map pr))
noncomputable abbrev rw2 (word movers : Str) (ws : List SP) (c : Str) : Rho := upd (rw1 word movers ws) (Str.ofString "sign") (.str c)
noncomputable abbrev rw3 (word movers : Str) (ws : List SP) (c : Str) (a : Nat) : Rho := upd (rw2 word movers ws c) (Str.ofString "more") (pinD a)

theorem upd_mono {ρ : Rho} {x : Str} {d : D} (h : ρ x = none) : ∀ y e, ρ y = some e → upd ρ x d y = some e := fun y e he => by
  unfold upd; split
  · rename_i q; subst q; rw [h] at he; cases he
  · exact he

section
variable {w : World} {mg : Str → Option Value} {hB : Heap}
/-- one body of the loops, taken from the text -/
noncomputable def wBlock (P : Params) : List Stmt := match bdA P 217 with | [_, .For _ _ b _ _, _] => b | _ => []
noncomputable def wBody (P : Params) : List Stmt := match wBlock P with | [_, .For _ _ b _ _, _] => b | _ => []

theorem wBody_SJ {P : Params} (W : Wd PySem.Challenge.rw_tc0025_01.prog w CH GW (KB hB) (kB hB) mg 2) {word movers c : Str} {ws : List SP} {a : Nat} {out : List SP} {h t u : Str} (hu : hopS t c = some u) (hlen : h.length + c.length ≤ 100) (hout : out.length ≤ 100) :
    SJ PySem.Challenge.rw_tc0025_01.prog w CH (KB hB) (kB hB) 2 (fdA P 217).scope [a] (JL CH a (out.map pr)) (JL CH a ((out ++ [(h ++ c, u)]).map pr)) (upd (upd (rw3 word movers ws c a) (Str.ofString "hopped") (.str h)) (Str.ofString "text") (.str t)) (wBody P)
      (.next (rw3 word movers ws c a)) := by
  intro env S own A s Q E he O ho hx hok hxk hne hce hK V j lv rm Po
  obtain ⟨f, l, r, e, hs, hl, rfl⟩ := hopS_sides hu
  have e2 := small_is
  refine wpAny_execs_cons (unpack4 W (n := 6) (d₁ := .str f) (d₂ := .str l) (d₃ := .str r) (d₄ := .str e) (Eq.trans (b := sidesF [.str t, .str c]) (by kernel_rfl) hs) (by kernel_rfl) (by kernel_rfl) (by kernel_rfl) (by kernel_rfl) he O ho hK V lv rm fun h₁ tk₁ V₁ b₁ => ?_)
  have jj : JL CH a (out.map pr) S h₁ := JL_ok.frame _ _ _ j fun b o hb q => b₁ b o (fun m => by
    rcases hb with hb | hb
    · exact hne b m hb
    · exact hb (ho b m)) q
  have lv₁ : Live S h₁ := live_store lv O V₁ b₁
  have K₁ : KB hB h₁ := W.ko.keep _ _ hK fun b o ka q => b₁ b o (fun m => hok b m ka) q
  refine wpAny_execs_cons (append_sound W (n := 8) (a := a) (d := pr (h ++ c, f ++ r ++ c ++ l ++ e)) (l := out.map pr) (by kernel_rfl) (by kernel_rfl) ?_ (by kernel_rfl) (by rw [List.length_map]; omega) he (hx _ (.head _)) K₁ V₁ lv₁ rm jj
    (fun q => hne _ O.loc (by rw [q]; exact .head _)) (fun y cc hy hc q => hce y cc hy hc (by rw [q]; exact .head _)) fun h₂ tk₂ V₂ j₂ b₂ => ?_)
  · have la : ∀ x y : Str, (x ++ y).length = x.length + y.length := Str.length_append
    refine ev_tup2 (n := 7) (a := .str (h ++ c)) (b := .str (f ++ r ++ c ++ l ++ e)) (ev_adds (n := 6) (by kernel_rfl) (by kernel_rfl) (by omega)) ?_
    refine ev_adds (n := 6) (ev_adds (n := 5) (ev_adds (n := 4) (ev_adds (n := 3) (by kernel_rfl) (by kernel_rfl) ?_) (by kernel_rfl) ?_) (by kernel_rfl) ?_) (by kernel_rfl) ?_
    · omega
    · rw [la]; omega
    · rw [la, la]; omega
    · rw [la, la, la]; omega
  · refine wpAny_execs_nil (Po h₂ tk₂ (V₂.mono fun y d hy => ?_) (by rw [List.map_append]; exact j₂) (fun b hb => ?_) fun b o hb q => b₂ b o (fun m => hb (List.mem_append.mpr (.inr m))) (b₁ b o (fun m => hb (List.mem_append.mpr (.inl m))) q))
    · refine upd_mono ?_ _ _ (upd_mono ?_ _ _ (upd_mono ?_ _ _ (upd_mono ?_ _ _ (upd_mono ?_ _ _ (upd_mono ?_ _ _ hy))))) <;> kernel_rfl
    · by_cases q : b ∈ [a]
      · exact JL_ok.live _ _ j₂ b q
      · obtain ⟨o, ho'⟩ := lv₁ b hb; exact ⟨o, b₂ b o q ho'⟩
end
end Mine

namespace Mine
section
variable {w : World} {mg : Str → Option Value} {hB : Heap}

theorem fin_mono {ρ : Rho} {W M N : Str} {a b c e D₀ : D} (h1 : ρ M = none) (h2 : ρ N = none) : ∀ y d, upd ρ W D₀ y = some d → upd (upd (upd (upd (upd ρ W a) N b) M c) M e) W D₀ y = some d := by
  intro y d hy
  unfold upd at hy ⊢
  by_cases q : y = W
  · rw [if_pos q] at hy ⊢; exact hy
  · rw [if_neg q] at hy ⊢
    have q2 : y ≠ M := fun r => by subst r; rw [h1] at hy; cases hy
    have q3 : y ≠ N := fun r => by subst r; rw [h2] at hy; cases hy
    rw [if_neg q2, if_neg q2, if_neg q3, if_neg q]; exact hy
theorem wBlock_SOK {P : Params} (W : Wd PySem.Challenge.rw_tc0025_01.prog w CH GW (KB hB) (kB hB) mg 2) {word movers c : Str} {ws more : List SP} (hm : hopsAll ws c = some more) (hl : ws.length + more.length ≤ 100) :
    SOK PySem.Challenge.rw_tc0025_01.prog w CH (KB hB) (kB hB) 2 (fdA P 217).scope (rw2 word movers ws c) (wBlock P) (.next (rw1 word movers (ws ++ more))) := by
  intro env S own A s Q E he O ho hok hK V lv rm Po
  obtain ⟨hml, hmg⟩ := hopsAll_get hm
  have e2 := small_is
  -- more = []
  refine wpAny_execs_cons (wpAny_Assign_Name (List_ (args_nil (wpAny_newObj_type ?_))) rfl)
  have haS : s.heap.objs.size ∉ S := lv.fresh (get_size _)
  have hao : s.heap.objs.size ∉ own := fun m => haS (ho _ m)
  have x1 : Ext0 s.heap (s.heap.push { cls := .type "list", data := .seq ([] : List Value).toArray }) := push_ext _ _
  have wk : ∀ b ∈ s.heap.objs.size :: S, b ∈ S ∨ s.heap.get? b = none := fun b hb => by
    rcases List.mem_cons.mp hb with rfl | hb
    · exact .inr (get_size _)
    · exact .inl hb
  have V1 := (V.weak wk).keeps x1
  have ho1 : ∀ b ∈ own, b ∈ s.heap.objs.size :: S := fun b hb => .tail _ (ho b hb)
  refine store_sound (d := pinD s.heap.objs.size) O ho1 V1 (.inl ⟨_, rfl, rfl⟩) (by kernel_rfl) fun h₁ tk₁ V₁ b₁ => ?_
  replace b₁ : But own (s.heap.push { cls := .type "list", data := .seq ([] : List Value).toArray }) h₁ := b₁
  have j₁ : JL CH s.heap.objs.size (([] : List SP).map pr) (s.heap.objs.size :: S) h₁ := ⟨#[], ⟨_, b₁ _ _ hao (Heap.get?_push_size _ rfl)⟩, rfl⟩
  have lv₁ : Live (s.heap.objs.size :: S) h₁ := fun b hb => by
    by_cases q : b ∈ own
    · exact V₁.ownLive O b q
    · rcases List.mem_cons.mp hb with rfl | hb
      · exact JL_ok.live _ _ j₁ _ (.head _)
      · obtain ⟨o, ho'⟩ := lv b hb; exact ⟨o, b₁ b o q (x1 b o ho')⟩
  have bb₁ : But own s.heap h₁ := fun b o hb q => b₁ b o hb (x1 b o q)
  have K₁ : KB hB h₁ := W.ko.keep _ _ hK fun b o ka q => bb₁ b o (fun m => hok b m ka) q
  have cellsNe : ∀ x cc, env.kindOf x = some .cell → env.cells.lookup x = some cc → cc ∉ [s.heap.objs.size] := fun x cc hx hc m => by
    rw [List.mem_singleton.mp m] at hc
    obtain ⟨c', ov, hc', ⟨o, ho', _⟩, _⟩ := V.cell x hx
    rw [hc] at hc'; cases hc'
    rw [get_size] at ho'; cases ho'
  -- the loop
  refine wpAny_execs_cons (exec_of_execs ?_)
  let hp : Nat → SP := fun i => (ws[i]?).getD (⟨#[]⟩, ⟨#[]⟩)
  have hpi : ∀ i, i < ws.length → ws[i]? = some (hp i) := fun i hi => by
    show ws[i]? = some ((ws[i]?).getD _)
    rw [List.getElem?_eq_getElem hi]; rfl
  refine for_soundJ (ex := [s.heap.objs.size]) (J' := JL CH s.heap.objs.size (more.map pr)) (f := .next (rw3 word movers ws c s.heap.objs.size)) W (n := 3) (src := .plain (ws.map pr))
    (fun _ => rw3 word movers ws c s.heap.objs.size) (fun i => upd (upd (rw3 word movers ws c s.heap.objs.size) (Str.ofString "hopped") (.str (hp i).1)) (Str.ofString "text") (.str (hp i).2)) (fun i => JL CH s.heap.objs.size ((more.take i).map pr)) (fun i => JL_ok) ws.length
    ?hset ?src ?hfit (by simp [Src.items]) ?bt ?body (.inl ⟨by simp [Src.items], ?fin⟩) env (s.heap.objs.size :: S) own A _ _ E he O ho1 (fun b hb => by rw [List.mem_singleton.mp hb]; exact .head _) hok (fun b hb ka => ?ka) (fun b hb m => ?ne) cellsNe K₁ V₁ j₁ lv₁ rm (fun h₂ tk₂ V₂ j₂ lv₂ b₂ => ?post)
  case hset => rfl
  case hfit => rfl
  case src =>
    refine Eq.trans (b := (match ev GW 3 (fdA P 217).scope (rw3 word movers ws c s.heap.objs.size) (.Name (Str.ofString "words") ⟨0, 0, 0, 0⟩) with | some d => (seqOf d).map .plain | none => none)) (by kernel_rfl) ?_
    rw [ev_name (n := 2) (by kernel_rfl) (show rw3 word movers ws c s.heap.objs.size (Str.ofString "words") = some (.list (ws.map pr)) by kernel_rfl)]
    simp only [seqOf]
    rw [if_pos (by rw [List.length_map]; omega)]
    rfl
  case bt =>
    intro i d hi hd
    have hg := hpi i hi
    simp only [Src.items, List.getElem?_map, hg] at hd
    cases hd
    kernel_rfl
  case body =>
    intro i hi
    obtain ⟨u, hu, hlen, hmi⟩ := hmg i (hp i).1 (hp i).2 (hpi i hi)
    have : more.take (i + 1) = more.take i ++ [((hp i).1 ++ c, u)] := by rw [List.take_add_one, hmi]; rfl
    rw [this]
    exact wBody_SJ W hu hlen (by rw [List.length_take]; omega)
  case fin =>
    intro env S own A s' Q E he O ho hx hok hxk hne hce hK V j lv rm Po
    rw [show more.take ws.length = more by rw [← hml]; exact List.take_length] at j
    exact wpAny_execs_nil (Po _ _ V j lv fun _ _ _ q => q)
  case ka =>
    rw [List.mem_singleton.mp hb] at ka
    obtain ⟨o, ho'⟩ := ka
    rw [none_back hK (get_size _)] at ho'; cases ho'
  case ne => rw [List.mem_singleton.mp m] at hb; exact hao hb
  case post =>
    replace b₂ : But (own ++ [s.heap.objs.size]) h₁ h₂ := b₂
    have V₃ := V₂.unpin (x := Str.ofString "more") (by kernel_rfl) haS j₂
    have bb₂ : But own s.heap h₂ := fun b o hb q => b₂ b o (fun m => (List.mem_append.mp m).elim hb fun m => by rw [List.mem_singleton.mp m, get_size] at q; cases q) (bb₁ b o hb q)
    have K₂ : KB hB h₂ := W.ko.keep _ _ hK fun b o ka q => bb₂ b o (fun m => hok b m ka) q
    have lv₃ : Live S h₂ := fun b hb => lv₂ b (.tail _ hb)
    refine wpAny_execs_cons (assign_sound W (n := 4) (d := .list ((ws ++ more).map pr)) ?_ (by kernel_rfl) he O ho K₂ V₃ lv₃ rm fun h₃ tk₃ V₄ lv₄ b₃ => ?_)
    · rw [List.map_append]
      exact ev_addl (n := 3) (ev_name (n := 2) (by kernel_rfl) (by kernel_rfl)) (ev_name (n := 2) (by kernel_rfl) (by kernel_rfl)) (by rw [List.length_map, List.length_map]; omega)
    · replace b₃ : But own h₂ h₃ := b₃
      refine wpAny_execs_nil (Po h₃ tk₃ (V₄.mono fun y d hy => ?_) lv₄ fun b o hb q => b₃ b o hb (bb₂ b o hb q))
      exact fin_mono (by kernel_rfl) (by kernel_rfl) y d hy
end

noncomputable def wordsF : List D → Option D
  | [.str word, .str movers] => if movers.length ≤ small then (wordsL [(⟨#[]⟩, word)] movers.cps.toList).map fun out => .list (out.map pr) else none
  | _ => none

theorem strChars_at {x : Str} {i : Nat} {d : D} (h : (strChars x)[i]? = some d) : ∃ c, x.cps.toList[i]? = some c ∧ d = .str ⟨#[c]⟩ := by
  obtain ⟨c, h1, h2⟩ := strChars_get h
  exact ⟨c, by simpa using h1, h2⟩

theorem words_SOK {w : World} {mg : Str → Option Value} {hB : Heap} {P : Params} (W : Wd PySem.Challenge.rw_tc0025_01.prog w CH GW (KB hB) (kB hB) mg 2) {word movers : Str} {out : List SP} (hl : movers.length ≤ small) (h : wordsL [(⟨#[]⟩, word)] movers.cps.toList = some out) :
    SOK PySem.Challenge.rw_tc0025_01.prog w CH (KB hB) (kB hB) 2 (fdA P 217).scope (rw0 word movers) (bdA P 217) (.ret (.list (out.map pr))) := by
  obtain ⟨f, f0, f1, f2⟩ := wordsL_seq h
  intro env S own A s Q E he O ho hok hK V lv rm Po
  have kk : ∀ {h' : Heap}, But own s.heap h' → KB hB h' := fun b => W.ko.keep _ _ hK fun a o ka q => b a o (fun m => hok a m ka) q
  refine wpAny_execs_cons (assign_sound W (n := 4) (d := .list ([(⟨#[]⟩, word)].map pr)) (by kernel_rfl) (by kernel_rfl) he O ho hK V lv rm fun h' tk V' lv' b' => ?_)
  have len : (strChars movers).length = movers.cps.toList.length := by simp [strChars]
  let cp : Nat → Str := fun i => ⟨#[(movers.cps.toList[i]?).getD 0]⟩
  have hcp : ∀ i c, movers.cps.toList[i]? = some c → cp i = ⟨#[c]⟩ := fun i c e => by show (⟨#[(movers.cps.toList[i]?).getD 0]⟩ : Str) = _; rw [e]; rfl
  refine for_sound (f := .ret (.list (out.map pr))) W (n := 3) (src := .plain (strChars movers)) (fun i => rw1 word movers (f i)) (fun i => rw2 word movers (f i) (cp i)) (strChars movers).length ?hset ?src ?hfit (Nat.le_refl _) ?bt ?body (.inl ⟨rfl, ?fin⟩) env S own A _ _ E he O ho hok (kk b') (f0 ▸ V') lv' rm (Po.after rfl b')
  case hset => rfl
  case hfit => rfl
  case src =>
    refine Eq.trans (b := (match ev GW 3 (fdA P 217).scope (rw1 word movers (f 0)) (.Name (Str.ofString "movers") ⟨0, 0, 0, 0⟩) with | some d => (seqOf d).map .plain | none => none)) (by kernel_rfl) ?_
    rw [ev_name (n := 2) (d := .str movers) (by kernel_rfl) (by kernel_rfl)]
    simp only [seqOf]
    rw [if_pos hl]
    rfl
  case bt =>
    intro i d hi hd
    obtain ⟨c, hc, rfl⟩ := strChars_at hd
    rw [← hcp i c hc]
    kernel_rfl
  case body =>
    intro i hi
    rw [len] at hi
    have hg : movers.cps.toList[i]? = some movers.cps.toList[i] := List.getElem?_eq_getElem hi
    obtain ⟨more, hm, hs, hle⟩ := f2 i _ hg
    rw [hs, hcp i _ hg]
    exact wBlock_SOK W hm hle
  case fin =>
    rw [len, f1]
    refine ex_sound W (Ex.ret (n := 3) (ev_name (n := 2) (by kernel_rfl) (by kernel_rfl)))
theorem words_C {w : World} {mg mb : Str → Option Value} {hB : Heap} (B : Base w mg mb hB) (hh : HdC w hB) : FnC w CH hB mg 3 (Str.ofString "_law_words") wordsF where
  ok := fun ds d h => ⟨217, fnObj (fdA w.params 217), fdA w.params 217, mgA B (by kernel_rfl), rfl, fun h' k => k _ _ (B.k _ _ (by kernel_rfl)), fun A s S vs Q E hK lv rm r hQ => by
    have W : Wd PySem.Challenge.rw_tc0025_01.prog w CH GW (KB hB) (kB hB) mg 2 := wd_of B (fun p hp => by rw [List.mem_singleton.mp hp]; exact sides_C B hh) (by simp) (by simp) hh
    unfold wordsF at h
    split at h
    · rename_i word movers
      split at h
      · rename_i hl
        cases hw : wordsL [(⟨#[]⟩, word)] movers.cps.toList with
        | none => rw [hw] at h; cases h
        | some out =>
        rw [hw] at h; cases h
        obtain ⟨v, r', rfl, rv, v', r'', rfl, rv', rfl⟩ := r
        have F : FnAt (KB hB) 217 (fnObj (fdA w.params 217)) (fdA w.params 217) (bdA w.params 217) := fnAt B 217 (by kernel_rfl) (by kernel_rfl) (by kernel_rfl) (by kernel_rfl) (by kernel_rfl) (by kernel_rfl) (by kernel_rfl) (by kernel_rfl) (by kernel_rfl) (by kernel_rfl)
        refine frame_sound (dp := 2) W.ko F (args := ⟨[v, v'], []⟩) (ps := [Str.ofString "word", Str.ofString "movers"]) (ds := [.str word, .str movers]) (vs := [v, v']) (by kernel_rfl) rfl (by decide +kernel) (fun x hx => ?_) hK lv rm ⟨v, _, rfl, rv, v', _, rfl, rv', rfl⟩ fun env S' own s₁ k₁ e1 O oS ownf sS V lv' => ?_
        · simp only [List.mem_cons, List.not_mem_nil, or_false] at hx
          rcases hx with rfl | rfl
          · exact .inl (by kernel_rfl)
          · exact .inl (by kernel_rfl)
        · refine words_SOK W hl hw env S' own _ s₁ _ _ e1 O oS (fun b hb ⟨o, ho⟩ => ?_) (W.ko.keeps hK (KX k₁)) V lv' (rm.deeper env) fun v h' tk rv lv'' bb => ?_
          · have := hK _ _ ho
            rw [ownf b hb] at this; cases this
          · obtain ⟨h₁, tk₁, rfl, x₁⟩ := k₁
            exact hQ v _ ⟨h', tk, rfl, fun b o e => bb b o (fun m => by rw [ownf b m] at e; cases e) (x₁ b o e)⟩ (rv.weak fun b hb => .inl (sS b hb))
      · cases h
    · cases h⟩
end Mine

namespace Mine
section
variable {w : World} {mg mb : Str → Option Value} {hB : Heap}

theorem tab_inst {h : Heap} {S : List Addr} {kvs : List (D × D)} {x dx l : Addr} {us : List Value} (T : Tab CH h S kvs x dx l us) : ∃ (hs : Int) (tk : Tok) (n : Nat), InstAt h x (instObj 185 dx) 185 (some (dictOf [⟨hs, .str (Str.ofString "_headers") tk, .ref l⟩] n)) := by
  obtain ⟨hs, tk, n, hd⟩ := T.dict
  exact ⟨hs, tk, n, ⟨T.inst, rfl, rfl, hd⟩⟩

theorem hdC (B : Base w mg mb hB) : HdC w hB := by
  intro A s Q E S kvs x dx l us hK T hQ
  obtain ⟨hs, tk, n, I⟩ := tab_inst T
  have X : (KP w.params).In s.heap := B.k.keeps hK
  have hg : plainGet (KP w.params) 185 (Str.ofString "_headers") = true := by kernel_rfl
  exact get_value X I (plainGet_of hg).1 (findObj_own (by kernel_rfl) (show findIn (KP w.params) (.ref 185) (Str.ofString "_headers") = some none by kernel_rfl) (by kernel_rfl) (by rw [lookIn_dict]; kernel_rfl)) (by kernel_rfl) (hQ _)

theorem getM (B : Base w mg mb hB) {m : Str} {f : Addr} (h1 : plainGet (KP w.params) 185 m = true) (h2 : findIn (KP w.params) (.ref 185) m = some (some (.ref f))) (h3 : isFn (KP w.params) (.ref f) = true) (h4 : ∀ (hs : Int) (tk : Tok) (l : Addr), getL m [⟨hs, .str (Str.ofString "_headers") tk, .ref l⟩] = some none)
    (A : Around) (s : Shared) (Q : Value × List Value → Shared → Prop) (E : Value → Shared → Prop) (S : List Addr) (kvs : List (D × D)) (x dx l : Addr) (us : List Value) (pl : Sem Bool) (hK : KB hB s.heap) (T : Tab CH s.heap S kvs x dx l us)
    (hQ : Q (.ref f, [.ref x]) s) : wpAny (model PySem.Challenge.rw_tc0025_01.prog w) A (getMethod (.ref x) m pl) Q E s := by
  obtain ⟨hs, tk, n, I⟩ := tab_inst T
  have X : (KP w.params).In s.heap := B.k.keeps hK
  refine method_fn X I (plainGet_of h1).1 (plainGet_of h1).2 h2 (beq_iff_eq.mp h3) ?_ hQ
  show (lookIn m (dictOf _ n)).map _ = _
  rw [lookIn_dict]
  rw [h4]; rfl

/-! keys -/
noncomputable def keysF : Me
  | kvs, [], none => if pinned kvs = false ∧ kvs.length ≤ small then some (.list (kvs.map (·.1))) else none
  | _, _, _ => none
theorem keys_C (B : Base w mg mb hB) : MeC w CH hB 1 (Str.ofString "keys") keysF where
  ok := fun kvs ds kw d h => by
    unfold keysF at h
    split at h
    · split at h
      · rename_i hp
        cases h
        have F : FnAt (KB hB) 137 (fnObj (fdA w.params 137)) (fdA w.params 137) (bdA w.params 137) := fnAt B 137 (by kernel_rfl) (by kernel_rfl) (by kernel_rfl) (by kernel_rfl) (by kernel_rfl) (by kernel_rfl) (by kernel_rfl) (by kernel_rfl) (by kernel_rfl) (by kernel_rfl)
        refine ⟨137, _, _, F.dat, F.get, fun A s Q E S x dx l us pl hK T hQ => getM B (by kernel_rfl) (by kernel_rfl) (by kernel_rfl) (fun _ _ _ => by kernel_rfl) A s Q E S kvs x dx l us pl hK T hQ, fun A s S x dx l us vs Q E hK lv rm T r hQ => ?_⟩
        cases r
        refine fn_sound (wd0 B (hdC B)) F (args := ⟨[.ref x], []⟩) (ps := [Str.ofString "self"]) (ds := [.dict kvs]) (vs := [.ref x]) (by kernel_rfl) rfl (by decide +kernel) (fun y hy => ?_) hK lv rm ⟨_, _, rfl, .inr ⟨x, dx, l, us, rfl, T⟩, rfl⟩ ?_ hQ
        · rw [List.mem_singleton.mp hy]; exact .inl (by kernel_rfl)
        · refine Ex.ret (n := 6) (ev_comp (n := 5) (src := .plain (kvs.map fun p => .tuple [p.1, p.2])) (by kernel_rfl) (by kernel_rfl) (by kernel_rfl) ?_ (by kernel_rfl) (by simpa [Src.items] using hp.2) ?_)
          · refine Eq.trans (b := (match (if kvs.length ≤ small ∧ pinned kvs = false then some (PyData.list (kvs.map fun p => .tuple [p.1, p.2])) else none) with | some d => (seqOf d).map .plain | none => none)) (by kernel_rfl) ?_
            rw [if_pos ⟨hp.2, hp.1⟩]
            simp only [seqOf]
            rw [if_pos (by rw [List.length_map]; exact hp.2)]
            rfl
          · exact turns_map fun p _ => turn_no (by kernel_rfl) (by kernel_rfl)
      · cases h
    · cases h
end
end Mine

namespace Mine
open PySem.Builtin

noncomputable abbrev codeN : Array Nat := #[14, 10, 4, 1, 1, 22, 0, 31, 16, 127, 0, 13, 7, 22, 0, 31, 16, 127, 0, 1]
noncomputable abbrev codeV : Array Nat := #[14, 14, 4, 1, 1, 9, 4294966783, 0, 0, 2147483648, 0, 0, 0, 0, 0, 13, 11, 9, 4294966783, 0, 0, 2147483648, 0, 0, 0, 0, 0, 1]
noncomputable def okc (c : Nat) : Prop := 32 ≤ c ∧ c ≤ 126
theorem inN (seen : Sre.Seen) : ∀ c, c < 127 → 32 ≤ c → Sre.inSet codeN c codeN.size 5 true seen = .ok (false, ((seen.add 22).add 16).add 0) := by
  refine upto_get ?_
  repeat (first | exact trivial | refine ⟨(by first | exact fun h => absurd h (by decide) | exact fun _ => by kernel_rfl), ?_⟩)
theorem inV (seen : Sre.Seen) : ∀ c, c < 127 → 32 ≤ c → Sre.inSet codeV c codeV.size 5 true seen = .ok (false, (seen.add 9).add 0) := by
  refine upto_get ?_
  repeat (first | exact trivial | refine ⟨(by first | exact fun h => absurd h (by decide) | exact fun _ => by kernel_rfl), ?_⟩)

/-- a set that takes none of the signs -/
noncomputable def NoHit (code : Array Nat) : Prop := ∀ c seen, okc c → ∃ s', Sre.inSet code c code.size 5 true seen = .ok (false, s')
theorem noN : NoHit codeN := fun c seen h => ⟨_, inN seen c (Nat.lt_succ_of_le h.2) h.1⟩
theorem noV : NoHit codeV := fun c seen h => ⟨_, inV seen c (Nat.lt_succ_of_le h.2) h.1⟩

theorem admitted_none {m : Sre.M} (hn : NoHit m.code) (ht : ∀ j, j < m.lim → okc (m.text.getD j 0)) : ∀ fuel s seen, ∃ s', Sre.M.admitted m fuel s seen = .ok (none, s')
  | 0, _, seen => ⟨seen, rfl⟩
  | fuel + 1, s, seen => by
    unfold Sre.M.admitted
    split
    · exact ⟨seen, rfl⟩
    · rename_i hs
      obtain ⟨s', e⟩ := hn (m.text.getD s 0) seen (ht s (by omega))
      rw [e]
      exact admitted_none hn ht fuel (s + 1) s'

/-- a machine that said no -/
noncomputable def SaidNo (m : Sre.M) : Prop := m.answer = some false ∧ m.frames = [] ∧ m.outcome = none
theorem SaidNo.run {m : Sre.M} (h : SaidNo m) : (m.runFor 4).outcome = some .failed ∧ (m.runFor 4).outcome.isSome = true := by
  obtain ⟨h1, h2, h3⟩ := h
  have e1 : m.step = { m with outcome := some .failed } := by
    unfold Sre.M.step
    rw [h3, h1, h2]; rfl
  have : m.runFor 4 = { m with outcome := some .failed } := by
    unfold Sre.M.runFor
    rw [h3]
    show Sre.M.runFor 3 m.step = _
    rw [e1]; rfl
  rw [this]; exact ⟨rfl, rfl⟩

theorem attempt_no {m : Sre.M} {s : Nat} {b : Bool} (hn : NoHit m.code) (ht : ∀ j, j < m.lim → okc (m.text.getD j 0)) (hf : m.hasFirstSet = true) (ho : m.outcome = none) (hr : m.frames = []) : SaidNo (m.attemptFrom s b) := by
  unfold Sre.M.attemptFrom
  rw [hf]
  obtain ⟨s', e⟩ := admitted_none hn ht (m.lim + 1 - s) s m.seen
  rw [e]
  exact ⟨rfl, hr, ho⟩
theorem search_no {code text : Array Nat} (hn : NoHit code) (hf : ((match Sre.ops[code.getD 0 0]? with | some .INFO => true | _ => false) && code.getD 2 0 == 4) = true) (ht : ∀ j, j < text.size → okc (text.getD j 0)) : SaidNo (Sre.forSearch code text 0 0 text.size false) := by
  unfold Sre.forSearch
  simp only
  by_cases hc : (decide (0 > text.size) || decide (text.size - 0 < (Sre.header code).1)) = true
  · rw [if_pos (by simpa using hc)]
    exact ⟨rfl, rfl, rfl⟩
  · rw [if_neg (by simpa using hc)]
    exact attempt_no hn ht (by unfold Sre.M.hasFirstSet; exact hf) rfl rfl

section
variable {prog : Program} {w : World} {A : Around} {E : Value → Shared → Prop} {s : Shared}
theorem runToEnd_no {m : Sre.M} {Q : Option Sre.M → Shared → Prop} (h : SaidNo m) (hQ : Q none s) : wpAny (model prog w) A (Re.reRunToEnd m) Q E s := by
  obtain ⟨h1, h2⟩ := h.run
  unfold Re.reRunToEnd
  have e : Re.reDrive (2 ^ 64) m = pure (m.runFor 4) := by
    show Re.reDrive ((2 ^ 64 - 1) + 1) m = _
    unfold Re.reDrive
    show (if (m.runFor 4).outcome.isSome = true then pure (m.runFor 4) else _) = _
    rw [if_pos h2]
  rw [e]
  refine wpAny_bind (wpAny_pure ?_)
  refine wpAny_bind (wpAny_forIn_list _ (fun _ _ s' => s' = s) _ (fun i rest u s' hs => ?_) (fun u s' hs => ?_) _ _ rfl)
  · subst hs
    show wpAny _ _ (if _ then _ else _) _ _ _
    refine wpAny_ite ?_
    split
    · exact wpAny_bind (wpAny_rule (wpAny_pure rfl))
    · first | exact wpAny_pure rfl | exact wpAny_bind (wpAny_pure (wpAny_pure rfl))
  · subst hs
    rw [h1]
    exact wpAny_pure hQ

namespace SF
theorem slot_search : Slot "re.Pattern" "search" "re.Pattern.search" :=
  .of (owner := "re.Pattern") (n := "search") (by rw [typeLookup_type, builtinLookup_eq_fast]; kernel_rfl) (by decide +kernel) (by decide +kernel) (by decide +kernel)
    (by first | exact .inl (by decide +kernel) | exact .inr (by decide +kernel)) (by rw [isSubtype_type]; kernel_rfl)
theorem entry_search : entryFor table "re.Pattern.search" = some Builtin.«re.Pattern.search» := entryFor_of_tree (by kernel_rfl)
theorem type_search : typeOf (.builtin "re.Pattern.search") = pure (.type "method_descriptor") := by show builtinType _ = _; rw [builtinType_eq_fast]; kernel_rfl
theorem args_search (a b : Value) : argsOk "re.Pattern.search" ⟨[a, b], []⟩ := by unfold argsOk; kernel_rfl
end SF
end
end Mine

namespace Mine
open PySem.Builtin
theorem SF.plainAttrs : PlainAttrs "re.Pattern" :=
  ⟨⟨"object.__getattribute__", by rw [typeLookup_type, builtinLookup_eq_fast]; kernel_rfl, by decide +kernel⟩, by rw [typeLookup_type, builtinLookup_eq_fast]; kernel_rfl⟩

section
variable {prog : Program} {w : World} {A : Around} {E : Value → Shared → Prop} {s : Shared}
theorem search_sound {p c : Addr} {op oc : Obj} {fs items : Array Value} {n : Nat} {x : Str} {t : Tok} {code : Array Nat} {Q : Value → Shared → Prop} (hp : s.heap.get? p = some op) (hcl : op.cls = .type "re.Pattern") (hd : op.data = .fields fs) (h5 : fs.getD 5 .none = .ref c)
    (hc : s.heap.get? c = some oc) (hcd : oc.data = .seq items n) (hcode : (items.map Re.reRawOf).map (·.toNat) = code) (h6 : Re.reRawNat (fs.getD 6 .none) = 0) (h2 : Re.reRawNat (fs.getD 2 .none) = 0) (hn : NoHit code)
    (hf : ((match Sre.ops[code.getD 0 0]? with | some .INFO => true | _ => false) && code.getD 2 0 == 4) = true) (ht : ∀ j, j < x.cps.size → okc (x.cps.getD j 0)) (hx : x.length ≤ small) (hQ : Q .none s) :
    wpAny (model prog w) A (call (.builtin "re.Pattern.search") [.ref p, .str x t]) Q E s := by
  refine wpAny_call_entry SF.slot_search ⟨_, hp, hcl⟩ SF.entry_search ?_ (SF.args_search _ _)
  unfold Builtin.«re.Pattern.search» Re.reTarget
  refine wpAny_bind ?_
  refine wpAny_bind (wpAny_of_eq (a := [some (.str x t), none, none]) (by kernel_rfl) ?_)
  refine wpAny_bind (wpAny_pure ?_)
  refine wpAny_bind (wpAny_pure ?_)
  refine wpAny_bind (wpAny_fieldsOf hp hd ?_)
  refine wpAny_bind (wpAny_of_eq (a := (x.cps, 0)) (by kernel_rfl) ?_)
  dsimp only
  rw [if_neg (by simp), h6, if_neg (by decide)]
  refine wpAny_bind (wpAny_of_eq (a := ()) (by kernel_rfl) ?_)
  refine wpAny_bind ?_
  unfold Re.reRawItems
  rw [h5]
  refine wpAny_bind ?_
  show wpAny _ _ (load c >>= fun o => match o.data with | .seq xs _ => pure (some xs) | _ => pure none) _ _ _
  refine wpAny_bind (wpAny_load hc ?_)
  rw [hcd]
  refine wpAny_pure (wpAny_pure (wpAny_pure ?_))
  have e1 : (Min.min (2 ^ 63 - 1 : Int).toNat x.cps.size) = x.cps.size := by
    have e : x.length = x.cps.size := rfl
    have e2 := small_is
    have e3 : (2 ^ 63 - 1 : Int).toNat = 2 ^ 63 - 1 := by decide
    omega
  show wpAny _ _ (Re.reAnswer _ (Sre.forSearch ((items.map Re.reRawOf).map (·.toNat)) x.cps (Re.reRawNat (fs.getD 2 .none)) (Min.min (Int.toNat 0) x.cps.size) (Min.min (2 ^ 63 - 1 : Int).toNat x.cps.size) false)) _ _ _
  rw [hcode, h2, e1, show Min.min (Int.toNat 0) x.cps.size = 0 by simp]
  unfold Re.reAnswer
  refine wpAny_bind (runToEnd_no (search_no hn hf ht) ?_)
  exact wpAny_pure ⟨_, rfl, hQ⟩
end
end Mine

namespace Mine
noncomputable def okS (x : Str) : Prop := x.length ≤ small ∧ ∀ j, j < x.cps.size → okc (x.cps.getD j 0)
noncomputable abbrev GR : Kn := Gk [] [] [(Str.ofString "_name_disallowed_re", pinD 57), (Str.ofString "_value_disallowed_re", pinD 62)]
noncomputable def fsA (P : Params) (a : Addr) : Array Value := match (KP P).lookup a with | some ⟨_, _, .fields vs, _⟩ => vs | _ => #[]
noncomputable def itA (P : Params) (a : Addr) : Array Value := match (KP P).lookup a with | some ⟨_, _, .seq vs _, _⟩ => vs | _ => #[]
theorem r1 (P : Params) : (KP P).lookup 57 = some { cls := .type "re.Pattern", data := .fields (fsA P 57) } := by kernel_rfl
theorem r2 (P : Params) : (fsA P 57).getD 5 .none = .ref 56 := by kernel_rfl
theorem r3 (P : Params) : (KP P).lookup 56 = some { cls := .type "tuple", data := .seq (itA P 56) } := by kernel_rfl
theorem r4 (P : Params) : ((itA P 56).map Builtin.Re.reRawOf).map (·.toNat) = codeN := by kernel_rfl
theorem r5 (P : Params) : Builtin.Re.reRawNat ((fsA P 57).getD 6 .none) = 0 := by kernel_rfl
theorem r6 (P : Params) : Builtin.Re.reRawNat ((fsA P 57).getD 2 .none) = 0 := by kernel_rfl
theorem r1' (P : Params) : (KP P).lookup 62 = some { cls := .type "re.Pattern", data := .fields (fsA P 62) } := by kernel_rfl
theorem r2' (P : Params) : (fsA P 62).getD 5 .none = .ref 61 := by kernel_rfl
theorem r3' (P : Params) : (KP P).lookup 61 = some { cls := .type "tuple", data := .seq (itA P 61) } := by kernel_rfl
theorem r4' (P : Params) : ((itA P 61).map Builtin.Re.reRawOf).map (·.toNat) = codeV := by kernel_rfl
theorem r5' (P : Params) : Builtin.Re.reRawNat ((fsA P 62).getD 6 .none) = 0 := by kernel_rfl
theorem r6' (P : Params) : Builtin.Re.reRawNat ((fsA P 62).getD 2 .none) = 0 := by kernel_rfl
section
variable {w : World} {mg mb : Str → Option Value} {hB : Heap}
theorem search57 (B : Base w mg mb hB) {A : Around} {E : Value → Shared → Prop} {s : Shared} {x : Str} {t : Tok} {Q : Value → Shared → Prop} (hK : KB hB s.heap) (hx : okS x) (hQ : Q .none s) :
    wpAny (model PySem.Challenge.rw_tc0025_01.prog w) A (call (.builtin "re.Pattern.search") [.ref 57, .str x t]) Q E s :=
  search_sound (B.k.keeps hK _ _ (r1 _)) rfl rfl (r2 _) (B.k.keeps hK _ _ (r3 _)) rfl (r4 _) (r5 _) (r6 _) noN (by kernel_rfl) hx.2 hx.1 hQ
theorem search62 (B : Base w mg mb hB) {A : Around} {E : Value → Shared → Prop} {s : Shared} {x : Str} {t : Tok} {Q : Value → Shared → Prop} (hK : KB hB s.heap) (hx : okS x) (hQ : Q .none s) :
    wpAny (model PySem.Challenge.rw_tc0025_01.prog w) A (call (.builtin "re.Pattern.search") [.ref 62, .str x t]) Q E s :=
  search_sound (B.k.keeps hK _ _ (r1' _)) rfl rfl (r2' _) (B.k.keeps hK _ _ (r3' _)) rfl (r4' _) (r5' _) (r6' _) noV (by kernel_rfl) hx.2 hx.1 hQ
end
end Mine

namespace Mine
noncomputable def okSb (x : Str) : Bool := decide (x.length ≤ small) && x.cps.toList.all fun c => decide (32 ≤ c) && decide (c ≤ 126)
theorem okSb_ok {x : Str} (h : okSb x = true) : okS x := by
  unfold okSb at h
  rw [Bool.and_eq_true, decide_eq_true_eq, List.all_eq_true] at h
  refine ⟨h.1, fun j hj => ?_⟩
  have hm : x.cps.getD j 0 ∈ x.cps.toList := by
    rw [Array.getD_eq_getD_getElem?, Array.getElem?_eq_getElem hj]
    simp
  have := h.2 _ hm
  rw [Bool.and_eq_true, decide_eq_true_eq, decide_eq_true_eq] at this
  exact this
noncomputable abbrev rc0 (kvs : List (D × D)) (x : Str) (b : Bool) : Rho := rhoOf ([Str.ofString "self", Str.ofString "value", Str.ofString "name"].zip [.dict kvs, .str x, .bool b])
section
variable {w : World} {mg mb : Str → Option Value} {hB : Heap}
theorem wdR (B : Base w mg mb hB) : Wd PySem.Challenge.rw_tc0025_01.prog w CH GR (KB hB) (kB hB) mg 0 :=
  wd_of B (by simp) (by simp) (fun p hp => by
    simp only [List.mem_cons, List.not_mem_nil, or_false] at hp
    rcases hp with rfl | rfl
    · exact ⟨.ref 57, mgA B (by kernel_rfl), fun h S => .inl ⟨57, rfl, rfl⟩⟩
    · exact ⟨.ref 62, mgA B (by kernel_rfl), fun h S => .inl ⟨62, rfl, rfl⟩⟩) (hdC B)

theorem conv_tail (B : Base w mg mb hB) {A : Around} {E : Value → Shared → Prop} {s : Shared} {env : Env} {S : List Addr} {ρ : Rho} {sc : Scope} {x : Str} {p : Nat} {xp ap cp vp q qq rp : Pos} {bd : List Stmt} {Q : Flow → Shared → Prop} (hp : p = 57 ∨ p = 62) (hx : okS x)
    (hρ : ρ (Str.ofString "regex") = some (pinD p)) (hv : ρ (Str.ofString "value") = some (.str x)) (hl : (ap.endLine == cp.line) = true) (he : env.scope = sc) (hK : KB hB s.heap) (V : Vw CH s.heap S env ρ) (lv : Live S s.heap) (rm : Rm 0 A)
    (P : ∀ v s', PySem.Keeps s s' → Rep CH s'.heap S (.str x) v → Q (.ret v) s') :
    wpAny (model PySem.Challenge.rw_tc0025_01.prog w) A (execs [.If (.Call (.Attribute (.Name (Str.ofString "regex") xp) (Str.ofString "search") ap) [.Name (Str.ofString "value") vp] [] cp) bd [] q, .Return (some (.Name (Str.ofString "value") rp)) qq] env) Q E s := by
  have F := ev_sound (wdR B) 2
  have hval : ∀ zp, ev GR 2 sc ρ (.Name (Str.ofString "value") zp) = some (.str x) := fun zp => ev_name (n := 1) (by kernel_rfl) hv
  have hev : Mine.evAll (ev GR 2 sc ρ) [.Name (Str.ofString "value") vp] = some [.str x] := by simp [Mine.evAll, hval]
  refine wpAny_execs_cons (wpAny_If (isTrue_plain (wpAny_Call_method_lateS (hbase rfl) (by rw [plain_all F hev]; rfl) hl ?_)))
  have load : ∀ {R : Value → Shared → Prop} {E' : Value → Shared → Prop}, R (.ref p) s → wpAny (model PySem.Challenge.rw_tc0025_01.prog w) A (eval (.Name (Str.ofString "regex") xp) env) R E' s := fun hR => by
    rcases V.only _ _ hρ with hk | hk
    · obtain ⟨m, nn, qx⟩ := V.ns
      obtain ⟨v, hv, r⟩ := qx _ _ hρ hk
      rw [pin_val r] at hv
      exact wpAny_Name (wpAny_loadName_local V.kind hk nn hv hR) (by decide +kernel)
    · obtain ⟨c, ov, hc, hi, qx⟩ := V.cell _ hk
      obtain ⟨v, rfl, r⟩ := qx _ hρ
      rw [pin_val r] at hi
      exact wpAny_Name (wpAny_loadName_cell V.kind hk hc hi hR) (by decide +kernel)
  refine load ?_
  have hobj : ∃ ob, s.heap.get? p = some ob ∧ ob.cls = .type "re.Pattern" ∧ ob.dict = none := by
    rcases hp with rfl | rfl
    · exact ⟨_, B.k.keeps hK _ _ (r1 _), rfl, rfl⟩
    · exact ⟨_, B.k.keeps hK _ _ (r1' _), rfl, rfl⟩
  obtain ⟨ob, ho, hoc, hod⟩ := hobj
  refine ⟨"re.Pattern", "re.Pattern.search", SF.plainAttrs, SF.slot_search, SF.type_search, ⟨_, ho, hoc⟩, fun b e => by cases e; exact ⟨_, ho, hod⟩, ?_⟩
  refine Calls.callWith_builtin (plain_args F hev) (evalArgs_sound F (koB hB) hev he hK V lv rm fun vs s₁ k₁ r₁ => ?_)
  obtain ⟨v, r, rfl, ⟨t, rfl⟩, rfl⟩ := r₁
  have K₁ : KB hB s₁.heap := (koB hB).keeps hK (KX k₁)
  have fin : wpAny (model PySem.Challenge.rw_tc0025_01.prog w) A (truthy .none) (fun b s₂ => if b then wpAny (model PySem.Challenge.rw_tc0025_01.prog w) A (execs bd env) (fun f s' => match f with | .next => wpAny (model PySem.Challenge.rw_tc0025_01.prog w) A (execs [.Return (some (.Name (Str.ofString "value") rp)) qq] env) Q E s' | f => Q f s') E s₂
      else wpAny (model PySem.Challenge.rw_tc0025_01.prog w) A (execs [] env) (fun f s' => match f with | .next => wpAny (model PySem.Challenge.rw_tc0025_01.prog w) A (execs [.Return (some (.Name (Str.ofString "value") rp)) qq] env) Q E s' | f => Q f s') E s₂) E s₁ := by
    refine tru_sound (C := CH) (S := S) (d := .none) rfl rfl fun s₂ k₂ => ?_
    simp only [Bool.false_eq_true, if_false]
    refine wpAny_execs_nil (wpAny_execs_cons (wpAny_Return_some (F.ev _ _ _ _ (hval rp) env S A s₂ _ _ he ((koB hB).keeps K₁ (KX k₂)) ((V.keeps (KX k₁)).keeps (KX k₂)) ((lv.keeps (KX k₁)).keeps (KX k₂)) rm fun v s₃ k₃ r₃ => ?_)))
    exact P v s₃ (KT (KT k₁ k₂) k₃) r₃
  rcases hp with rfl | rfl
  · exact search57 B K₁ hx fin
  · exact search62 B K₁ hx fin

theorem conv_SOK (B : Base w mg mb hB) {kvs : List (D × D)} {x : Str} {b : Bool} (hx : okS x) : SOK PySem.Challenge.rw_tc0025_01.prog w CH (KB hB) (kB hB) 0 (fdA w.params 84).scope (rc0 kvs x b) (bdA w.params 84) (.ret (.str x)) := by
  intro env S own A s Q E he O ho hok hK V lv rm Po
  have W := wdR B
  have F := ev_sound W 2
  refine wpAny_execs_cons (wpAny_If (wpAny_isTrue_Compare1 ?_ rfl))
  have hval : ∀ zp, ev GR 2 (fdA w.params 84).scope (rc0 kvs x b) (.Name (Str.ofString "value") zp) = some (.str x) := fun zp => ev_name (n := 1) (by kernel_rfl) (by kernel_rfl)
  have hev : ∀ vp, Mine.evAll (ev GR 2 (fdA w.params 84).scope (rc0 kvs x b)) [.Name (Str.ofString "value") vp] = some [.str x] := fun vp => by simp [Mine.evAll, hval]
  refine Call_ (glob_load W (sc := (fdA w.params 84).scope) (v := .type "type") (by kernel_rfl) (by kernel_rfl) he hK V (.inr ⟨mg_none_of B.k B.g (by kernel_rfl), by decide +kernel, by decide +kernel⟩) ?_)
  refine PySem.callWith_type (plain_args F (hev _)) (evalArgs_sound F W.ko (hev _) he hK V lv rm fun vs s₁ k₁ r₁ => ?_)
  obtain ⟨v, r, rfl, ⟨t, rfl⟩, rfl⟩ := r₁
  have K₁ : KB hB s₁.heap := (koB hB).keeps hK (KX k₁)
  refine call_type_of (Tx := "str") (typeIs_str _ _ _) (by decide +kernel) ?_
  refine glob_load W (sc := (fdA w.params 84).scope) (v := .type "str") (by kernel_rfl) (by kernel_rfl) he K₁ (V.keeps (KX k₁)) (.inr ⟨mg_none_of B.k B.g (by kernel_rfl), by decide +kernel, by decide +kernel⟩) ?_
  refine wpAny_is_self rfl ?_
  refine tru_sound (C := CH) (S := S) (d := .bool true) rfl rfl fun s₂ k₂ => ?_
  simp only [if_true]
  have K₂ : KB hB s₂.heap := (koB hB).keeps K₁ (KX k₂)
  have k12 := KT k₁ k₂
  -- regex
  refine wpAny_execs_cons (assign_sound W (n := 5) (d := pinD (if b then 57 else 62)) (by cases b <;> kernel_rfl) (by kernel_rfl) he O ho K₂ (V.keeps (KX k12)) (lv.keeps (KX k12)) rm fun h₃ tk₃ V₃ lv₃ b₃ => ?_)
  replace b₃ : But own s₂.heap h₃ := b₃
  have bb : But own s.heap h₃ := fun a o ha q => b₃ a o ha (KX k12 a o q)
  have K₃ : KB hB h₃ := W.ko.keep _ _ hK fun a o ka q => bb a o (fun m => hok a m ka) q
  obtain ⟨hh, tt, rfl, -⟩ := id k12
  refine conv_tail B (p := if b then 57 else 62) (sc := (fdA w.params 84).scope) (by cases b <;> simp) hx (by kernel_rfl) (by kernel_rfl) (by kernel_rfl) he K₃ V₃ lv₃ (rm.le (Nat.zero_le _)) fun v s₄ k₄ r₄ => ?_
  obtain ⟨h₄, tk₄, rfl, x₄⟩ := k₄
  replace x₄ : Ext0 h₃ h₄ := x₄
  exact Po v h₄ tk₄ r₄ (lv₃.keeps x₄) fun a o ha q => x₄ a o (bb a o ha q)

noncomputable def convF : Me
  | kvs, [.str x], some _ => if okSb x = true ∧ pinned kvs = false then some (.str x) else none
  | _, _, _ => none
theorem conv_C (B : Base w mg mb hB) : MeC w CH hB 1 (Str.ofString "_convert_string_type") convF where
  ok := fun kvs ds kw d h => by
    unfold convF at h
    split at h
    · rename_i x b
      split at h
      · rename_i hp
        cases h
        have F : FnAt (KB hB) 84 (fnObj (fdA w.params 84)) (fdA w.params 84) (bdA w.params 84) := fnAt B 84 (by kernel_rfl) (by kernel_rfl) (by kernel_rfl) (by kernel_rfl) (by kernel_rfl) (by kernel_rfl) (by kernel_rfl) (by kernel_rfl) (by kernel_rfl) (by kernel_rfl)
        refine ⟨84, _, _, F.dat, F.get, fun A s Q E S x dx l us pl hK T hQ => getM B (by kernel_rfl) (by kernel_rfl) (by kernel_rfl) (fun _ _ _ => by kernel_rfl) A s Q E S kvs x dx l us pl hK T hQ, fun A s S y dx l us vs Q E hK lv rm T r hQ => ?_⟩
        obtain ⟨v, r', rfl, rv, rfl⟩ := r
        have W := wdR B
        refine frame_sound (dp := 0) W.ko F (args := ⟨[.ref y, v], kwv (some b)⟩) (ps := [Str.ofString "self", Str.ofString "value", Str.ofString "name"]) (ds := [.dict kvs, .str x, .bool b]) (vs := [.ref y, v, .bool b]) (by kernel_rfl) rfl (by decide +kernel) (fun z hz => ?_) hK lv rm
          ⟨_, _, rfl, .inr ⟨y, dx, l, us, rfl, T⟩, v, _, rfl, rv, _, _, rfl, rfl, rfl⟩ fun env S' own s₁ k₁ e1 O oS ownf sS V lv' => ?_
        · simp only [List.mem_cons, List.not_mem_nil, or_false] at hz
          rcases hz with rfl | rfl | rfl <;> exact .inl (by kernel_rfl)
        · refine conv_SOK B (okSb_ok hp.1) env S' own _ s₁ _ _ e1 O oS (fun c hc ⟨o, ho⟩ => ?_) (W.ko.keeps hK (KX k₁)) V lv' (rm.deeper env) fun v h' tk rv lv'' bb => ?_
          · have := hK _ _ ho
            rw [ownf c hc] at this; cases this
          · obtain ⟨h₁, tk₁, rfl, x₁⟩ := k₁
            exact hQ v _ ⟨h', tk, rfl, fun c o e => bb c o (fun m => by rw [ownf c m] at e; cases e) (x₁ c o e)⟩ (rv.weak fun c hc => .inl (sS c hc))
      · cases h
    · cases h
end
end Mine

namespace Mine
noncomputable def enc (p : SP) : D × D := (.str p.1, .str p.2)
noncomputable def dec : List (D × D) → Option (List SP)
  | [] => some []
  | (.str a, .str b) :: r => (dec r).map ((a, b) :: ·)
  | _ :: _ => none
theorem dec_eq : ∀ {kvs : List (D × D)} {l : List SP}, dec kvs = some l → kvs = l.map enc
  | [], _, h => by cases h; rfl
  | (a, b) :: r, l, h => by
    unfold dec at h
    split at h
    · rename_i q; cases q
    · rename_i q; cases q
      cases hr : dec r with
      | none => rw [hr] at h; cases h
      | some l' => rw [hr] at h; cases h; rw [List.map_cons, ← dec_eq hr]; rfl
    · cases h
theorem dec_enc : ∀ (l : List SP), dec (l.map enc) = some l
  | [] => rfl
  | p :: r => by
    show (dec (r.map enc)).map _ = _
    rw [dec_enc r]; rfl
theorem pin_enc (l : List SP) : pinned (l.map enc) = false := by cases l <;> rfl

theorem ev_meth {G : Kn} {n : Nat} {sc : Scope} {ρ : Rho} {o : Expr} {m : Str} {ap cp : Pos} {args : List Expr} {x : Str} {ds : List D} {k : MK} {d : D} (hb : okBase o = true) (hl : (ap.endLine == cp.line) = true) (hn : decide (args.length < 20) = true) (ho : ev G n sc ρ o = some (.str x))
    (ha : Mine.evAll (ev G n sc ρ) args = some ds) (hm : mk m = some k) (h : callM k x ds = some d) : ev G (n + 1) sc ρ (.Call (.Attribute o m ap) args [] cp) = some d := by
  have hk0 : kwOf [] = some none := rfl
  (rw [ev_succ]; delta evStep evCall; dsimp only; simp only [hb, hl, hn, Bool.and_self, if_true, hk0, ho, ha, callD, hm, h])
theorem ev_me {G : Kn} {n : Nat} {sc : Scope} {ρ : Rho} {o : Expr} {m : Str} {ap cp : Pos} {args : List Expr} {kws : List Keyword} {kw : Option Bool} {kvs : List (D × D)} {ds : List D} {d : D} (hb : okBase o = true) (hl : (ap.endLine == cp.line) = true) (hn : decide (args.length < 20) = true) (ho : ev G n sc ρ o = some (.dict kvs))
    (ha : Mine.evAll (ev G n sc ρ) args = some ds) (hk : kwOf kws = some kw) (hp : pinned kvs = false) (h : G.me m kvs ds kw = some d) : ev G (n + 1) sc ρ (.Call (.Attribute o m ap) args kws cp) = some d := by
  (rw [ev_succ]; delta evStep evCall; dsimp only; simp only [hb, hl, hn, Bool.and_self, if_true, hk, ho, ha, callD, hp, h])
  rfl
theorem lowerM {x : Str} (h : x.length ≤ small) : callM .lower x [] = some (.str (Txt.lower x)) := by
  show (if (([] : List D).isEmpty && decide (x.length ≤ small)) = true then some (PyData.str (Txt.lower x)) else none) = _
  rw [if_pos (by rw [decide_eq_true h]; rfl)]
theorem upperM {x : Str} (h : x.length ≤ small) : callM .upper x [] = some (.str (Txt.upper x)) := by
  show (if (([] : List D).isEmpty && decide (x.length ≤ small)) = true then some (PyData.str (Txt.upper x)) else none) = _
  rw [if_pos (by rw [decide_eq_true h]; rfl)]
theorem evT_cmp {G : Kn} {n : Nat} {sc : Scope} {ρ : Rho} {l r : Expr} {op : CmpOp} {p : Pos} {a b : D} {c : Bool} (hs : isSetE r = false) (h1 : ev G n sc ρ l = some a) (h2 : ev G n sc ρ r = some b) (h : cmpD op a b = some c) : evT (ev G (n + 1) sc ρ) (.Compare l [op] [r] p) = some c := by
  show (match evStep G (ev G n) sc ρ (.Compare l [op] [r] p) with | some d => truD d | none => none) = _
  show (match (if isSetE r then none else match ev G n sc ρ l, ev G n sc ρ r with | some a, some b => (cmpD op a b).map PyData.bool | _, _ => none) with | some d => truD d | none => none) = _
  rw [hs, h1, h2]
  show (match (cmpD op a b).map PyData.bool with | some d => truD d | none => none) = _
  rw [h]; rfl
theorem evAll1 {f : Expr → Option D} {e : Expr} {d : D} (h : f e = some d) : Mine.evAll f [e] = some [d] := by simp [Mine.evAll, h]
theorem ev_hdr {G : Kn} {n : Nat} {sc : Scope} {ρ : Rho} {o : Expr} {p : Pos} {kvs : List (D × D)} (hb : okBase o = true) (ho : ev G n sc ρ o = some (.dict kvs)) (hl : kvs.length ≤ small) (hp : pinned kvs = false) :
    ev G (n + 1) sc ρ (.Attribute o (Str.ofString "_headers") p) = some (.list (kvs.map fun p => .tuple [p.1, p.2])) := by
  (rw [ev_succ]; delta evStep; dsimp only; simp only [hb, ho, decide_true, Bool.and_self, if_true, if_pos (And.intro hl hp)])
theorem src_plain {G : Kn} {n : Nat} {sc : Scope} {ρ : Rho} {e : Expr} {l : List D} (hs : srcCall (ev G n sc ρ) sc e = none) (h : ev G n sc ρ e = some (.list l)) (hl : l.length ≤ small) : evSrc (ev G n sc ρ) sc e = some (.plain l) := by
  unfold evSrc
  rw [hs, h]
  simp only [seqOf, if_pos hl]; rfl

noncomputable def lowEq (n : Str) (p : SP) : Bool := Txt.lower p.1 == n
noncomputable def getV (l : List SP) (n : Str) : D := match l.find? (lowEq n) with | some p => .str p.2 | none => .none
noncomputable def getF : Me
  | kvs, [.str n], none => match dec kvs with
    | some l => if n.length ≤ small ∧ okSb (Txt.lower n) = true ∧ l.length ≤ small ∧ l.all (fun p => decide (p.1.length ≤ small)) = true then some (getV l (Txt.lower n)) else none
    | none => none
  | _, _, _ => none

noncomputable abbrev GG : Kn := Gk [] [(Str.ofString "_convert_string_type", convF)] []
noncomputable abbrev rg0 (l : List SP) (n : Str) : Rho := rhoOf ([Str.ofString "self", Str.ofString "name", Str.ofString "default"].zip [.dict (l.map enc), .str n, .none])
noncomputable abbrev rg1 (l : List SP) (n n' : Str) : Rho := upd (rg0 l n) (Str.ofString "name") (.str n')
noncomputable abbrev kv2 (ρ : Rho) (p : SP) : Rho := upd (upd ρ (Str.ofString "k") (.str p.1)) (Str.ofString "v") (.str p.2)
theorem kv2_again (ρ : Rho) (p q : SP) : kv2 (kv2 ρ p) q = kv2 ρ q := by
  funext z; simp only [kv2, upd]
  split
  · rfl
  · split <;> rfl
noncomputable def gT (P : Params) : Expr := match bdA P 132 with | [_, .For t _ _ _ _, _] => t | _ => .Constant .none 0 ⟨0, 0, 0, 0⟩
noncomputable def gB (P : Params) : List Stmt := match bdA P 132 with | [_, .For _ _ b _ _, _] => b | _ => []
noncomputable def Cur (ρ cur : Rho) : Prop := cur = ρ ∨ ∃ p, cur = kv2 ρ p
theorem Cur.bind {P : Params} {ρ cur : Rho} (c : Cur ρ cur) (p : SP) : bindT (fdA P 132).scope cur (gT P) (pr p) = some (kv2 ρ p) := by
  have : bindT (fdA P 132).scope cur (gT P) (pr p) = some (kv2 cur p) := by kernel_rfl
  rw [this]
  rcases c with rfl | ⟨q, rfl⟩
  · rfl
  · rw [kv2_again]

theorem get_FN {P : Params} {l₀ : List SP} {n n' : Str} : ∀ {l : List SP} {cur : Rho}, (∀ p ∈ l, p.1.length ≤ small ∧ lowEq n' p = false) → Cur (rg1 l₀ n n') cur → ∃ cur', Cur (rg1 l₀ n n') cur' ∧ FN GG (fdA P 132).scope (gT P) (gB P) cur (l.map pr) cur'
  | [], cur, _, c => ⟨cur, c, .nil⟩
  | p :: l, cur, h, c => by
    obtain ⟨hl, he⟩ := h p (.head _)
    obtain ⟨cur', c', f⟩ := get_FN (l := l) (cur := kv2 (rg1 l₀ n n') p) (fun q hq => h q (.tail _ hq)) (.inr ⟨p, rfl⟩)
    refine ⟨cur', c', .cons (ρ₁ := kv2 (rg1 l₀ n n') p) (c.bind p) (.ifN (n := 6) (c := false) ?_ .nil .nil) f⟩
    rw [← he]
    exact evT_cmp (n := 5) (a := .str (Txt.lower p.1)) (b := .str n') (by rfl) (ev_meth (n := 4) (x := p.1) (ds := []) (k := .lower) (by rfl) (by rfl) (by rfl) (by kernel_rfl) (by rfl) (by kernel_rfl) (lowerM hl)) (by kernel_rfl) rfl

theorem run_get {P : Params} {l : List SP} {n : Str} (hn : n.length ≤ small) (hok : okSb (Txt.lower n) = true) (hl : l.length ≤ small) (hk : ∀ p ∈ l, p.1.length ≤ small) :
    Ex GG (fdA P 132).scope (rg0 l n) (bdA P 132) (.ret (getV l (Txt.lower n))) := by
  refine Ex.assign (n := 8) (d := .str (Txt.lower n)) ?_ (by kernel_rfl) ?_
  · refine ev_me (n := 7) (kw := some true) (kvs := l.map enc) (ds := [.str (Txt.lower n)]) (by rfl) (by rfl) (by rfl) (by kernel_rfl) (evAll1 ?_) (by kernel_rfl) (pin_enc l) ?_
    · exact ev_meth (n := 6) (x := n) (ds := []) (k := .lower) (by rfl) (by rfl) (by rfl) (by kernel_rfl) (by rfl) (by kernel_rfl) (lowerM hn)
    · show convF (l.map enc) [.str (Txt.lower n)] (some true) = _
      unfold convF
      simp only [hok, pin_enc, and_self, if_true]
  have hsrc : ∀ (o : Expr) (p : Pos), okBase o = true → ev GG 4 (fdA P 132).scope (rg1 l n (Txt.lower n)) o = some (.dict (l.map enc)) → evSrc (ev GG 5 (fdA P 132).scope (rg1 l n (Txt.lower n))) (fdA P 132).scope (.Attribute o (Str.ofString "_headers") p) = some (.plain (l.map pr)) := fun o p hb ho => by
    refine src_plain rfl ?_ (by rw [List.length_map]; exact hl)
    rw [ev_hdr (n := 4) hb ho (by rw [List.length_map]; exact hl) (pin_enc l), List.map_map]
    rfl
  cases hf : l.find? (lowEq (Txt.lower n)) with
  | none =>
    rw [show getV l (Txt.lower n) = .none by unfold getV; rw [hf]]
    have hno := List.find?_eq_none.mp hf
    obtain ⟨cur', c', f⟩ := get_FN (P := P) (l₀ := l) (n := n) (n' := Txt.lower n) (l := l) (cur := rg1 l n (Txt.lower n)) (fun p hp => ⟨hk p hp, by simpa using hno p hp⟩) (.inl rfl)
    refine Ex.forN (n := 5) (src := .plain (l.map pr)) (by rfl) (hsrc _ _ (by rfl) (by kernel_rfl)) (by rfl) f (Ex.ret (n := 3) ?_)
    rcases c' with rfl | ⟨q, rfl⟩ <;> kernel_rfl
  | some p =>
    rw [show getV l (Txt.lower n) = .str p.2 by unfold getV; rw [hf]]
    obtain ⟨hp, l₁, l₂, rfl, hbef⟩ := List.find?_eq_some_iff_append.mp hf
    obtain ⟨cur', c', f⟩ := get_FN (P := P) (l₀ := l₁ ++ p :: l₂) (n := n) (n' := Txt.lower n) (l := l₁) (cur := rg1 (l₁ ++ p :: l₂) n (Txt.lower n)) (fun q hq => ⟨hk q (List.mem_append.mpr (.inl hq)), by simpa using hbef q hq⟩) (.inl rfl)
    refine Ex.forD (n := 5) (src := .plain ((l₁ ++ p :: l₂).map pr)) (ds₁ := l₁.map pr) (d := pr p) (ds₂ := l₂.map pr) (by rfl) (hsrc _ _ (by rfl) (by kernel_rfl)) (by rfl) (by simp [Src.items]) f (ρ₂ := kv2 (rg1 (l₁ ++ p :: l₂) n (Txt.lower n)) p) (c'.bind p) ?_
    refine .ifR (n := 6) (c := true) ?_ (Ex.ret (n := 3) (by kernel_rfl))
    rw [← hp]
    exact evT_cmp (n := 5) (a := .str (Txt.lower p.1)) (b := .str (Txt.lower n)) (by rfl) (ev_meth (n := 4) (x := p.1) (ds := []) (k := .lower) (by rfl) (by rfl) (by rfl) (by kernel_rfl) (by rfl) (by kernel_rfl) (lowerM (hk p (List.mem_append.mpr (.inr (.head _)))))) (by kernel_rfl) rfl

section
variable {w : World} {mg mb : Str → Option Value} {hB : Heap}
theorem wdG (B : Base w mg mb hB) : Wd PySem.Challenge.rw_tc0025_01.prog w CH GG (KB hB) (kB hB) mg 1 :=
  wd_of B (by simp) (fun p hp => by rw [List.mem_singleton.mp hp]; exact conv_C B) (by simp) (hdC B)
theorem get_C (B : Base w mg mb hB) : MeC w CH hB 2 (Str.ofString "get") getF where
  ok := fun kvs ds kw d h => by
    unfold getF at h
    split at h
    · rename_i n
      split at h
      · rename_i l hd
        have hkv := dec_eq hd
        subst hkv
        split at h
        · rename_i hc
          cases h
          obtain ⟨hn, hok, hl, hk⟩ := hc
          have F : FnAt (KB hB) 132 (fnObj (fdA w.params 132)) (fdA w.params 132) (bdA w.params 132) := fnAt B 132 (by kernel_rfl) (by kernel_rfl) (by kernel_rfl) (by kernel_rfl) (by kernel_rfl) (by kernel_rfl) (by kernel_rfl) (by kernel_rfl) (by kernel_rfl) (by kernel_rfl)
          refine ⟨132, _, _, F.dat, F.get, fun A s Q E S x dx l us pl hK T hQ => getM B (by kernel_rfl) (by kernel_rfl) (by kernel_rfl) (fun _ _ _ => by kernel_rfl) A s Q E S _ x dx l us pl hK T hQ, fun A s S y dx l' us vs Q E hK lv rm T r hQ => ?_⟩
          obtain ⟨v, r', rfl, rv, rfl⟩ := r
          have W := wdG B
          refine frame_soundW (dp := 1) W.ko F (args := ⟨[.ref y, v], kwv none⟩) (ps := [Str.ofString "self", Str.ofString "name", Str.ofString "default"]) (ds := [.dict (l.map enc), .str n, .none]) (vs := [.ref y, v, .none]) (fun A' Q' E' q => ?_) rfl (by decide +kernel) (fun z hz => ?_) hK lv rm
            ⟨_, _, rfl, .inr ⟨y, dx, l', us, rfl, T⟩, v, _, rfl, rv, _, _, rfl, rfl, rfl⟩ fun env S' own s₁ k₁ e1 O oS ownf sS V lv' => ?_
          · exact BindsTo.of_defaults (T := 125) (o := { cls := .type "tuple", data := .seq (itA w.params 125) }) (items := itA w.params 125) (n := 0) (by kernel_rfl) (B.k.keeps hK _ _ (by kernel_rfl)) rfl (by rfl) (by kernel_rfl) _ _ _ _ q
          · simp only [List.mem_cons, List.not_mem_nil, or_false] at hz
            rcases hz with rfl | rfl | rfl <;> exact .inl (by kernel_rfl)
          · refine ex_sound W (run_get hn hok hl (fun p hp => by simpa using List.all_eq_true.mp hk p hp)) env S' own _ s₁ _ _ e1 O oS (fun c hc ⟨o, ho⟩ => ?_) (W.ko.keeps hK (KX k₁)) V lv' (rm.deeper env) fun v h' tk rv lv'' bb => ?_
            · have := hK _ _ ho
              rw [ownf c hc] at this; cases this
            · obtain ⟨h₁, tk₁, rfl, x₁⟩ := k₁
              exact hQ v _ ⟨h', tk, rfl, fun c o e => bb c o (fun m => by rw [ownf c m] at e; cases e) (x₁ c o e)⟩ (rv.weak fun c hc => .inl (sS c hc))
        · cases h
      · cases h
    · cases h
end
end Mine

namespace Mine
section
variable {w : World} {mg mb : Str → Option Value} {hB : Heap}
noncomputable def signF : List D → Option D
  | [.int (.ofNat k)] => if k < 65 then some (.str ⟨#[code k]⟩) else none
  | _ => none
theorem sign_C (B : Base w mg mb hB) : FnC w CH hB mg 1 (Str.ofString "_law_sign") signF := by
  refine fnC_of B (wd0 B (hdC B)) (a := 196) (fnAt B 196 (by kernel_rfl) (by kernel_rfl) (by kernel_rfl) (by kernel_rfl) (by kernel_rfl) (by kernel_rfl) (by kernel_rfl) (by kernel_rfl) (by kernel_rfl) (by kernel_rfl)) (mgA B (by kernel_rfl)) (ps := [Str.ofString "rank"]) (by kernel_rfl) (by kernel_rfl) ?_ ?_ ?_
  · intro vs hl
    match vs, hl with
    | [u], _ => kernel_rfl
  · intro ds d h
    unfold signF at h
    split at h
    · rfl
    · cases h
  · intro ds d h
    unfold signF at h
    split at h
    · rename_i k
      split at h
      · rename_i hk; cases h; exact run_sign k hk
      · cases h
    · cases h
noncomputable abbrev T5 := Nat × Nat × Nat × Nat × Nat
noncomputable def s5 (q : T5) : Str := ⟨#[q.1, q.2.1, q.2.2.1, q.2.2.2.1, q.2.2.2.2]⟩
noncomputable def five (w : Str) : Option T5 := match w.cps.toList with
  | [a, b, c, d, e] => some (a, b, c, d, e)
  | _ => none
theorem five_s5 {w : Str} {q : T5} (h : five w = some q) : w = s5 q := by
  unfold five at h
  split at h
  · rename_i a b c d e he
    cases h
    exact str_of_list he
  · cases h
noncomputable def zip5 (p q : T5) : List (Nat × Nat) := [(p.1, q.1), (p.2.1, q.2.1), (p.2.2.1, q.2.2.1), (p.2.2.2.1, q.2.2.2.1), (p.2.2.2.2, q.2.2.2.2)]
noncomputable def fallsN (a b c d e : Nat) : Nat := ([(a, b), (b, c), (c, d), (d, e)].filter fun p => decide (p.2 < p.1)).length
noncomputable def fallsF (ds : List D) : Option D := (oneS ds).bind fun t => (five t).map fun q => .int (fallsN q.1 q.2.1 q.2.2.1 q.2.2.2.1 q.2.2.2.2 : Nat)
theorem falls_C (B : Base w mg mb hB) : FnC w CH hB mg 2 (Str.ofString "_law_falls") fallsF := by
  refine fnC_of B (wdC B (hdC B)) (a := 222) (fnAt B 222 (by kernel_rfl) (by kernel_rfl) (by kernel_rfl) (by kernel_rfl) (by kernel_rfl) (by kernel_rfl) (by kernel_rfl) (by kernel_rfl) (by kernel_rfl) (by kernel_rfl)) (mgA B (by kernel_rfl)) (ps := [Str.ofString "text"]) (by kernel_rfl) (by kernel_rfl) ?_ ?_ ?_
  · intro vs hl
    match vs, hl with
    | [u], _ => kernel_rfl
  · intro ds d h
    unfold fallsF at h
    obtain ⟨t, ht, h⟩ := Option.bind_eq_some_iff.mp h
    rw [oneS_eq ht]; rfl
  · intro ds d h
    unfold fallsF at h
    obtain ⟨t, ht, h⟩ := Option.bind_eq_some_iff.mp h
    obtain ⟨⟨a, b, c, d, e⟩, hq, rfl⟩ := Option.map_eq_some_iff.mp h
    rw [oneS_eq ht, five_s5 hq]
    exact run_falls
noncomputable def firstF (ds : List D) : Option D := (twoS ds).bind fun p => (five p.1).bind fun a => (five p.2).map fun b => .int (firstU (zip5 a b))
theorem first_C (B : Base w mg mb hB) : FnC w CH hB mg 2 (Str.ofString "_law_first_unlike") firstF := by
  refine fnC_of B (wdC B (hdC B)) (a := 210) (fnAt B 210 (by kernel_rfl) (by kernel_rfl) (by kernel_rfl) (by kernel_rfl) (by kernel_rfl) (by kernel_rfl) (by kernel_rfl) (by kernel_rfl) (by kernel_rfl) (by kernel_rfl)) (mgA B (by kernel_rfl)) (ps := [Str.ofString "one", Str.ofString "other"]) (by kernel_rfl) (by kernel_rfl) ?_ ?_ ?_
  · intro vs hl
    match vs, hl with
    | [u, v], _ => kernel_rfl
  · intro ds d h
    unfold firstF at h
    obtain ⟨t, ht, h⟩ := Option.bind_eq_some_iff.mp h
    rw [twoS_eq ht]; rfl
  · intro ds d h
    unfold firstF at h
    obtain ⟨t, ht, h⟩ := Option.bind_eq_some_iff.mp h
    obtain ⟨⟨a, b, c, d, e⟩, hq, h⟩ := Option.bind_eq_some_iff.mp h
    obtain ⟨⟨a', b', c', d', e'⟩, hq', rfl⟩ := Option.map_eq_some_iff.mp h
    rw [twoS_eq ht, five_s5 hq, five_s5 hq']
    exact run_first
noncomputable def ellF (ds : List D) : Option D := (twoS ds).bind fun p => (five p.2).bind fun q =>
  if p.1 = wantS (p.1.cps.toList.getD 3 0) (p.1.cps.toList.getD 7 0) ∧ p.1.cps.toList.getD 3 0 ≠ 46 ∧ p.1.cps.toList.getD 7 0 ≠ 46 then some (.bool (ell (s5 q) (p.1.cps.toList.getD 3 0) (p.1.cps.toList.getD 7 0))) else none
theorem dots_glob (P : Params) : ∃ t, nsIn (KP P) mainGlobals (Str.ofString "ELLIPSIS_MARKER") = some (some (.str (Str.ofString "...") t)) := ⟨_, by rfl⟩
theorem wdE (B : Base w mg mb hB) : Wd PySem.Challenge.rw_tc0025_01.prog w CH GE (KB hB) (kB hB) mg 0 :=
  wd_of B (by simp) (by simp) (fun p hp => by
    rw [List.mem_singleton.mp hp]
    obtain ⟨t, e⟩ := dots_glob w.params
    exact ⟨_, mg_of B.k B.g e, fun h S => ⟨t, rfl⟩⟩) (hdC B)
theorem ell_C (B : Base w mg mb hB) : FnC w CH hB mg 1 (Str.ofString "_ellipsis_match") ellF := by
  refine fnC_of B (wdE B) (a := 52) (fnAt B 52 (by kernel_rfl) (by kernel_rfl) (by kernel_rfl) (by kernel_rfl) (by kernel_rfl) (by kernel_rfl) (by kernel_rfl) (by kernel_rfl) (by kernel_rfl) (by kernel_rfl)) (mgA B (by kernel_rfl)) (ps := [Str.ofString "want", Str.ofString "got"]) (by kernel_rfl) (by kernel_rfl) ?_ ?_ ?_
  · intro vs hl
    match vs, hl with
    | [u, v], _ => kernel_rfl
  · intro ds d h
    unfold ellF at h
    obtain ⟨t, ht, h⟩ := Option.bind_eq_some_iff.mp h
    rw [twoS_eq ht]; rfl
  · intro ds d h
    unfold ellF at h
    obtain ⟨t, ht, h⟩ := Option.bind_eq_some_iff.mp h
    obtain ⟨⟨a, b, c, d, e⟩, hq, h⟩ := Option.bind_eq_some_iff.mp h
    generalize t.1.cps.toList.getD 3 0 = x at h
    generalize t.1.cps.toList.getD 7 0 = y at h
    by_cases hc : t.1 = wantS x y ∧ x ≠ 46 ∧ y ≠ 46
    · rw [if_pos hc] at h
      cases h
      rw [twoS_eq ht, five_s5 hq, hc.1]
      exact run_ell hc.2.1 hc.2.2
    · rw [if_neg hc] at h; cases h
end
end Mine

namespace Mine
open Builtin.Str (occurrences)
theorem ev_fn {G : Kn} {n : Nat} {sc : Scope} {ρ : Rho} {g : Str} {gp cp : Pos} {args : List Expr} {ds : List D} {d : D} (hg : isGlob sc g = true) (hn : decide (0 < args.length ∧ args.length < 20) = true) (hd : decide (g ≠ Str.ofString "__debug__") = true) (hb : bk g = none)
    (ha : Mine.evAll (ev G n sc ρ) args = some ds) (h : G.fn g ds = some d) : ev G (n + 1) sc ρ (.Call (.Name g gp) args [] cp) = some d := by
  (rw [ev_succ]; delta evStep evCall; dsimp only; simp only [hg, hn, hd, Bool.and_self, ha, hb, h])
  rfl
theorem ev_bf {G : Kn} {n : Nat} {sc : Scope} {ρ : Rho} {g : Str} {gp cp : Pos} {args : List Expr} {ds : List D} {d : D} {k : BK} (hg : isGlob sc g = true) (hn : decide (0 < args.length ∧ args.length < 20) = true) (hd : decide (g ≠ Str.ofString "__debug__") = true) (hb : bk g = some k)
    (ha : Mine.evAll (ev G n sc ρ) args = some ds) (h : callB k ds = some d) : ev G (n + 1) sc ρ (.Call (.Name g gp) args [] cp) = some d := by
  (rw [ev_succ]; delta evStep evCall; dsimp only; simp only [hg, hn, hd, Bool.and_self, ha, hb, h])
  rfl
theorem evAll2 {f : Expr → Option D} {e e' : Expr} {d d' : D} (h : f e = some d) (h' : f e' = some d') : Mine.evAll f [e, e'] = some [d, d'] := by simp [Mine.evAll, h, h']
theorem evT_call {G : Kn} {n : Nat} {sc : Scope} {ρ : Rho} {f : Expr} {args : List Expr} {kws : List Keyword} {p : Pos} {b : Bool} (h : ev G n sc ρ (.Call f args kws p) = some (.bool b)) : evT (ev G n sc ρ) (.Call f args kws p) = some b := by
  show (match ev G n sc ρ (.Call f args kws p) with | some d => truD d | none => none) = _
  rw [h]; rfl
theorem evT_name {G : Kn} {n : Nat} {sc : Scope} {ρ : Rho} {x : Str} {p : Pos} {b : Bool} (h : ev G n sc ρ (.Name x p) = some (.bool b)) : evT (ev G n sc ρ) (.Name x p) = some b := by
  show (match ev G n sc ρ (.Name x p) with | some d => truD d | none => none) = _
  rw [h]; rfl
theorem ev_ife {G : Kn} {n : Nat} {sc : Scope} {ρ : Rho} {t a b : Expr} {p : Pos} {c : Bool} {d : D} (h : evT (ev G n sc ρ) t = some c) (hd : ev G n sc ρ (if c then a else b) = some d) : ev G (n + 1) sc ρ (.IfExp t a b p) = some d := by
  cases c <;> (rw [ev_succ]; delta evStep; dsimp only; simp only [h]) <;> exact hd
theorem ev_cmp {G : Kn} {n : Nat} {sc : Scope} {ρ : Rho} {l r : Expr} {op : CmpOp} {p : Pos} {a b : D} {c : Bool} (hs : isSetE r = false) (h1 : ev G n sc ρ l = some a) (h2 : ev G n sc ρ r = some b) (h : cmpD op a b = some c) : ev G (n + 1) sc ρ (.Compare l [op] [r] p) = some (.bool c) := by
  (rw [ev_succ]; delta evStep; dsimp only; simp only [hs, h1, h2, h])
  rfl
theorem ev_bin {G : Kn} {n : Nat} {sc : Scope} {ρ : Rho} {l r : Expr} {op : Operator} {p : Pos} {a b d : D} (h1 : ev G n sc ρ l = some a) (h2 : ev G n sc ρ r = some b) (h : binD op a b = some d) : ev G (n + 1) sc ρ (.BinOp l op r p) = some d := by
  (rw [ev_succ]; delta evStep; dsimp only; simp only [h1, h2, h])
theorem half : ∀ n, n < 101 → binD .FloorDiv (.int (n : Nat)) (.int 2) = some (.int ((n / 2 : Nat) : Int)) := by
  refine upto_get ?_
  repeat (first | exact trivial | refine ⟨by kernel_rfl, ?_⟩)

noncomputable abbrev GO : Kn := Gk [(Str.ofString "_ellipsis_match", ellF)] [] []
noncomputable abbrev ro0 (word movers : Str) (texts : List T5) : Rho := rhoOf ([Str.ofString "word", Str.ofString "movers", Str.ofString "texts"].zip [.str word, .str movers, .list (texts.map fun q => .str (s5 q))])
noncomputable def told (texts : List T5) (x y : Nat) : List T5 := texts.filter fun q => ell (s5 q) x y
noncomputable def hasC (movers : Str) (c : Nat) : Bool := !(occurrences movers ⟨#[c]⟩ 0 movers.length 1).isEmpty
/-- what the inner body asks of a pair -/
noncomputable def pairOk (movers : Str) (texts : List T5) (x y m : Nat) : Bool := (told texts x y).length == if hasC movers m then texts.length / 2 else texts.length

noncomputable def oIn (P : Params) : List Stmt := match bdA P 232 with | [.For _ _ [.For _ _ b _ _] _ _, _] => b | _ => []
noncomputable abbrev ro2 (ρ : Rho) (late soon : Nat) : Rho := upd (upd ρ (Str.ofString "late") (.int late)) (Str.ofString "soon") (.int soon)
noncomputable abbrev ro5 (ρ : Rho) (want : Str) (tl : List T5) (h : Bool) : Rho := upd (upd (upd ρ (Str.ofString "want") (.str want)) (Str.ofString "told") (.list (tl.map fun q => .str (s5 q)))) (Str.ofString "hops") (.bool h)

theorem pair_body {P : Params} {word movers : Str} {texts : List T5} {ρ : Rho} {x y m : Nat} (hx : x ≠ 46) (hy : y ≠ 46) (ht : texts.length ≤ 100) (hmv : movers.length ≤ small)
    (rT : ρ (Str.ofString "texts") = some (.list (texts.map fun q => .str (s5 q)))) (rM : ρ (Str.ofString "movers") = some (.str movers))
    (hwant : ∀ p, ev GO 9 (fdA P 232).scope ρ (match oIn P with | [.Assign _ e _, _, _, _] => e | _ => .Constant .none 0 p) = some (.str (wantS x y)))
    (hmin : ∀ p, ev GO 8 (fdA P 232).scope (upd (upd ρ (Str.ofString "want") (.str (wantS x y))) (Str.ofString "told") (.list ((told texts x y).map fun q => .str (s5 q)))) (match oIn P with | [_, _, .Assign _ (.Compare e _ _ _) _, _] => e | _ => .Constant .none 0 p) = some (.str ⟨#[m]⟩))
    (hok : pairOk movers texts x y m = true) : Ex GO (fdA P 232).scope ρ (oIn P) (.next (ro5 ρ (wantS x y) (told texts x y) (hasC movers m))) := by
  refine Ex.assign (n := 9) (d := .str (wantS x y)) (hwant ⟨0, 0, 0, 0⟩) (by kernel_rfl) ?_
  refine Ex.assign (n := 9) (d := .list ((told texts x y).map fun q => .str (s5 q))) ?_ (by kernel_rfl) ?_
  · have e2 := small_is
    refine ev_comp (n := 8) (src := .plain (texts.map fun q => .str (s5 q))) (by kernel_rfl) (by kernel_rfl) (by rfl) (src_plain (by rfl) (ev_name (n := 7) (by kernel_rfl) (Eq.trans (by kernel_rfl) rT)) (by rw [List.length_map]; omega)) (by rfl) (by simp only [Src.items, List.length_map]; omega) ?_
    refine turns_if (p := fun q => ell (s5 q) x y) fun q _ => ?_
    refine turn_if (by kernel_rfl) (evT_call (ev_fn (n := 7) (ds := [.str (wantS x y), .str (s5 q)]) (by kernel_rfl) (by kernel_rfl) (by kernel_rfl) (by kernel_rfl) (evAll2 (ev_name (n := 6) (by kernel_rfl) (by kernel_rfl)) (ev_name (n := 6) (by kernel_rfl) (by kernel_rfl))) ?_)) fun _ => by kernel_rfl
    exact Eq.trans (b := if wantS x y = wantS x y ∧ x ≠ 46 ∧ y ≠ 46 then some (PyData.bool (ell (s5 q) x y)) else none) (by kernel_rfl) (if_pos ⟨rfl, hx, hy⟩)
  refine Ex.assign (n := 9) (d := .bool (hasC movers m)) ?_ (by kernel_rfl) ?_
  · exact ev_cmp (n := 8) (a := .str ⟨#[m]⟩) (b := .str movers) (by rfl) (hmin ⟨0, 0, 0, 0⟩) (ev_name (n := 7) (by kernel_rfl) (Eq.trans (by kernel_rfl) rM)) (by kernel_rfl)
  refine Ex.ifN (n := 9) (c := false) ?_ .nil .nil
  have e2 := small_is
  have htl : (told texts x y).length ≤ texts.length := List.length_filter_le _ _
  have heq : (told texts x y).length = if hasC movers m then texts.length / 2 else texts.length := by simpa [pairOk] using hok
  refine evT_cmp (n := 8) (a := .int ((told texts x y).length : Nat)) (b := .int ((if hasC movers m then texts.length / 2 else texts.length : Nat) : Int)) (by rfl) ?_ (ev_ife (n := 7) (c := hasC movers m) (evT_name (ev_name (n := 6) (by kernel_rfl) (by kernel_rfl))) ?_) ?_
  · refine (ev_len (n := 7) (l := (told texts x y).map fun q => .str (s5 q)) (by kernel_rfl) (ev_name (n := 6) (by kernel_rfl) (by kernel_rfl)) (by rw [List.length_map]; omega)).trans (by rw [List.length_map])
  · have hl : (texts.map fun q => PyData.str (s5 q)).length ≤ small := by rw [List.length_map]; omega
    cases hasC movers m with
    | false =>
      rw [if_neg (by decide), if_neg (by decide)]
      exact (ev_len (n := 6) (l := texts.map fun q => .str (s5 q)) (by kernel_rfl) (ev_name (n := 5) (by kernel_rfl) (Eq.trans (by kernel_rfl) rT)) hl).trans (by rw [List.length_map])
    | true =>
      rw [if_pos rfl, if_pos rfl]
      exact ev_bin (n := 6) ((ev_len (n := 5) (l := texts.map fun q => .str (s5 q)) (by kernel_rfl) (ev_name (n := 4) (by kernel_rfl) (Eq.trans (by kernel_rfl) rT)) hl).trans (by rw [List.length_map])) (by kernel_rfl) (half _ (by omega))
  · rw [heq]
    show some ((_ : Int) != _) = some false
    simp
end Mine

set_option genInjectivity false
set_option genSizeOf false
set_option genSizeOfSpec false
namespace Mine
open Builtin.Str (occurrences)
theorem ev_ix {G : Kn} {n : Nat} {sc : Scope} {ρ : Rho} {v : Expr} {x : Str} {xp p : Pos} {d i r : D} (hx : decide (x = Str.ofString "__debug__") = false) (h1 : ev G (n + 1) sc ρ v = some d) (h2 : ρ x = some i) (h : ixD d i = some r) : ev G (n + 2) sc ρ (.Subscript v (.Name x xp) p) = some r := by
  have h2' := ev_name (G := G) (n := n) (sc := sc) (p := xp) hx h2
  show (match ev G (n + 1) sc ρ v with | some d => evSub (ev G (n + 1) sc ρ) d (.Name x xp) | none => none) = _
  rw [h1]
  show (match ev G (n + 1) sc ρ (.Name x xp) with | some d' => ixD d d' | none => none) = _
  rw [h2']; exact h
theorem ev_sl {G : Kn} {n : Nat} {sc : Scope} {ρ : Rho} {v lo hi : Expr} {sp p : Pos} {d r : D} {i j : Int} (h1 : ev G n sc ρ v = some d) (h2 : ev G n sc ρ lo = some (.int i)) (h3 : ev G n sc ρ hi = some (.int j)) (h : slD d (some i) (some j) = some r) :
    ev G (n + 1) sc ρ (.Subscript v (.Slice (some lo) (some hi) none sp) p) = some r := by
  (rw [ev_succ]; delta evStep evSub; dsimp only; simp only [h1, evOptI, h2, h3, h])
structure OInv (word movers : Str) (texts : List T5) (ρ : Rho) : Prop where
  w : ρ (Str.ofString "word") = some (.str word)
  m : ρ (Str.ofString "movers") = some (.str movers)
  t : ρ (Str.ofString "texts") = some (.list (texts.map fun q => .str (s5 q)))
theorem OInv.set {word movers : Str} {texts : List T5} {ρ : Rho} (o : OInv word movers texts ρ) {x : Str} {d : D} (h1 : decide (Str.ofString "word" = x) = false) (h2 : decide (Str.ofString "movers" = x) = false) (h3 : decide (Str.ofString "texts" = x) = false) : OInv word movers texts (upd ρ x d) := by
  have n1 := of_decide_eq_false h1
  have n2 := of_decide_eq_false h2
  have n3 := of_decide_eq_false h3
  exact ⟨by unfold upd; rw [if_neg n1]; exact o.w, by unfold upd; rw [if_neg n2]; exact o.m, by unfold upd; rw [if_neg n3]; exact o.t⟩

noncomputable def at5 (a b c d e : Nat) (i : Nat) : Nat := [a, b, c, d, e].getD i 0
noncomputable def PairsOk (a b c d e : Nat) (movers : Str) (texts : List T5) : Prop := ∀ s t : Nat, s < t → t < 5 → ∃ m, minS (Txt.slice ⟨#[a, b, c, d, e]⟩ (some (s : Int)) (some ((t : Int) + 1))) = some m ∧ pairOk movers texts (at5 a b c d e s) (at5 a b c d e t) m = true

theorem inner_step {P : Params} {a b c d e : Nat} {movers : Str} {texts : List T5} {ρ : Rho} {s t : Nat} (h46 : ∀ i, i < 5 → at5 a b c d e i ≠ 46) (ht : texts.length ≤ 100) (hmv : movers.length ≤ small) (hok : PairsOk a b c d e movers texts) (hst : s < t) (ht5 : t < 5)
    (o : OInv ⟨#[a, b, c, d, e]⟩ movers texts ρ) (hl : ρ (Str.ofString "late") = some (.int (t : Nat))) (hs : ρ (Str.ofString "soon") = some (.int (s : Nat))) :
    ∃ m, Ex GO (fdA P 232).scope ρ (oIn P) (.next (ro5 ρ (wantS (at5 a b c d e s) (at5 a b c d e t)) (told texts (at5 a b c d e s) (at5 a b c d e t)) (hasC movers m))) := by
  obtain ⟨m, hm, hp⟩ := hok s t hst ht5
  refine ⟨m, pair_body (word := ⟨#[a, b, c, d, e]⟩) (h46 s (by omega)) (h46 t ht5) ht hmv o.t o.m (fun p => ?_) (fun p => ?_) hp⟩
  · have is : ixD (.str ⟨#[a, b, c, d, e]⟩) (.int (s : Nat)) = some (.str ⟨#[at5 a b c d e s]⟩) := by
      rcases (show s = 0 ∨ s = 1 ∨ s = 2 ∨ s = 3 by omega) with rfl | rfl | rfl | rfl <;> kernel_rfl
    have it : ixD (.str ⟨#[a, b, c, d, e]⟩) (.int (t : Nat)) = some (.str ⟨#[at5 a b c d e t]⟩) := by
      rcases (show t = 1 ∨ t = 2 ∨ t = 3 ∨ t = 4 by omega) with rfl | rfl | rfl | rfl <;> kernel_rfl
    exact ev_adds (n := 8) (ev_adds (n := 7) (ev_adds (n := 6) (ev_adds (n := 5) (a := dots) (b := ⟨#[at5 a b c d e s]⟩) (by kernel_rfl) (ev_ix (n := 3) (by kernel_rfl) (ev_name (n := 3) (by kernel_rfl) o.w) hs is) (by show 4 ≤ 1000; decide)) (b := dots) (by kernel_rfl) (by show 7 ≤ 1000; decide))
      (b := ⟨#[at5 a b c d e t]⟩) (ev_ix (n := 5) (by kernel_rfl) (ev_name (n := 5) (by kernel_rfl) o.w) hl it) (by show 8 ≤ 1000; decide)) (b := dots) (by kernel_rfl) (by show 11 ≤ 1000; decide)
  · have w' : ∀ {D₁ D₂ : D}, upd (upd ρ (Str.ofString "want") D₁) (Str.ofString "told") D₂ (Str.ofString "word") = some (.str ⟨#[a, b, c, d, e]⟩) := fun {D₁ D₂} => Eq.trans (by kernel_rfl) o.w
    have l' : ∀ {D₁ D₂ : D}, upd (upd ρ (Str.ofString "want") D₁) (Str.ofString "told") D₂ (Str.ofString "late") = some (.int (t : Nat)) := fun {D₁ D₂} => Eq.trans (by kernel_rfl) hl
    have s' : ∀ {D₁ D₂ : D}, upd (upd ρ (Str.ofString "want") D₁) (Str.ofString "told") D₂ (Str.ofString "soon") = some (.int (s : Nat)) := fun {D₁ D₂} => Eq.trans (by kernel_rfl) hs
    refine ev_bf (n := 7) (k := .min) (ds := [.str (Txt.slice ⟨#[a, b, c, d, e]⟩ (some (s : Int)) (some ((t : Int) + 1)))]) (by kernel_rfl) (by kernel_rfl) (by kernel_rfl) (by kernel_rfl)
      (evAll1 (ev_sl (n := 6) (d := .str ⟨#[a, b, c, d, e]⟩) (i := (s : Nat)) (j := (t : Int) + 1) (ev_name (n := 5) (by kernel_rfl) w') (ev_name (n := 5) (by kernel_rfl) s') (ev_bin (n := 5) (a := .int (t : Nat)) (b := .int 1) (ev_name (n := 4) (by kernel_rfl) l') (by kernel_rfl) (by kernel_rfl)) (by kernel_rfl))) ?_
    show (if Str.length _ ≤ small then (minS (Txt.slice ⟨#[a, b, c, d, e]⟩ (some (s : Int)) (some ((t : Int) + 1)))).map (fun c => PyData.str ⟨#[c]⟩) else none) = _
    have := Txt.slice_le ⟨#[a, b, c, d, e]⟩ (some (s : Int)) (some ((t : Int) + 1))
    have e2 := small_is
    have e3 : Str.length ⟨#[a, b, c, d, e]⟩ = 5 := rfl
    rw [if_pos (by omega), hm]; rfl

noncomputable def oTs (P : Params) : Expr := match bdA P 232 with | [.For _ _ [.For t _ _ _ _] _ _, _] => t | _ => .Constant .none 0 ⟨0, 0, 0, 0⟩
noncomputable def oTl (P : Params) : Expr := match bdA P 232 with | [.For t _ _ _ _, _] => t | _ => .Constant .none 0 ⟨0, 0, 0, 0⟩
noncomputable def oOut (P : Params) : List Stmt := match bdA P 232 with | [.For _ _ b _ _, _] => b | _ => []

theorem inner_FN {P : Params} {a b c d e : Nat} {movers : Str} {texts : List T5} (h46 : ∀ i, i < 5 → at5 a b c d e i ≠ 46) (ht : texts.length ≤ 100) (hmv : movers.length ≤ small) (hok : PairsOk a b c d e movers texts) {t : Nat} (ht5 : t < 5) :
    ∀ {l : List Nat} {ρ : Rho}, (∀ s ∈ l, s < t) → OInv ⟨#[a, b, c, d, e]⟩ movers texts ρ → ρ (Str.ofString "late") = some (.int (t : Nat)) → ∃ ρ', FN GO (fdA P 232).scope (oTs P) (oIn P) ρ (l.map fun (i : Nat) => PyData.int (i : Int)) ρ' ∧ OInv ⟨#[a, b, c, d, e]⟩ movers texts ρ'
  | [], ρ, _, o, _ => ⟨ρ, .nil, o⟩
  | s :: l, ρ, hs, o, hl => by
    have o1 := o.set (x := Str.ofString "soon") (d := .int (s : Nat)) (by kernel_rfl) (by kernel_rfl) (by kernel_rfl)
    obtain ⟨m, hx⟩ := inner_step (P := P) (ρ := upd ρ (Str.ofString "soon") (.int (s : Nat))) h46 ht hmv hok (hs s (.head _)) ht5 o1 (Eq.trans (by kernel_rfl) hl) (by kernel_rfl)
    obtain ⟨ρ', f, o'⟩ := inner_FN (l := l) h46 ht hmv hok ht5 (fun s' h' => hs s' (.tail _ h')) (((o1.set (x := Str.ofString "want") (by kernel_rfl) (by kernel_rfl) (by kernel_rfl)).set (x := Str.ofString "told") (by kernel_rfl) (by kernel_rfl) (by kernel_rfl)).set (x := Str.ofString "hops") (by kernel_rfl) (by kernel_rfl) (by kernel_rfl)) (Eq.trans (by kernel_rfl) hl)
    exact ⟨ρ', .cons (by kernel_rfl) hx f, o'⟩
theorem outer_FN {P : Params} {a b c d e : Nat} {movers : Str} {texts : List T5} (h46 : ∀ i, i < 5 → at5 a b c d e i ≠ 46) (ht : texts.length ≤ 100) (hmv : movers.length ≤ small) (hok : PairsOk a b c d e movers texts) :
    ∀ {l : List Nat} {ρ : Rho}, (∀ t ∈ l, t < 5) → OInv ⟨#[a, b, c, d, e]⟩ movers texts ρ → ∃ ρ', FN GO (fdA P 232).scope (oTl P) (oOut P) ρ (l.map fun (i : Nat) => PyData.int (i : Int)) ρ' ∧ OInv ⟨#[a, b, c, d, e]⟩ movers texts ρ'
  | [], ρ, _, o => ⟨ρ, .nil, o⟩
  | t :: l, ρ, hs, o => by
    have ht5 := hs t (.head _)
    have o1 := o.set (x := Str.ofString "late") (d := .int (t : Nat)) (by kernel_rfl) (by kernel_rfl) (by kernel_rfl)
    obtain ⟨ρ₁, f₁, o₁⟩ := inner_FN (P := P) (l := List.range t) (ρ := upd ρ (Str.ofString "late") (.int (t : Nat))) h46 ht hmv hok ht5 (fun s h => List.mem_range.mp h) o1 (by kernel_rfl)
    obtain ⟨ρ', f, o'⟩ := outer_FN (l := l) h46 ht hmv hok (fun s' h' => hs s' (.tail _ h')) o₁
    refine ⟨ρ', .cons (ρ₁ := upd ρ (Str.ofString "late") (.int (t : Nat))) (by kernel_rfl) (Ex.forN (n := 4) (src := .plain ((List.range t).map fun (i : Nat) => PyData.int (i : Int))) (by rfl) ?_ (by rfl) f₁ .nil) f, o'⟩
    rcases (show t = 0 ∨ t = 1 ∨ t = 2 ∨ t = 3 ∨ t = 4 by omega) with rfl | rfl | rfl | rfl | rfl <;> kernel_rfl
theorem run_orders {P : Params} {a b c d e : Nat} {movers : Str} {texts : List T5} (h46 : ∀ i, i < 5 → at5 a b c d e i ≠ 46) (ht : texts.length ≤ 100) (hmv : movers.length ≤ small) (hok : PairsOk a b c d e movers texts) :
    Ex GO (fdA P 232).scope (ro0 ⟨#[a, b, c, d, e]⟩ movers texts) (bdA P 232) (.ret (.bool true)) := by
  obtain ⟨ρ', f, o'⟩ := outer_FN (P := P) (l := List.range 5) (ρ := ro0 ⟨#[a, b, c, d, e]⟩ movers texts) h46 ht hmv hok (fun s h => List.mem_range.mp h) ⟨by kernel_rfl, by kernel_rfl, by kernel_rfl⟩
  exact Ex.forN (n := 5) (src := .plain ((List.range 5).map fun (i : Nat) => PyData.int (i : Int))) (by rfl) (by kernel_rfl) (by rfl) f (Ex.ret (n := 3) (by kernel_rfl))
end Mine

namespace Mine
noncomputable def decT : List D → Option (List T5)
  | [] => some []
  | .str x :: r => match x.cps.toList, decT r with
    | [a, b, c, d, e], some l => some ((a, b, c, d, e) :: l)
    | _, _ => none
  | _ :: _ => none
theorem decT_eq : ∀ {ts : List D} {l : List T5}, decT ts = some l → ts = l.map fun q => .str (s5 q)
  | [], _, h => by cases h; rfl
  | t :: r, l, h => by
    unfold decT at h
    split at h
    · rename_i q; cases q
    · rename_i q
      cases q
      split at h
      · rename_i hx hr
        cases h
        rw [List.map_cons, ← decT_eq hr, str_of_list hx]
        rfl
      · cases h
    · cases h
noncomputable def pairsB (a b c d e : Nat) (movers : Str) (texts : List T5) : Bool :=
  (List.range 5).all fun t => (List.range t).all fun s => match minS (Txt.slice ⟨#[a, b, c, d, e]⟩ (some (s : Int)) (some ((t : Int) + 1))) with
    | some m => pairOk movers texts (at5 a b c d e s) (at5 a b c d e t) m
    | none => false
theorem pairsB_ok {a b c d e : Nat} {movers : Str} {texts : List T5} (h : pairsB a b c d e movers texts = true) : PairsOk a b c d e movers texts := fun s t hst ht => by
  have h1 := List.all_eq_true.mp h t (List.mem_range.mpr ht)
  have h2 := List.all_eq_true.mp h1 s (List.mem_range.mpr hst)
  split at h2
  · rename_i m hm; exact ⟨m, hm, h2⟩
  · cases h2
noncomputable def ordersF : List D → Option D
  | [.str w, .str mv, .list ts] => match w.cps.toList, decT ts with
    | [a, b, c, d, e], some texts => if ((List.range 5).all fun i => decide (at5 a b c d e i ≠ 46)) = true ∧ texts.length ≤ 100 ∧ mv.length ≤ small ∧ pairsB a b c d e mv texts = true then some (.bool true) else none
    | _, _ => none
  | _ => none
section
variable {w : World} {mg mb : Str → Option Value} {hB : Heap}
theorem orders_C (B : Base w mg mb hB) : FnC w CH hB mg 2 (Str.ofString "_law_orders") ordersF := by
  refine fnC_of B (G := GO) (wd_of B (fun p hp => by rw [List.mem_singleton.mp hp]; exact ell_C B) (by simp) (by simp) (hdC B)) (a := 232)
    (fnAt B 232 (by kernel_rfl) (by kernel_rfl) (by kernel_rfl) (by kernel_rfl) (by kernel_rfl) (by kernel_rfl) (by kernel_rfl) (by kernel_rfl) (by kernel_rfl) (by kernel_rfl)) (mgA B (by kernel_rfl)) (ps := [Str.ofString "word", Str.ofString "movers", Str.ofString "texts"]) (by kernel_rfl) (by kernel_rfl) ?_ ?_ ?_
  · intro vs hl
    match vs, hl with
    | [u, v, x], _ => kernel_rfl
  · intro ds d h
    unfold ordersF at h
    split at h
    · rfl
    · cases h
  · intro ds d h
    unfold ordersF at h
    split at h
    · split at h
      · rename_i hl hd
        split at h
        · rename_i hc
          cases h
          rw [str_of_list hl, decT_eq hd]
          exact run_orders (fun i hi => by simpa using List.all_eq_true.mp hc.1 i (List.mem_range.mpr hi)) hc.2.1 hc.2.2.1 (pairsB_ok hc.2.2.2)
        · cases h
      · cases h
    · cases h
end
end Mine

namespace Mine
section
variable {prog : Program} {w : World} {A : Around} {E : Value → Shared → Prop} {s : Shared} {C : Addr} {S : List Addr} {KK : Heap → Prop} {kA : Addr → Prop} {dp : Nat}
/-- a call of a known function: the frame -/
theorem frame_code {a : Addr} {o : Obj} {fd : FuncData} {body : List Stmt} (KO : KOK KK kA) (F : FnAt KK a o fd body) {args : Args} {ps : List Str} {ds : List D} {vs : List Value} {R : Result → Shared → Prop} (hbind : ∀ (A : Around) (Q : List (Str × Value) → Shared → Prop) (E : Value → Shared → Prop), Q (ps.zip vs) s → wpAny (model prog w) A (bindArgs fd args) Q E s)
    (hlen : ps.length = vs.length) (hps : ps.Nodup) (hpk : ∀ x ∈ ps, fd.scope.names.lookup x = some .local ∨ fd.scope.names.lookup x = some .cell) (hK : KK s.heap) (lv : Live S s.heap) (rm : Rm (dp + 1) A) (r : Reps C s.heap S ds vs)
    (h : ∀ env S' own s₁, S' = own ++ S → PySem.Keeps s s₁ → env.locals = s.heap.objs.size → env.scope = fd.scope → Own fd.scope own env → (∀ a ∈ own, a ∈ S') → (∀ a ∈ own, s.heap.get? a = none) → (∀ a ∈ S, a ∈ S') → Vw C s₁.heap S' env (rhoOf (ps.zip ds)) → Live S' s₁.heap →
      wpAny (model prog w) (A.deeper env) (execs body env) (fun f s' => R (.ok (.ret (match f with | .ret v => v | _ => .none))) s') (fun e s' => wpAny (model prog w) (A.deeper env) (leaving env e) (fun _ s'' => R (.error e) s'') (fun e' s'' => R (.error e') s'') s') s₁) :
    codeAny (model prog w) A (.call (.ref a) args) R s := by
  have hmap : ∀ (ps : List Str) (vs : List Value), ps.length = vs.length → (ps.zip vs).map (·.1) = ps := fun ps => by
    induction ps with
    | nil => intro vs _; rfl
    | cons p ps ih =>
      intro vs hl
      cases vs with
      | nil => simp at hl
      | cons v vs => simp only [List.zip_cons_cons, List.map_cons]; rw [ih vs (by simpa using hl)]
  have mem : ∀ x ∈ ps.zip vs, x.1 ∈ ps := fun x hx => by
    have h1 : x.1 ∈ (ps.zip vs).map (·.1) := List.mem_map.mpr ⟨x, hx, rfl⟩
    rw [hmap ps vs hlen] at h1
    exact h1
  refine codeAny_call_cellsA (args := args) (by have := rm.depth; omega) (F.get _ hK) F.dat (F.lim _ hK) (F.cod _ hK) F.bod hbind F.clo (fun x hx => ?_) F.cor F.gen F.knd fun s₁ x => ?_
  · rcases hpk x.1 (mem x hx) with hk | hk
    · exact .inl hk
    · refine .inr ⟨hk, ?_⟩
      obtain ⟨c, hc⟩ := cellsFrom_has fd.scope.names (s.heap.objs.size + 1) (mem_of_lookup hk)
      rw [hc]; rfl
  · generalize henv : callEnvC fd s.heap.objs.size a = env at x ⊢
    have e1 : env.scope = fd.scope := by rw [← henv]; rfl
    have e2 : env.locals = s.heap.objs.size := by rw [← henv]; rfl
    have e3 : env.cells = cellsFrom (s.heap.objs.size + 1) fd.scope.names [] := by rw [← henv]; rfl
    have e4 : env.globals = mainGlobals := by rw [← henv]; exact F.glo
    have e5 : env.builtins = builtinsNs := by rw [← henv]; exact F.bui
    have kd : ∀ y, env.kindOf y = fd.scope.names.lookup y := fun y => by show env.scope.names.lookup y = _; rw [e1]
    obtain ⟨h', tk, es, hk⟩ := x.done
    have keep : Ext0 s.heap s₁.heap := by rw [es]; exact hk
    have inj : ∀ x' y c, env.cells.lookup x' = some c → env.cells.lookup y = some c → x' = y := fun x' y c hx hy => name_of_addr x.apart (mem_of_lookup hx) (mem_of_lookup hy)
    let own : List Addr := env.locals :: env.cells.map (·.2)
    have O : Own fd.scope own env := {
      loc := .head _
      mem := fun b hb => by
        rcases List.mem_cons.mp hb with e | hb
        · exact .inl e
        · obtain ⟨⟨y, c⟩, hm, rfl⟩ := List.mem_map.mp hb
          refine .inr ⟨y, lookup_of_mem F.nod (cellsFrom_mem _ _ (e3 ▸ hm)), ?_⟩
          exact lookup_of_mem (e3 ▸ cellsFrom_nodup _ _ F.nod) hm
      kinds := fun y k hy _ => by rw [kd, hy]
      cel := fun y hy => by
        obtain ⟨c, hc⟩ := cellsFrom_has fd.scope.names (s.heap.objs.size + 1) (mem_of_lookup hy)
        rw [← e3] at hc
        exact ⟨c, hc, .tail _ (List.mem_map.mpr ⟨_, mem_of_lookup hc, rfl⟩)⟩
      apart := fun y c hc => Nat.ne_of_gt (x.above y c (mem_of_lookup hc))
      inj := inj }
    have ownf : ∀ b ∈ own, s.heap.get? b = none := fun b hb => by
      have ge : s.heap.objs.size ≤ b := by
        rcases List.mem_cons.mp hb with rfl | hb
        · rw [e2]; exact Nat.le_refl _
        · obtain ⟨⟨y, c⟩, hm, rfl⟩ := List.mem_map.mp hb
          have := x.above y c hm
          rw [e2] at this; exact Nat.le_of_lt this
      cases q : s.heap.get? b with
      | none => rfl
      | some o => exact absurd (Heap.lt_size q) (Nat.not_lt.mpr ge)
    have rr : Reps C s₁.heap (own ++ S) ds vs := (r.weak fun b hb => (List.mem_append.mp hb).symm.imp id (ownf b)).keeps keep
    have V : Vw C s₁.heap (own ++ S) env (rhoOf (ps.zip ds)) := {
      kind := by rw [e1]; exact F.knd
      gl := e4
      bl := e5
      ns := ⟨_, x.toInCall.ns, fun y d hy hky => by
        obtain ⟨v, hv, rv⟩ := zip_lookup rr hy
        exact ⟨v, bindL_get (by rw [hmap ps vs hlen]; exact hps) hv hky, rv⟩⟩
      cell := fun y hy => by
        obtain ⟨c, hc, -⟩ := O.cel y (by rw [← kd]; exact hy)
        refine ⟨c, _, hc, x.cell y c hc, fun d hd => ?_⟩
        obtain ⟨v, hv, rv⟩ := zip_lookup rr hd
        exact ⟨v, bindC_get (by rw [hmap ps vs hlen]; exact hps) hv (by rw [hy]; decide), rv⟩
      only := fun y d hy => by
        obtain ⟨v, hv, rv⟩ := zip_lookup rr hy
        rw [kd]; exact hpk y (mem _ (mem_of_lookup hv))
      inj := inj }
    have lv' : Live (own ++ S) s₁.heap := fun b hb => by
      rcases List.mem_append.mp hb with hb | hb
      · exact V.ownLive O b hb
      · obtain ⟨o, ho⟩ := lv b hb; exact ⟨o, keep b o ho⟩
    exact h env (own ++ S) own s₁ rfl ⟨h', tk, es, hk⟩ e2 e1 O (fun b hb => List.mem_append.mpr (.inl hb)) ownf (fun b hb => List.mem_append.mpr (.inr hb)) V lv'

end
theorem w_tc : (Code.builtin "type.__call__" ⟨[.ref 185], []⟩).weight = 1 := by kernel_rfl
theorem u_tc : (Code.builtin "type.__call__" ⟨[.ref 185], []⟩).cUnits = 1 := by kernel_rfl
theorem rm_under {k : Nat} {A : Around} (rm : Rm (k + 1) A) : Rm k (A.under (.builtin "type.__call__" ⟨[.ref 185], []⟩)) := by
  refine ⟨rm.handled, ?_, ?_⟩
  · show A.depth + (Code.builtin "type.__call__" ⟨[.ref 185], []⟩).weight + k < _
    have := rm.depth
    rw [w_tc]; omega
  · show A.units + (Code.builtin "type.__call__" ⟨[.ref 185], []⟩).cUnits + 8 * k + 100 < _
    have := rm.units
    rw [u_tc]; omega
theorem bind77 (P : Params) {s : Shared} (h : s.heap.get? 70 = some { cls := .type "tuple", data := .seq (itA P 70) }) (u : Value) : BindsTo s (fdA P 77) ⟨[u], []⟩ ([Str.ofString "self", Str.ofString "headers"].zip [u, .none]) :=
  BindsTo.of_defaults (T := 70) (n := 0) (by kernel_rfl) h rfl (by rfl) (by kernel_rfl)

section
variable {w : World} {mg mb : Str → Option Value} {hB : Heap}
/-- the body of __init__ on a new object -/
theorem init_body (B : Base w mg mb hB) {A : Around} {E : Value → Shared → Prop} {s : Shared} {env : Env} {S own : List Addr} {h₀ : Heap} {x dx : Addr} {Q : Flow → Shared → Prop} (he : env.scope = (fdA w.params 77).scope) (O : Own (fdA w.params 77).scope own env) (ho : ∀ a ∈ own, a ∈ S)
    (hof : ∀ a ∈ own, h₀.get? a = none) (hL : h₀.objs.size ≤ env.locals) (K₀ : KB hB h₀) (x₀ : Ext0 h₀ s.heap) (V : Vw CH s.heap S env (rhoOf ([Str.ofString "self", Str.ofString "headers"].zip [pinD x, .none]))) (lv : Live S s.heap) (rm : Rm 0 A)
    (hx : s.heap.get? x = some (instObj 185 dx)) (hdx : s.heap.get? dx = some emptyDict) (xf : h₀.get? x = none) (dxf : h₀.get? dx = none) (hne : dx ≠ x) (xo : x ∉ own) (dxo : dx ∉ own)
    (P : ∀ h' tk l, Ext0 h₀ h' → h₀.get? l = none → l ≠ x → l ≠ dx → h'.get? x = some (instObj 185 dx) → HdrDict h' dx l → h'.PlainList l #[] → Q .next { s with heap := h', toks := tk }) :
    wpAny (model PySem.Challenge.rw_tc0025_01.prog w) A (execs (bdA w.params 77) env) Q E s := by
  have W := wd0 B (hdC B)
  have hK : KB hB s.heap := fun b o e => x₀ b o (K₀ b o e)
  -- headers = ...
  refine wpAny_execs_cons (wpAny_Assign_Name (IfExp_ (wpAny_isTrue_Compare1 ?_ rfl)) rfl)
  have F := ev_sound W 3
  refine F.ev (fdA w.params 77).scope (rhoOf ([Str.ofString "self", Str.ofString "headers"].zip [pinD x, .none])) _ .none (ev_name (n := 2) (by kernel_rfl) (by kernel_rfl)) env S A s _ _ he hK V lv rm fun va s₁ k₁ r₁ => ?_
  cases r₁
  refine wpAny_Constant_none (wpAny_isNot_self rfl ?_)
  refine tru_sound (C := CH) (S := S) (d := .bool false) rfl rfl fun s₂ k₂ => ?_
  simp only [Bool.false_eq_true, if_false]
  have k12 := KT k₁ k₂
  have x2 : Ext0 s.heap s₂.heap := KX k12
  refine List_ (args_nil (wpAny_newObj_type ?_))
  have x3 : Ext0 s.heap (s₂.heap.push { cls := .type "list", data := .seq ([] : List Value).toArray }) := fun b o e => push_ext _ _ b o (x2 b o e)
  have lS : s₂.heap.objs.size ∉ S := (lv.keeps x2).fresh (get_size _)
  have lo' : s₂.heap.objs.size ∉ own := fun m => lS (ho _ m)
  refine store_sound (d := pinD s₂.heap.objs.size) O ho (V.keeps x3) (.inl ⟨_, rfl, rfl⟩) (by kernel_rfl) fun h₄ tk₄ V₄ b₄ => ?_
  replace b₄ : But own (s₂.heap.push { cls := .type "list", data := .seq ([] : List Value).toArray }) h₄ := b₄
  obtain ⟨hh, tt, rfl, -⟩ := id k12
  have pl : ∃ n, h₄.get? hh.objs.size = some { cls := .type "list", data := .seq (#[] : Array Value) n } := ⟨_, b₄ _ _ lo' (Heap.get?_push_size _ rfl)⟩
  have x04 : Ext0 h₀ h₄ := fun b o e => b₄ b o (fun m => by rw [hof b m] at e; cases e) (x3 b o (x₀ b o e))
  have hx4 : h₄.get? x = some (instObj 185 dx) := b₄ _ _ xo (x3 _ _ hx)
  have hdx4 : h₄.get? dx = some emptyDict := b₄ _ _ dxo (x3 _ _ hdx)
  have lv₄ : Live S h₄ := live_store (lv.keeps x3) O V₄ b₄
  have K₄ : KB hB h₄ := fun b o e => x04 b o (K₀ b o e)
  have l0 : h₀.get? hh.objs.size = none := none_back x₀ (none_back x2 (get_size _))
  have lx : hh.objs.size ≠ x := fun e => by have := x2 _ _ hx; rw [← e] at this; rw [show ({ s with heap := hh, toks := tt } : Shared).heap.get? hh.objs.size = none from get_size hh] at this; cases this
  have ldx : hh.objs.size ≠ dx := fun e => by have := x2 _ _ hdx; rw [← e] at this; rw [show ({ s with heap := hh, toks := tt } : Shared).heap.get? hh.objs.size = none from get_size hh] at this; cases this
  generalize hh.objs.size = l at V₄ pl l0 lx ldx lS lo'
  obtain ⟨n, hl4⟩ := pl
  -- type(headers) is not list
  refine wpAny_execs_cons (wpAny_If (wpAny_isTrue_Compare1 ?_ rfl))
  have hev : ∀ vp, Mine.evAll (ev (Gk [] [] []) 3 (fdA w.params 77).scope (upd (rhoOf ([Str.ofString "self", Str.ofString "headers"].zip [pinD x, .none])) (Str.ofString "headers") (pinD l))) [.Name (Str.ofString "headers") vp] = some [pinD l] := fun vp =>
    evAll1 (ev_name (n := 2) (by kernel_rfl) (by kernel_rfl))
  refine Call_ (glob_load W (sc := (fdA w.params 77).scope) (v := .type "type") (by kernel_rfl) (by kernel_rfl) he K₄ V₄ (.inr ⟨mg_none_of B.k B.g (by kernel_rfl), by decide +kernel, by decide +kernel⟩) ?_)
  refine PySem.callWith_type (plain_args F (hev _)) (evalArgs_sound F W.ko (hev _) he K₄ V₄ lv₄ rm fun vs s₅ k₅ r₅ => ?_)
  obtain ⟨v, r, rfl, rv, rfl⟩ := r₅
  rw [pin_val rv]
  refine call_type_of (Tx := "list") ⟨_, KX k₅ _ _ hl4, rfl⟩ (by decide +kernel) ?_
  refine glob_load W (sc := (fdA w.params 77).scope) (v := .type "list") (by kernel_rfl) (by kernel_rfl) he (W.ko.keeps K₄ (KX k₅)) (V₄.keeps (KX k₅)) (.inr ⟨mg_none_of B.k B.g (by kernel_rfl), by decide +kernel, by decide +kernel⟩) ?_
  refine wpAny_isNot_self rfl ?_
  refine tru_sound (C := CH) (S := S) (d := .bool false) rfl rfl fun s₆ k₆ => ?_
  simp only [Bool.false_eq_true, if_false]
  refine wpAny_execs_nil ?_
  have k46 := KT k₅ k₆
  have x46 : Ext0 h₄ s₆.heap := KX k46
  have V₆ := V₄.keeps x46
  -- self._headers = headers
  obtain ⟨m, nm, qm⟩ := V₆.ns
  have loadH : ∀ {p : Pos} {s' : Shared} {R : Value → Shared → Prop} {E' : Value → Shared → Prop}, s'.heap.Ns env.locals m → R (.ref l) s' → wpAny (model PySem.Challenge.rw_tc0025_01.prog w) A (eval (.Name (Str.ofString "headers") p) env) R E' s' := fun hn hR => by
    have hk : env.kindOf (Str.ofString "headers") = some .local := by show env.scope.names.lookup _ = _; rw [he]; kernel_rfl
    obtain ⟨v, hv, r⟩ := qm (Str.ofString "headers") (pinD l) (by kernel_rfl) hk
    rw [pin_val r] at hv
    exact wpAny_Name (wpAny_loadName_local V.kind hk hn hv hR) (by decide +kernel)
  have loadS : ∀ {p : Pos} {s' : Shared} {R : Value → Shared → Prop} {E' : Value → Shared → Prop}, s'.heap.Ns env.locals m → R (.ref x) s' → wpAny (model PySem.Challenge.rw_tc0025_01.prog w) A (eval (.Name (Str.ofString "self") p) env) R E' s' := fun hn hR => by
    have hk : env.kindOf (Str.ofString "self") = some .local := by show env.scope.names.lookup _ = _; rw [he]; kernel_rfl
    obtain ⟨v, hv, r⟩ := qm (Str.ofString "self") (pinD x) (by kernel_rfl) hk
    rw [pin_val r] at hv
    exact wpAny_Name (wpAny_loadName_local V.kind hk hn hv hR) (by decide +kernel)
  refine wpAny_execs_cons (plainObj_wpAny_Assign_Attribute (loadH nm (loadS nm ?_)) rfl)
  have F6 : Fr h₀ env.locals s₆.heap m := ⟨nm, fun b o e => x46 b o (x04 b o e), hL⟩
  have lL : ∀ a, a ∉ own → a ≠ env.locals := fun a ha e => ha (e ▸ O.loc)
  have N6 : News h₀ env.locals s₆.heap [(dx, emptyDict), (x, instObj 185 dx), (l, { cls := .type "list", data := .seq (#[] : Array Value) n })] := fun p hp => by
    simp only [List.mem_cons, List.not_mem_nil, or_false] at hp
    rcases hp with rfl | rfl | rfl
    · exact ⟨x46 _ _ hdx4, lL _ dxo, dxf⟩
    · exact ⟨x46 _ _ hx4, lL _ xo, xf⟩
    · exact ⟨x46 _ _ hl4, lL _ lo', l0⟩
  refine set_dict (C := 185) F6 (B.k.keeps K₀) N6 (⟨x46 _ _ hx4, rfl, rfl, x46 _ _ hdx4⟩ : InstAt s₆.heap x (instObj 185 dx) 185 (some (dictOf [] 0))) rfl (by kernel_rfl) (by kernel_rfl) (by kernel_rfl) (by kernel_rfl) (by kernel_rfl) rfl
    (Upd.head fun p hp => ?_) (by show 1 ≤ 1000; decide) fun h₇ F7 N7 => ?_
  · simp only [List.mem_cons, List.not_mem_nil, or_false] at hp
    rcases hp with rfl | rfl
    · exact hne.symm
    · exact ldx
  have nm7 := F7.ns
  have g1 := (N7 _ (.head _)).1
  have g2 := (N7 _ (.tail _ (.head _))).1
  have g3 := (N7 _ (.tail _ (.tail _ (.head _)))).1
  obtain ⟨h₆, t₆, rfl, -⟩ := id k46
  -- the loop over nothing
  refine wpAny_execs_cons (wpAny_If (isTrue_plain (Constant_bool ?_)))
  refine tru_sound (C := CH) (S := S) (d := .bool true) rfl rfl fun s₈ k₈ => ?_
  simp only [if_true]
  obtain ⟨h₈, t₈, rfl, x8⟩ := k₈
  replace x8 : Ext0 h₇ h₈ := x8
  refine wpAny_execs_cons (wpAny_For (loadH (nm7.keeps x8) ?_))
  have L8 : h₈.IsList l #[] := ⟨_, x8 _ _ g3, rfl, n, rfl⟩
  refine wpAny_pyIter_list L8 ?_
  have hI : (h₈.push { cls := .type "list_iterator", data := .fields #[.ref l, .int 0 0] }).IsListIter h₈.objs.size l 0 := ⟨_, Heap.get?_push_size _ rfl, rfl, rfl⟩
  refine codeAny_forLoop_any (fun _ s' => s' = { s with heap := h₈.push { cls := .type "list_iterator", data := .fields #[.ref l, .int 0 0] }, toks := t₈ }) ?_ 0 rfl
  rintro _ s' rfl
  refine wpAny_pyNext_list_end rm.handled hI (L8.at fun o e => push_ext _ _ _ o e) (by rfl) fun h₉ he₉ => ?_
  have x9 : Ext0 h₈ h₉ := fun b o e => he₉ b o (Nat.ne_of_lt (Heap.lt_size e)) (push_ext _ _ b o e)
  have x79 : Ext0 h₇ h₉ := fun b o e => x9 b o (x8 b o e)
  refine wpAny_execs_nil (wpAny_execs_nil (wpAny_execs_nil ?_))
  exact P h₉ _ l (fun b o e => x79 b o (F7.keep b o e)) l0 lx ldx (x79 _ _ g2) ⟨_, _, _, x79 _ _ g1⟩ ⟨n, x79 _ _ g3⟩
end
end Mine

namespace Mine
section
variable {w : World} {mg mb : Str → Option Value} {hB : Heap}
theorem make_tab (B : Base w mg mb hB) {A : Around} {E : Value → Shared → Prop} {s : Shared} {S : List Addr} {Q : Value → Shared → Prop} (hK : KB hB s.heap) (lv : Live S s.heap) (rm : Rm 2 A)
    (P : ∀ h' tk x dx l, Ext0 s.heap h' → Tab CH h' S [] x dx l [] → s.heap.get? x = none → s.heap.get? dx = none → s.heap.get? l = none → l ≠ x → l ≠ dx → dx ≠ x → h'.PlainList l #[] → Q (.ref x) { s with heap := h', toks := tk }) :
    wpAny (model PySem.Challenge.rw_tc0025_01.prog w) A (call (.ref 185) []) Q E s := by
  obtain ⟨h, g, d, t, os⟩ := s
  dsimp only at hK lv P
  have X : (KP w.params).In h := B.k.keeps hK
  refine wpAny_call (make_core (makes_of X (show makesIn (KP w.params) 185 = true by kernel_rfl)) (looks_findIn X (show findIn (KP w.params) (.ref 185) "__init__" = some (some (.ref 77)) by kernel_rfl)) (fun self => bind_fn X self (by kernel_rfl)) (.inl rfl) ?_)
  have F : FnAt (KB hB) 77 (fnObj (fdA w.params 77)) (fdA w.params 77) (bdA w.params 77) := fnAt B 77 (by kernel_rfl) (by kernel_rfl) (by kernel_rfl) (by kernel_rfl) (by kernel_rfl) (by kernel_rfl) (by kernel_rfl) (by kernel_rfl) (by kernel_rfl) (by kernel_rfl)
  have xh : Ext0 h ((h.push emptyDict).push (instObj 185 h.objs.size)) := fun b o e => push_ext _ _ b o (push_ext _ _ b o e)
  have hx : ((h.push emptyDict).push (instObj 185 h.objs.size)).get? (h.objs.size + 1) = some (instObj 185 h.objs.size) := by rw [← Heap.size_push h emptyDict]; exact Heap.get?_push_size _ rfl
  have hdx : ((h.push emptyDict).push (instObj 185 h.objs.size)).get? h.objs.size = some emptyDict := Heap.get?_push_of_some _ (Heap.get?_push_size _ rfl)
  have K1 : KB hB ((h.push emptyDict).push (instObj 185 h.objs.size)) := fun b o e => xh b o (hK b o e)
  refine frame_code (C := CH) (dp := 0) (koB hB) F (args := ⟨[.ref (h.objs.size + 1)], []⟩) (ps := [Str.ofString "self", Str.ofString "headers"]) (ds := [pinD (h.objs.size + 1), .none]) (vs := [.ref (h.objs.size + 1), .none]) (S := [])
    (fun A' Q' E' q => bind77 w.params (B.k.keeps K1 _ _ (by kernel_rfl)) _ _ _ _ _ q) rfl (by decide +kernel) (fun z hz => ?_) K1 (fun a ha => nomatch ha) (rm_under rm)
    ⟨_, _, rfl, .inl ⟨_, rfl, rfl⟩, _, _, rfl, rfl, rfl⟩ fun env S' own s₁ _ k₁ eL e1 O oS ownf sS V lv' => ?_
  · simp only [List.mem_cons, List.not_mem_nil, or_false] at hz
    rcases hz with rfl | rfl <;> exact .inl (by kernel_rfl)
  · have x1 : Ext0 ((h.push emptyDict).push (instObj 185 h.objs.size)) s₁.heap := KX k₁
    have hnone : ∀ n, h.get? (h.objs.size + n) = none := fun n => size_none h n
    refine init_body B (h₀ := h) (x := h.objs.size + 1) (dx := h.objs.size) e1 O oS (fun a ha => none_back xh (ownf a ha)) (by rw [eL, Heap.size_push, Heap.size_push]; exact Nat.le_add_right _ 2) hK (fun b o e => x1 b o (xh b o e)) V lv' ((rm_under rm).deeper env |>.le (Nat.zero_le _)) (x1 _ _ hx) (x1 _ _ hdx)
      (hnone 1) (get_size h) (Nat.ne_of_lt (Nat.lt_succ_self _)) (fun m => by have := ownf _ m; rw [hx] at this; cases this) (fun m => by have := ownf _ m; rw [hdx] at this; cases this) fun h' tk l x0 l0 lx ldx gx gd gl => ?_
    obtain ⟨hh, tt, rfl, -⟩ := id k₁
    refine ⟨rfl, ?_⟩
    exact P h' tk _ _ l x0 ⟨lv.fresh (hnone 1), lv.fresh (get_size h), lv.fresh l0, gx, gd, by simpa using gl.isList, rfl⟩ (hnone 1) (get_size h) l0 lx ldx (Nat.ne_of_lt (Nat.lt_succ_self _)) gl
end
end Mine

namespace Mine
theorem Tups.app {h : Heap} {S : List Addr} {a b : Str} {p : Addr} {t u : Tok} (hp : p ∉ S) (ht : h.IsTuple p #[.str a t, .str b u]) : ∀ {l : List SP} {vs : List Value}, Tups h S (l.map enc) vs → Tups h S ((l ++ [(a, b)]).map enc) (vs ++ [.ref p])
  | [], vs, x => by
    have : vs = [] := x
    subst this
    exact ⟨p, t, u, [], rfl, hp, ht, rfl⟩
  | _ :: l, _, ⟨q, t', u', rest, e, hq, hqt, r⟩ => ⟨q, t', u', rest ++ [.ref p], by rw [e]; rfl, hq, hqt, Tups.app hp ht r⟩
theorem Tups.but {h h' : Heap} {S : List Addr} {l : Addr} {ys : Array Value} (hl : h.IsList l ys) (hs : Heap.SameBut l h h') : ∀ {k : List SP} {vs : List Value}, Tups h S (k.map enc) vs → Tups h' S (k.map enc) vs
  | [], _, x => x
  | _ :: _, _, ⟨q, t', u', rest, e, hq, hqt, r⟩ => ⟨q, t', u', rest, e, hq, by
      obtain ⟨o, ho, hc, hd⟩ := hqt
      have : q ≠ l := fun e => by
        subst e
        obtain ⟨o', ho', hc', _⟩ := hl
        rw [ho] at ho'; cases ho'
        have := hc.symm.trans hc'
        simp at this
      exact ⟨o, hs.extBut q o this ho, hc, hd⟩, Tups.but hl hs r⟩
section
variable {C : Addr} {S : List Addr} {env : Env} {ρ : Rho}
theorem Vw.recast {x : Str} {a : Nat} {d : D} {h : Heap} (V : Vw C h S env ρ) (hx : ρ x = some (pinD a)) (rl : Rep C h S d (.ref a)) : Vw C h S env (upd ρ x d) := by
  obtain ⟨m, n, q⟩ := V.ns
  refine ⟨V.kind, V.gl, V.bl, ⟨m, n, fun y e hy hk => ?_⟩, fun y hy => ?_, fun y e hy => ?_, V.inj⟩
  · unfold upd at hy
    split at hy
    · rename_i e1; cases hy; subst e1
      obtain ⟨v, hv, r⟩ := q y _ hx hk
      exact ⟨v, hv, by rw [pin_val r]; exact rl⟩
    · exact q y e hy hk
  · obtain ⟨c, ov, hc, hi, qq⟩ := V.cell y hy
    refine ⟨c, ov, hc, hi, fun e hd => ?_⟩
    unfold upd at hd
    split at hd
    · rename_i e1; cases hd; subst e1
      obtain ⟨v, hv, r⟩ := qq _ hx
      exact ⟨v, hv, by rw [pin_val r]; exact rl⟩
    · exact qq e hd
  · unfold upd at hy
    split at hy
    · rename_i e1; subst e1; exact V.only y _ hx
    · exact V.only y e hy
end
section
variable {w : World} {mg mb : Str → Option Value} {hB : Heap}
theorem hdr_append (B : Base w mg mb hB) {A : Around} {E : Value → Shared → Prop} {s : Shared} {env : Env} {S : List Addr} {G : Kn} {dp : Nat} (W : Wd PySem.Challenge.rw_tc0025_01.prog w CH G (KB hB) (kB hB) mg dp) {n : Nat} {sc : Scope} {ρ : Rho} {sf : Str} {xp hpz ap cp q : Pos} {e : Expr} {a b : Str} {lst : List SP} {x dx l : Addr} {us : List Value} {m : Str → Option Value} {Q : Flow → Shared → Prop}
    (hns : s.heap.Ns env.locals m) (hm : m sf = some (.ref x)) (hk : env.kindOf sf = some .local) (hdb : (sf == ("__debug__" : Str)) = false) (h : ev G n sc ρ e = some (.tuple [.str a, .str b])) (hl : (ap.endLine == cp.line) = true) (he : env.scope = sc) (hK : KB hB s.heap) (V : Vw CH s.heap S env ρ) (lv : Live S s.heap) (rm : Rm dp A)
    (T : Tab CH s.heap S (lst.map enc) x dx l us) (hp : s.heap.PlainList l us.toArray) (hlen : lst.length ≤ 100)
    (P : ∀ h' tk us', But [l] s.heap h' → Tab CH h' S ((lst ++ [(a, b)]).map enc) x dx l us' → h'.PlainList l us'.toArray → Q .next { s with heap := h', toks := tk }) :
    wpAny (model PySem.Challenge.rw_tc0025_01.prog w) A (exec (.Expr (.Call (.Attribute (.Attribute (.Name sf xp) (Str.ofString "_headers") hpz) (Str.ofString "append") ap) [e] [] cp) q) env) Q E s := by
  have F := ev_sound W n
  have e2 := small_is
  have hev : Mine.evAll (ev G n sc ρ) [e] = some [.tuple [.str a, .str b]] := evAll1 h
  refine wpAny_Expr_any (wpAny_Call_method_lateS (hbase rfl) (by rw [plain_all F hev]; rfl) hl ?_) (by unfold interactive; rw [V.kind]; rfl) rfl
  rw [arm_eval_Attribute, hbase rfl]
  refine wpAny_bind (wpAny_Name (wpAny_loadName_local V.kind hk hns hm ?_) hdb)
  refine wpAny_bind (wpAny_standAt (wpAny_bind (wpAny_holding (hdC B A s _ _ S (lst.map enc) x dx l us hK T fun tk => ?_))))
  refine wpAny_bind (wpAny_letTemporaryGo (wpAny_pure ?_))
  obtain ⟨nn, hy⟩ := hp
  refine ⟨"list", "list.append", PySem.F.plainAttrs_list, PySem.F.slot_list_append, PySem.F.type_list_append, ⟨_, hy, rfl⟩, fun b e => by cases e; exact ⟨_, hy, rfl⟩, ?_⟩
  refine Calls.callWith_builtin (plain_args F hev) (evalArgs_sound F W.ko hev he hK V lv rm fun vs s₁ k₁ r₁ => ?_)
  obtain ⟨v, r, rfl, ⟨pa, vs2, rfl, hpS, hpt, v1, r1, rfl, ⟨ta, rfl⟩, v2, r2, rfl, ⟨tb, rfl⟩, rfl⟩, rfl⟩ := r₁
  obtain ⟨h₁, tk₁, rfl, x₁⟩ := k₁
  replace x₁ : Ext0 s.heap h₁ := x₁
  have T₁ : Tab CH h₁ S (lst.map enc) x dx l us := T.ext fun b o _ e => x₁ b o e
  have hlenU : ∀ {k : List SP} {vs : List Value}, Tups h₁ S (k.map enc) vs → vs.length = k.length := fun {k} => by
    induction k with
    | nil => intro vs t; rw [show vs = [] from t]; rfl
    | cons p k ih => intro vs t; obtain ⟨_, _, _, rest, e, _, _, r⟩ := t; rw [e, List.length_cons, List.length_cons, ih r]
  have hys : us.toArray.size ≤ sizeLine := by
    have e1 := hlenU T₁.tups
    have e3 := size_line
    rw [List.size_toArray]; omega
  have L₁ : h₁.PlainList l us.toArray := ⟨nn, x₁ _ _ hy⟩
  refine wpAny_list_append_plain (hsz := hys) L₁ fun h₂ hp₂ hs₂ => ?_
  replace hs₂ : Heap.SameBut l h₁ h₂ := hs₂
  have b₂ : But [l] h₁ h₂ := fun b o hb e => hs₂.extBut b o (fun m => hb (by simp [m])) e
  have xl : x ≠ l := fun e => by
    have h1 := T₁.inst
    obtain ⟨k, h2⟩ := L₁
    rw [e, h2] at h1; cases h1
  have dl : dx ≠ l := fun e => by
    obtain ⟨_, _, _, h1⟩ := T₁.dict
    obtain ⟨k, h2⟩ := L₁
    rw [e, h2] at h1
    simp [dictOf] at h1
  have pal : pa ≠ l := fun e => by
    obtain ⟨o, h1, hc, _⟩ := hpt
    obtain ⟨k, h2⟩ := L₁
    replace h1 : h₁.get? pa = some o := h1
    rw [e, h2] at h1; cases h1
    simp at hc
  have hpt₂ : h₂.IsTuple pa #[.str a ta, .str b tb] := by
    obtain ⟨o, h1, hc, hd⟩ := hpt
    exact ⟨o, hs₂.extBut _ _ pal h1, hc, hd⟩
  refine P h₂ tk₁ (us ++ [.ref pa]) (fun b o hb e => b₂ b o hb (x₁ b o e)) ⟨T₁.hx, T₁.hdx, T₁.hl, hs₂.extBut _ _ xl T₁.inst, ?_, ?_, Tups.app hpS hpt₂ (Tups.but T₁.lst hs₂ T₁.tups)⟩ ?_
  · obtain ⟨a1, a2, a3, h1⟩ := T₁.dict
    exact ⟨a1, a2, a3, hs₂.extBut _ _ dl h1⟩
  · have := hp₂.isList
    simpa using this
  · simpa using hp₂
end
noncomputable abbrev GD : Kn := Gk [] [(Str.ofString "get", getF), (Str.ofString "_convert_string_type", convF)] []
section
variable {w : World} {mg mb : Str → Option Value} {hB : Heap}
theorem wdD (B : Base w mg mb hB) : Wd PySem.Challenge.rw_tc0025_01.prog w CH GD (KB hB) (kB hB) mg 2 :=
  wd_of B (by simp) (fun p hp => by
    simp only [List.mem_cons, List.not_mem_nil, or_false] at hp
    rcases hp with rfl | rfl
    · exact get_C B
    · exact (conv_C B).up (by decide)) (by simp) (hdC B)
noncomputable abbrev rd0 (x : Nat) (n v : Str) : Rho := rhoOf ([Str.ofString "self", Str.ofString "name", Str.ofString "value"].zip [pinD x, .str n, .str v])

theorem setdef_body (B : Base w mg mb hB) {A : Around} {E : Value → Shared → Prop} {s : Shared} {env : Env} {S own : List Addr} {lst : List SP} {n v : Str} {x dx l : Addr} {us : List Value} {Q : Flow → Shared → Prop} (he : env.scope = (fdA w.params 175).scope) (O : Own (fdA w.params 175).scope own env) (ho : ∀ a ∈ own, a ∈ S) (hok : ∀ a ∈ own, ¬ kB hB a)
    (hK : KB hB s.heap) (V : Vw CH s.heap S env (rd0 x n v)) (lv : Live S s.heap) (rm : Rm 2 A) (T : Tab CH s.heap S (lst.map enc) x dx l us) (hp : s.heap.PlainList l us.toArray)
    (hg : getF (lst.map enc) [.str n] none = some .none) (hn : okSb n = true) (hv : okSb v = true) (hlen : lst.length ≤ 100)
    (P : ∀ h' tk us' u, But (own ++ [l]) s.heap h' → Tab CH h' S ((lst ++ [(n, v)]).map enc) x dx l us' → h'.PlainList l us'.toArray → Q (.ret (.str v u)) { s with heap := h', toks := tk }) :
    wpAny (model PySem.Challenge.rw_tc0025_01.prog w) A (execs (bdA w.params 175) env) Q E s := by
  have W := wdD B
  have e2 := small_is
  have F := ev_sound W 8
  have Vd := V.recast (x := Str.ofString "self") (a := x) (d := .dict (lst.map enc)) (by kernel_rfl) (.inr ⟨x, dx, l, us, rfl, T⟩)
  refine wpAny_execs_cons (wpAny_Assign_Name (F.ev (fdA w.params 175).scope _ _ .none (ev_me (n := 7) (kw := none) (kvs := lst.map enc) (ds := [.str n]) (by rfl) (by rfl) (by rfl) (by kernel_rfl) (evAll1 (by kernel_rfl)) (by rfl) (pin_enc lst) (by exact hg)) env S A s _ _ he hK Vd lv rm fun va s₁ k₁ r₁ => ?_) rfl)
  cases r₁
  have x1 := KX k₁
  refine store_sound (d := .none) O ho (V.keeps x1) rfl (by kernel_rfl) fun h₂ tk₂ V₂ b₂ => ?_
  obtain ⟨h₁, tk₁, rfl, -⟩ := id k₁
  replace b₂ : But own h₁ h₂ := b₂
  have bo : But own s.heap h₂ := fun a o ha e => b₂ a o ha (x1 a o e)
  have K₂ : KB hB h₂ := (koB hB).keep _ _ hK fun a o ka e => bo a o (fun m => hok a m ka) e
  have T₂ : Tab CH h₂ S (lst.map enc) x dx l us := T.ext fun a o ha e => bo a o (fun m => ha (ho a m)) e
  have hp₂ : h₂.PlainList l us.toArray := hp.at fun o e => bo _ o (fun m => T.hl (ho _ m)) e
  have lv₂ : Live S h₂ := live_store lv O V₂ bo
  have Vd₂ := V₂.recast (x := Str.ofString "self") (a := x) (d := .dict (lst.map enc)) (by kernel_rfl) (.inr ⟨x, dx, l, us, rfl, T₂⟩)
  refine wpAny_execs_cons (wpAny_If (F.ts (fdA w.params 175).scope _ _ true (evT_cmp (n := 7) (a := .none) (b := .none) (by rfl) (by kernel_rfl) (by kernel_rfl) (by kernel_rfl)) env S A { s with heap := h₂, toks := tk₂ } _ _ he K₂ Vd₂ lv₂ rm fun s₃ k₃ => ?_))
  simp only [if_true]
  obtain ⟨h₃, tk₃, rfl, x3⟩ := k₃
  replace x3 : Ext0 h₂ h₃ := x3
  have K₃ : KB hB h₃ := fun b o e => x3 b o (K₂ b o e)
  have V₃ := V₂.keeps x3
  have T₃ : Tab CH h₃ S (lst.map enc) x dx l us := T₂.ext fun b o _ e => x3 b o e
  have hp₃ : h₃.PlainList l us.toArray := hp₂.at fun o e => x3 _ o e
  have lv₃ := lv₂.keeps x3
  have Vd₃ := V₃.recast (x := Str.ofString "self") (a := x) (d := .dict (lst.map enc)) (by kernel_rfl) (.inr ⟨x, dx, l, us, rfl, T₃⟩)
  have b3 : But own s.heap h₃ := fun a o ha e => x3 a o (bo a o ha e)
  obtain ⟨m, nm, qm⟩ := V₃.ns
  have look : ∀ {y : Str} {d : D}, upd (rd0 x n v) (Str.ofString "result") .none y = some d → env.kindOf y = some .local → ∃ u, m y = some u ∧ Rep CH h₃ S d u := fun h1 h2 => qm _ _ h1 h2
  obtain ⟨us', hs', rs'⟩ := look (y := Str.ofString "self") (d := pinD x) (by kernel_rfl) (by show env.scope.names.lookup _ = _; rw [he]; kernel_rfl)
  rw [pin_val rs'] at hs'
  obtain ⟨uv, hv', ⟨tv, rfl⟩⟩ := look (y := Str.ofString "value") (d := .str v) (by kernel_rfl) (by show env.scope.names.lookup _ = _; rw [he]; kernel_rfl)
  -- the append
  have hconv : ∀ (y : Str) (b : Bool), okSb y = true → GD.me (Str.ofString "_convert_string_type") (lst.map enc) [.str y] (some b) = some (.str y) := fun y b hy => by
    show convF (lst.map enc) [.str y] (some b) = _
    unfold convF
    simp only [hy, pin_enc, and_self, if_true]
  have hk : env.kindOf (Str.ofString "self") = some .local := by show env.scope.names.lookup _ = _; rw [he]; kernel_rfl
  refine wpAny_execs_cons (hdr_append B W (n := 8) (a := n) (b := v) (sc := (fdA w.params 175).scope) (ρ := upd (upd (rd0 x n v) (Str.ofString "result") .none) (Str.ofString "self") (.dict (lst.map enc))) nm hs' hk (by decide +kernel)
    (ev_tup2 (n := 7) (a := .str n) (b := .str v)
      (ev_me (n := 6) (kw := some true) (kvs := lst.map enc) (ds := [.str n]) (by rfl) (by rfl) (by rfl) (by kernel_rfl) (evAll1 (by kernel_rfl)) (by kernel_rfl) (pin_enc lst) (by exact hconv n true hn))
      (ev_me (n := 6) (kw := some false) (kvs := lst.map enc) (ds := [.str v]) (by rfl) (by rfl) (by rfl) (by kernel_rfl) (evAll1 (by kernel_rfl)) (by kernel_rfl) (pin_enc lst) (by exact hconv v false hv)))
    (by rfl) he K₃ Vd₃ lv₃ rm T₃ hp₃ hlen fun h₄ tk₄ us₄ b₄ T₄ hp₄ => ?_)
  replace b₄ : But [l] h₃ h₄ := b₄
  have llo : env.locals ≠ l := fun e => T.hl (e ▸ ho _ O.loc)
  have nm4 : h₄.Ns env.locals m := nm.at' fun o e => b₄ _ o (fun q => llo (List.mem_singleton.mp q)) e
  have hkv : env.kindOf (Str.ofString "value") = some .local := by show env.scope.names.lookup _ = _; rw [he]; kernel_rfl
  refine wpAny_execs_cons (wpAny_Return_some (wpAny_Name (wpAny_loadName_local V.kind hkv nm4 hv' ?_) (by decide +kernel)))
  exact P h₄ tk₄ us₄ tv (fun a o ha e => b₄ a o (fun q => ha (List.mem_append.mpr (.inr q))) (b3 a o (fun q => ha (List.mem_append.mpr (.inl q))) e)) T₄ hp₄

set_option maxHeartbeats 2000000 in
theorem setdef_sound (B : Base w mg mb hB) {A : Around} {E : Value → Shared → Prop} {s : Shared} {S : List Addr} {lst : List SP} {n v : Str} {t u : Tok} {x dx l : Addr} {us : List Value} {Q : Value → Shared → Prop} (hK : KB hB s.heap) (lv : Live S s.heap) (rm : Rm 3 A) (T : Tab CH s.heap S (lst.map enc) x dx l us) (hp : s.heap.PlainList l us.toArray)
    (hg : getF (lst.map enc) [.str n] none = some .none) (hn : okSb n = true) (hv : okSb v = true) (hlen : lst.length ≤ 100)
    (P : ∀ h' tk us' u', But [l] s.heap h' → Tab CH h' S ((lst ++ [(n, v)]).map enc) x dx l us' → h'.PlainList l us'.toArray → Q (.str v u') { s with heap := h', toks := tk }) :
    wpAny (model PySem.Challenge.rw_tc0025_01.prog w) A (call (.ref 175) [.ref x, .str n t, .str v u]) Q E s := by
  have F : FnAt (KB hB) 175 (fnObj (fdA w.params 175)) (fdA w.params 175) (bdA w.params 175) := fnAt B 175 (by kernel_rfl) (by kernel_rfl) (by kernel_rfl) (by kernel_rfl) (by kernel_rfl) (by kernel_rfl) (by kernel_rfl) (by kernel_rfl) (by kernel_rfl) (by kernel_rfl)
  refine wpAny_call (frame_code (C := CH) (dp := 2) (koB hB) F (args := ⟨[.ref x, .str n t, .str v u], []⟩) (ps := [Str.ofString "self", Str.ofString "name", Str.ofString "value"]) (ds := [pinD x, .str n, .str v]) (vs := [.ref x, .str n t, .str v u]) (S := S)
    (fun A' Q' E' q => wpAny_of_eq (by kernel_rfl) q) rfl (by decide +kernel) (fun z hz => ?_) hK lv rm
    ⟨_, _, rfl, .inl ⟨x, rfl, rfl⟩, _, _, rfl, ⟨t, rfl⟩, _, _, rfl, ⟨u, rfl⟩, rfl⟩ fun env S' own s₁ eS k₁ eL e1 O oS ownf sS V lv' => ?_)
  · simp only [List.mem_cons, List.not_mem_nil, or_false] at hz
    rcases hz with rfl | rfl | rfl <;> exact .inl (by kernel_rfl)
  · obtain ⟨h₁, tk₁, rfl, x₁⟩ := k₁
    replace x₁ : Ext0 s.heap h₁ := x₁
    subst eS
    have wk : ∀ a ∈ own ++ S, a ∈ S ∨ s.heap.get? a = none := fun a ha => (List.mem_append.mp ha).symm.imp id (ownf a)
    have T₁ : Tab CH h₁ (own ++ S) (lst.map enc) x dx l us := (T.weak wk).ext fun b o _ e => x₁ b o e
    refine setdef_body B e1 O oS (fun a ha ⟨o, ho⟩ => ?_) (fun b o e => x₁ b o (hK b o e)) V lv' (rm.deeper env) T₁ (hp.at fun o e => x₁ _ o e) hg hn hv hlen fun h' tk us' u' bb T' hp' => ?_
    · have := hK _ _ ho
      rw [ownf a ha] at this; cases this
    · exact P h' tk us' u' (fun b o hb e => bb b o (fun m => (List.mem_append.mp m).elim (fun m => by rw [ownf b m] at e; cases e) hb) (x₁ b o e)) (T'.weak fun a ha => .inl (sS a ha)) hp'
end
end Mine

namespace Mine
/-- the table under way -/
noncomputable def JT' (x dx l : Nat) (k : List SP) : JT := fun S h => ∃ us, Tab CH h (S.filter fun a => decide (a ≠ l)) (k.map enc) x dx l us ∧ h.PlainList l us.toArray
theorem JT_ok {x dx l : Nat} {k : List SP} : JOK [l] (JT' x dx l k) where
  frame := fun S h h' ⟨us, T, hp⟩ q => ⟨us, T.ext fun b o hb e => by
      by_cases e1 : b = l
      · exact q b o (.inl (by simp [e1])) e
      · exact q b o (.inr fun m => hb (List.mem_filter.mpr ⟨m, by simpa using e1⟩)) e, hp.at fun o e => q _ o (.inl (.head _)) e⟩
  weak := fun S S' h ⟨us, T, hp⟩ q => ⟨us, T.weak fun a ha => by
      obtain ⟨h1, h2⟩ := List.mem_filter.mp ha
      exact (q a h1).imp (fun m => List.mem_filter.mpr ⟨m, h2⟩) id, hp⟩
  live := fun S h ⟨us, T, n, hp⟩ b hb => by rw [List.mem_singleton.mp hb]; exact ⟨_, hp⟩

noncomputable abbrev GT : Kn := Gk [(Str.ofString "_law_falls", fallsF)] [] []
section
variable {w : World} {mg mb : Str → Option Value} {hB : Heap}
theorem wdT (B : Base w mg mb hB) : Wd PySem.Challenge.rw_tc0025_01.prog w CH GT (KB hB) (kB hB) mg 3 :=
  wd_of B (fun p hp => by rw [List.mem_singleton.mp hp]; exact (falls_C B).up (by decide)) (by simp) (by simp) (hdC B)
noncomputable def tBody (P : Params) : List Stmt := match bdA P 227 with | [_, .For _ _ b _ _, _] => b | _ => []
/-- the test of the first if -/
theorem set_test (B : Base w mg mb hB) {A : Around} {E : Value → Shared → Prop} {s : Shared} {env : Env} {S : List Addr} {sc : Scope} {ρ : Rho} {h t : Str} {x dx l : Nat} {k : List SP} {tp ap cp q1 q2 q3 : Pos} {Q : Value → Shared → Prop}
    (rt : ρ (Str.ofString "table") = some (pinD x)) (rh : ρ (Str.ofString "hopped") = some (.str h)) (rx : ρ (Str.ofString "text") = some (.str t)) (he : env.scope = sc) (hK : KB hB s.heap) (V : Vw CH s.heap S env ρ) (lv : Live S s.heap) (rm : Rm 3 A) (lS : l ∈ S) (lk : ¬ kB hB l) (llo : env.locals ≠ l)
    (lce : ∀ y c, env.kindOf y = some .cell → env.cells.lookup y = some c → c ≠ l) (hl : (ap.endLine == cp.line) = true)
    (j : JT' x dx l k S s.heap) (hg : getF (k.map enc) [.str t] none = some .none) (hn : okSb t = true) (hv : okSb h = true) (hlen : k.length ≤ 100)
    (P : ∀ h' tk, Vw CH h' S env ρ → JT' x dx l (k ++ [(t, h)]) S h' → Live S h' → But [l] s.heap h' → Q (.bool false) { s with heap := h', toks := tk }) :
    wpAny (model PySem.Challenge.rw_tc0025_01.prog w) A (eval (.Call (.Attribute (.Name (Str.ofString "table") tp) (Str.ofString "setdefault") ap) [.Name (Str.ofString "text") q1, .Name (Str.ofString "hopped") q2] [] cp) env)
      (fun a s₁ => wpAny (model PySem.Challenge.rw_tc0025_01.prog w) A (eval (.Name (Str.ofString "hopped") q3) env) (fun b s₂ => wpAny (model PySem.Challenge.rw_tc0025_01.prog w) A (compareOp .NotEq a b) Q E s₂) E s₁) E s := by
  have W := wdT B
  have F := ev_sound W 3
  have e1 : ∀ p, ev GT 3 sc ρ (.Name (Str.ofString "text") p) = some (.str t) := fun p => ev_name (n := 2) (by kernel_rfl) rx
  have e2 : ∀ p, ev GT 3 sc ρ (.Name (Str.ofString "hopped") p) = some (.str h) := fun p => ev_name (n := 2) (by kernel_rfl) rh
  have ha : Mine.evAll (ev GT 3 sc ρ) [.Name (Str.ofString "text") q1, .Name (Str.ofString "hopped") q2] = some [.str t, .str h] := evAll2 (e1 _) (e2 _)
  rw [arm_eval_Call, hbase rfl]
  have load : ∀ {R : Value → Shared → Prop} {E' : Value → Shared → Prop}, R (.ref x) s → wpAny (model PySem.Challenge.rw_tc0025_01.prog w) A (eval (.Name (Str.ofString "table") tp) env) R E' s := fun hR => by
    rcases V.only _ _ rt with hk | hk
    · obtain ⟨m, nn, qx⟩ := V.ns
      obtain ⟨v, hv, r⟩ := qx _ _ rt hk
      rw [pin_val r] at hv
      exact wpAny_Name (wpAny_loadName_local V.kind hk nn hv hR) (by decide +kernel)
    · obtain ⟨c, ov, hc, hi, qx⟩ := V.cell _ hk
      obtain ⟨v, rfl, r⟩ := qx _ rt
      rw [pin_val r] at hi
      exact wpAny_Name (wpAny_loadName_cell V.kind hk hc hi hR) (by decide +kernel)
  refine wpAny_bind (load ?_)
  refine wpAny_bind (wpAny_standAt ?_)
  have hform : methodCallForm ([Expr.Name (Str.ofString "text") q1, Expr.Name (Str.ofString "hopped") q2].length + ([] : List Keyword).length) (backTo cp (starEach [.Name (Str.ofString "text") q1, .Name (Str.ofString "hopped") q2] env)) (backToKw cp (keywordEach [] env)) = true := by
    unfold methodCallForm
    rw [plain_all F ha]
    rfl
  have hpos : methodCallPos true (.Name (Str.ofString "table") tp) env ap cp = pure cp := by unfold methodCallPos; simp [hl]
  unfold methodCall
  rw [hform]
  unfold calleeOf
  rw [if_pos rfl]
  obtain ⟨us, T, hp⟩ := j
  refine wpAny_bind (wpAny_holding (getM B (m := Str.ofString "setdefault") (f := 175) (by kernel_rfl) (by kernel_rfl) (by kernel_rfl) (fun _ _ _ => by kernel_rfl) A s _ _ _ _ x dx l us _ hK T ?_))
  refine wpAny_bind (wpAny_of_eq hpos ?_)
  have F175 : FnAt (KB hB) 175 (fnObj (fdA w.params 175)) (fdA w.params 175) (bdA w.params 175) := fnAt B 175 (by kernel_rfl) (by kernel_rfl) (by kernel_rfl) (by kernel_rfl) (by kernel_rfl) (by kernel_rfl) (by kernel_rfl) (by kernel_rfl) (by kernel_rfl) (by kernel_rfl)
  refine Calls.callWith_function (o := fnObj (fdA w.params 175)) (fd := fdA w.params 175) (evalArgs_sound F W.ko ha he hK V lv rm fun vs s₁ k₁ r₁ => ?_)
  obtain ⟨v1, r1, rfl, ⟨ta, rfl⟩, v2, r2, rfl, ⟨tb, rfl⟩, rfl⟩ := r₁
  obtain ⟨h₁, tk₁, rfl, x₁⟩ := k₁
  replace x₁ : Ext0 s.heap h₁ := x₁
  have K₁ : KB hB h₁ := fun b o e => x₁ b o (hK b o e)
  refine ⟨⟨F175.get _ K₁, rfl⟩, ?_⟩
  refine setdef_sound B (s := { s with heap := h₁, toks := tk₁ }) K₁ (fun a ha => (lv.keeps x₁) a (List.mem_filter.mp ha).1) rm (T.ext fun b o _ e => x₁ b o e) (hp.at fun o e => x₁ _ o e) hg hn hv hlen fun h₂ tk₂ us₂ u₂ b₂ T₂ hp₂ => ?_
  replace b₂ : But [l] h₁ h₂ := b₂
  have V₂ : Vw CH h₂ S env ρ := (V.keeps x₁).but (wr := [l]) b₂ (fun b hb => by rw [List.mem_singleton.mp hb]; exact lS) (fun m => llo (List.mem_singleton.mp m)) fun y c hy hc m => lce y c hy hc (List.mem_singleton.mp m)
  have lv₂ : Live S h₂ := fun a ha => by
    by_cases q : a = l
    · subst q; obtain ⟨n, hq⟩ := hp₂; exact ⟨_, hq⟩
    · obtain ⟨o, ho⟩ := (lv.keeps x₁) a ha; exact ⟨o, b₂ a o (by simpa using q) ho⟩
  have K₂ : KB hB h₂ := fun b o e => b₂ b o (fun m => lk ⟨o, (List.mem_singleton.mp m) ▸ e⟩) (K₁ b o e)
  refine F.ev _ _ _ _ (e2 q3) env S A { s with heap := h₂, toks := tk₂ } _ _ he K₂ V₂ lv₂ rm fun vb s₃ k₃ rb => ?_
  obtain ⟨h₃, tk₃, rfl, x₃⟩ := k₃
  replace x₃ : Ext0 h₂ h₃ := x₃
  refine cmp_sound (C := CH) (S := S) (a := .str h) (b := .str h) (r := false) (rm.le (Nat.zero_le _)) (by show some (h != h) = _; simp) ⟨u₂, rfl⟩ rb ?_
  exact P h₃ tk₃ (V₂.keeps x₃) ⟨us₂, T₂.ext fun b o _ e => x₃ b o e, hp₂.at fun o e => x₃ _ o e⟩ (lv₂.keeps x₃) fun b o hb e => x₃ b o (b₂ b o hb (x₁ b o e))

noncomputable abbrev cD (cs : List Nat) : D := .list (cs.map fun c => .str ⟨#[c]⟩)
noncomputable def moreN (h : Str) (cs : List Nat) : Nat := (h.cps.toList.filter fun c => cs.any fun y => y == c).length
theorem pls_strs : ∀ cs : List Nat, pl.pls (cs.map fun c => PyData.str ⟨#[c]⟩) = true
  | [] => rfl
  | c :: cs => by
    show (pl _ && pl.pls _) = true
    rw [pls_strs cs]; rfl
theorem lay_strs : ∀ cs : List Nat, (∀ c ∈ cs, PyData.strOk ⟨#[c]⟩ = true) → PyData.canLayAll0 (cs.map fun c => PyData.str ⟨#[c]⟩) = true
  | [], _ => by rfl
  | c :: cs, h => by
    have h1 := lay_strs cs fun d hd => h d (.tail _ hd)
    have h2 := h c (.head _)
    simp [PyData.canLayAll0, PyData.canLay0, h1, h2]
theorem any_strs (c : Nat) : ∀ cs : List Nat, (cs.map fun c => PyData.str ⟨#[c]⟩).any (fun y => PyData.eqv y (.str ⟨#[c]⟩)) = cs.any fun y => y == c
  | [] => rfl
  | d :: cs => by
    rw [List.map_cons, List.any_cons, List.any_cons, any_strs c cs]
    congr 1
    show ((⟨#[d]⟩ : Str) == ⟨#[c]⟩) = (d == c)
    by_cases e : d = c
    · subst e; simp
    · have : (⟨#[d]⟩ : Str) ≠ ⟨#[c]⟩ := fun q => e (by simpa using q)
      rw [beq_eq_false_iff_ne.mpr this, beq_eq_false_iff_ne.mpr e]
theorem in_strs (c : Nat) (cs : List Nat) (hc : PyData.strOk ⟨#[c]⟩ = true) (hcs : ∀ c ∈ cs, PyData.strOk ⟨#[c]⟩ = true) : cmpD .In (.str ⟨#[c]⟩) (cD cs) = some (cs.any fun y => y == c) := by
  show (if _ then _ else _) = _
  rw [if_pos, any_strs]
  rw [show pl (.list (cs.map fun c => PyData.str ⟨#[c]⟩)) = pl.pls (cs.map fun c => PyData.str ⟨#[c]⟩) from rfl, pls_strs, lay_strs cs hcs]
  simp [PyData.canLay0, hc]
end
end Mine

namespace Mine
theorem src_str {G : Kn} {n : Nat} {sc : Scope} {ρ : Rho} {e : Expr} {x : Str} (hs : srcCall (ev G n sc ρ) sc e = none) (h : ev G n sc ρ e = some (.str x)) (hl : x.length ≤ small) : evSrc (ev G n sc ρ) sc e = some (.plain (strChars x)) := by
  unfold evSrc
  rw [hs, h]
  simp only [seqOf, if_pos hl]; rfl
noncomputable def encH (p : SP) : D := pr p
noncomputable abbrev rt0 (ws : List SP) (f : Int) (cs : List Nat) : Rho := rhoOf ([Str.ofString "words", Str.ofString "falls", Str.ofString "climbing"].zip [.list (ws.map pr), .int f, cD cs])
noncomputable abbrev rt1 (ws : List SP) (f : Int) (cs : List Nat) (x : Nat) : Rho := upd (rt0 ws f cs) (Str.ofString "table") (pinD x)
noncomputable abbrev rt2 (ws : List SP) (f : Int) (cs : List Nat) (x : Nat) (h t : Str) : Rho := upd (upd (rt1 ws f cs x) (Str.ofString "hopped") (.str h)) (Str.ofString "text") (.str t)
noncomputable def tRest (P : Params) : List Stmt := match tBody P with | [_, b, c] => [b, c] | _ => []

theorem run_rest {P : Params} {ws : List SP} {f fl : Int} {cs : List Nat} {x : Nat} {h t : Str} (hh : h.length ≤ small) (hok : ∀ c ∈ h.cps.toList, PyData.strOk ⟨#[c]⟩ = true) (hcs : ∀ c ∈ cs, PyData.strOk ⟨#[c]⟩ = true)
    (hf : fallsF [.str t] = some (.int fl)) (heq : fl = f + 2 * (moreN h cs : Nat) - (h.length : Nat)) :
    Ex GT (fdA P 227).scope (rt2 ws f cs x h t) (tRest P) (.next (upd (rt2 ws f cs x h t) (Str.ofString "more") (.int (moreN h cs : Nat)))) := by
  have e2 := small_is
  have hlc : h.cps.toList.length = h.length := by simp [Str.length]
  have hfl : (h.cps.toList.filter fun c => cs.any fun y => y == c).length ≤ h.length := by rw [← hlc]; exact List.length_filter_le _ _
  refine Ex.assign (n := 9) (d := .int (moreN h cs : Nat)) ?_ (by kernel_rfl) (.ifN (n := 9) (c := false) ?_ .nil .nil)
  · refine (ev_len (n := 8) (l := (h.cps.toList.filter fun c => cs.any fun y => y == c).map fun c => .str ⟨#[c]⟩) (by kernel_rfl) ?_ (by rw [List.length_map]; omega)).trans (by rw [List.length_map]; rfl)
    refine ev_comp (n := 7) (src := .plain (strChars h)) (by kernel_rfl) (by kernel_rfl) (by rfl) (src_str (by rfl) (ev_name (n := 6) (by kernel_rfl) (by kernel_rfl)) hh) (by rfl) (by show (strChars h).length ≤ _; rw [strChars_len]; exact hh) ?_
    refine turns_if (p := fun c => cs.any fun y => y == c) fun c hc => ?_
    exact turn_if (by kernel_rfl) (evT_cmp (n := 6) (a := .str ⟨#[c]⟩) (b := cD cs) (by rfl) (by kernel_rfl) (by kernel_rfl) (in_strs c cs (hok c hc) hcs)) fun _ => by kernel_rfl
  · refine evT_cmp (n := 8) (a := .int fl) (b := .int (f + 2 * (moreN h cs : Nat) - (h.length : Nat))) (by rfl) (ev_fn (n := 7) (ds := [.str t]) (by kernel_rfl) (by kernel_rfl) (by kernel_rfl) (by kernel_rfl) (evAll1 (by kernel_rfl)) (by exact hf)) ?_ (by rw [heq]; show some ((_ : Int) != _) = some false; simp)
    refine ev_bin (n := 7) (a := .int (f + 2 * (moreN h cs : Nat))) (b := .int (h.length : Nat)) (by kernel_rfl) (ev_bf (n := 6) (k := .len) (ds := [.str h]) (by kernel_rfl) (by kernel_rfl) (by kernel_rfl) (by kernel_rfl) (evAll1 (by kernel_rfl)) ?_) (by kernel_rfl)
    show (if h.length ≤ small then some (PyData.int (h.length : Nat)) else none) = _
    rw [if_pos hh]
section
variable {w : World} {mg mb : Str → Option Value} {hB : Heap}
theorem tBody_SJ (B : Base w mg mb hB) {ws : List SP} {f fl : Int} {cs : List Nat} {x dx l : Nat} {k : List SP} {h t : Str} (hh : h.length ≤ small) (hok : ∀ c ∈ h.cps.toList, PyData.strOk ⟨#[c]⟩ = true) (hcs : ∀ c ∈ cs, PyData.strOk ⟨#[c]⟩ = true)
    (hf : fallsF [.str t] = some (.int fl)) (heq : fl = f + 2 * (moreN h cs : Nat) - (h.length : Nat)) (hg : getF (k.map enc) [.str t] none = some .none) (hn : okSb t = true) (hv : okSb h = true) (hlen : k.length ≤ 100) :
    SJ PySem.Challenge.rw_tc0025_01.prog w CH (KB hB) (kB hB) 3 (fdA w.params 227).scope [l] (JT' x dx l k) (JT' x dx l (k ++ [(t, h)])) (rt2 ws f cs x h t) (tBody w.params) (.next (rt1 ws f cs x)) := by
  intro env S own A s Q E he O ho hx hoK hxk hne hce hK V j lv rm Po
  refine wpAny_execs_cons (wpAny_If (wpAny_isTrue_Compare1 ?_ rfl))
  refine set_test B (by kernel_rfl) (by kernel_rfl) (by kernel_rfl) he hK V lv rm (hx _ (.head _)) (hxk _ (.head _)) (fun q => hne _ O.loc (by rw [q]; exact .head _)) (fun y c hy hc q => hce y c hy hc (by rw [q]; exact .head _)) (by rfl) j hg hn hv hlen fun h₁ tk₁ V₁ j₁ lv₁ b₁ => ?_
  refine tru_sound (C := CH) (S := S) (d := .bool false) rfl rfl fun s₂ k₂ => ?_
  simp only [Bool.false_eq_true, if_false]
  refine wpAny_execs_nil ?_
  obtain ⟨h₂, tk₂, rfl, x₂⟩ := k₂
  replace x₂ : Ext0 h₁ h₂ := x₂
  have bx : But (own ++ [l]) s.heap h₂ := fun b o hb e => x₂ b o (b₁ b o (fun m => hb (List.mem_append.mpr (.inr m))) e)
  have j₂ : JT' x dx l (k ++ [(t, h)]) S h₂ := JT_ok.frame _ _ _ j₁ fun b o _ e => x₂ b o e
  have K₂ : KB hB h₂ := fun b o e => x₂ b o (b₁ b o (fun m => hxk _ m ⟨o, e⟩) (hK b o e))
  refine (ex_sound (wdT B) (run_rest (P := w.params) hh hok hcs hf heq)).toJ JT_ok env S own A _ _ _ he O ho hx hoK hxk hne hce K₂ (V₁.keeps x₂) j₂ (lv₁.keeps x₂) rm fun h₃ tk₃ V₃ j₃ lv₃ b₃ => ?_
  refine Po h₃ tk₃ (V₃.mono fun y d hy => ?_) j₃ lv₃ fun b o hb e => b₃ b o hb (bx b o hb e)
  exact upd_mono (by kernel_rfl) _ _ (upd_mono (by kernel_rfl) _ _ (upd_mono (by kernel_rfl) _ _ hy))
end
end Mine

set_option genInjectivity false
set_option genSizeOf false
set_option genSizeOfSpec false
namespace Mine
noncomputable def sw (p : SP) : SP := (p.2, p.1)
/-- what _law_table asks of the words, one by one -/
structure TOk (f : Int) (cs : List Nat) (k : List SP) (h t : Str) : Prop where
  hh : h.length ≤ small
  ok : ∀ c ∈ h.cps.toList, PyData.strOk ⟨#[c]⟩ = true
  fl : fallsF [.str t] = some (.int (f + 2 * (moreN h cs : Nat) - (h.length : Nat)))
  g : getF (k.map enc) [.str t] none = some .none
  n : okSb t = true
  v : okSb h = true
section
variable {w : World} {mg mb : Str → Option Value} {hB : Heap}
theorem table_SOK (B : Base w mg mb hB) {ws : List SP} {f : Int} {cs : List Nat} (hlen : ws.length ≤ 100) (hcs : ∀ c ∈ cs, PyData.strOk ⟨#[c]⟩ = true)
    (hall : ∀ i h t, ws[i]? = some (h, t) → TOk f cs ((ws.take i).map sw) h t) :
    SOK PySem.Challenge.rw_tc0025_01.prog w CH (KB hB) (kB hB) 3 (fdA w.params 227).scope (rt0 ws f cs) (bdA w.params 227) (.ret (.dict ((ws.map sw).map enc))) := by
  intro env S own A s Q E he O ho hok hK V lv rm Po
  have W := wdT B
  have e2 := small_is
  refine wpAny_execs_cons (wpAny_Assign_Name (Call_ (glob_load W (sc := (fdA w.params 227).scope) (v := .ref 185) (by kernel_rfl) (by kernel_rfl) he hK V (.inl (mgA B (by kernel_rfl))) ?_)) rfl)
  refine callWith_of (P := fun h => (KP w.params).In h) (by rfl) (keeps_K (by kernel_rfl)) (PyProof.Rows.evalArgs_none ⟨B.k.keeps hK, ?_⟩)
  refine make_tab B (S := S) hK lv (rm.le (by decide)) fun h₁ tk₁ x dx l x₁ T xf dxf lf lx ldx dxx hp => ?_
  have lS : l ∉ S := lv.fresh lf
  have lo' : l ∉ own := fun m => lS (ho _ m)
  have wk : ∀ b ∈ l :: S, b ∈ S ∨ s.heap.get? b = none := fun b hb => by
    rcases List.mem_cons.mp hb with rfl | hb
    · exact .inr lf
    · exact .inl hb
  have V1 := (V.weak wk).keeps x₁
  have ho1 : ∀ b ∈ own, b ∈ l :: S := fun b hb => .tail _ (ho b hb)
  refine store_sound (d := pinD x) O ho1 V1 (.inl ⟨x, rfl, rfl⟩) (by kernel_rfl) fun h₂ tk₂ V₂ b₂ => ?_
  replace b₂ : But own h₁ h₂ := b₂
  have bb : But own s.heap h₂ := fun b o hb e => b₂ b o hb (x₁ b o e)
  have K₂ : KB hB h₂ := W.ko.keep _ _ hK fun b o ka e => bb b o (fun m => hok b m ka) e
  have fS : ∀ {S' : List Addr}, (∀ b ∈ S', b ∈ l :: S) → ∀ a ∈ S'.filter fun a => decide (a ≠ l), a ∈ S := fun hs a ha => by
    obtain ⟨h1, h2⟩ := List.mem_filter.mp ha
    rcases List.mem_cons.mp (hs a h1) with e | m
    · exact absurd e (by simpa using h2)
    · exact m
  have hp₂ : h₂.PlainList l #[] := hp.at fun o e => b₂ _ o lo' e
  have T₂ : Tab CH h₂ S [] x dx l [] := T.ext fun b o hb e => b₂ b o (fun m => hb (ho _ m)) e
  have j₂ : JT' x dx l (([] : List SP)) (l :: S) h₂ := ⟨[], T₂.weak fun a ha => .inl (fS (fun _ h => h) a ha), hp₂⟩
  have lv₂ : Live (l :: S) h₂ := fun b hb => by
    by_cases q : b ∈ own
    · exact V₂.ownLive O b q
    · rcases List.mem_cons.mp hb with rfl | hb
      · exact JT_ok.live _ _ j₂ _ (.head _)
      · obtain ⟨o, ho'⟩ := lv b hb; exact ⟨o, bb b o q ho'⟩
  have cellsNe : ∀ y c, env.kindOf y = some .cell → env.cells.lookup y = some c → c ∉ [l] := fun y c hy hc m => by
    rw [List.mem_singleton.mp m] at hc
    obtain ⟨c', ov, hc', ⟨o, ho', _⟩, _⟩ := V.cell y hy
    rw [hc] at hc'; cases hc'
    rw [lf] at ho'; cases ho'
  refine wpAny_execs_cons (exec_of_execs ?_)
  let hpf : Nat → SP := fun i => (ws[i]?).getD (⟨#[]⟩, ⟨#[]⟩)
  have hpi : ∀ i, i < ws.length → ws[i]? = some (hpf i) := fun i hi => by
    show ws[i]? = some ((ws[i]?).getD _)
    rw [List.getElem?_eq_getElem hi]; rfl
  refine for_soundJ (ex := [l]) (J' := JT' x dx l (ws.map sw)) (f := .next (rt1 ws f cs x)) W (n := 3) (src := .plain (ws.map pr))
    (fun _ => rt1 ws f cs x) (fun i => rt2 ws f cs x (hpf i).1 (hpf i).2) (fun i => JT' x dx l ((ws.take i).map sw)) (fun i => JT_ok) ws.length
    ?hset ?src ?hfit (by simp [Src.items]) ?bt ?body (.inl ⟨by simp [Src.items], ?fin⟩) env (l :: S) own A _ _ E he O ho1 (fun b hb => by rw [List.mem_singleton.mp hb]; exact .head _) hok (fun b hb ka => ?ka) (fun b hb m => ?ne) cellsNe K₂ V₂ j₂ lv₂ rm (fun h₃ tk₃ V₃ j₃ lv₃ b₃ => ?post)
  case hset => rfl
  case hfit => rfl
  case src =>
    refine src_plain (by rfl) (ev_name (n := 2) (by kernel_rfl) (by kernel_rfl)) (by rw [List.length_map]; omega)
  case bt =>
    intro i d hi hd
    have hg := hpi i hi
    simp only [Src.items, List.getElem?_map, hg] at hd
    cases hd
    kernel_rfl
  case body =>
    intro i hi
    have hc := hall i (hpf i).1 (hpf i).2 (hpi i hi)
    have : (ws.take (i + 1)).map sw = (ws.take i).map sw ++ [((hpf i).2, (hpf i).1)] := by rw [List.take_add_one, hpi i hi, List.map_append]; rfl
    rw [this]
    exact tBody_SJ B hc.hh hc.ok hcs hc.fl rfl hc.g hc.n hc.v (by rw [List.length_map, List.length_take]; omega)
  case fin =>
    intro env S own A s' Q E he O ho hx hok hxk hne hce hK V j lv rm Po
    rw [show ws.take ws.length = ws from List.take_length] at j
    exact wpAny_execs_nil (Po _ _ V j lv fun _ _ _ q => q)
  case ka =>
    rw [List.mem_singleton.mp hb] at ka
    obtain ⟨o, ho'⟩ := ka
    rw [none_back hK lf] at ho'; cases ho'
  case ne => rw [List.mem_singleton.mp m] at hb; exact lo' hb
  case post =>
    replace b₃ : But (own ++ [l]) h₂ h₃ := b₃
    obtain ⟨us, T₃, hp₃⟩ := j₃
    have b30 : But own s.heap h₃ := fun b o hb q => b₃ b o (fun m => (List.mem_append.mp m).elim hb fun m => by rw [List.mem_singleton.mp m, lf] at q; cases q) (bb b o hb q)
    have wk3 : ∀ a ∈ S, a ∈ (l :: S).filter (fun a => decide (a ≠ l)) := fun a ha => List.mem_filter.mpr ⟨.tail _ ha, by rw [decide_eq_true_eq]; intro e; exact lS (e ▸ ha)⟩
    have T₄ : Tab CH h₃ S ((ws.map sw).map enc) x dx l us := T₃.weak fun a ha => .inl (wk3 a ha)
    have V₄ : Vw CH h₃ S env (rt1 ws f cs x) := V₃.weak fun a ha => .inl (.tail _ ha)
    have lv₄ : Live S h₃ := fun a ha => lv₃ a (.tail _ ha)
    have K₃ : KB hB h₃ := W.ko.keep _ _ hK fun b o ka q => b30 b o (fun m => hok b m ka) q
    have V₅ := V₄.recast (x := Str.ofString "table") (a := x) (d := .dict ((ws.map sw).map enc)) (by kernel_rfl) (.inr ⟨x, dx, l, us, rfl, T₄⟩)
    refine wpAny_execs_cons (wpAny_Return_some ((ev_sound W 3).ev (fdA w.params 227).scope _ _ (.dict ((ws.map sw).map enc)) (ev_name (n := 2) (by kernel_rfl) (by kernel_rfl)) env S A _ _ _ he K₃ V₅ lv₄ rm fun v s₅ k₅ r₅ => ?_))
    obtain ⟨h₅, tk₅, rfl, x₅⟩ := k₅
    exact Po v h₅ tk₅ r₅ (lv₄.keeps x₅) fun b o hb q => x₅ b o (b30 b o hb q)

noncomputable def decW : List D → Option (List SP)
  | [] => some []
  | .tuple [.str a, .str b] :: r => (decW r).map ((a, b) :: ·)
  | _ :: _ => none
theorem decW_eq : ∀ {ts : List D} {l : List SP}, decW ts = some l → ts = l.map pr
  | [], _, h => by cases h; rfl
  | t :: r, l, h => by
    unfold decW at h
    split at h
    · rename_i q; cases q
    · rename_i q
      cases q
      cases hr : decW r with
      | none => rw [hr] at h; cases h
      | some l' => rw [hr] at h; cases h; rw [List.map_cons, ← decW_eq hr]; rfl
    · cases h
noncomputable def decC : List D → Option (List Nat)
  | [] => some []
  | .str x :: r => match x.cps.toList, decC r with
    | [c], some l => some (c :: l)
    | _, _ => none
  | _ :: _ => none
theorem decC_eq : ∀ {ts : List D} {l : List Nat}, decC ts = some l → ts = l.map fun c => .str ⟨#[c]⟩
  | [], _, h => by cases h; rfl
  | t :: r, l, h => by
    unfold decC at h
    split at h
    · rename_i q; cases q
    · rename_i q
      cases q
      split at h
      · rename_i hx hr
        cases h
        rw [List.map_cons, ← decC_eq hr, str_of_list hx]
      · cases h
    · cases h
noncomputable def isNone : Option D → Bool
  | some .none => true
  | _ => false
theorem isNone_eq {o : Option D} (h : isNone o = true) : o = some .none := by
  unfold isNone at h
  split at h
  · rfl
  · cases h
noncomputable def intIs : Option D → Int → Bool
  | some (.int i), j => decide (i = j)
  | _, _ => false
theorem intIs_eq {o : Option D} {j : Int} (h : intIs o j = true) : o = some (.int j) := by
  unfold intIs at h
  split at h
  · rw [of_decide_eq_true h]
  · cases h
noncomputable def tokB (f : Int) (cs : List Nat) (k : List SP) (h t : Str) : Bool :=
  decide (h.length ≤ small) && h.cps.toList.all (fun c => PyData.strOk ⟨#[c]⟩) && intIs (fallsF [.str t]) (f + 2 * (moreN h cs : Nat) - (h.length : Nat)) && isNone (getF (k.map enc) [.str t] none) && okSb t && okSb h
theorem tokB_ok {f : Int} {cs : List Nat} {k : List SP} {h t : Str} (e : tokB f cs k h t = true) : TOk f cs k h t := by
  unfold tokB at e
  simp only [Bool.and_eq_true, decide_eq_true_eq] at e
  obtain ⟨⟨⟨⟨⟨e1, e2⟩, e3⟩, e4⟩, e5⟩, e6⟩ := e
  exact ⟨e1, fun c hc => List.all_eq_true.mp e2 c hc, intIs_eq e3, isNone_eq e4, e5, e6⟩
noncomputable def tabB (f : Int) (cs : List Nat) : List SP → List SP → Bool
  | _, [] => true
  | k, (h, t) :: r => tokB f cs k h t && tabB f cs (k ++ [(t, h)]) r
theorem tabB_ok {f : Int} {cs : List Nat} : ∀ {r k : List SP}, tabB f cs k r = true → ∀ i h t, r[i]? = some (h, t) → TOk f cs (k ++ (r.take i).map sw) h t
  | [], _, _, i, h, t, e => by simp at e
  | (h', t') :: r, k, hb, i, h, t, e => by
    unfold tabB at hb
    rw [Bool.and_eq_true] at hb
    cases i with
    | zero => simp at e; obtain ⟨rfl, rfl⟩ := e; simpa using tokB_ok hb.1
    | succ i =>
      have := tabB_ok hb.2 i h t (by simpa using e)
      simpa [sw] using this
noncomputable def tableF : List D → Option D
  | [.list ws, .int f, .list cl] => match decW ws, decC cl with
    | some ws, some cs => if ws.length ≤ 100 ∧ (cs.all fun c => PyData.strOk ⟨#[c]⟩) = true ∧ tabB f cs [] ws = true then some (.dict ((ws.map sw).map enc)) else none
    | _, _ => none
  | _ => none
theorem table_C (B : Base w mg mb hB) : FnC w CH hB mg 4 (Str.ofString "_law_table") tableF where
  ok := fun ds d h => ⟨227, fnObj (fdA w.params 227), fdA w.params 227, mgA B (by kernel_rfl), rfl, fun h' k => k _ _ (B.k _ _ (by kernel_rfl)), fun A s S vs Q E hK lv rm r hQ => by
    have W := wdT B
    unfold tableF at h
    split at h
    · rename_i wd f cl
      split at h
      · rename_i ws cs hw hc
        split at h
        · rename_i hcond
          cases h
          have e1 := decW_eq hw
          have e2 := decC_eq hc
          subst e1 e2
          obtain ⟨v, r', rfl, rv, v', r'', rfl, rv', v'', r''', rfl, rv'', rfl⟩ := r
          have F : FnAt (KB hB) 227 (fnObj (fdA w.params 227)) (fdA w.params 227) (bdA w.params 227) := fnAt B 227 (by kernel_rfl) (by kernel_rfl) (by kernel_rfl) (by kernel_rfl) (by kernel_rfl) (by kernel_rfl) (by kernel_rfl) (by kernel_rfl) (by kernel_rfl) (by kernel_rfl)
          refine frame_sound (dp := 3) W.ko F (args := ⟨[v, v', v''], []⟩) (ps := [Str.ofString "words", Str.ofString "falls", Str.ofString "climbing"]) (ds := [.list (ws.map pr), .int f, cD cs]) (vs := [v, v', v'']) (by kernel_rfl) rfl (by decide +kernel) (fun x hx => ?_) hK lv rm ⟨v, _, rfl, rv, v', _, rfl, rv', v'', _, rfl, rv'', rfl⟩ fun env S' own s₁ k₁ e1 O oS ownf sS V lv' => ?_
          · simp only [List.mem_cons, List.not_mem_nil, or_false] at hx
            rcases hx with rfl | rfl | rfl
            · exact .inl (by kernel_rfl)
            · exact .inl (by kernel_rfl)
            · exact .inr (by kernel_rfl)
          · refine table_SOK B hcond.1 (fun c hc => List.all_eq_true.mp hcond.2.1 c hc) (fun i h t e => by simpa using tabB_ok hcond.2.2 i h t e) env S' own _ s₁ _ _ e1 O oS (fun b hb ⟨o, ho⟩ => ?_) (W.ko.keeps hK (KX k₁)) V lv' (rm.deeper env) fun v h' tk rv lv'' bb => ?_
            · have := hK _ _ ho
              rw [ownf b hb] at this; cases this
            · obtain ⟨h₁, tk₁, rfl, x₁⟩ := k₁
              exact hQ v _ ⟨h', tk, rfl, fun b o e => bb b o (fun m => by rw [ownf b m] at e; cases e) (x₁ b o e)⟩ (rv.weak fun b hb => .inl (sS b hb))
        · cases h
      · cases h
    · cases h⟩
end
end Mine

namespace Mine
theorem ite_up {c n a b : Nat} (h : a < b) : (if c < a then n else 0) ≤ (if c < b then n else 0) := by
  by_cases q : c < a
  · rw [if_pos q, if_pos (Nat.lt_trans q h)]; exact Nat.le_refl _
  · rw [if_neg q]; exact Nat.zero_le _
theorem code_up (a b : Nat) (h : a < b) : code a < code b := Nat.add_lt_add_of_lt_of_le (Nat.add_lt_add_of_lt_of_le (Nat.add_lt_add_left h 33) (ite_up h)) (ite_up h)
theorem code_lt {a b : Nat} (h : a < b) (_ : b < 65) : code a < code b := code_up a b h
theorem code_okB : (List.range 65).all (fun a => decide (33 ≤ code a ∧ code a ≤ 124 ∧ code a ≠ 46)) = true := by decide +kernel
theorem code_ok {a : Nat} (h : a < 65) : 33 ≤ code a ∧ code a ≤ 124 ∧ code a ≠ 46 := of_decide_eq_true (List.all_eq_true.mp code_okB a (List.mem_range.mpr h))
theorem range_pick {l : List D} : ∀ (k n : Nat), n + k ≤ l.length → ((List.range k).map fun i => n + i).filterMap (l[·]?) = (l.drop n).take k
  | 0, n, _ => by simp
  | k + 1, n, h => by
    rw [List.range_succ, List.map_append, List.filterMap_append, range_pick k n (by omega), List.take_add_one, List.getElem?_drop]
    have : l[n + k]? = some l[n + k] := List.getElem?_eq_getElem (by omega)
    simp [this]
theorem sliceRange_nat (a b : Nat) : sliceRange (a : Int) (b : Int) 1 = (List.range (b - a)).map fun i => a + i := by
  unfold sliceRange
  rw [if_pos (by decide)]
  have e : (if (a : Int) < b then ((b : Int) - a + 1 - 1) / 1 else 0).toNat = b - a := by
    split
    · rw [Int.ediv_one]; omega
    · omega
  simp only [e]
  refine List.map_congr_left fun i _ => ?_
  omega
theorem kms_hi_le (hi : Option Int) (n : Nat) : kms_hi hi n ≤ n := by
  unfold kms_hi
  split
  · exact Nat.le_refl _
  · split <;> omega
theorem pickD_eq (l : List D) (lo hi : Option Int) : pickD l lo hi none = (l.drop (kms_lo lo l.length)).take (kms_hi hi l.length - kms_lo lo l.length) := by
  unfold pickD
  rw [kms_bounds]
  show (sliceRange _ _ 1).filterMap _ = _
  rw [sliceRange_nat]
  by_cases h : kms_lo lo l.length ≤ kms_hi hi l.length
  · exact range_pick _ _ (by have := kms_hi_le hi l.length; omega)
  · rw [show kms_hi hi l.length - kms_lo lo l.length = 0 by omega]; simp
theorem kms_nat (k n : Nat) : kms_hi (some (k : Int)) n = min k n ∧ kms_lo (some (k : Int)) n = min k n := by
  have h : ¬ (k : Int) < 0 := by omega
  constructor
  · simp only [kms_hi, h, if_false, Int.toNat_natCast]
  · simp only [kms_lo, h, if_false, Int.toNat_natCast]
theorem pickD_take (l : List D) (k : Nat) : pickD l none (some (k : Int)) none = l.take k := by
  rw [pickD_eq, (kms_nat k l.length).1]
  show (l.drop 0).take (min k l.length - 0) = _
  rw [List.drop_zero]
  by_cases h : k ≤ l.length
  · rw [Nat.min_eq_left h]; rfl
  · rw [Nat.min_eq_right (by omega)]
    show l.take l.length = _
    rw [List.take_length, List.take_of_length_le (by omega)]
theorem pickD_drop (l : List D) (k : Nat) : pickD l (some (k : Int)) none none = l.drop k := by
  rw [pickD_eq, (kms_nat k l.length).2]
  show (l.drop (min k l.length)).take (l.length - min k l.length) = _
  by_cases h : k ≤ l.length
  · rw [Nat.min_eq_left h, List.take_of_length_le (by rw [List.length_drop]; exact Nat.le_refl _)]
  · rw [Nat.min_eq_right (by omega), List.drop_eq_nil_of_le (Nat.le_refl _), List.drop_eq_nil_of_le (by omega), List.take_nil]
end Mine

namespace Mine
/-- what law calls -/
noncomputable abbrev GL : Kn := Gk [(Str.ofString "_law_sign", signF), (Str.ofString "_strcoll", collF), (Str.ofString "_law_sides", sidesF), (Str.ofString "_law_words", wordsF), (Str.ofString "_law_falls", fallsF), (Str.ofString "_law_first_unlike", firstF), (Str.ofString "_law_orders", ordersF), (Str.ofString "_law_table", tableF)]
  [(Str.ofString "keys", keysF), (Str.ofString "get", getF)] []
section
variable {w : World} {mg mb : Str → Option Value} {hB : Heap}
theorem wdL (B : Base w mg mb hB) : Wd PySem.Challenge.rw_tc0025_01.prog w CH GL (KB hB) (kB hB) mg 4 :=
  wd_of B (fun p hp => by
    simp only [List.mem_cons, List.not_mem_nil, or_false] at hp
    rcases hp with rfl | rfl | rfl | rfl | rfl | rfl | rfl | rfl
    · exact (sign_C B).up (by decide)
    · exact (coll_C B (hdC B)).up (by decide)
    · exact (sides_C B (hdC B)).up (by decide)
    · exact (words_C B (hdC B)).up (by decide)
    · exact (falls_C B).up (by decide)
    · exact (first_C B).up (by decide)
    · exact (orders_C B).up (by decide)
    · exact table_C B) (fun p hp => by
    simp only [List.mem_cons, List.not_mem_nil, or_false] at hp
    rcases hp with rfl | rfl
    · exact (keys_C B).up (by decide)
    · exact (get_C B).up (by decide)) (by simp) (hdC B)
end
noncomputable abbrev intsD (l : List Int) : D := .list (l.map .int)
noncomputable abbrev rl0 (ns : List Int) : Rho := rhoOf ([Str.ofString "script"].zip [intsD ns])
noncomputable def drawnL (ns : List Int) : List Int := (ns.take 5).map fun n => n.fmod (10 ^ 6)
noncomputable def numsL (ns : List Int) : List Int := drawnL ns ++ ([2, 4, 1, 3, 5] : List Int).drop (drawnL ns).length
theorem ev_slu {G : Kn} {n : Nat} {sc : Scope} {ρ : Rho} {v hi : Expr} {sp p : Pos} {d r : D} {j : Int} (h1 : ev G n sc ρ v = some d) (h3 : ev G n sc ρ hi = some (.int j)) (h : slD d none (some j) = some r) :
    ev G (n + 1) sc ρ (.Subscript v (.Slice none (some hi) none sp) p) = some r := by
  (rw [ev_succ]; delta evStep evSub; dsimp only; simp only [h1, evOptI, h3, h])
theorem ev_sll {G : Kn} {n : Nat} {sc : Scope} {ρ : Rho} {v lo : Expr} {sp p : Pos} {d r : D} {j : Int} (h1 : ev G n sc ρ v = some d) (h3 : ev G n sc ρ lo = some (.int j)) (h : slD d (some j) none = some r) :
    ev G (n + 1) sc ρ (.Subscript v (.Slice (some lo) none none sp) p) = some r := by
  (rw [ev_succ]; delta evStep evSub; dsimp only; simp only [h1, evOptI, h3, h])
noncomputable def lS (P : Params) (i : Nat) : List Stmt := (bdA P 237).drop i
theorem run_drawn {P : Params} {ns : List Int} {f : Fl} (hl : ns.length ≤ 63) (h : Ex GL (fdA P 237).scope (upd (rl0 ns) (Str.ofString "drawn") (intsD (drawnL ns))) (lS P 1) f) : Ex GL (fdA P 237).scope (rl0 ns) (bdA P 237) f := by
  have e2 := small_is
  have ht : (ns.take 5).length ≤ 5 := by rw [List.length_take]; omega
  refine Ex.assign (n := 9) (d := intsD (drawnL ns)) ?_ (by kernel_rfl) h
  refine (ev_comp (n := 8) (src := .plain ((ns.take 5).map .int)) (by kernel_rfl) (by kernel_rfl) (by rfl) (src_plain (by rfl) ?_ (by rw [List.length_map]; omega)) (by rfl) (by show ((ns.take 5).map PyData.int).length ≤ _; rw [List.length_map]; omega) (turns_map (g := fun n => .int (n.fmod (10 ^ 6))) fun n _ => ?_)).trans (by simp only [drawnL, intsD, List.map_map]; rfl)
  · refine ev_slu (n := 7) (d := intsD ns) (j := 5) (ev_name (n := 6) (by kernel_rfl) (by kernel_rfl)) (by kernel_rfl) ?_
    show (if (ns.map PyData.int).length ≤ small then some (PyData.list (pickD (ns.map PyData.int) none (some 5) none)) else none) = _
    rw [if_pos (by rw [List.length_map]; omega)]
    have := pickD_take (ns.map PyData.int) 5
    rw [show ((5 : Nat) : Int) = 5 from rfl] at this
    rw [this, List.map_take]
  · exact turn_no (by kernel_rfl) (by kernel_rfl)
noncomputable abbrev rl1 (ns : List Int) : Rho := upd (rl0 ns) (Str.ofString "drawn") (intsD (drawnL ns))
noncomputable abbrev rl2 (ns : List Int) : Rho := upd (rl1 ns) (Str.ofString "numbers") (intsD (numsL ns))
theorem run_nums {P : Params} {ns : List Int} {f : Fl} (hl : ns.length ≤ 63) (h : Ex GL (fdA P 237).scope (rl2 ns) (lS P 2) f) : Ex GL (fdA P 237).scope (rl1 ns) (lS P 1) f := by
  have e2 := small_is
  have ht : (drawnL ns).length ≤ 5 := by unfold drawnL; rw [List.length_map, List.length_take]; omega
  refine Ex.assign (n := 9) (d := intsD (numsL ns)) ?_ (by kernel_rfl) h
  refine (ev_addl (n := 8) (a := (drawnL ns).map .int) (b := (([2, 4, 1, 3, 5] : List Int).drop (drawnL ns).length).map .int) (ev_name (n := 7) (by kernel_rfl) (by kernel_rfl)) ?_ (by simp only [List.length_map, List.length_drop, List.length_cons, List.length_nil]; omega)).trans (by simp only [numsL, intsD, List.map_append])
  refine ev_sll (n := 7) (d := intsD [2, 4, 1, 3, 5]) (j := ((drawnL ns).length : Nat)) (by kernel_rfl) ((ev_len (n := 6) (l := (drawnL ns).map .int) (by kernel_rfl) (ev_name (n := 5) (by kernel_rfl) (by kernel_rfl)) (by rw [List.length_map]; omega)).trans (by rw [List.length_map])) ?_
  show (if 5 ≤ small then some (PyData.list (pickD (([2, 4, 1, 3, 5] : List Int).map PyData.int) (some ((drawnL ns).length : Nat)) none none)) else none) = _
  rw [if_pos (by omega), pickD_drop, List.map_drop]
end Mine

namespace Mine
noncomputable def idx : Nat → List Int → List (Nat × Int)
  | _, [] => []
  | i, x :: r => (i, x) :: idx (i + 1) r
theorem enum_idx : ∀ (i : Nat) (l : List Int), enumD i (l.map .int) = (idx i l).map fun p => .tuple [.int (p.1 : Nat), .int p.2]
  | _, [] => rfl
  | i, x :: r => by
    show PyData.tuple _ :: enumD (i + 1) (r.map .int) = _
    rw [enum_idx (i + 1) r]; rfl
theorem idx_len : ∀ (i : Nat) (l : List Int), (idx i l).length = l.length
  | _, [] => rfl
  | i, x :: r => by
    show (idx (i + 1) r).length + 1 = _
    rw [idx_len (i + 1) r]; rfl
noncomputable def ranksL (l : List Int) : List Int := (idx 0 l).map fun p => 5 * p.2.fmod 13 + (p.1 : Nat)
noncomputable abbrev rl3 (ns : List Int) : Rho := upd (rl2 ns) (Str.ofString "ranks") (intsD (ranksL (numsL ns)))
theorem src_enum {G : Kn} {n : Nat} {sc : Scope} {ρ : Rho} {gp np cp : Pos} {x : Str} {l : List D} (hg : isGlob sc (Str.ofString "enumerate") = true) (h : ev G n sc ρ (.Name x np) = some (.list l)) (hl : l.length ≤ small) :
    evSrc (ev G n sc ρ) sc (.Call (.Name (Str.ofString "enumerate") gp) [.Name x np] [] cp) = some (.pairs (enumD 0 l)) := by
  unfold evSrc srcCall
  have e1 : sk (Str.ofString "enumerate") = some .enumerate := by kernel_rfl
  simp only [hg, e1, Mine.evAll, h, if_true, Option.map_some]
  exact if_pos hl
theorem run_ranks {P : Params} {ns : List Int} {f : Fl} (hl : (numsL ns).length = 5) (h : Ex GL (fdA P 237).scope (rl3 ns) (lS P 3) f) : Ex GL (fdA P 237).scope (rl2 ns) (lS P 2) f := by
  have e2 := small_is
  refine Ex.assign (n := 9) (d := intsD (ranksL (numsL ns))) ?_ (by kernel_rfl) h
  refine (ev_comp (n := 8) (src := .pairs ((idx 0 (numsL ns)).map fun p => .tuple [.int (p.1 : Nat), .int p.2])) (by kernel_rfl) (by kernel_rfl) (by rfl) ?_ (by rfl) (by show ((idx 0 (numsL ns)).map _).length ≤ _; rw [List.length_map, idx_len]; omega)
    (turns_map (g := fun p => .int (5 * p.2.fmod 13 + (p.1 : Nat))) fun p _ => turn_no (by kernel_rfl) (by kernel_rfl))).trans (by simp only [ranksL, intsD, List.map_map]; rfl)
  rw [← enum_idx]
  exact src_enum (by kernel_rfl) (ev_name (n := 7) (by kernel_rfl) (by kernel_rfl)) (by rw [List.length_map]; omega)
end Mine

namespace Mine
noncomputable abbrev wordS (a b c d e : Nat) : Str := ⟨#[code a, code b, code c, code d, code e]⟩
theorem join_word (a b c d e : Nat) : callM .join ⟨#[]⟩ [.list ([a, b, c, d, e].map fun k => .str ⟨#[code k]⟩)] = some (.str (wordS a b c d e)) := by kernel_rfl
theorem run_word {P : Params} {ρ : Rho} {a b c d e : Nat} {f : Fl} (hr : ρ (Str.ofString "ranks") = some (intsD ([a, b, c, d, e].map Int.ofNat))) (hk : ∀ k ∈ [a, b, c, d, e], k < 65) (h : Ex GL (fdA P 237).scope (upd ρ (Str.ofString "word") (.str (wordS a b c d e))) (lS P 4) f) :
    Ex GL (fdA P 237).scope ρ (lS P 3) f := by
  have e2 := small_is
  refine Ex.assign (n := 9) (d := .str (wordS a b c d e)) ?_ (by kernel_rfl) h
  refine ev_meth (n := 8) (x := ⟨#[]⟩) (ds := [.list ([a, b, c, d, e].map fun k => .str ⟨#[code k]⟩)]) (k := .join) (by rfl) (by rfl) (by rfl) (by kernel_rfl) (evAll1 ?_) (by kernel_rfl) (join_word a b c d e)
  refine ev_comp (n := 7) (src := .plain ([a, b, c, d, e].map fun k => .int (Int.ofNat k))) (by kernel_rfl) (by kernel_rfl) (by rfl) (src_plain (by rfl) (ev_name (n := 6) (by kernel_rfl) (hr.trans (by rfl))) (by show 5 ≤ 1000; decide)) (by rfl) (by show 5 ≤ 1000; decide) ?_
  refine turns_map (g := fun k => .str ⟨#[code k]⟩) fun k hkm => turn_no (by kernel_rfl) (ev_fn (n := 6) (ds := [.int (Int.ofNat k)]) (by kernel_rfl) (by kernel_rfl) (by kernel_rfl) (by kernel_rfl) (evAll1 (by kernel_rfl)) ?_)
  exact Eq.trans (b := if k < 65 then some (PyData.str ⟨#[code k]⟩) else none) (by kernel_rfl) (if_pos (hk k hkm))
end Mine

namespace Mine
noncomputable def toldD (l : List Nat) : D := .list (l.map fun x => .list (l.map fun y => .int (coll ⟨#[code x]⟩ ⟨#[code y]⟩)))
theorem run_told {P : Params} {ρ : Rho} {a b c d e : Nat} {f : Fl} (hw : ρ (Str.ofString "word") = some (.str (wordS a b c d e))) (h : Ex GL (fdA P 237).scope (upd ρ (Str.ofString "told") (toldD [a, b, c, d, e])) (lS P 5) f) :
    Ex GL (fdA P 237).scope ρ (lS P 4) f := by
  refine Ex.assign (n := 9) (d := toldD [a, b, c, d, e]) ?_ (by kernel_rfl) h
  refine ev_comp (n := 8) (src := .plain ([a, b, c, d, e].map fun k => .str ⟨#[code k]⟩)) (by kernel_rfl) (by kernel_rfl) (by rfl) (src_str (x := wordS a b c d e) (by rfl) (ev_name (n := 7) (by kernel_rfl) hw) (by show 5 ≤ 1000; decide)) (by rfl) (by show 5 ≤ 1000; decide) ?_
  refine turns_map (g := fun x => .list ([a, b, c, d, e].map fun y => .int (coll ⟨#[code x]⟩ ⟨#[code y]⟩))) fun x _ => turn_no (by kernel_rfl) ?_
  refine ev_comp (n := 7) (src := .plain ([a, b, c, d, e].map fun k => .str ⟨#[code k]⟩)) (by kernel_rfl) (by kernel_rfl) (by rfl) (src_str (x := wordS a b c d e) (by rfl) (ev_name (n := 6) (by kernel_rfl) (Eq.trans (by kernel_rfl) hw)) (by show 5 ≤ 1000; decide)) (by rfl) (by show 5 ≤ 1000; decide) ?_
  exact turns_map (g := fun y => .int (coll ⟨#[code x]⟩ ⟨#[code y]⟩)) fun y _ => turn_no (by kernel_rfl) (ev_fn (n := 6) (ds := [.str ⟨#[code x]⟩, .str ⟨#[code y]⟩]) (by kernel_rfl) (by kernel_rfl) (by kernel_rfl) (by kernel_rfl) (evAll2 (by kernel_rfl) (by kernel_rfl)) (by kernel_rfl))
end Mine

namespace Mine
theorem coll_code {x y : Nat} (hx : x < 65) (hy : y < 65) : coll ⟨#[code x]⟩ ⟨#[code y]⟩ = PyProof.Rows.b2i (decide ((Int.ofNat y) < Int.ofNat x)) - PyProof.Rows.b2i (decide ((Int.ofNat x) < Int.ofNat y)) := by
  have l1 : ∀ u v : Nat, ([u] < [v]) ↔ u < v := fun u v => by rw [List.cons_lt_cons_iff]; simp
  have l2 : ∀ u v : Nat, u < 65 → v < 65 → (code u < code v ↔ u < v) := fun u v hu hv => by
    constructor
    · intro h
      rcases Nat.lt_trichotomy u v with q | q | q
      · exact q
      · subst q; exact absurd h (Nat.lt_irrefl _)
      · exact absurd (code_lt q hu) (Nat.lt_asymm h)
    · exact fun h => code_lt h hv
  have l3 : ∀ u v : Nat, (Int.ofNat u < Int.ofNat v) ↔ u < v := fun u v => Int.ofNat_lt
  unfold coll
  simp only [l1, l2 _ _ hx hy, l2 _ _ hy hx, l3]
noncomputable def toldR (l : List Nat) : D := .list (l.map fun x => .list (l.map fun y => .int (PyProof.Rows.b2i (decide ((Int.ofNat y) < Int.ofNat x)) - PyProof.Rows.b2i (decide ((Int.ofNat x) < Int.ofNat y)))))
theorem told_eq {l : List Nat} (h : ∀ k ∈ l, k < 65) : toldD l = toldR l := by
  unfold toldD toldR
  congr 1
  refine List.map_congr_left fun x hx => ?_
  congr 1
  refine List.map_congr_left fun y hy => ?_
  rw [coll_code (h x hx) (h y hy)]
theorem lay_told (a b c d e : Nat) : (toldR [a, b, c, d, e]).canLay0 = true := by
  simp [toldR, PyData.canLay0, PyData.canLayAll0]
theorem shp_told (a b c d e : Nat) : shp (toldR [a, b, c, d, e]) = true := by kernel_rfl
theorem cmp_told (a b c d e : Nat) : cmpD .NotEq (toldR [a, b, c, d, e]) (toldR [a, b, c, d, e]) = some false := by
  show (if (shp (toldR [a, b, c, d, e]) && shp (toldR [a, b, c, d, e])) = true then some (!(PyData.eqv (toldR [a, b, c, d, e]) (toldR [a, b, c, d, e]))) else none) = _
  rw [shp_told, PySem.SeqAt.eqv_refl _ (lay_told a b c d e)]; rfl
theorem run_test {P : Params} {ρ : Rho} {a b c d e : Nat} {f : Fl} (hk : ∀ k ∈ [a, b, c, d, e], k < 65) (ht : ρ (Str.ofString "told") = some (toldD [a, b, c, d, e])) (hr : ρ (Str.ofString "ranks") = some (intsD ([a, b, c, d, e].map Int.ofNat))) (h : Ex GL (fdA P 237).scope ρ (lS P 6) f) :
    Ex GL (fdA P 237).scope ρ (lS P 5) f := by
  refine Ex.ifN (n := 10) (c := false) (evT_cmp (n := 9) (a := toldR [a, b, c, d, e]) (b := toldR [a, b, c, d, e]) (by rfl) ((ev_name (n := 8) (by kernel_rfl) ht).trans (by rw [told_eq hk])) ?_ (cmp_told a b c d e)) .nil h
  refine ev_comp (n := 8) (src := .plain ([a, b, c, d, e].map fun k => .int (Int.ofNat k))) (by kernel_rfl) (by kernel_rfl) (by rfl) (src_plain (by rfl) (ev_name (n := 7) (by kernel_rfl) (hr.trans (by rfl))) (by show 5 ≤ 1000; decide)) (by rfl) (by show 5 ≤ 1000; decide) ?_
  refine turns_map (g := fun x => .list ([a, b, c, d, e].map fun y => .int (PyProof.Rows.b2i (decide ((Int.ofNat y) < Int.ofNat x)) - PyProof.Rows.b2i (decide ((Int.ofNat x) < Int.ofNat y))))) fun x _ => turn_no (by kernel_rfl) ?_
  refine ev_comp (n := 7) (src := .plain ([a, b, c, d, e].map fun k => .int (Int.ofNat k))) (by kernel_rfl) (by kernel_rfl) (by rfl) (src_plain (by rfl) (ev_name (n := 6) (by kernel_rfl) (Eq.trans (by kernel_rfl) (hr.trans (by rfl)))) (by show 5 ≤ 1000; decide)) (by rfl) (by show 5 ≤ 1000; decide) ?_
  exact turns_map fun y _ => turn_no (by kernel_rfl) (by kernel_rfl)
end Mine

set_option genInjectivity false
set_option genSizeOf false
set_option genSizeOfSpec false
namespace Mine
theorem run_sidesL {P : Params} {ρ : Rho} {a b c d e : Nat} {f : Fl} {sd : Nat → Parts} (hw : ρ (Str.ofString "word") = some (.str (wordS a b c d e))) (hs : ∀ k ∈ [a, b, c, d, e], sidesF [.str (wordS a b c d e), .str ⟨#[code k]⟩] = some (sd k).D)
    (h : Ex GL (fdA P 237).scope (upd ρ (Str.ofString "sides") (.list ([a, b, c, d, e].map fun k => (sd k).D))) (lS P 7) f) : Ex GL (fdA P 237).scope ρ (lS P 6) f := by
  refine Ex.assign (n := 9) (d := .list ([a, b, c, d, e].map fun k => (sd k).D)) ?_ (by kernel_rfl) h
  refine ev_comp (n := 8) (src := .plain ([a, b, c, d, e].map fun k => .str ⟨#[code k]⟩)) (by kernel_rfl) (by kernel_rfl) (by rfl) (src_str (x := wordS a b c d e) (by rfl) (ev_name (n := 7) (by kernel_rfl) hw) (by show 5 ≤ 1000; decide)) (by rfl) (by show 5 ≤ 1000; decide) ?_
  refine turns_map (g := fun k => (sd k).D) fun k hkm => turn_no (by kernel_rfl) (ev_fn (n := 7) (ds := [.str (wordS a b c d e), .str ⟨#[code k]⟩]) (by kernel_rfl) (by kernel_rfl) (by kernel_rfl) (by kernel_rfl) (evAll2 (ev_name (n := 6) (by kernel_rfl) (Eq.trans (by kernel_rfl) hw)) (by kernel_rfl)) ?_)
  exact Eq.trans (b := sidesF [.str (wordS a b c d e), .str ⟨#[code k]⟩]) (by kernel_rfl) (hs k hkm)
end Mine

namespace Mine
theorem join_codes : ∀ l : List Nat, l.length ≤ 5 → callM .join ⟨#[]⟩ [.list (l.map fun k => .str ⟨#[code k]⟩)] = some (.str ⟨(l.map code).toArray⟩)
  | [], _ => by kernel_rfl
  | [_], _ => by kernel_rfl
  | [_, _], _ => by kernel_rfl
  | [_, _, _], _ => by kernel_rfl
  | [_, _, _, _], _ => by kernel_rfl
  | [_, _, _, _, _], _ => by kernel_rfl
  | _ :: _ :: _ :: _ :: _ :: _ :: _, h => by simp at h
theorem src_zip {G : Kn} {n : Nat} {sc : Scope} {ρ : Rho} {gp np mp cp : Pos} {x y : Str} {a : Str} {l : List D} (hg : isGlob sc (Str.ofString "zip") = true) (h : ev G n sc ρ (.Name x np) = some (.str a)) (h' : ev G n sc ρ (.Name y mp) = some (.list l)) :
    evSrc (ev G n sc ρ) sc (.Call (.Name (Str.ofString "zip") gp) [.Name x np, .Name y mp] [] cp) = some (.pairs (zipD (strChars a) l)) := by
  unfold evSrc srcCall
  have e1 : sk (Str.ofString "zip") = some .zip := by kernel_rfl
  simp only [hg, e1, Mine.evAll, h, h', if_true, Option.map_some]
  rfl
noncomputable def em (x : Str) : Bool := x == Str.ofString ""
noncomputable def isMover (p : Parts) : Bool := em p.L != em p.R
noncomputable abbrev moversL (sd : Nat → Parts) (l : List Nat) : List Nat := l.filter fun k => isMover (sd k)
theorem run_movers {P : Params} {ρ : Rho} {a b c d e : Nat} {f : Fl} {sd : Nat → Parts} (hw : ρ (Str.ofString "word") = some (.str (wordS a b c d e))) (hsd : ρ (Str.ofString "sides") = some (.list ([a, b, c, d, e].map fun k => (sd k).D)))
    (h : Ex GL (fdA P 237).scope (upd ρ (Str.ofString "movers") (.str ⟨((moversL sd [a, b, c, d, e]).map code).toArray⟩)) (lS P 8) f) : Ex GL (fdA P 237).scope ρ (lS P 7) f := by
  refine Ex.assign (n := 10) (d := .str ⟨((moversL sd [a, b, c, d, e]).map code).toArray⟩) ?_ (by kernel_rfl) h
  refine ev_meth (n := 9) (x := ⟨#[]⟩) (ds := [.list ((moversL sd [a, b, c, d, e]).map fun k => .str ⟨#[code k]⟩)]) (k := .join) (by rfl) (by rfl) (by rfl) (by kernel_rfl) (evAll1 ?_) (by kernel_rfl) (join_codes _ (List.length_filter_le _ _))
  refine ev_comp (n := 8) (src := .pairs ([a, b, c, d, e].map fun k => .tuple [.str ⟨#[code k]⟩, (sd k).D])) (by kernel_rfl) (by kernel_rfl) (by rfl) ((src_zip (a := wordS a b c d e) (by kernel_rfl) (ev_name (n := 7) (by kernel_rfl) hw) (ev_name (n := 7) (by kernel_rfl) hsd)).trans (by rfl)) (by rfl) (by show 5 ≤ 1000; decide) ?_
  exact turns_if (p := fun k => isMover (sd k)) (g := fun k => .str ⟨#[code k]⟩) fun k _ => turn_if (by kernel_rfl) (evT_cmp (n := 7) (a := .bool (em (sd k).L)) (b := .bool (em (sd k).R)) (by rfl) (by kernel_rfl) (by kernel_rfl) (by kernel_rfl)) fun _ => by kernel_rfl
end Mine

namespace Mine
theorem evT_andb {ih : Expr → Option D} {e₁ e₂ : Expr} {p : Pos} {c₁ c₂ : Bool} (h1 : evT1 ih e₁ = some c₁) (h2 : evT1 ih e₂ = some c₂) : evT ih (.BoolOp .And [e₁, e₂] p) = some (c₁ && c₂) := by
  show evTs ih .And [e₁, e₂] = _
  unfold evTs
  rw [h1]
  cases c₁ with
  | false => rfl
  | true =>
    show evTs ih .And [e₂] = _
    unfold evTs
    rw [h2]
    cases c₂ <;> rfl
noncomputable abbrev climbL (sd : Nat → Parts) (l : List Nat) : List Nat := l.filter fun k => em (sd k).L && !em (sd k).R
noncomputable abbrev valleyL (sd : Nat → Parts) (l : List Nat) : List Nat := l.filter fun k => !em (sd k).L && !em (sd k).R
theorem run_climb {P : Params} {ρ : Rho} {a b c d e : Nat} {f : Fl} {sd : Nat → Parts} (hw : ρ (Str.ofString "word") = some (.str (wordS a b c d e))) (hsd : ρ (Str.ofString "sides") = some (.list ([a, b, c, d, e].map fun k => (sd k).D)))
    (h : Ex GL (fdA P 237).scope (upd ρ (Str.ofString "climbing") (.list ((climbL sd [a, b, c, d, e]).map fun k => .str ⟨#[code k]⟩))) (lS P 9) f) : Ex GL (fdA P 237).scope ρ (lS P 8) f := by
  refine Ex.assign (n := 9) (d := .list ((climbL sd [a, b, c, d, e]).map fun k => .str ⟨#[code k]⟩)) ?_ (by kernel_rfl) h
  refine ev_comp (n := 8) (src := .pairs ([a, b, c, d, e].map fun k => .tuple [.str ⟨#[code k]⟩, (sd k).D])) (by kernel_rfl) (by kernel_rfl) (by rfl) ((src_zip (a := wordS a b c d e) (by kernel_rfl) (ev_name (n := 7) (by kernel_rfl) hw) (ev_name (n := 7) (by kernel_rfl) hsd)).trans (by rfl)) (by rfl) (by show 5 ≤ 1000; decide) ?_
  exact turns_if (p := fun k => em (sd k).L && !em (sd k).R) (g := fun k => .str ⟨#[code k]⟩) fun k _ => turn_if (by kernel_rfl) (evT_andb (c₁ := em (sd k).L) (c₂ := !em (sd k).R) (by kernel_rfl) (by kernel_rfl)) fun _ => by kernel_rfl
theorem run_valley {P : Params} {ρ : Rho} {a b c d e : Nat} {f : Fl} {sd : Nat → Parts} (hw : ρ (Str.ofString "word") = some (.str (wordS a b c d e))) (hsd : ρ (Str.ofString "sides") = some (.list ([a, b, c, d, e].map fun k => (sd k).D)))
    (h : Ex GL (fdA P 237).scope (upd ρ (Str.ofString "valleys") (.list ((valleyL sd [a, b, c, d, e]).map fun k => .str ⟨#[code k]⟩))) (lS P 10) f) : Ex GL (fdA P 237).scope ρ (lS P 9) f := by
  refine Ex.assign (n := 9) (d := .list ((valleyL sd [a, b, c, d, e]).map fun k => .str ⟨#[code k]⟩)) ?_ (by kernel_rfl) h
  refine ev_comp (n := 8) (src := .pairs ([a, b, c, d, e].map fun k => .tuple [.str ⟨#[code k]⟩, (sd k).D])) (by kernel_rfl) (by kernel_rfl) (by rfl) ((src_zip (a := wordS a b c d e) (by kernel_rfl) (ev_name (n := 7) (by kernel_rfl) hw) (ev_name (n := 7) (by kernel_rfl) hsd)).trans (by rfl)) (by rfl) (by show 5 ≤ 1000; decide) ?_
  exact turns_if (p := fun k => !em (sd k).L && !em (sd k).R) (g := fun k => .str ⟨#[code k]⟩) fun k _ => turn_if (by kernel_rfl) (evT_andb (c₁ := !em (sd k).L) (c₂ := !em (sd k).R) (by kernel_rfl) (by kernel_rfl)) fun _ => by kernel_rfl
end Mine

namespace Mine
theorem ev_lens {G : Kn} {n : Nat} {sc : Scope} {ρ : Rho} {e : Expr} {gp pos : Pos} {x : Str} (hg : isGlob sc (Str.ofString "len") = true) (h : ev G n sc ρ e = some (.str x)) (hl : x.length ≤ small) :
    ev G (n + 1) sc ρ (.Call (.Name (Str.ofString "len") gp) [e] [] pos) = some (.int x.length) := by
  (rw [ev_succ]; delta evStep evCall; dsimp only; simp only [Mine.evAll, hg, h])
  have e1 : bk (Str.ofString "len") = some .len := by kernel_rfl
  have e2 : decide (Str.ofString "len" ≠ Str.ofString "__debug__") = true := by decide +kernel
  rw [e1, e2]
  exact if_pos hl
theorem mult2 : ∀ m, m < 3 → binD .Mult (.int 2) (.int (m : Nat)) = some (.int (2 * (m : Nat) : Int))
  | 0, _ => by kernel_rfl
  | 1, _ => by kernel_rfl
  | 2, _ => by kernel_rfl
  | _ + 3, h => by omega
theorem sub4 : ∀ m, m < 3 → binD .Sub (.int 4) (.int (2 * (m : Nat) : Int)) = some (.int ((4 - 2 * m : Nat) : Int))
  | 0, _ => by kernel_rfl
  | 1, _ => by kernel_rfl
  | 2, _ => by kernel_rfl
  | _ + 3, h => by omega
theorem cmp5 : ∀ m, m < 6 → cmpD .NotEq (.int (m : Nat)) (.int (m : Nat)) = some false
  | 0, _ => by kernel_rfl
  | 1, _ => by kernel_rfl
  | 2, _ => by kernel_rfl
  | 3, _ => by kernel_rfl
  | 4, _ => by kernel_rfl
  | 5, _ => by kernel_rfl
  | _ + 6, h => by omega
theorem run_count {P : Params} {ρ : Rho} {mv : Str} {vl : List D} {f : Fl} (hm : ρ (Str.ofString "movers") = some (.str mv)) (hv : ρ (Str.ofString "valleys") = some (.list vl)) (h5 : mv.length ≤ 5) 
    (he : mv.length + 2 * vl.length = 4) (h : Ex GL (fdA P 237).scope ρ (lS P 11) f) : Ex GL (fdA P 237).scope ρ (lS P 10) f := by
  have h3 : vl.length < 3 := by omega
  refine Ex.ifN (n := 9) (c := false) ?_ .nil h
  refine evT_cmp (n := 8) (a := .int mv.length) (b := .int mv.length) (by rfl) (ev_lens (n := 7) (by kernel_rfl) (ev_name (n := 6) (by kernel_rfl) hm) (by show _ ≤ 1000; omega)) ?_ (cmp5 _ (by omega))
  refine (ev_bin (n := 7) (a := .int 4) (by kernel_rfl) (ev_bin (n := 6) (a := .int 2) (by kernel_rfl) (ev_len (n := 5) (by kernel_rfl) (ev_name (n := 4) (by kernel_rfl) hv) (by show _ ≤ 1000; omega)) (mult2 _ h3)) (sub4 _ h3)).trans ?_
  congr 3; omega
end Mine

namespace Mine
theorem evAll3 {f : Expr → Option D} {e e' e'' : Expr} {d d' d'' : D} (h : f e = some d) (h' : f e' = some d') (h'' : f e'' = some d'') : Mine.evAll f [e, e', e''] = some [d, d', d''] := by simp [Mine.evAll, h, h', h'']
theorem run_table {P : Params} {ρ : Rho} {word mv : Str} {ws cl tb : D} {fl : D} {f : Fl} (hw : ρ (Str.ofString "word") = some (.str word)) (hm : ρ (Str.ofString "movers") = some (.str mv)) (hc : ρ (Str.ofString "climbing") = some cl)
    (h1 : wordsF [.str word, .str mv] = some ws) (h2 : fallsF [.str word] = some fl) (h3 : tableF [ws, fl, cl] = some tb) (h : Ex GL (fdA P 237).scope (upd ρ (Str.ofString "table") tb) (lS P 12) f) : Ex GL (fdA P 237).scope ρ (lS P 11) f := by
  refine Ex.assign (n := 9) (d := tb) ?_ (by kernel_rfl) h
  refine ev_fn (n := 8) (ds := [ws, fl, cl]) (by kernel_rfl) (by kernel_rfl) (by kernel_rfl) (by kernel_rfl) (evAll3 ?_ ?_ (ev_name (n := 7) (by kernel_rfl) hc)) (Eq.trans (by kernel_rfl) h3)
  · exact ev_fn (n := 7) (ds := [.str word, .str mv]) (by kernel_rfl) (by kernel_rfl) (by kernel_rfl) (by kernel_rfl) (evAll2 (ev_name (n := 6) (by kernel_rfl) hw) (ev_name (n := 6) (by kernel_rfl) hm)) (Eq.trans (by kernel_rfl) h1)
  · exact ev_fn (n := 7) (ds := [.str word]) (by kernel_rfl) (by kernel_rfl) (by kernel_rfl) (by kernel_rfl) (evAll1 (ev_name (n := 6) (by kernel_rfl) hw)) (Eq.trans (by kernel_rfl) h2)
theorem ev_keys {n : Nat} {sc : Scope} {ρ : Rho} {x : Str} {xp ap cp : Pos} {kvs : List (D × D)} (hx : decide (x = Str.ofString "__debug__") = false) (hl : (ap.endLine == cp.line) = true) (ht : ρ x = some (.dict kvs)) (hp : pinned kvs = false) (h1 : kvs.length ≤ small) :
    ev GL (n + 2) sc ρ (.Call (.Attribute (.Name x xp) (Str.ofString "keys") ap) [] [] cp) = some (.list (kvs.map (·.1))) := by
  refine ev_me (n := n + 1) (ds := []) (kvs := kvs) (kw := none) (by rfl) hl (by rfl) (ev_name (n := n) hx ht) (by rfl) (by rfl) hp ?_
  refine Eq.trans (b := keysF kvs [] none) (by kernel_rfl) ?_
  exact if_pos (c := pinned kvs = false ∧ kvs.length ≤ small) ⟨hp, h1⟩
theorem run_texts {P : Params} {ρ : Rho} {kvs : List (D × D)} {f : Fl} (ht : ρ (Str.ofString "table") = some (.dict kvs)) (hp : pinned kvs = false) (h1 : kvs.length ≤ small) (h : Ex GL (fdA P 237).scope (upd ρ (Str.ofString "texts") (.list (kvs.map (·.1)))) (lS P 14) f) : Ex GL (fdA P 237).scope ρ (lS P 13) f :=
  Ex.assign (n := 9) (d := .list (kvs.map (·.1))) (ev_keys (n := 7) (by kernel_rfl) (by rfl) ht hp h1) (by kernel_rfl) h
end Mine

namespace Mine
theorem evT_orb {ih : Expr → Option D} {e₁ e₂ : Expr} {p : Pos} {c₁ c₂ : Bool} (h1 : evT1 ih e₁ = some c₁) (h2 : evT1 ih e₂ = some c₂) : evT ih (.BoolOp .Or [e₁, e₂] p) = some (c₁ || c₂) := by
  show evTs ih .Or [e₁, e₂] = _
  unfold evTs
  rw [h1]
  cases c₁ with
  | true => rfl
  | false =>
    show evTs ih .Or [e₂] = _
    unfold evTs
    rw [h2]
    cases c₂ <;> rfl
theorem pow2 : ∀ m, m < 6 → binD .Pow (.int 2) (.int (m : Nat)) = some (.int ((2 ^ m : Nat) : Int))
  | 0, _ => by kernel_rfl
  | 1, _ => by kernel_rfl
  | 2, _ => by kernel_rfl
  | 3, _ => by kernel_rfl
  | 4, _ => by kernel_rfl
  | 5, _ => by kernel_rfl
  | _ + 6, h => by omega
theorem cmpE : ∀ m, m < 6 → cmpD .NotEq (.int ((2 ^ m : Nat) : Int)) (.int ((2 ^ m : Nat) : Int)) = some false
  | 0, _ => by kernel_rfl
  | 1, _ => by kernel_rfl
  | 2, _ => by kernel_rfl
  | 3, _ => by kernel_rfl
  | 4, _ => by kernel_rfl
  | 5, _ => by kernel_rfl
  | _ + 6, h => by omega
theorem run_keys {P : Params} {ρ : Rho} {kvs : List (D × D)} {mv : Str} {f : Fl} (hm : ρ (Str.ofString "movers") = some (.str mv)) (ht : ρ (Str.ofString "table") = some (.dict kvs)) (hp : pinned kvs = false) (h5 : mv.length ≤ 5) (he : kvs.length = 2 ^ mv.length)
    (h : Ex GL (fdA P 237).scope ρ (lS P 13) f) : Ex GL (fdA P 237).scope ρ (lS P 12) f := by
  have h1 : kvs.length ≤ small := by
    rw [he]; exact Nat.le_trans (Nat.pow_le_pow_right (by decide) h5) (by decide)
  refine Ex.ifN (n := 12) (c := false) (evT_orb (c₁ := false) (c₂ := false) ?_ ?_) .nil h
  · refine evT_cmp (n := 11) (a := .dict kvs) (b := .none) (by rfl) (ev_name (n := 10) (by kernel_rfl) ht) (by kernel_rfl) ?_
    kernel_rfl
  · refine evT_cmp (n := 11) (a := .int kvs.length) (b := .int kvs.length) (by rfl) ?_ ?_ (by rw [he]; exact cmpE _ (by omega))
    · exact (ev_len (n := 10) (by kernel_rfl) (ev_keys (n := 8) (by kernel_rfl) (by rfl) ht hp h1) (by simpa using h1)).trans (by simp)
    · refine (ev_bin (n := 10) (a := .int 2) (by kernel_rfl) (ev_lens (n := 9) (by kernel_rfl) (ev_name (n := 8) (by kernel_rfl) hm) (by show _ ≤ 1000; omega)) (pow2 _ (by omega))).trans (by rw [he])
end Mine

namespace Mine
theorem run_unlike {P : Params} {ρ : Rho} {word : Str} {ts : List Str} {g : Str → Int} {f : Fl} (hw : ρ (Str.ofString "word") = some (.str word)) (ht : ρ (Str.ofString "texts") = some (.list (ts.map .str))) (hl : ts.length ≤ 100)
    (hc : ∀ t ∈ ts, collF [.str t, .str word] = some (.int (g t))) (hf : ∀ t ∈ ts, firstF [.str t, .str word] = some (.int (g t))) (hq : cmpD .NotEq (.list (ts.map fun t => .int (g t))) (.list (ts.map fun t => .int (g t))) = some false)
    (h : Ex GL (fdA P 237).scope ρ (lS P 15) f) : Ex GL (fdA P 237).scope ρ (lS P 14) f := by
  have hs : (ts.map PyData.str).length ≤ small := by rw [List.length_map]; exact Nat.le_trans hl (by decide)
  refine Ex.ifN (n := 10) (c := false) (evT_cmp (n := 9) (a := .list (ts.map fun t => .int (g t))) (b := .list (ts.map fun t => .int (g t))) (by rfl) ?_ ?_ hq) .nil h
  · refine ev_comp (n := 8) (src := .plain (ts.map .str)) (by kernel_rfl) (by kernel_rfl) (by rfl) (src_plain (by rfl) (ev_name (n := 7) (by kernel_rfl) ht) hs) (by rfl) hs ?_
    refine turns_map (g := fun t => .int (g t)) fun t ht => turn_no (by kernel_rfl) ?_
    exact ev_fn (n := 7) (ds := [.str t, .str word]) (by kernel_rfl) (by kernel_rfl) (by kernel_rfl) (by kernel_rfl) (evAll2 (ev_name (n := 6) (by kernel_rfl) (by kernel_rfl)) (ev_name (n := 6) (by kernel_rfl) (Eq.trans (by kernel_rfl) hw))) (Eq.trans (by kernel_rfl) (hc t ht))
  · refine ev_comp (n := 8) (src := .plain (ts.map .str)) (by kernel_rfl) (by kernel_rfl) (by rfl) (src_plain (by rfl) (ev_name (n := 7) (by kernel_rfl) ht) hs) (by rfl) hs ?_
    refine turns_map (g := fun t => .int (g t)) fun t ht => turn_no (by kernel_rfl) ?_
    exact ev_fn (n := 7) (ds := [.str t, .str word]) (by kernel_rfl) (by kernel_rfl) (by kernel_rfl) (by kernel_rfl) (evAll2 (ev_name (n := 6) (by kernel_rfl) (by kernel_rfl)) (ev_name (n := 6) (by kernel_rfl) (Eq.trans (by kernel_rfl) hw))) (Eq.trans (by kernel_rfl) (hf t ht))
theorem run_last {P : Params} {ρ : Rho} {word mv tx : D} (hw : ρ (Str.ofString "word") = some word) (hm : ρ (Str.ofString "movers") = some mv) (ht : ρ (Str.ofString "texts") = some tx) (h : ordersF [word, mv, tx] = some (.bool true)) :
    Ex GL (fdA P 237).scope ρ (lS P 17) (.ret (.bool true)) := by
  exact Ex.ret (n := 9) (ev_fn (n := 8) (ds := [word, mv, tx]) (by kernel_rfl) (by kernel_rfl) (by kernel_rfl) (by kernel_rfl) (evAll3 (ev_name (n := 7) (by kernel_rfl) hw) (ev_name (n := 7) (by kernel_rfl) hm) (ev_name (n := 7) (by kernel_rfl) ht)) (Eq.trans (by kernel_rfl) h))
end Mine

namespace Mine
theorem ev_rev {G : Kn} {n : Nat} {sc : Scope} {ρ : Rho} {v k : Expr} {sp p : Pos} {d r : D} (h1 : ev G n sc ρ v = some d) (h3 : ev G n sc ρ k = some (.int (-1))) (h : revD d = some r) :
    ev G (n + 1) sc ρ (.Subscript v (.Slice none none (some k) sp) p) = some r := by
  (rw [ev_succ]; delta evStep evSub; dsimp only; simp only [h1, h3, h])
  rfl
theorem run_turned {P : Params} {ρ : Rho} {word mv wm : Str} {ws : D} {f : Fl} (hw : ρ (Str.ofString "word") = some (.str word)) (hm : ρ (Str.ofString "movers") = some (.str mv))
    (hr : revD (.str mv) = some (.str wm)) (h1 : wordsF [.str word, .str wm] = some ws) (h : Ex GL (fdA P 237).scope (upd ρ (Str.ofString "turned") ws) (lS P 16) f) : Ex GL (fdA P 237).scope ρ (lS P 15) f := by
  refine Ex.assign (n := 9) (d := ws) ?_ (by kernel_rfl) h
  refine ev_fn (n := 8) (ds := [.str word, .str wm]) (by kernel_rfl) (by kernel_rfl) (by kernel_rfl) (by kernel_rfl) (evAll2 (ev_name (n := 7) (by kernel_rfl) hw) ?_) (Eq.trans (by kernel_rfl) h1)
  exact ev_rev (n := 7) (ev_name (n := 6) (by kernel_rfl) hm) (by kernel_rfl) hr
end Mine

namespace Mine
theorem run_get2 {P : Params} {ρ : Rho} {kvs : List (D × D)} {ws : List SP} {g : SP → D} {f : Fl} (ht : ρ (Str.ofString "table") = some (.dict kvs)) (hp : pinned kvs = false) (hw : ρ (Str.ofString "turned") = some (.list (ws.map pr))) (hl : ws.length ≤ 100) (h1 : ∀ q ∈ ws, q.2.length ≤ small)
    (hc : ∀ q ∈ ws, getF kvs [.str (Txt.upper q.2)] none = some (g q)) (hf : ∀ q ∈ ws, revD (.str q.1) = some (g q)) (hq : cmpD .NotEq (.list (ws.map g)) (.list (ws.map g)) = some false)
    (h : Ex GL (fdA P 237).scope ρ (lS P 17) f) : Ex GL (fdA P 237).scope ρ (lS P 16) f := by
  have hs : (ws.map pr).length ≤ small := by rw [List.length_map]; exact Nat.le_trans hl (by decide)
  refine Ex.ifN (n := 10) (c := false) (evT_cmp (n := 9) (a := .list (ws.map g)) (b := .list (ws.map g)) (by rfl) ?_ ?_ hq) .nil h
  · refine ev_comp (n := 8) (src := .plain (ws.map pr)) (by kernel_rfl) (by kernel_rfl) (by rfl) (src_plain (by rfl) (ev_name (n := 7) (by kernel_rfl) hw) hs) (by rfl) hs ?_
    refine turns_map (g := g) fun q hq => turn_no (by kernel_rfl) ?_
    refine ev_me (n := 7) (kvs := kvs) (ds := [.str (Txt.upper q.2)]) (kw := none) (by rfl) (by rfl) (by rfl) (ev_name (n := 6) (by kernel_rfl) (Eq.trans (by kernel_rfl) ht)) (evAll1 ?_) (by rfl) hp (Eq.trans (by kernel_rfl) (hc q hq))
    exact ev_meth (n := 6) (x := q.2) (ds := []) (k := .upper) (by rfl) (by rfl) (by rfl) (ev_name (n := 5) (by kernel_rfl) (by kernel_rfl)) (by rfl) (by kernel_rfl) (upperM (h1 q hq))
  · refine ev_comp (n := 8) (src := .plain (ws.map pr)) (by kernel_rfl) (by kernel_rfl) (by rfl) (src_plain (by rfl) (ev_name (n := 7) (by kernel_rfl) hw) hs) (by rfl) hs ?_
    refine turns_map (g := g) fun q hq => turn_no (by kernel_rfl) ?_
    exact ev_rev (n := 7) (ev_name (n := 6) (by kernel_rfl) (by kernel_rfl)) (by kernel_rfl) (hf q hq)
end Mine

set_option genInjectivity false
set_option genSizeOf false
set_option genSizeOfSpec false
namespace Mine
/-- what the plain law has to show of five ranks -/
structure Good (a b c d e : Nat) where
  sd : Nat → Parts
  ws : List SP
  wt : List SP
  wm : Str
  fl : D
  g : Str → Int
  gt : SP → D
  hs : ∀ k ∈ [a, b, c, d, e], sidesF [.str (wordS a b c d e), .str ⟨#[code k]⟩] = some (sd k).D
  mv : Str
  hmv : mv = ⟨((moversL sd [a, b, c, d, e]).map code).toArray⟩
  he : mv.length + 2 * (valleyL sd [a, b, c, d, e]).length = 4
  h5 : mv.length ≤ 5
  hw : wordsF [.str (wordS a b c d e), .str mv] = some (.list (ws.map pr))
  hfl : fallsF [.str (wordS a b c d e)] = some fl
  htb : tableF [.list (ws.map pr), fl, .list ((climbL sd [a, b, c, d, e]).map fun k => .str ⟨#[code k]⟩)] = some (.dict ((ws.map sw).map enc))
  hn : ws.length = 2 ^ mv.length
  hc : ∀ t ∈ ws.map (·.2), collF [.str t, .str (wordS a b c d e)] = some (.int (g t))
  hf : ∀ t ∈ ws.map (·.2), firstF [.str t, .str (wordS a b c d e)] = some (.int (g t))
  hq : cmpD .NotEq (.list ((ws.map (·.2)).map fun t => .int (g t))) (.list ((ws.map (·.2)).map fun t => .int (g t))) = some false
  hr : revD (.str mv) = some (.str wm)
  hwt : wordsF [.str (wordS a b c d e), .str wm] = some (.list (wt.map pr))
  hl : wt.length ≤ 100
  hsm : ∀ q ∈ wt, q.2.length ≤ small
  hg : ∀ q ∈ wt, getF ((ws.map sw).map enc) [.str (Txt.upper q.2)] none = some (gt q)
  hgr : ∀ q ∈ wt, revD (.str q.1) = some (gt q)
  hq2 : cmpD .NotEq (.list (wt.map gt)) (.list (wt.map gt)) = some false
  ho : ordersF [.str (wordS a b c d e), .str mv, .list ((ws.map (·.2)).map .str)] = some (.bool true)
theorem keys_ws (ws : List SP) : ((ws.map sw).map enc).map (·.1) = (ws.map (·.2)).map PyData.str := by
  rw [List.map_map, List.map_map, List.map_map]; rfl
theorem run_law {P : Params} {ns : List Int} {a b c d e : Nat} (hl : ns.length ≤ 63) (h5 : (numsL ns).length = 5) (hr : ranksL (numsL ns) = [a, b, c, d, e].map Int.ofNat) (hk : ∀ k ∈ [a, b, c, d, e], k < 65) (H : Good a b c d e) :
    Ex GL (fdA P 237).scope (rl0 ns) (bdA P 237) (.ret (.bool true)) := by
  have e3 : rl3 ns (Str.ofString "ranks") = some (intsD ([a, b, c, d, e].map Int.ofNat)) := by rw [← hr]; kernel_rfl
  have h100 : (ws : List SP) → ws.length = 2 ^ H.mv.length → ws.length ≤ 100 := fun ws h => by rw [h]; exact Nat.le_trans (Nat.pow_le_pow_right (by decide) H.h5) (by decide)
  refine run_drawn hl (run_nums hl (run_ranks h5 (run_word e3 hk (run_told (a := a) (b := b) (c := c) (d := d) (e := e) (by kernel_rfl) (run_test (a := a) (b := b) (c := c) (d := d) (e := e) hk (by kernel_rfl) (Eq.trans (by kernel_rfl) e3) (run_sidesL (a := a) (b := b) (c := c) (d := d) (e := e) (sd := H.sd) (by kernel_rfl) H.hs (run_movers (a := a) (b := b) (c := c) (d := d) (e := e) (sd := H.sd) (by kernel_rfl) (by kernel_rfl) ?_)))))))
  rw [← H.hmv]
  refine run_climb (a := a) (b := b) (c := c) (d := d) (e := e) (sd := H.sd) (by kernel_rfl) (by kernel_rfl) (run_valley (a := a) (b := b) (c := c) (d := d) (e := e) (sd := H.sd) (by kernel_rfl) (by kernel_rfl) (run_count (mv := H.mv) (vl := (valleyL H.sd [a, b, c, d, e]).map fun k => .str ⟨#[code k]⟩) (by kernel_rfl) (by kernel_rfl) H.h5 (by simpa using H.he) (run_table (word := wordS a b c d e) (mv := H.mv) (cl := .list ((climbL H.sd [a, b, c, d, e]).map fun k => .str ⟨#[code k]⟩)) (by kernel_rfl) (by kernel_rfl) (by kernel_rfl) H.hw H.hfl H.htb ?_)))
  refine run_keys (mv := H.mv) (kvs := (H.ws.map sw).map enc) (by kernel_rfl) (by kernel_rfl) (pin_enc _) H.h5 (by simpa using H.hn) (run_texts (kvs := (H.ws.map sw).map enc) (by kernel_rfl) (pin_enc _) (by simpa using Nat.le_trans (h100 _ H.hn) (by decide)) ?_)
  rw [keys_ws]
  refine run_unlike (word := wordS a b c d e) (ts := H.ws.map (·.2)) (g := H.g) (by kernel_rfl) (by kernel_rfl) (by simpa using h100 _ H.hn) H.hc H.hf H.hq (run_turned (word := wordS a b c d e) (mv := H.mv) (by kernel_rfl) (by kernel_rfl) H.hr H.hwt (run_get2 (kvs := (H.ws.map sw).map enc) (ws := H.wt) (g := H.gt) (by kernel_rfl) (pin_enc _) (by kernel_rfl) H.hl H.hsm H.hg H.hgr H.hq2 (run_last (word := .str (wordS a b c d e)) (mv := .str H.mv) (tx := .list ((H.ws.map (·.2)).map .str)) (by kernel_rfl) (by kernel_rfl) (by kernel_rfl) H.ho)))
end Mine

namespace Mine
open Builtin.Str (occurrences)
/-- a map of the codes of a text -/
noncomputable def mp (φ : Nat → Nat) (x : Str) : Str := ⟨x.cps.map φ⟩
/-- strictly monotone -/
noncomputable abbrev Up (φ : Nat → Nat) : Prop := ∀ a b, a < b → φ a < φ b
theorem Up.inj {φ : Nat → Nat} (u : Up φ) : ∀ a b, φ a = φ b → a = b := fun a b h => by
  rcases Nat.lt_trichotomy a b with q | q | q
  · have := u a b q; omega
  · exact q
  · have := u b a q; omega
theorem Up.lt {φ : Nat → Nat} (u : Up φ) (a b : Nat) : φ a < φ b ↔ a < b := ⟨fun h => by
  rcases Nat.lt_trichotomy a b with q | q | q
  · exact q
  · subst q; omega
  · have := u b a q; omega, u a b⟩
theorem mp_len (φ : Nat → Nat) (x : Str) : (mp φ x).length = x.length := by simp [mp, Str.length]
theorem mp_list (φ : Nat → Nat) (x : Str) : (mp φ x).cps.toList = x.cps.toList.map φ := by simp [mp]
theorem mp_of (φ : Nat → Nat) (l : List Nat) : mp φ ⟨l.toArray⟩ = ⟨(l.map φ).toArray⟩ := by simp [mp]
theorem mp_app (φ : Nat → Nat) (x y : Str) : mp φ (x ++ y) = mp φ x ++ mp φ y := by
  show Str.mk ((x.cps ++ y.cps).map φ) = Str.mk (x.cps.map φ ++ y.cps.map φ)
  rw [Array.map_append]
theorem mp_inj {φ : Nat → Nat} (u : Up φ) {x y : Str} : mp φ x = mp φ y ↔ x = y := by
  cases x with | mk x => cases y with | mk y =>
  simp only [mp, Str.mk.injEq]
  exact Array.map_inj_right u.inj
theorem mp_get (φ : Nat → Nat) (x : Str) (i : Nat) : (mp φ x).cps[i]? = (x.cps[i]?).map φ := by simp [mp]
theorem mp_pick (φ : Nat → Nat) (x : Str) (l : List Nat) : (l.filterMap fun i => (mp φ x).cps[i]?) = (l.filterMap fun i => x.cps[i]?).map φ := by
  rw [List.map_filterMap]
  simp only [mp_get]
theorem subAt_mp {φ : Nat → Nat} (u : Up φ) (s t : Str) (i : Nat) : Builtin.Str.subAt (mp φ s) (mp φ t) i = Builtin.Str.subAt s t i := by
  unfold Builtin.Str.subAt
  rw [mp_len]
  simp only [mp, ← Array.map_extract]
  rw [Bool.eq_iff_iff, beq_iff_eq, beq_iff_eq]
  exact Array.map_inj_right u.inj
theorem occ_mp {φ : Nat → Nat} (u : Up φ) (s t : Str) (lo hi lim : Nat) : occurrences (mp φ s) (mp φ t) lo hi lim = occurrences s t lo hi lim := by
  rw [StrLaws.occ_eq, StrLaws.occ_eq]
  have : StrLaws.occBody (mp φ s) (mp φ t) hi lim = StrLaws.occBody s t hi lim := by
    funext i st
    unfold StrLaws.occBody
    rw [mp_len, subAt_mp u]
  rw [this]
theorem slice_mp (φ : Nat → Nat) (x : Str) (l u : Option Int) : Txt.slice (mp φ x) l u = mp φ (Txt.slice x l u) := by
  unfold Txt.slice
  rw [mp_len, mp_pick]
  split
  · rfl
  · rw [mp_of]
theorem getD_mp {φ : Nat → Nat} (l : List Nat) (k : Nat) (h : k < l.length) : (l.map φ).getD k 0 = φ (l.getD k 0) := by
  simp [List.getD, h]
theorem lo_mp {φ : Nat → Nat} (u : Up φ) (l : List Nat) (x : Nat) : ∀ k, k ≤ l.length → lo (l.map φ) (φ x) k = lo l x k
  | 0, _ => rfl
  | k + 1, h => by
    unfold lo
    rw [getD_mp l k (by omega), lo_mp u l x k (by omega)]
    simp only [u.lt]
theorem hi_mp {φ : Nat → Nat} (u : Up φ) (l : List Nat) (x : Nat) : ∀ r j, j + r ≤ l.length → hi (l.map φ) (φ x) r j = hi l x r j
  | 0, _, _ => rfl
  | r + 1, j, h => by
    unfold hi
    rw [getD_mp l j (by omega), hi_mp u l x r (j + 1) (by omega)]
    simp only [u.lt]
noncomputable def Parts.mp (φ : Nat → Nat) (p : Parts) : Parts := ⟨Mine.mp φ p.F, Mine.mp φ p.L, Mine.mp φ p.R, Mine.mp φ p.N⟩
theorem sidesP_mp {φ : Nat → Nat} (u : Up φ) (a b c d e x : Nat) : sidesP (φ a) (φ b) (φ c) (φ d) (φ e) (φ x) = (sidesP a b c d e x).map (Parts.mp φ) := by
  have e1 : (⟨#[φ a, φ b, φ c, φ d, φ e]⟩ : Str) = mp φ ⟨#[a, b, c, d, e]⟩ := (mp_of φ [a, b, c, d, e]).symm
  have e2 : (⟨#[φ x]⟩ : Str) = mp φ ⟨#[x]⟩ := (mp_of φ [x]).symm
  have e3 : [φ a, φ b, φ c, φ d, φ e] = [a, b, c, d, e].map φ := rfl
  unfold sidesP
  rw [e1, e2, e3, occ_mp u]
  split
  · rename_i p hp
    by_cases h : p < 5
    · rw [if_pos h, if_pos h, lo_mp u _ _ _ (by show p ≤ 5; omega), hi_mp u _ _ _ _ (by show p + 1 + (4 - p) ≤ 5; omega)]
      simp only [slice_mp, Option.map_some, Parts.mp]
    · rw [if_neg h, if_neg h]; rfl
  · rfl
end Mine

namespace Mine
theorem reps_ints {C : Addr} {h : Heap} {S : List Addr} : ∀ {vs : List Value} {ns : List Int}, IntsAre vs ns → Reps C h S (ns.map PyData.int) vs
  | _, _, .nil => rfl
  | _, _, .cons n t r => ⟨_, _, rfl, ⟨t, rfl⟩, reps_ints r⟩
section
variable {w : World} {mg mb : Str → Option Value} {hB : Heap}
theorem law_top (B : Base w mg mb hB) {ns : List Int} {vs : List Value} {lst : Addr} (hL : hB.IsList lst vs.toArray) (hI : IntsAre vs ns) {a b c d e : Nat}
    (hl : ns.length ≤ 63) (h5 : (numsL ns).length = 5) (hr : ranksL (numsL ns) = [a, b, c, d, e].map Int.ofNat) (hk : ∀ k ∈ [a, b, c, d, e], k < 65) (H : Good a b c d e)
    {nm : Str} {fa : Addr} {cd : Value} {sc : Scope} {body : List Stmt} {env : Env} {o1 o2 o3 : Obj} {s : Shared} {m : Str → Option Value} (hsc : sc = (fdA w.params 237).scope) (hbody : body = bdA w.params 237)
    (henv : env = envOfC nm sc hB.objs.size fa cd) (F : Fr hB hB.objs.size s.heap m) (hm : m (Str.ofString "script") = some (.ref lst))
    (N : News hB hB.objs.size s.heap [(hB.objs.size + 1 + 1 + 1, o3), (hB.objs.size + 1 + 1, o2), (hB.objs.size + 1, o1)]) (d3 : o3.data = .cell none) (d2 : o2.data = .cell none) (d1 : o1.data = .cell none)
    {Q : Flow → Shared → Prop} {E : Value → Shared → Prop} (hQ : ∀ h' tk, (∀ b o, hB.get? b = some o → h'.get? b = some o) → Q (.ret (.bool true)) { s with heap := h', toks := tk }) :
    wpAny (model PySem.Challenge.rw_tc0025_01.prog w) (callerA.deeper env) (execs body env) Q E s := by
  subst hsc hbody
  have N3 := N _ (.head _)
  have N2 := N _ (.tail _ (.head _))
  have N1 := N _ (.tail _ (.tail _ (.head _)))
  have hLB : lst < hB.objs.size := by obtain ⟨o, ho, -⟩ := hL; exact Heap.lt_size ho
  have F' := F
  have hLB' : hB.get? hB.objs.size = none := get_size hB
  generalize hB.objs.size = L at henv F N3 N2 N1 hLB hLB'
  have e1 : env.scope = (fdA w.params 237).scope := by rw [henv]; rfl
  have e2 : env.locals = L := by rw [henv]; rfl
  have e4 : env.globals = mainGlobals := by rw [henv]; rfl
  have e5 : env.builtins = builtinsNs := by rw [henv]; rfl
  have e3 : env.cells = [(Str.ofString "table", L + 1 + 1 + 1), (Str.ofString "word", L + 1 + 1), (Str.ofString "ranks", L + 1)] := by rw [henv]; kernel_rfl
  have e3' : env.cells = cellsFrom (L + 1) (fdA w.params 237).scope.names [] := by rw [henv]; rfl
  have kd : ∀ y, env.kindOf y = (fdA w.params 237).scope.names.lookup y := fun y => by show env.scope.names.lookup y = _; rw [e1]
  have k1 : (fdA w.params 237).scope.names.lookup (Str.ofString "table") = some .cell := by kernel_rfl
  have k2 : (fdA w.params 237).scope.names.lookup (Str.ofString "word") = some .cell := by kernel_rfl
  have k3 : (fdA w.params 237).scope.names.lookup (Str.ofString "ranks") = some .cell := by kernel_rfl
  have k0 : (fdA w.params 237).scope.names.lookup (Str.ofString "script") = some .local := by kernel_rfl
  have l1 : env.cells.lookup (Str.ofString "table") = some (L + 1 + 1 + 1) := by rw [e3]; kernel_rfl
  have l2 : env.cells.lookup (Str.ofString "word") = some (L + 1 + 1) := by rw [e3]; kernel_rfl
  have l3 : env.cells.lookup (Str.ofString "ranks") = some (L + 1) := by rw [e3]; kernel_rfl
  have cases3 : ∀ x cc, env.cells.lookup x = some cc → (x = Str.ofString "table" ∧ cc = L + 1 + 1 + 1) ∨ (x = Str.ofString "word" ∧ cc = L + 1 + 1) ∨ (x = Str.ofString "ranks" ∧ cc = L + 1) := fun x cc hx => by
    have := mem_of_lookup hx
    rw [e3] at this
    simpa using this
  have O : Own (fdA w.params 237).scope [L, L + 1 + 1 + 1, L + 1 + 1, L + 1] env := {
    loc := by rw [e2]; exact .head _
    mem := fun x hx => by
      simp only [List.mem_cons, List.not_mem_nil, or_false] at hx
      rcases hx with rfl | rfl | rfl | rfl
      · exact .inl e2.symm
      · exact .inr ⟨_, k1, l1⟩
      · exact .inr ⟨_, k2, l2⟩
      · exact .inr ⟨_, k3, l3⟩
    kinds := fun y k hy _ => by rw [kd, hy]
    cel := fun y hy => by
      obtain ⟨cc, hc⟩ := cellsFrom_has (fdA w.params 237).scope.names (L + 1) (mem_of_lookup hy)
      rw [← e3'] at hc
      refine ⟨cc, hc, ?_⟩
      rcases cases3 y cc hc with ⟨-, rfl⟩ | ⟨-, rfl⟩ | ⟨-, rfl⟩ <;> simp
    apart := fun y cc hc => by rcases cases3 y cc hc with ⟨-, rfl⟩ | ⟨-, rfl⟩ | ⟨-, rfl⟩ <;> rw [e2] <;> exact Nat.ne_of_gt (by omega)
    inj := fun x y cc hx hy => by
      rcases cases3 x cc hx with ⟨rfl, q⟩ | ⟨rfl, q⟩ | ⟨rfl, q⟩ <;> rcases cases3 y cc hy with ⟨rfl, q'⟩ | ⟨rfl, q'⟩ | ⟨rfl, q'⟩ <;> first | rfl | (have qq : @Eq Nat _ _ := q.symm.trans q'; omega) }
  have rr : Reps CH s.heap [L, L + 1 + 1 + 1, L + 1 + 1, L + 1] [intsD ns] [.ref lst] := by
    refine ⟨_, _, rfl, ⟨lst, vs, rfl, ?_, ?_, reps_ints hI⟩, rfl⟩
    · intro hx
      simp only [List.mem_cons, List.not_mem_nil, or_false] at hx
      rcases hx with q | q | q | q <;> (have q' : @Eq Nat _ _ := q; have hl' : @LT.lt Nat _ lst L := hLB; omega)
    · exact hL.at fun o q => F.keep _ o q
  have only1 : ∀ y d, rl0 ns y = some d → y = Str.ofString "script" := fun y d hy => by
    have := PySem.mem_of_lookup (show ([Str.ofString "script"].zip [intsD ns]).lookup y = some d from hy)
    simp only [List.zip_cons_cons, List.zip_nil_right, List.mem_cons, List.not_mem_nil, or_false, Prod.mk.injEq] at this
    exact this.1
  have V : Vw CH s.heap [L, L + 1 + 1 + 1, L + 1 + 1, L + 1] env (rl0 ns) := {
    kind := by rw [e1]; kernel_rfl
    gl := e4
    bl := e5
    ns := ⟨m, by rw [e2]; exact F.ns, fun y d hy hky => by
      have := only1 y d hy
      subst this
      obtain ⟨v, hv, rv⟩ := zip_lookup (ps := [Str.ofString "script"]) (ds := [intsD ns]) rr hy
      have : v = .ref lst := by
        have := PySem.mem_of_lookup hv
        simp only [List.zip_cons_cons, List.zip_nil_right, List.mem_cons, List.not_mem_nil, or_false, Prod.mk.injEq] at this
        exact this.2
      subst this
      exact ⟨_, hm, rv⟩⟩
    cell := fun y hy => by
      obtain ⟨cc, hc, -⟩ := O.cel y (by rw [← kd]; exact hy)
      have nos : ∀ d, rl0 ns y = some d → False := fun d hd => by
        have := only1 y d hd
        subst this
        rw [kd, k0] at hy; cases hy
      rcases cases3 y cc hc with ⟨-, rfl⟩ | ⟨-, rfl⟩ | ⟨-, rfl⟩
      · exact ⟨_, none, hc, ⟨o3, N3.1, d3⟩, fun d hd => (nos d hd).elim⟩
      · exact ⟨_, none, hc, ⟨o2, N2.1, d2⟩, fun d hd => (nos d hd).elim⟩
      · exact ⟨_, none, hc, ⟨o1, N1.1, d1⟩, fun d hd => (nos d hd).elim⟩
    only := fun y d hy => by
      have := only1 y d hy
      subst this
      rw [kd]; exact .inl k0
    inj := O.inj }
  have fresh : ∀ a ∈ [L, L + 1 + 1 + 1, L + 1 + 1, L + 1], hB.get? a = none := fun x hx => by
    simp only [List.mem_cons, List.not_mem_nil, or_false] at hx
    rcases hx with rfl | rfl | rfl | rfl
    · exact hLB'
    · exact N3.2.2
    · exact N2.2.2
    · exact N1.2.2
  have rm : Rm 4 (callerA.deeper env) := ⟨rfl, by show 1 + claimMargin + 1 + 4 < recursionLimit; decide, by show 4 + 3 + 8 * 4 + 100 < cLine; decide⟩
  have K : KB hB s.heap := fun b o q => F.keep b o q
  refine ex_sound (wdL B) (run_law (P := w.params) hl h5 hr hk H) env [L, L + 1 + 1 + 1, L + 1 + 1, L + 1] [L, L + 1 + 1 + 1, L + 1 + 1, L + 1] (callerA.deeper env) s Q E e1 O (fun _ h => h) (fun x hx ⟨o, q⟩ => by rw [fresh x hx] at q; cases q) K V (V.ownLive O) rm fun v h' tk rv lv bb => ?_
  cases rv
  exact hQ h' tk fun x o q => bb x o (fun m => by rw [fresh x m] at q; cases q) (K x o q)
end
end Mine

namespace Mine
/-- the plain law: five unlike ranks are good -/
noncomputable abbrev PlainLaw : Prop := ∀ ns : List Int, ∃ a b c d e, (numsL ns).length = 5 ∧ ranksL (numsL ns) = [a, b, c, d, e].map Int.ofNat ∧ (∀ k ∈ [a, b, c, d, e], k < 65) ∧ Nonempty (Good a b c d e)
theorem le_of_cond {ns : List Int} (h : ¬ ((63 : Nat) : Int) < ((ns.length : Nat) : Int)) : ns.length ≤ 63 := by omega
section
variable {w : World} {mg mb : Str → Option Value} {hB : Heap}
theorem law_fin (PL : PlainLaw) (B : Base w mg mb hB) {ns : List Int} {vs : List Value} {lst : Addr} (hL : hB.IsList lst vs.toArray) (hI : IntsAre vs ns) (hl : ¬ ((63 : Nat) : Int) < ((ns.length : Nat) : Int))
    {nm : Str} {fa : Addr} {cd : Value} {sc : Scope} {body : List Stmt} {env : Env} {o1 o2 o3 : Obj} {c1 c2 c3 : Option Value} {s₁ : Shared} {h₁ : Heap} {tk : Nat} {m : Str → Option Value} (hsc : sc = (fdA w.params 237).scope) (hbody : body = bdA w.params 237)
    (henv : env = envOfC nm sc hB.objs.size fa cd) (F : Fr hB hB.objs.size h₁ m) (hm : m (Str.ofString "script") = some (.ref lst))
    (N : News hB hB.objs.size h₁ [(hB.objs.size + 1 + 1 + 1, o3), (hB.objs.size + 1 + 1, o2), (hB.objs.size + 1, o1)]) (d3 : o3.data = .cell c3) (d2 : o2.data = .cell c2) (d1 : o1.data = .cell c1) (z3 : c3 = none) (z2 : c2 = none) (z1 : c1 = none)
    {Q : Flow → Shared → Prop} {E : Value → Shared → Prop} (hQ : ∀ h' tk, (∀ b o, hB.get? b = some o → h'.get? b = some o) → Q (.ret (.bool true)) { s₁ with heap := h', toks := tk }) :
    wpAny (model PySem.Challenge.rw_tc0025_01.prog w) (callerA.deeper env) (execs body env) Q E { s₁ with heap := h₁, toks := tk } := by
  obtain ⟨a, b, c, d, e, h5, hr, hk, ⟨H⟩⟩ := PL ns
  subst z1 z2 z3
  exact law_top B hL hI (le_of_cond hl) h5 hr hk H (s := { s₁ with heap := h₁, toks := tk }) hsc hbody henv F hm N d3 d2 d1 hQ
end
set_option maxHeartbeats 8000000 in
theorem holds_of (PL : PlainLaw) : PySem.Challenge.rw_tc0025_01.Holds := hd (by
  k_go0
  have T := ‹Top _ _ _ _ _ _›
  refine law_fin PL ⟨by assumption, T.g, T.b, T.builtins, T.nolimit⟩ (by assumption) (by assumption) (by assumption) (by kernel_rfl) (by kernel_rfl) (by rfl) (by assumption) (by kernel_rfl) (by assumption) (by assumption) (by assumption) (by assumption) (by kernel_rfl) (by kernel_rfl) (by kernel_rfl) fun h' tk keep => ?_
  refine ⟨.inl ⟨.bool true, .bool true, [], by rfl, fun _ => by rfl, .bool true, by kernel_rfl, fun _ => ⟨.nil, by simp⟩⟩, keep, by rfl, by assumption⟩)
end Mine

namespace Mine
open Builtin.Str (occurrences)
noncomputable def sdB (w : Str) (x : Nat) : Parts := (sidesG w ⟨#[x]⟩).getD ⟨⟨#[]⟩, ⟨#[]⟩, ⟨#[]⟩, ⟨#[]⟩⟩
/-- a text turned round -/
noncomputable def rvS (x : Str) : Str := ⟨((Builtin.Str.strSliceIndices none none (-1) x.length).filterMap (x.cps[·]?)).toArray⟩
/-- a text over the five base codes -/
noncomputable def gs (x : Str) : Bool := decide (x.length ≤ 5) && x.cps.toList.all fun c => decide (c < 5)
noncomputable def fives : List SP → Option (List T5)
  | [] => some []
  | p :: r => match five p.2, fives r with
    | some q, some l => some (q :: l)
    | _, _ => none
/-- the table's tests on the base -/
noncomputable def tabC (f : Nat) (cs : List Nat) : List Str → List SP → Bool
  | _, [] => true
  | k, (h, t) :: r => gs h && gs t && (match five t with | some q => decide (((fallsN q.1 q.2.1 q.2.2.1 q.2.2.2.1 q.2.2.2.2 : Nat) : Int) = f + 2 * (moreN h cs : Nat) - (h.length : Nat)) | none => false) && k.all (fun y => y != t) && tabC f cs (k ++ [t]) r
noncomputable def bmv (w : Str) (l : List Nat) : List Nat := l.filter fun x => isMover (sdB w x)
noncomputable def bcl (w : Str) (l : List Nat) : List Nat := l.filter fun x => em (sdB w x).L && !em (sdB w x).R
noncomputable def bvl (w : Str) (l : List Nat) : List Nat := l.filter fun x => !em (sdB w x).L && !em (sdB w x).R
/-- what is tried for each of the 120 base words -/
noncomputable def chk (a b c d e : Nat) : Bool :=
  let w : Str := ⟨#[a, b, c, d, e]⟩
  let mv : Str := ⟨(bmv w [a, b, c, d, e]).toArray⟩
  match wordsL [(⟨#[]⟩, w)] mv.cps.toList, wordsL [(⟨#[]⟩, w)] (rvS mv).cps.toList with
  | some ws, some wt => match fives ws with
    | some ts => ([a, b, c, d, e].all fun x => decide (x < 5) && (sidesG w ⟨#[x]⟩).isSome) && decide (mv.length + 2 * (bvl w [a, b, c, d, e]).length = 4) && decide (ws.length = 2 ^ mv.length) &&
        tabC (fallsN a b c d e) (bcl w [a, b, c, d, e]) [] ws && (ts.all fun q => decide (coll (s5 q) w = firstU (zip5 q (a, b, c, d, e)))) &&
        decide (wt.length ≤ 100) && (wt.all fun q => gs q.1 && gs q.2 && (match ws.find? (fun p => p.2 == q.2) with | some p => p.1 == rvS q.1 | none => false)) && pairsB a b c d e mv ts
    | none => false
  | _, _ => false
theorem sidesF_G (w s : Str) : sidesF [.str w, .str s] = (sidesG w s).map Parts.D := rfl
theorem sidesG_mp {φ : Nat → Nat} (u : Up φ) (w s : Str) : sidesG (mp φ w) (mp φ s) = (sidesG w s).map (Parts.mp φ) := by
  unfold sidesG
  rw [mp_list, mp_list]
  generalize w.cps.toList = l
  generalize s.cps.toList = m
  rcases l with _ | ⟨a, _ | ⟨b, _ | ⟨c, _ | ⟨d, _ | ⟨e, _ | ⟨f, l⟩⟩⟩⟩⟩⟩ <;> first | rfl | skip
  rcases m with _ | ⟨x, _ | ⟨y, m⟩⟩ <;> first | rfl | exact sidesP_mp u a b c d e x
theorem one_mp (φ : Nat → Nat) (x : Nat) : (⟨#[φ x]⟩ : Str) = mp φ ⟨#[x]⟩ := (mp_of φ [x]).symm
theorem hopS_mp {φ : Nat → Nat} (u : Up φ) (t c : Str) : hopS (mp φ t) (mp φ c) = (hopS t c).map (mp φ) := by
  unfold hopS
  rw [sidesG_mp u]
  cases sidesG t c with
  | none => rfl
  | some p =>
    simp only [Option.map_some, Option.bind_some, Parts.mp, mp_len, ← mp_app]
    split <;> rfl
noncomputable def mpS (φ : Nat → Nat) (p : SP) : SP := (mp φ p.1, mp φ p.2)
theorem hopsAll_mp {φ : Nat → Nat} (u : Up φ) (c : Str) : ∀ ws : List SP, hopsAll (ws.map (mpS φ)) (mp φ c) = (hopsAll ws c).map (List.map (mpS φ))
  | [] => rfl
  | (h, t) :: r => by
    show (match hopS (mp φ t) (mp φ c), hopsAll (r.map (mpS φ)) (mp φ c) with
      | some u, some l => if (mp φ h).length + (mp φ c).length ≤ 100 then some ((mp φ h ++ mp φ c, u) :: l) else none
      | _, _ => none) = _
    rw [hopS_mp u, hopsAll_mp u c r, mp_len, mp_len, ← mp_app]
    show _ = Option.map _ (match hopS t c, hopsAll r c with
      | some u, some l => if h.length + c.length ≤ 100 then some ((h ++ c, u) :: l) else none
      | _, _ => none)
    cases hopS t c with
    | none => rfl
    | some v =>
      cases hopsAll r c with
      | none => rfl
      | some l =>
        simp only [Option.map_some]
        split <;> rfl
theorem wordsL_mp {φ : Nat → Nat} (u : Up φ) : ∀ (cs : List Nat) (ws : List SP), wordsL (ws.map (mpS φ)) (cs.map φ) = (wordsL ws cs).map (List.map (mpS φ))
  | [], ws => rfl
  | c :: cs, ws => by
    show (match hopsAll (ws.map (mpS φ)) ⟨#[φ c]⟩ with
      | some more => if (ws.map (mpS φ)).length + more.length ≤ 100 then wordsL (ws.map (mpS φ) ++ more) (cs.map φ) else none
      | none => none) = _
    rw [one_mp, hopsAll_mp u]
    show _ = Option.map _ (match hopsAll ws ⟨#[c]⟩ with
      | some more => if ws.length + more.length ≤ 100 then wordsL (ws ++ more) cs else none
      | none => none)
    cases hopsAll ws ⟨#[c]⟩ with
    | none => rfl
    | some more =>
      simp only [Option.map_some, List.length_map]
      split
      · rw [← List.map_append, wordsL_mp u cs]
      · rfl
theorem fallsN_mp {φ : Nat → Nat} (u : Up φ) (a b c d e : Nat) : fallsN (φ a) (φ b) (φ c) (φ d) (φ e) = fallsN a b c d e := by
  show ((([(a, b), (b, c), (c, d), (d, e)] : List (Nat × Nat)).map fun p => (φ p.1, φ p.2)).filter fun p => decide (p.2 < p.1)).length = _
  rw [List.filter_map, List.length_map]
  have : ((fun p : Nat × Nat => decide (p.2 < p.1)) ∘ fun p : Nat × Nat => (φ p.1, φ p.2)) = fun p => decide (p.2 < p.1) := by
    funext p
    simp only [Function.comp, u.lt]
  rw [this]
  rfl
theorem lex_mp {φ : Nat → Nat} (u : Up φ) : ∀ l m : List Nat, l.map φ < m.map φ ↔ l < m
  | _, [] => by simp
  | [], _ :: _ => by simp
  | a :: l, b :: m => by
    rw [List.map_cons, List.map_cons, List.cons_lt_cons_iff, List.cons_lt_cons_iff, u.lt, lex_mp u l m]
    exact or_congr Iff.rfl (and_congr ⟨u.inj a b, fun h => by rw [h]⟩ Iff.rfl)
theorem coll_mp {φ : Nat → Nat} (u : Up φ) (x y : Str) : coll (mp φ x) (mp φ y) = coll x y := by
  unfold coll
  rw [mp_list, mp_list]
  simp only [lex_mp u]
theorem firstU_mp {φ : Nat → Nat} (u : Up φ) : ∀ l : List (Nat × Nat), firstU (l.map fun p => (φ p.1, φ p.2)) = firstU l
  | [] => rfl
  | (a, b) :: r => by
    rw [List.map_cons]
    by_cases h : a = b
    · subst h
      rw [firstU_like, firstU_like, firstU_mp u r]
    · rw [firstU_un h, firstU_un (fun q => h (u.inj a b q)), one_mp, one_mp, coll_mp u]
theorem argBest_le (bt : Nat → Nat → Bool) : ∀ k, argBest bt k ≤ k
  | 0 => Nat.le_refl _
  | k + 1 => by
    unfold argBest
    split
    · exact Nat.le_refl _
    · exact Nat.le_succ_of_le (argBest_le bt k)
theorem ltAt_mp {φ : Nat → Nat} (u : Up φ) (x : Str) (i j : Nat) (hi : i < x.cps.size) (hj : j < x.cps.size) : ltAt (mp φ x) i j = ltAt x i j := by
  unfold ltAt
  have e : ∀ k, k < x.cps.size → (mp φ x).cps.getD k 0 = φ (x.cps.getD k 0) := fun k hk => by simp [mp, Array.getD, hk]
  rw [e i hi, e j hj]
  simp only [u.lt]
theorem argBest_mp {φ : Nat → Nat} (u : Up φ) (x : Str) : ∀ k, k < x.cps.size → argBest (ltAt (mp φ x)) k = argBest (ltAt x) k
  | 0, _ => rfl
  | k + 1, h => by
    unfold argBest
    rw [argBest_mp u x k (by omega), ltAt_mp u x _ _ h (by have := argBest_le (ltAt x) k; omega)]
theorem minS_mp {φ : Nat → Nat} (u : Up φ) (x : Str) : minS (mp φ x) = (minS x).map φ := by
  unfold minS
  rw [mp_get]
  have e : (mp φ x).cps.size = x.cps.size := by simp [mp]
  rw [e]
  rcases Nat.eq_zero_or_pos x.cps.size with h | h
  · rw [h]
    have : x.cps = #[] := by simpa using h
    simp [this]
  · rw [argBest_mp u x _ (by omega)]
theorem ell_mp {φ : Nat → Nat} (u : Up φ) (got : Str) (x y : Nat) : ell (mp φ got) (φ x) (φ y) = ell got x y := by
  unfold ell
  rw [one_mp, one_mp, occ_mp u]
  simp only [occ_mp u]
noncomputable def mp5 (φ : Nat → Nat) (q : T5) : T5 := (φ q.1, φ q.2.1, φ q.2.2.1, φ q.2.2.2.1, φ q.2.2.2.2)
theorem s5_mp (φ : Nat → Nat) (q : T5) : s5 (mp5 φ q) = mp φ (s5 q) := (mp_of φ [q.1, q.2.1, q.2.2.1, q.2.2.2.1, q.2.2.2.2]).symm
theorem told_mp {φ : Nat → Nat} (u : Up φ) (ts : List T5) (x y : Nat) : (told (ts.map (mp5 φ)) (φ x) (φ y)).length = (told ts x y).length := by
  unfold told
  rw [List.filter_map, List.length_map]
  have : ((fun q => ell (s5 q) (φ x) (φ y)) ∘ mp5 φ) = fun q => ell (s5 q) x y := by
    funext q
    show ell (s5 (mp5 φ q)) (φ x) (φ y) = _
    rw [s5_mp, ell_mp u]
  rw [this]
theorem hasC_mp {φ : Nat → Nat} (u : Up φ) (mv : Str) (c : Nat) : hasC (mp φ mv) (φ c) = hasC mv c := by
  unfold hasC
  rw [one_mp, mp_len, occ_mp u]
theorem pairOk_mp {φ : Nat → Nat} (u : Up φ) (mv : Str) (ts : List T5) (x y m : Nat) : pairOk (mp φ mv) (ts.map (mp5 φ)) (φ x) (φ y) (φ m) = pairOk mv ts x y m := by
  unfold pairOk
  rw [told_mp u, hasC_mp u, List.length_map]
theorem at5_mp (φ : Nat → Nat) (a b c d e i : Nat) (h : i < 5) : at5 (φ a) (φ b) (φ c) (φ d) (φ e) i = φ (at5 a b c d e i) := by
  rcases (show i = 0 ∨ i = 1 ∨ i = 2 ∨ i = 3 ∨ i = 4 by omega) with rfl | rfl | rfl | rfl | rfl <;> rfl
theorem pairsB_mp {φ : Nat → Nat} (u : Up φ) {a b c d e : Nat} {mv : Str} {ts : List T5} (h : pairsB a b c d e mv ts = true) : pairsB (φ a) (φ b) (φ c) (φ d) (φ e) (mp φ mv) (ts.map (mp5 φ)) = true := by
  refine List.all_eq_true.mpr fun t ht => List.all_eq_true.mpr fun s hs => ?_
  have ht5 := List.mem_range.mp ht
  have hst := List.mem_range.mp hs
  have h1 := List.all_eq_true.mp (List.all_eq_true.mp h t ht) s hs
  rw [show (⟨#[φ a, φ b, φ c, φ d, φ e]⟩ : Str) = mp φ ⟨#[a, b, c, d, e]⟩ from (mp_of φ [a, b, c, d, e]).symm, slice_mp, minS_mp u, at5_mp _ _ _ _ _ _ _ (by omega), at5_mp _ _ _ _ _ _ _ ht5]
  split at h1
  · rename_i m hm
    rw [hm]
    exact (pairOk_mp u mv ts _ _ m).trans h1
  · cases h1
theorem rvS_mp (φ : Nat → Nat) (x : Str) : rvS (mp φ x) = mp φ (rvS x) := by
  unfold rvS
  rw [mp_len, mp_pick, mp_of]
theorem beq_mp {φ : Nat → Nat} (u : Up φ) (a b : Nat) : (φ a == φ b) = (a == b) := by
  rw [Bool.eq_iff_iff, beq_iff_eq, beq_iff_eq]
  exact ⟨u.inj a b, fun h => by rw [h]⟩
theorem moreN_mp {φ : Nat → Nat} (u : Up φ) (h : Str) (cs : List Nat) : moreN (mp φ h) (cs.map φ) = moreN h cs := by
  unfold moreN
  rw [mp_list, List.filter_map, List.length_map]
  have : ((fun c => (cs.map φ).any fun y => y == c) ∘ φ) = fun c => cs.any fun y => y == c := by
    funext c
    show (cs.map φ).any (fun y => y == φ c) = _
    rw [List.any_map]
    exact congrArg _ (funext fun y => beq_mp u y c)
  rw [this]
theorem em_mp {φ : Nat → Nat} (u : Up φ) (x : Str) : em (mp φ x) = em x := by
  unfold em
  have e : Str.ofString "" = mp φ (Str.ofString "") := by
    have : Str.ofString "" = ⟨#[]⟩ := by kernel_rfl
    rw [this]; exact (mp_of φ []).symm
  rw [Bool.eq_iff_iff, beq_iff_eq, beq_iff_eq]
  constructor
  · intro h; rw [e] at h; exact (mp_inj u).mp h
  · intro h; rw [h, ← e]
end Mine

namespace Mine
noncomputable def nd5 (a b c d e : Nat) : Bool := a != b && a != c && a != d && a != e && b != c && b != d && b != e && c != d && c != e && d != e
noncomputable def chkAB (a b : Nat) : Bool := (List.range 5).all fun c => (List.range 5).all fun d => (List.range 5).all fun e => !(nd5 a b c d e) || chk a b c d e
theorem chk00 : chkAB 0 0 = true := by decide +kernel
theorem chk01 : chkAB 0 1 = true := by decide +kernel
theorem chk02 : chkAB 0 2 = true := by decide +kernel
theorem chk03 : chkAB 0 3 = true := by decide +kernel
theorem chk04 : chkAB 0 4 = true := by decide +kernel
theorem chk10 : chkAB 1 0 = true := by decide +kernel
theorem chk11 : chkAB 1 1 = true := by decide +kernel
theorem chk12 : chkAB 1 2 = true := by decide +kernel
theorem chk13 : chkAB 1 3 = true := by decide +kernel
theorem chk14 : chkAB 1 4 = true := by decide +kernel
theorem chk20 : chkAB 2 0 = true := by decide +kernel
theorem chk21 : chkAB 2 1 = true := by decide +kernel
theorem chk22 : chkAB 2 2 = true := by decide +kernel
theorem chk23 : chkAB 2 3 = true := by decide +kernel
theorem chk24 : chkAB 2 4 = true := by decide +kernel
theorem chk30 : chkAB 3 0 = true := by decide +kernel
theorem chk31 : chkAB 3 1 = true := by decide +kernel
theorem chk32 : chkAB 3 2 = true := by decide +kernel
theorem chk33 : chkAB 3 3 = true := by decide +kernel
theorem chk34 : chkAB 3 4 = true := by decide +kernel
theorem chk40 : chkAB 4 0 = true := by decide +kernel
theorem chk41 : chkAB 4 1 = true := by decide +kernel
theorem chk42 : chkAB 4 2 = true := by decide +kernel
theorem chk43 : chkAB 4 3 = true := by decide +kernel
theorem chk44 : chkAB 4 4 = true := by decide +kernel
theorem chkAB_all : ∀ a b, a < 5 → b < 5 → chkAB a b = true
  | 0, 0, _, _ => chk00
  | 0, 1, _, _ => chk01
  | 0, 2, _, _ => chk02
  | 0, 3, _, _ => chk03
  | 0, 4, _, _ => chk04
  | 1, 0, _, _ => chk10
  | 1, 1, _, _ => chk11
  | 1, 2, _, _ => chk12
  | 1, 3, _, _ => chk13
  | 1, 4, _, _ => chk14
  | 2, 0, _, _ => chk20
  | 2, 1, _, _ => chk21
  | 2, 2, _, _ => chk22
  | 2, 3, _, _ => chk23
  | 2, 4, _, _ => chk24
  | 3, 0, _, _ => chk30
  | 3, 1, _, _ => chk31
  | 3, 2, _, _ => chk32
  | 3, 3, _, _ => chk33
  | 3, 4, _, _ => chk34
  | 4, 0, _, _ => chk40
  | 4, 1, _, _ => chk41
  | 4, 2, _, _ => chk42
  | 4, 3, _, _ => chk43
  | 4, 4, _, _ => chk44
  | a + 5, _, h, _ => absurd h (by omega)
  | _, b + 5, _, h => absurd h (by omega)
theorem chk_all {a b c d e : Nat} (ha : a < 5) (hb : b < 5) (hc : c < 5) (hd : d < 5) (he : e < 5) (h : nd5 a b c d e = true) : chk a b c d e = true := by
  have h1 := chkAB_all a b ha hb
  have h2 := List.all_eq_true.mp (List.all_eq_true.mp (List.all_eq_true.mp h1 c (List.mem_range.mpr hc)) d (List.mem_range.mpr hd)) e (List.mem_range.mpr he)
  rw [h] at h2
  simpa using h2
end Mine

set_option genInjectivity false
set_option genSizeOf false
set_option genSizeOfSpec false
namespace Mine
noncomputable def upc (c : Nat) : Nat := (Unicode.upperOf c).headD c
noncomputable def cfB (k : Nat) : Bool := Unicode.lowerOf (code k) == [code k] && Unicode.upperOf (code k) == [upc (code k)] && Unicode.lowerOf (upc (code k)) == [code k] && (code k != 931) && (upc (code k) != 931)
theorem cf_all : (List.range 65).all cfB = true := by decide +kernel
structure CF (c : Nat) : Prop where
  lo : Unicode.lowerOf c = [c]
  up : Unicode.upperOf c = [upc c]
  lu : Unicode.lowerOf (upc c) = [c]
  n1 : c ≠ 931
  n2 : upc c ≠ 931
theorem cf {k : Nat} (h : k < 65) : CF (code k) := by
  have := List.all_eq_true.mp cf_all k (List.mem_range.mpr h)
  unfold cfB at this
  simp only [Bool.and_eq_true, beq_iff_eq, bne_iff_ne] at this
  obtain ⟨⟨⟨⟨a, b⟩, c⟩, d⟩, e⟩ := this
  exact ⟨a, b, c, d, e⟩
theorem flat_one {g : Nat → Nat} : ∀ l : List Nat, (l.map fun c => [g c]).flatten = l.map g
  | [] => rfl
  | c :: l => by rw [List.map_cons, List.flatten_cons, flat_one l]; rfl
theorem placed_map {x : Str} {f : Nat → Nat → List Nat} {g : Nat → Nat} (h : ∀ i c, x.cps[i]? = some c → f i c = [g c]) : placed x f = x.cps.map g := by
  unfold placed
  have e : Array.mapIdx (fun i c => (f i c).toArray) x.cps = x.cps.map fun c => #[g c] := by
    refine Array.ext (by simp) fun i h1 h2 => ?_
    have hi : i < x.cps.size := by simpa using h1
    simp [h i x.cps[i] (by simp [hi])]
  rw [e]
  have : (x.cps.map fun c => #[g c]).flatten.toList = (x.cps.map g).toList := by
    rw [Array.toList_flatten, Array.toList_map, Array.toList_map, List.map_map]
    exact flat_one x.cps.toList
  exact Array.toList_inj.mp this
/-- a text of at most five signs -/
structure GTx (x : Str) : Prop where
  len : x.length ≤ 5
  cs : ∀ c ∈ x.cps.toList, ∃ k, k < 65 ∧ c = code k
theorem mem_of_getq {x : Str} {i c : Nat} (h : x.cps[i]? = some c) : c ∈ x.cps.toList := by
  have := Array.mem_of_getElem? h
  simpa using this
theorem lowerAt_of {s : Array Nat} {i c : Nat} {l : List Nat} (h : s[i]? = some c) (n : c ≠ 931) (hl : Unicode.lowerOf c = l) : Unicode.lowerAt s i = l := by
  unfold Unicode.lowerAt
  rw [h]
  have : (c == 931) = false := by simpa using n
  simp only [this, Bool.false_and, Bool.false_eq_true, if_false]
  exact hl
theorem GTx.lower {x : Str} (g : GTx x) : Txt.lower x = x := by
  have : placed x (fun i _ => Unicode.lowerAt x.cps i) = x.cps.map id := placed_map fun i c h => by
    obtain ⟨k, hk, rfl⟩ := g.cs c (mem_of_getq h)
    exact lowerAt_of h (cf hk).n1 (cf hk).lo
  unfold Txt.lower
  rw [this]
  cases x; simp
theorem GTx.upper {x : Str} (g : GTx x) : Txt.upper x = mp upc x := by
  have : placed x (fun _ c => Unicode.upperOf c) = x.cps.map upc := placed_map fun i c h => by
    obtain ⟨k, hk, rfl⟩ := g.cs c (mem_of_getq h)
    exact (cf hk).up
  unfold Txt.upper
  rw [this]; rfl
theorem GTx.low_up {x : Str} (g : GTx x) : Txt.lower (Txt.upper x) = x := by
  rw [g.upper]
  have key : ∀ i c, (mp upc x).cps[i]? = some c → Unicode.lowerAt (mp upc x).cps i = [x.cps.getD i 0] := fun i c h => by
    have h' := h
    rw [mp_get] at h'
    cases q : x.cps[i]? with
    | none => rw [q] at h'; cases h'
    | some d =>
      rw [q] at h'
      obtain ⟨k, hk, rfl⟩ := g.cs d (mem_of_getq q)
      cases h'
      refine lowerAt_of h (cf hk).n2 ((cf hk).lu.trans ?_)
      simp [q]
  have e : placed (mp upc x) (fun i _ => Unicode.lowerAt (mp upc x).cps i) = x.cps := by
    unfold placed
    have e1 : Array.mapIdx (fun i _ => (Unicode.lowerAt (mp upc x).cps i).toArray) (mp upc x).cps = x.cps.map fun c => #[c] := by
      refine Array.ext (by simp [mp]) fun i h1 h2 => ?_
      have hi : i < x.cps.size := by simpa using h2
      have hi' : i < (mp upc x).cps.size := by simpa using h1
      simp [key i _ (Array.getElem?_eq_getElem hi'), hi]
    rw [e1]
    have : (x.cps.map fun c => #[c]).flatten.toList = x.cps.toList := by
      rw [Array.toList_flatten, Array.toList_map, List.map_map]
      have := flat_one (g := id) x.cps.toList
      rw [List.map_id] at this
      exact this
    exact Array.toList_inj.mp this
  unfold Txt.lower
  rw [e]
theorem GTx.up_len {x : Str} (g : GTx x) : (Txt.upper x).length ≤ small := by
  have e2 := small_is
  rw [g.upper, mp_len]
  have := g.len
  omega
theorem GTx.sml {x : Str} (g : GTx x) : x.length ≤ small := by
  have e2 := small_is
  have := g.len
  omega
theorem GTx.ok {x : Str} (g : GTx x) : okSb x = true := by
  unfold okSb
  rw [Bool.and_eq_true, decide_eq_true_eq]
  refine ⟨g.sml, List.all_eq_true.mpr fun c hc => ?_⟩
  obtain ⟨k, hk, rfl⟩ := g.cs c hc
  have := code_ok hk
  simp only [Bool.and_eq_true, decide_eq_true_eq]
  omega
theorem strOk_code {k : Nat} (h : k < 65) : PyData.strOk ⟨#[code k]⟩ = true := by
  have := code_ok h
  unfold PyData.strOk
  simp
  omega
theorem GTx.strs {x : Str} (g : GTx x) : x.cps.toList.all (fun c => PyData.strOk ⟨#[c]⟩) = true := List.all_eq_true.mpr fun c hc => by
  obtain ⟨k, hk, rfl⟩ := g.cs c hc
  exact strOk_code hk
theorem GTx.strOk {x : Str} (g : GTx x) : PyData.strOk x = true := by
  unfold PyData.strOk
  rw [Array.all_eq_true_iff_forall_mem]
  intro c hc
  obtain ⟨k, hk, rfl⟩ := g.cs c (by simpa using hc)
  have := code_ok hk
  simp
  omega
theorem gs_gt {φ : Nat → Nat} (hφ : ∀ i, i < 5 → ∃ k, k < 65 ∧ φ i = code k) {x : Str} (h : gs x = true) : GTx (mp φ x) := by
  unfold gs at h
  rw [Bool.and_eq_true, decide_eq_true_eq] at h
  refine ⟨by rw [mp_len]; exact h.1, fun c hc => ?_⟩
  rw [mp_list] at hc
  obtain ⟨d, hd, rfl⟩ := List.mem_map.mp hc
  have := List.all_eq_true.mp h.2 d hd
  exact hφ d (by simpa using this)
end Mine

namespace Mine
open Builtin.Str (occurrences)
/-- leaves that can be laid -/
noncomputable def leafOk : D → Bool
  | .int _ => true
  | .str x => PyData.strOk x
  | _ => false
theorem leaf_pl : ∀ l : List D, (∀ d ∈ l, leafOk d = true) → pl.pls l = true ∧ PyData.canLayAll0 l = true ∧ PyData.depthAll l = 0
  | [], _ => ⟨rfl, rfl, rfl⟩
  | d :: l, h => by
    have ⟨a, b, c⟩ := leaf_pl l fun d hd => h d (.tail _ hd)
    have hd := h d (.head _)
    cases d <;> first | cases hd | skip
    · refine ⟨?_, ?_, ?_⟩
      · show (true && pl.pls l) = true
        rw [a]; rfl
      · simp [PyData.canLayAll0, PyData.canLay0, b]
      · simp [PyData.depthAll, PyData.depth, c]
    · refine ⟨?_, ?_, ?_⟩
      · show (true && pl.pls l) = true
        rw [a]; rfl
      · simp only [PyData.canLayAll0, PyData.canLay0, b, Bool.and_true]; exact hd
      · simp [PyData.depthAll, PyData.depth, c]
theorem cmp_leaf {l : List D} (h : ∀ d ∈ l, leafOk d = true) : cmpD .NotEq (.list l) (.list l) = some false := by
  have ⟨a, b, c⟩ := leaf_pl l h
  have hc : (PyData.list l).canLay0 = true := by simp only [PyData.canLay0]; exact b
  have hs : shp (.list l) = true := by
    show (pl.pls l && ((PyData.list l).canLay0 && decide ((PyData.list l).depth ≤ 64))) = true
    rw [a, hc]
    have : (PyData.list l).depth = 1 := by simp [PyData.depth, c]
    rw [this]; rfl
  show (if (shp (.list l) && shp (.list l)) = true then some (!(PyData.eqv (.list l) (.list l))) else none) = _
  rw [hs, PySem.SeqAt.eqv_refl _ hc]; rfl
theorem decW_map : ∀ l : List SP, decW (l.map pr) = some l
  | [] => rfl
  | (a, b) :: r => by
    show (decW (r.map pr)).map ((a, b) :: ·) = _
    rw [decW_map r]; rfl
theorem decC_map : ∀ l : List Nat, decC (l.map fun c => .str ⟨#[c]⟩) = some l
  | [] => rfl
  | c :: r => by
    show (match [c], decC (r.map fun c => .str ⟨#[c]⟩) with | [c], some l => some (c :: l) | _, _ => none) = _
    rw [decC_map r]
theorem decT_map : ∀ l : List T5, decT (l.map fun q => .str (s5 q)) = some l
  | [] => rfl
  | (a, b, c, d, e) :: r => by
    show (match [a, b, c, d, e], decT (r.map fun q => .str (s5 q)) with | [a, b, c, d, e], some l => some ((a, b, c, d, e) :: l) | _, _ => none) = _
    rw [decT_map r]
theorem fives_eq : ∀ {ws : List SP} {ts : List T5}, fives ws = some ts → ws.map (·.2) = ts.map s5
  | [], ts, h => by cases h; rfl
  | p :: r, ts, h => by
    unfold fives at h
    split at h
    · rename_i q l h1 h2
      cases h
      rw [List.map_cons, List.map_cons, fives_eq h2, five_s5 h1]
    · cases h
theorem revD_rvS {x : Str} (h : x.length ≤ small) : revD (.str x) = some (.str (rvS x)) := by
  show (if x.length ≤ small then _ else _) = _
  rw [if_pos h]; rfl
theorem firstF_zip (p q : T5) : firstF [.str (s5 p), .str (s5 q)] = some (.int (firstU (zip5 p q))) := rfl
theorem fallsF_s5 (q : T5) : fallsF [.str (s5 q)] = some (.int (fallsN q.1 q.2.1 q.2.2.1 q.2.2.2.1 q.2.2.2.2 : Nat)) := rfl
theorem getF_of {l : List SP} {n : Str} (h1 : n.length ≤ small) (h2 : okSb (Txt.lower n) = true) (h3 : l.length ≤ small) (h4 : ∀ p ∈ l, p.1.length ≤ small) : getF (l.map enc) [.str n] none = some (getV l (Txt.lower n)) := by
  show (match dec (l.map enc) with
    | some l => if n.length ≤ small ∧ okSb (Txt.lower n) = true ∧ l.length ≤ small ∧ l.all (fun p => decide (p.1.length ≤ small)) = true then some (getV l (Txt.lower n)) else none
    | none => none) = _
  rw [dec_enc]
  simp only
  rw [if_pos ⟨h1, h2, h3, List.all_eq_true.mpr fun p hp => decide_eq_true (h4 p hp)⟩]
section
variable {φ : Nat → Nat}
theorem strne_mp (u : Up φ) {x y : Str} (h : (x != y) = true) : mp φ x ≠ mp φ y := fun q => by
  rw [(mp_inj u).mp q] at h
  simp at h
theorem getV_none {l : List SP} {n : Str} (h : ∀ p ∈ l, Txt.lower p.1 ≠ n) : getV l n = .none := by
  unfold getV
  have : l.find? (lowEq n) = none := List.find?_eq_none.mpr fun p hp q => h p hp (by simpa [lowEq] using q)
  rw [this]
theorem tok_mp (u : Up φ) (hφ : ∀ i, i < 5 → ∃ k, k < 65 ∧ φ i = code k) {f : Nat} {cs : List Nat} {k : List Str} {k' : List SP} {h t : Str} {q : T5} (hk : ∀ y ∈ k, gs y = true) (hk' : k'.map (·.1) = k.map (mp φ)) (hl : k.length ≤ 100)
    (h1 : gs h = true) (h2 : gs t = true) (h3 : five t = some q) (h4 : ((fallsN q.1 q.2.1 q.2.2.1 q.2.2.2.1 q.2.2.2.2 : Nat) : Int) = f + 2 * (moreN h cs : Nat) - (h.length : Nat)) (h5 : ∀ y ∈ k, (y != t) = true) :
    tokB f (cs.map φ) k' (mp φ h) (mp φ t) = true := by
  have e2 := small_is
  have gh := gs_gt hφ h1
  have gt := gs_gt hφ h2
  have mem : ∀ p ∈ k', ∃ y ∈ k, p.1 = mp φ y := fun p hp => by
    have : p.1 ∈ k'.map (·.1) := List.mem_map.mpr ⟨p, hp, rfl⟩
    rw [hk'] at this
    obtain ⟨y, hy, e⟩ := List.mem_map.mp this
    exact ⟨y, hy, e.symm⟩
  have hlen : k'.length = k.length := by
    have := congrArg List.length hk'
    simpa using this
  have hf : fallsF [.str (mp φ t)] = some (.int (f + 2 * (moreN h cs : Nat) - (h.length : Nat))) := by
    rw [five_s5 h3, ← s5_mp, fallsF_s5, ← h4]
    exact congrArg (fun n : Nat => some (PyData.int (n : Int))) (fallsN_mp u _ _ _ _ _)
  have hg : getF (k'.map enc) [.str (mp φ t)] none = some .none := by
    rw [getF_of gt.sml (by rw [gt.lower]; exact gt.ok) (by omega) fun p hp => by obtain ⟨y, hy, e⟩ := mem p hp; rw [e]; exact (gs_gt hφ (hk y hy)).sml, getV_none]
    intro p hp
    obtain ⟨y, hy, e⟩ := mem p hp
    rw [e, (gs_gt hφ (hk y hy)).lower, gt.lower]
    exact strne_mp u (h5 y hy)
  unfold tokB
  rw [hf, hg, moreN_mp u, mp_len, gh.strs, gt.ok, gh.ok]
  have : h.length ≤ small := by have := gh.sml; rwa [mp_len] at this
  simp [this, intIs, isNone]
theorem tab_mp (u : Up φ) (hφ : ∀ i, i < 5 → ∃ k, k < 65 ∧ φ i = code k) {f : Nat} {cs : List Nat} : ∀ {r : List SP} {k : List Str} {k' : List SP}, (∀ y ∈ k, gs y = true) → k'.map (·.1) = k.map (mp φ) → k.length + r.length ≤ 100 → tabC f cs k r = true → tabB f (cs.map φ) k' (r.map (mpS φ)) = true
  | [], _, _, _, _, _, _ => rfl
  | (h, t) :: r, k, k', hk, hk', hl, ht => by
    unfold tabC at ht
    simp only [Bool.and_eq_true] at ht
    obtain ⟨⟨⟨⟨h1, h2⟩, h3⟩, h4⟩, h5⟩ := ht
    rw [List.length_cons] at hl
    show (tokB f (cs.map φ) k' (mp φ h) (mp φ t) && tabB f (cs.map φ) (k' ++ [(mp φ t, mp φ h)]) (r.map (mpS φ))) = true
    rw [Bool.and_eq_true]
    constructor
    · split at h3
      · rename_i q hq
        exact tok_mp u hφ hk hk' (by omega) h1 h2 hq (of_decide_eq_true h3) (List.all_eq_true.mp h4)
      · cases h3
    · refine tab_mp u hφ (k := k ++ [t]) ?_ ?_ ?_ h5
      · intro y hy
        rcases List.mem_append.mp hy with hy | hy
        · exact hk y hy
        · rw [List.mem_singleton.mp hy]; exact h2
      · rw [List.map_append, List.map_append, hk']; rfl
      · rw [List.length_append, List.length_singleton]; omega
theorem filt_code {κ : Nat → Nat} {p q : Nat → Bool} {l : List Nat} (h : ∀ x ∈ l, p (κ x) = q x) : ((l.map κ).filter p).map code = (l.filter q).map fun i => code (κ i) := by
  rw [List.filter_map, List.map_map, List.filter_congr (p := p ∘ κ) (q := q) (fun x hx => h x hx)]
  rfl
theorem filt_len {κ : Nat → Nat} {p q : Nat → Bool} {l : List Nat} (h : ∀ x ∈ l, p (κ x) = q x) : ((l.map κ).filter p).length = (l.filter q).length := by
  rw [List.filter_map, List.length_map, List.filter_congr (p := p ∘ κ) (q := q) (fun x hx => h x hx)]
theorem sdB_mp (u : Up φ) {w : Str} {x : Nat} (h : (sidesG w ⟨#[x]⟩).isSome = true) : sdB (mp φ w) (φ x) = (sdB w x).mp φ ∧ sidesF [.str (mp φ w), .str ⟨#[φ x]⟩] = some ((sdB w x).mp φ).D := by
  unfold sdB
  rw [sidesF_G, one_mp, sidesG_mp u]
  cases q : sidesG w ⟨#[x]⟩ with
  | none => rw [q] at h; cases h
  | some p => exact ⟨rfl, rfl⟩
theorem mover_mp (u : Up φ) (p : Parts) : isMover (p.mp φ) = isMover p := by
  unfold isMover Parts.mp
  rw [em_mp u, em_mp u]
end
end Mine

set_option genInjectivity false
set_option genSizeOf false
set_option genSizeOfSpec false
namespace Mine
/-- what the check of a base word says -/
structure Chk (w : Str) (l : List Nat) (a b c d e : Nat) where
  ws : List SP
  wt : List SP
  ts : List T5
  hW : wordsL [(⟨#[]⟩, w)] (bmv w l) = some ws
  hT : wordsL [(⟨#[]⟩, w)] (rvS ⟨(bmv w l).toArray⟩).cps.toList = some wt
  hF : fives ws = some ts
  hS : ∀ x ∈ l, x < 5 ∧ (sidesG w ⟨#[x]⟩).isSome = true
  he : (bmv w l).length + 2 * (bvl w l).length = 4
  hn : ws.length = 2 ^ (bmv w l).length
  tab : tabC (fallsN a b c d e) (bcl w l) [] ws = true
  co : ∀ q ∈ ts, coll (s5 q) w = firstU (zip5 q (a, b, c, d, e))
  hl : wt.length ≤ 100
  lk : ∀ q ∈ wt, gs q.1 = true ∧ gs q.2 = true ∧ ∃ p, ws.find? (fun p => p.2 == q.2) = some p ∧ p.1 = rvS q.1
  pb : pairsB a b c d e ⟨(bmv w l).toArray⟩ ts = true
theorem chk_of {a b c d e : Nat} (h : chk a b c d e = true) : Nonempty (Chk ⟨#[a, b, c, d, e]⟩ [a, b, c, d, e] a b c d e) := by
  unfold chk at h
  dsimp only at h
  split at h
  · rename_i ws wt hW hT
    split at h
    · rename_i ts hF
      simp only [Bool.and_eq_true, decide_eq_true_eq] at h
      obtain ⟨⟨⟨⟨⟨⟨⟨h1, h2⟩, h3⟩, h4⟩, h5⟩, h6⟩, h7⟩, h8⟩ := h
      have el : (⟨(bmv ⟨#[a, b, c, d, e]⟩ [a, b, c, d, e]).toArray⟩ : Str).length = (bmv ⟨#[a, b, c, d, e]⟩ [a, b, c, d, e]).length := by simp [Str.length]
      rw [el] at h2 h3
      refine ⟨{ ws := ws, wt := wt, ts := ts, hW := hW, hT := hT, hF := hF, hS := fun x hx => ?_, he := h2, hn := h3, tab := h4, co := fun q hq => ?_, hl := h6, lk := fun q hq => ?_, pb := h8 }⟩
      · have := List.all_eq_true.mp h1 x hx
        simpa using this
      · exact of_decide_eq_true (List.all_eq_true.mp h5 q hq)
      · have := List.all_eq_true.mp h7 q hq
        simp only [Bool.and_eq_true] at this
        obtain ⟨⟨g1, g2⟩, g3⟩ := this
        refine ⟨g1, g2, ?_⟩
        split at g3
        · rename_i p hp
          exact ⟨p, hp, by simpa using g3⟩
        · cases g3
    · cases h
  · cases h
theorem tabC_gs {f : Nat} {cs : List Nat} : ∀ {r : List SP} {k : List Str}, tabC f cs k r = true → ∀ q ∈ r, gs q.1 = true ∧ gs q.2 = true
  | [], _, _, q, hq => by cases hq
  | (h, t) :: r, k, ht, q, hq => by
    unfold tabC at ht
    simp only [Bool.and_eq_true] at ht
    obtain ⟨⟨⟨⟨h1, h2⟩, -⟩, -⟩, h5⟩ := ht
    rcases List.mem_cons.mp hq with rfl | hq
    · exact ⟨h1, h2⟩
    · exact tabC_gs h5 q hq
theorem getV_mp {φ : Nat → Nat} (u : Up φ) (hφ : ∀ i, i < 5 → ∃ k, k < 65 ∧ φ i = code k) {n : Str} {z : SP} : ∀ {l : List SP}, (∀ w ∈ l, gs w.2 = true) → l.find? (fun p => p.2 == n) = some z → getV ((l.map (mpS φ)).map sw) (mp φ n) = .str (mp φ z.1)
  | [], _, h => by cases h
  | w :: l, hg, h => by
    have e1 : lowEq (mp φ n) (sw (mpS φ w)) = (w.2 == n) := by
      show (Txt.lower (mp φ w.2) == mp φ n) = _
      rw [(gs_gt hφ (hg w (.head _))).lower, Bool.eq_iff_iff, beq_iff_eq, beq_iff_eq]
      exact mp_inj u
    have ih := getV_mp u hφ (n := n) (z := z) (l := l) fun w hw => hg w (.tail _ hw)
    unfold getV at ih ⊢
    rw [List.map_cons, List.map_cons, List.find?_cons, e1]
    rw [List.find?_cons] at h
    cases q : w.2 == n with
    | true => rw [q] at h; cases h; rfl
    | false => rw [q] at h; exact ih h
theorem good_of {κ : Nat → Nat} (uκ : Up κ) (h65 : ∀ i, i < 5 → κ i < 65) {a b c d e : Nat} (hc : chk a b c d e = true) : Nonempty (Good (κ a) (κ b) (κ c) (κ d) (κ e)) := by
  obtain ⟨C⟩ := chk_of hc
  have e2 := small_is
  obtain ⟨φ, hφe⟩ : ∃ φ : Nat → Nat, φ = fun i => code (κ i) := ⟨_, rfl⟩
  have hφx : ∀ i, code (κ i) = φ i := fun i => by rw [hφe]
  have u : Up φ := fun i j h => by rw [← hφx, ← hφx]; exact code_up _ _ (uκ _ _ h)
  have hφ : ∀ i, i < 5 → ∃ k, k < 65 ∧ φ i = code k := fun i hi => ⟨κ i, h65 i hi, (hφx i).symm⟩
  generalize hw : (⟨#[a, b, c, d, e]⟩ : Str) = w at C
  generalize hl : [a, b, c, d, e] = l at C
  have hWS : wordS (κ a) (κ b) (κ c) (κ d) (κ e) = mp φ w := by
    rw [hφe, ← hw]; exact (mp_of (fun i => code (κ i)) [a, b, c, d, e]).symm
  have hw5 : mp φ w = s5 (mp5 φ (a, b, c, d, e)) := by rw [← hw]; exact (s5_mp φ (a, b, c, d, e)).symm
  have hlk : [κ a, κ b, κ c, κ d, κ e] = l.map κ := by rw [← hl]; rfl
  have hnil : ((⟨#[]⟩ : Str), mp φ w) = mpS φ (⟨#[]⟩, w) := by
    show _ = (mp φ ⟨#[]⟩, _)
    rw [show mp φ ⟨#[]⟩ = ⟨#[]⟩ from mp_of φ []]
  have lW : (wordS (κ a) (κ b) (κ c) (κ d) (κ e)).length = 5 := rfl
  obtain ⟨mv, hmv⟩ : ∃ mv, mv = bmv w l := ⟨_, rfl⟩
  have el : (mp φ ⟨mv.toArray⟩).length = mv.length := by rw [mp_len]; simp [Str.length]
  have hhe := C.he
  have hhn := C.hn
  rw [← hmv] at hhe hhn
  have m4 : mv.length ≤ 4 := by omega
  have hsd : ∀ x ∈ l, sdB (mp φ w) (code (κ x)) = (sdB w x).mp φ := fun x hx => by rw [hφx]; exact (sdB_mp u (C.hS x hx).2).1
  have hmov : ((moversL (fun k => sdB (mp φ w) (code k)) (l.map κ)).map code) = mv.map φ := by
    rw [hmv]
    refine (filt_code (q := fun x => isMover (sdB w x)) fun x hx => ?_).trans (by rw [hφe]; rfl)
    show isMover (sdB (mp φ w) (code (κ x))) = _
    rw [hsd x hx, mover_mp u]
  have hemL : ∀ x ∈ l, em (sdB (mp φ w) (code (κ x))).L = em (sdB w x).L := fun x hx => by rw [hsd x hx]; exact em_mp u _
  have hemR : ∀ x ∈ l, em (sdB (mp φ w) (code (κ x))).R = em (sdB w x).R := fun x hx => by rw [hsd x hx]; exact em_mp u _
  have hcl : ((climbL (fun k => sdB (mp φ w) (code k)) (l.map κ)).map code) = (bcl w l).map φ := by
    refine (filt_code (q := fun x => em (sdB w x).L && !em (sdB w x).R) fun x hx => ?_).trans (by rw [hφe]; rfl)
    show (em (sdB (mp φ w) (code (κ x))).L && !em (sdB (mp φ w) (code (κ x))).R) = _
    rw [hemL x hx, hemR x hx]
  have hvl : (valleyL (fun k => sdB (mp φ w) (code k)) (l.map κ)).length = (bvl w l).length := by
    refine filt_len (q := fun x => !em (sdB w x).L && !em (sdB w x).R) fun x hx => ?_
    show (!em (sdB (mp φ w) (code (κ x))).L && !em (sdB (mp φ w) (code (κ x))).R) = _
    rw [hemL x hx, hemR x hx]
  have hclD : ((climbL (fun k => sdB (mp φ w) (code k)) (l.map κ)).map fun k => PyData.str ⟨#[code k]⟩) = ((bcl w l).map φ).map fun y => PyData.str ⟨#[y]⟩ := by
    rw [← hcl, List.map_map]; rfl
  have ws16 : C.ws.length ≤ 16 := by
    rw [hhn]; exact Nat.le_trans (Nat.pow_le_pow_right (by decide) m4) (by decide)
  have lcl : ∀ y ∈ (bcl w l).map φ, PyData.strOk ⟨#[y]⟩ = true := fun y hy => by
    obtain ⟨x, hx, rfl⟩ := List.mem_map.mp hy
    obtain ⟨k, hk, ek⟩ := hφ x (C.hS x (List.mem_filter.mp hx).1).1
    rw [ek]; exact strOk_code hk
  have htx : (C.ws.map (mpS φ)).map (·.2) = C.ts.map fun q => s5 (mp5 φ q) := by
    have h1 : (C.ws.map (mpS φ)).map (·.2) = (C.ws.map (·.2)).map (mp φ) := by rw [List.map_map, List.map_map]; rfl
    rw [h1, fives_eq C.hF, List.map_map]
    exact List.map_congr_left fun q _ => (s5_mp φ q).symm
  have hwords : ∀ {m : Str} {out : List SP}, m.length ≤ small → wordsL [(⟨#[]⟩, w)] m.cps.toList = some out → wordsF [.str (mp φ w), .str (mp φ m)] = some (.list ((out.map (mpS φ)).map pr)) := fun {m out} hm h => by
    show (if (mp φ m).length ≤ small then (wordsL [(⟨#[]⟩, mp φ w)] (mp φ m).cps.toList).map fun out => PyData.list (out.map pr) else none) = _
    rw [mp_len, if_pos hm, hnil, mp_list]
    have := wordsL_mp u m.cps.toList [(⟨#[]⟩, w)]
    rw [h] at this
    rw [show [mpS φ (⟨#[]⟩, w)] = [((⟨#[]⟩ : Str), (w : Str))].map (mpS φ) from rfl, this]
    rfl
  have lmv : (⟨mv.toArray⟩ : Str).length ≤ small := by rw [mp_len] at el; omega
  have lrv : (rvS ⟨mv.toArray⟩).length ≤ small := by
    have : (rvS ⟨mv.toArray⟩).length ≤ (Builtin.Str.strSliceIndices none none (-1) (⟨mv.toArray⟩ : Str).length).length := by
      unfold rvS
      simp only [Str.length, List.size_toArray]
      exact List.length_filterMap_le _ _
    refine Nat.le_trans this ?_
    rw [mp_len] at el
    rw [el]
    rcases (show mv.length = 0 ∨ mv.length = 1 ∨ mv.length = 2 ∨ mv.length = 3 ∨ mv.length = 4 by omega) with q | q | q | q | q <;> rw [q, e2] <;> decide +kernel
  have hcs : ∀ t ∈ (C.ws.map (mpS φ)).map (·.2), firstF [.str t, .str (wordS (κ a) (κ b) (κ c) (κ d) (κ e))] = some (.int (coll t (wordS (κ a) (κ b) (κ c) (κ d) (κ e)))) := fun t ht => by
    rw [htx] at ht
    obtain ⟨q, hq, rfl⟩ := List.mem_map.mp ht
    have h1 := C.co q hq
    rw [hWS, hw5, firstF_zip, s5_mp φ q, s5_mp φ (a, b, c, d, e), coll_mp u]
    rw [show zip5 (mp5 φ q) (mp5 φ (a, b, c, d, e)) = (zip5 q (a, b, c, d, e)).map fun p => (φ p.1, φ p.2) from rfl, firstU_mp u, ← h1, ← hw]
    rfl
  have wgs : ∀ w ∈ C.ws, gs w.1 = true ∧ gs w.2 = true := tabC_gs C.tab
  have lkm : ∀ q ∈ C.wt.map (mpS φ), GTx q.1 ∧ GTx q.2 ∧ getV ((C.ws.map (mpS φ)).map sw) q.2 = .str (rvS q.1) ∧ GTx (rvS q.1) := fun q hq => by
    obtain ⟨p, hp, rfl⟩ := List.mem_map.mp hq
    obtain ⟨g1, g2, z, hz, ez⟩ := C.lk p hp
    have er : rvS (mpS φ p).1 = mp φ z.1 := by
      show rvS (mp φ p.1) = _
      rw [rvS_mp, ← ez]
    refine ⟨gs_gt hφ g1, gs_gt hφ g2, ?_, ?_⟩
    · rw [er]; exact getV_mp u hφ (fun w hw => (wgs w hw).2) hz
    · rw [er]; exact gs_gt hφ (wgs z (List.mem_of_find?_eq_some hz)).1
  refine ⟨{
    sd := fun k => sdB (mp φ w) (code k)
    ws := C.ws.map (mpS φ)
    wt := C.wt.map (mpS φ)
    wm := mp φ (rvS ⟨mv.toArray⟩)
    fl := .int (fallsN a b c d e : Nat)
    g := fun t => coll t (wordS (κ a) (κ b) (κ c) (κ d) (κ e))
    gt := fun q => .str (rvS q.1)
    hs := fun k hk => ?_
    mv := mp φ ⟨mv.toArray⟩
    hmv := ?_
    he := ?_
    h5 := by rw [el]; omega
    hw := ?_
    hfl := ?_
    htb := ?_
    hn := by rw [el, List.length_map]; exact hhn
    hc := fun t _ => rfl
    hf := hcs
    hq := cmp_leaf fun x hx => by obtain ⟨t, _, rfl⟩ := List.mem_map.mp hx; rfl
    hr := ?_
    hwt := ?_
    hl := by rw [List.length_map]; exact C.hl
    hsm := fun q hq => (lkm q hq).2.1.sml
    hg := fun q hq => ?_
    hgr := fun q hq => revD_rvS (lkm q hq).1.sml
    hq2 := cmp_leaf fun x hx => ?_
    ho := ?_ }⟩
  · obtain ⟨x, hx, rfl⟩ := List.mem_map.mp (show k ∈ l.map κ by rw [← hlk]; exact hk)
    rw [hWS, hsd x hx, hφx]
    exact (sdB_mp u (C.hS x hx).2).2
  · rw [mp_of, ← hmov, hlk]
  · rw [el]
    rw [hlk, hvl]
    exact hhe
  · rw [hWS]
    exact hwords lmv (by rw [hmv]; exact C.hW)
  · rw [hWS, hw5, fallsF_s5]
    exact congrArg (fun n : Nat => some (PyData.int (n : Int))) (fallsN_mp u a b c d e)
  · rw [hlk, hclD]
    unfold tableF
    simp only [decW_map, decC_map]
    rw [if_pos ⟨by rw [List.length_map]; omega, List.all_eq_true.mpr lcl, tab_mp u hφ (fun y hy => by cases hy) rfl (by rw [List.length_nil]; omega) C.tab⟩]
  · rw [revD_rvS (by rw [el]; omega), rvS_mp]
  · rw [hWS]
    exact hwords lrv (by rw [hmv]; exact C.hT)
  · obtain ⟨g1, g2, g3, g4⟩ := lkm q hq
    rw [getF_of g2.up_len (by rw [g2.low_up]; exact g2.ok) (by rw [List.length_map, List.length_map]; omega) fun p hp => ?_, g2.low_up, g3]
    obtain ⟨y, hy, rfl⟩ := List.mem_map.mp hp
    obtain ⟨v, hv, rfl⟩ := List.mem_map.mp hy
    exact (gs_gt hφ (wgs v hv).2).sml
  · obtain ⟨q, hq, rfl⟩ := List.mem_map.mp hx
    exact (lkm q hq).2.2.2.strOk
  · rw [htx, show (C.ts.map fun q => s5 (mp5 φ q)).map PyData.str = (C.ts.map (mp5 φ)).map fun q => PyData.str (s5 q) by rw [List.map_map, List.map_map]; rfl]
    show (match [code (κ a), code (κ b), code (κ c), code (κ d), code (κ e)], decT ((C.ts.map (mp5 φ)).map fun q => PyData.str (s5 q)) with
      | [a, b, c, d, e], some texts => if ((List.range 5).all fun i => decide (at5 a b c d e i ≠ 46)) = true ∧ texts.length ≤ 100 ∧ (mp φ ⟨mv.toArray⟩).length ≤ small ∧ pairsB a b c d e (mp φ ⟨mv.toArray⟩) texts = true then some (PyData.bool true) else none
      | _, _ => none) = _
    rw [decT_map, hφx, hφx, hφx, hφx, hφx]
    have lts : C.ts.length = C.ws.length := by
      have := congrArg List.length (fives_eq C.hF)
      simpa using this.symm
    have h46 : ((List.range 5).all fun i => decide (at5 (φ a) (φ b) (φ c) (φ d) (φ e) i ≠ 46)) = true := List.all_eq_true.mpr fun i hi => by
      have hi5 := List.mem_range.mp hi
      have hb : at5 a b c d e i < 5 := by
        rcases (show i = 0 ∨ i = 1 ∨ i = 2 ∨ i = 3 ∨ i = 4 by omega) with rfl | rfl | rfl | rfl | rfl
        · exact (C.hS a (by rw [← hl]; simp)).1
        · exact (C.hS b (by rw [← hl]; simp)).1
        · exact (C.hS c (by rw [← hl]; simp)).1
        · exact (C.hS d (by rw [← hl]; simp)).1
        · exact (C.hS e (by rw [← hl]; simp)).1
      rw [at5_mp φ a b c d e i hi5]
      obtain ⟨k, hk, ek⟩ := hφ _ hb
      rw [ek]
      exact decide_eq_true (code_ok hk).2.2
    refine if_pos ⟨h46, by rw [List.length_map]; omega, by rw [el]; omega, pairsB_mp u ?_⟩
    rw [hmv]
    exact C.pb
end Mine

namespace Mine
/-- the place of x among increasing values -/
theorem place {κ : Nat → Nat} {x : Nat} (h : ∀ i, κ i ≠ x) : ∀ m, (∀ i, i < m → κ i < x) ∨ ∃ j, j < m ∧ (∀ i, i < j → κ i < x) ∧ x < κ j
  | 0 => .inl fun i hi => absurd hi (by omega)
  | m + 1 => by
    rcases place h m with q | ⟨j, hj, q⟩
    · rcases Nat.lt_trichotomy (κ m) x with r | r | r
      · exact .inl fun i hi => by
          rcases Nat.lt_succ_iff_lt_or_eq.mp hi with s | s
          · exact q i s
          · rw [s]; exact r
      · exact absurd r (h m)
      · exact .inr ⟨m, by omega, q, r⟩
    · exact .inr ⟨j, by omega, q⟩
theorem order : ∀ l : List Nat, l.Nodup → (∀ x ∈ l, x < 65) → ∃ (κ : Nat → Nat) (ps : List Nat), Up κ ∧ l = ps.map κ ∧ (∀ p ∈ ps, p < l.length) ∧ (∀ i, i < l.length → κ i ∈ l) ∧ ∀ i, l.length ≤ i → 65 ≤ κ i
  | [], _, _ => ⟨fun i => 65 + i, [], (fun a b h => by show 65 + a < 65 + b; omega), rfl, (fun p hp => nomatch hp), (fun i hi => absurd hi (Nat.not_lt_zero i)), (fun i _ => by show 65 ≤ 65 + i; omega)⟩
  | x :: l, nd, hx => by
    rw [List.nodup_cons] at nd
    obtain ⟨κ, ps, u, e, hp, hi, hh⟩ := order l nd.2 fun y hy => hx y (.tail _ hy)
    have hx65 := hx x (.head _)
    have ne : ∀ i, κ i ≠ x := fun i q => by
      rcases Nat.lt_or_ge i l.length with r | r
      · exact nd.1 (q ▸ hi i r)
      · have := hh i r; omega
    have h0 := hh l.length (Nat.le_refl _)
    obtain ⟨j, hj, lo, hij⟩ : ∃ j, j < l.length + 1 ∧ (∀ i, i < j → κ i < x) ∧ x < κ j := by
      rcases place ne (l.length + 1) with q | q
      · have := q l.length (by omega); omega
      · exact q
    have up : ∀ i, j ≤ i → x < κ i := fun i hi => by
      rcases Nat.lt_or_eq_of_le hi with r | r
      · have := u j i r; omega
      · rw [← r]; exact hij
    have K1 : ∀ i, i < j → (if i < j then κ i else if i = j then x else κ (i - 1)) = κ i := fun i h => if_pos h
    have K2 : (if j < j then κ j else if j = j then x else κ (j - 1)) = x := by rw [if_neg (Nat.lt_irrefl j), if_pos rfl]
    have K3 : ∀ i, j < i → (if i < j then κ i else if i = j then x else κ (i - 1)) = κ (i - 1) := fun i h => by rw [if_neg (by omega), if_neg (by omega)]
    refine ⟨fun i => if i < j then κ i else if i = j then x else κ (i - 1), j :: ps.map fun p => if p < j then p else p + 1, fun a b hab => ?_, ?_, fun p hp' => ?_, fun i hi' => ?_, fun i hi' => ?_⟩
    · show (if a < j then κ a else if a = j then x else κ (a - 1)) < (if b < j then κ b else if b = j then x else κ (b - 1))
      rcases Nat.lt_trichotomy a j with qa | qa | qa
      · rw [K1 a qa]
        rcases Nat.lt_trichotomy b j with qb | qb | qb
        · rw [K1 b qb]; exact u a b hab
        · rw [qb, K2]; exact lo a qa
        · rw [K3 b qb]; exact u a (b - 1) (by omega)
      · rw [K3 b (by omega), qa, K2]; exact up (b - 1) (by omega)
      · rw [K3 a qa, K3 b (by omega)]; exact u (a - 1) (b - 1) (by omega)
    · rw [List.map_cons, List.map_map]
      congr 1
      · exact K2.symm
      · rw [e]
        refine List.map_congr_left fun p _ => ?_
        show κ p = (fun i => if i < j then κ i else if i = j then x else κ (i - 1)) (if p < j then p else p + 1)
        by_cases q : p < j
        · rw [if_pos q]; exact (K1 p q).symm
        · rw [if_neg q]; exact (K3 (p + 1) (by omega)).symm
    · rw [List.length_cons]
      rcases List.mem_cons.mp hp' with q | q
      · rw [q]; exact hj
      · obtain ⟨y, hy, rfl⟩ := List.mem_map.mp q
        have := hp y hy
        show (if y < j then y else y + 1) < _
        split <;> omega
    · rw [List.length_cons] at hi'
      show (if i < j then κ i else if i = j then x else κ (i - 1)) ∈ _
      rcases Nat.lt_trichotomy i j with q | q | q
      · rw [K1 i q]; exact .tail _ (hi i (by omega))
      · rw [q, K2]; exact .head _
      · rw [K3 i q]; exact .tail _ (hi (i - 1) (by omega))
    · rw [List.length_cons] at hi'
      show 65 ≤ (if i < j then κ i else if i = j then x else κ (i - 1))
      rw [K3 i (by omega)]
      exact hh (i - 1) (by omega)
theorem len5 {l : List Nat} (h : l.length = 5) : ∃ a b c d e, l = [a, b, c, d, e] := by
  match l, h with
  | [a, b, c, d, e], _ => exact ⟨a, b, c, d, e, rfl⟩
theorem len5i {l : List Int} (h : l.length = 5) : ∃ a b c d e, l = [a, b, c, d, e] := by
  match l, h with
  | [a, b, c, d, e], _ => exact ⟨a, b, c, d, e, rfl⟩
theorem good_five {a b c d e : Nat} (nd : [a, b, c, d, e].Nodup) (h : ∀ k ∈ [a, b, c, d, e], k < 65) : Nonempty (Good a b c d e) := by
  obtain ⟨κ, ps, u, e1, hp, hi, -⟩ := order [a, b, c, d, e] nd h
  have hl : ps.length = 5 := by
    have := congrArg List.length e1
    simpa using this.symm
  obtain ⟨p, q, r, s, t, rfl⟩ := len5 hl
  simp only [List.map_cons, List.map_nil, List.cons.injEq, and_true] at e1
  obtain ⟨rfl, rfl, rfl, rfl, rfl⟩ := e1
  have h65 : ∀ i, i < 5 → κ i < 65 := fun i h5 => h _ (hi i h5)
  refine good_of u h65 (chk_all (hp p (by simp)) (hp q (by simp)) (hp r (by simp)) (hp s (by simp)) (hp t (by simp)) ?_)
  unfold nd5
  simp only [List.nodup_cons, List.mem_cons, List.not_mem_nil, or_false, not_or] at nd
  obtain ⟨⟨n1, n2, n3, n4⟩, ⟨n5, n6, n7⟩, ⟨n8, n9⟩, n10, -⟩ := nd
  have ne : ∀ {x y : Nat}, ¬ κ x = κ y → (x != y) = true := fun h => by simpa using fun q => h (by rw [q])
  rw [ne n1, ne n2, ne n3, ne n4, ne n5, ne n6, ne n7, ne n8, ne n9, ne n10]; rfl
theorem nums_len (ns : List Int) : (numsL ns).length = 5 := by
  unfold numsL
  rw [List.length_append, List.length_drop]
  have : (drawnL ns).length ≤ 5 := by unfold drawnL; rw [List.length_map, List.length_take]; omega
  show _ + (5 - _) = 5
  omega
theorem rank_of (x : Int) (i : Nat) (hi : i < 5) : ∃ m : Nat, 5 * x.fmod 13 + (i : Nat) = Int.ofNat (5 * m + i) ∧ 5 * m + i < 65 := by
  have h0 := Int.fmod_nonneg_of_pos x (show (0 : Int) < 13 by decide)
  have h1 := Int.fmod_lt_of_pos x (show (0 : Int) < 13 by decide)
  refine ⟨(x.fmod 13).toNat, ?_, by omega⟩
  show _ = ((5 * (x.fmod 13).toNat + i : Nat) : Int)
  omega
theorem ne5 {m n i j : Nat} (hi : i < 5) (hj : j < 5) (h : i ≠ j) : ¬ 5 * m + i = 5 * n + j := by omega
theorem rank_nd (m0 m1 m2 m3 m4 : Nat) : [5 * m0 + 0, 5 * m1 + 1, 5 * m2 + 2, 5 * m3 + 3, 5 * m4 + 4].Nodup := by
  simp only [List.nodup_cons, List.mem_cons, List.not_mem_nil, or_false, not_or, not_false_eq_true, List.nodup_nil, and_true]
  exact ⟨⟨ne5 (by decide) (by decide) (by decide), ne5 (by decide) (by decide) (by decide), ne5 (by decide) (by decide) (by decide), ne5 (by decide) (by decide) (by decide)⟩,
    ⟨ne5 (by decide) (by decide) (by decide), ne5 (by decide) (by decide) (by decide), ne5 (by decide) (by decide) (by decide)⟩, ⟨ne5 (by decide) (by decide) (by decide), ne5 (by decide) (by decide) (by decide)⟩, ne5 (by decide) (by decide) (by decide)⟩
theorem all5 {P : Nat → Prop} {a b c d e : Nat} (h0 : P a) (h1 : P b) (h2 : P c) (h3 : P d) (h4 : P e) : ∀ k ∈ [a, b, c, d, e], P k := fun k hk => by
  simp only [List.mem_cons, List.not_mem_nil, or_false] at hk
  rcases hk with rfl | rfl | rfl | rfl | rfl
  · exact h0
  · exact h1
  · exact h2
  · exact h3
  · exact h4
theorem plain : PlainLaw := fun ns => by
  obtain ⟨x0, x1, x2, x3, x4, hx⟩ := len5i (nums_len ns)
  obtain ⟨m0, e0, l0⟩ := rank_of x0 0 (by decide)
  obtain ⟨m1, e1, l1⟩ := rank_of x1 1 (by decide)
  obtain ⟨m2, e2, l2⟩ := rank_of x2 2 (by decide)
  obtain ⟨m3, e3, l3⟩ := rank_of x3 3 (by decide)
  obtain ⟨m4, e4, l4⟩ := rank_of x4 4 (by decide)
  have lt := all5 (P := fun k => k < 65) l0 l1 l2 l3 l4
  refine ⟨5 * m0 + 0, 5 * m1 + 1, 5 * m2 + 2, 5 * m3 + 3, 5 * m4 + 4, nums_len ns, ?_, lt, good_five (rank_nd m0 m1 m2 m3 m4) lt⟩
  rw [hx]
  show [5 * x0.fmod 13 + ((0 : Nat) : Int), 5 * x1.fmod 13 + ((1 : Nat) : Int), 5 * x2.fmod 13 + ((2 : Nat) : Int), 5 * x3.fmod 13 + ((3 : Nat) : Int), 5 * x4.fmod 13 + ((4 : Nat) : Int)] = _
  rw [e0, e1, e2, e3, e4]; rfl
end Mine
set_option maxRecDepth 100000 in
set_option maxHeartbeats 8000000 in
theorem PySem.Challenge.cw_tc0025_01_holds : PySem.Challenge.rw_tc0025_01.Holds := by
  exact Mine.holds_of Mine.plain
