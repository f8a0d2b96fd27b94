import PyProof.Rows.All
import Wide.All
import OpenK.AllK
import Wide.FinOn
import Lean
import PySem.Challenge.RW_gu0001_02
set_option Elab.async false
set_option maxRecDepth 100000
set_option linter.all false
-- part MPure
namespace Mine
open PySem PySem.W

abbrev Sq := Int × Int
abbrev Shape := List Sq

/-- the sort's tree of questions, answered -/
def runT {α : Type} (f : Nat → Nat → Bool) : KasT α → α
  | .ret a => a
  | .ask i j k => runT f (k (f i j))

def sortBy {α : Type} (lt : α → α → Bool) (d : α) (l : List α) : List α :=
  if l.length < 2 then l else (runT (fun i j => lt (l.getD i d) (l.getD j d)) (kas_sort l.length)).toList.map fun i => l.getD i d

def sqLt (a b : Sq) : Bool := if a.1 = b.1 then decide (a.2 < b.2) else decide (a.1 < b.1)

def shLt : Shape → Shape → Bool
  | [], [] => false
  | [], _ :: _ => true
  | _ :: _, [] => false
  | a :: r, b :: t => if a = b then shLt r t else sqLt a b

def minBy {α : Type} (lt : α → α → Bool) (d : α) : List α → α
  | [] => d
  | x :: r => r.foldl (fun b y => if lt y b then y else b) x

def iLt (a b : Int) : Bool := decide (a < b)

def movedF (sh : Shape) : Shape :=
  let low := minBy iLt 0 (sh.map (·.1))
  let left := minBy iLt 0 (sh.map (·.2))
  sortBy sqLt (0, 0) (sh.map fun p => (p.1 - low, p.2 - left))

def sides : List Sq := [(0, 1), (1, 0), (0, -1), (-1, 0)]

def dedup (l : List Sq) : List Sq := l.foldl (fun acc k => if k ∈ acc then acc else acc ++ [k]) []

def besideF (sh : Shape) : List Sq :=
  sortBy sqLt (0, 0) (dedup (sh.flatMap fun p => (sides.map fun q => (p.1 + q.1, p.2 + q.2)).filter fun x => decide (x ∉ sh)))

def bisGo (a : List Shape) (x : Shape) : Nat → Nat → Nat → Nat
  | 0, lo, _ => lo
  | f + 1, lo, hi => if lo < hi then (if shLt (a.getD ((lo + hi) / 2) []) x then bisGo a x f ((lo + hi) / 2 + 1) hi else bisGo a x f lo ((lo + hi) / 2)) else lo
def bisF (a : List Shape) (x : Shape) : Nat := bisGo a x (a.length + 1) 0 a.length

def insF (a : List Shape) (x : Shape) : List Shape := a.take (bisF a x) ++ x :: a.drop (bisF a x)

def growSq (sh : Shape) (found : List Shape) (sq : Sq) : List Shape :=
  let after := movedF (sh ++ [sq])
  let place := bisF found after
  if place = found.length ∨ found.getD place [] ≠ after then insF found after else found

def grownF (order : List Shape) : List Shape := order.foldl (fun f sh => (besideF sh).foldl (growSq sh) f) []

def turnF (sh : Shape) : Shape := movedF (sh.map fun p => (p.2, 0 - p.1))
def flipF (sh : Shape) : Shape := movedF (sh.map fun p => (p.1, 0 - p.2))

def eightGo : Nat → Shape → List Shape → List Shape
  | 0, _, f => f
  | n + 1, sh, f => eightGo n (turnF sh) (f ++ [turnF sh, flipF (turnF sh)])
def eightF (sh : Shape) : List Shape := eightGo 4 sh []

def addF (t : List (Shape × Int)) (k : Shape) (v : Int) : List (Shape × Int) :=
  if (t.any fun p => p.1 = k) then t.map fun p => if p.1 = k then (p.1, p.2 + v) else p else t ++ [(k, v)]

def callsF (order : List Shape) : List (Shape × Int) := order.foldl (fun c sh => addF c (minBy shLt [] (eightF sh)) 1) []

def orderF : Nat → List Shape
  | 0 => [[(0, 0)]]
  | n + 1 => grownF (orderF n)

def drawF (d : Shape) (n : Int) : Shape := let b := besideF d; movedF (d ++ [b.getD (Int.fmod n b.length).toNat (0, 0)])

def check1 (m : Nat) : Bool :=
  let order := orderF (m - 1)
  let calls := callsF order
  decide (order.length = [1, 2, 6, 19].getD (m - 1) 0) && decide (order = sortBy shLt [] order) && decide (calls.length = [1, 1, 2, 5].getD (m - 1) 0) && decide ((calls.map (·.2)).sum = order.length) &&
    calls.all fun p => decide (p.2 * ((eightF p.1).count p.1 : Int) = 8)

def nearL (d : Shape) : List Sq := d.flatMap fun p => [(p.1, p.2 + 1), (p.1 + 1, p.2)].filter fun x => decide (x ∈ d)
def openL (d : Shape) : List Sq := d.flatMap fun p => [(p.1, p.2 + 1), (p.1 + 1, p.2), (p.1, p.2 - 1), (p.1 - 1, p.2)].filter fun x => decide (x ∉ d)

def check2 (m : Nat) (d : Shape) : Bool :=
  let order := orderF (m - 1)
  let place := bisF order d
  decide (place ≠ order.length) && decide (order.getD place [] = d) && decide (((eightF d).filter fun s => decide (s ∉ order)) = []) &&
    decide (((openL d).length : Int) = 4 * m - 2 * (nearL d).length) && decide (((nearL d).length : Int) ≥ m - 1)

def drawsF : Nat → List Shape
  | 0 => [[(0, 0)]]
  | n + 1 => (drawsF n).flatMap fun d => (besideF d).map fun q => movedF (d ++ [q])

end Mine

-- part MKind
namespace Mine
open PySem PySem.W PySem.Calls PyProof.Rows PySem.SeqAt

/-- all objects stay -/
def Kp (h h' : Heap) : Prop := ∀ b o, h.get? b = some o → h'.get? b = some o
def IsTup (o : Obj) : Prop := o.cls = .type "tuple" ∧ ∃ vs n, o.data = .seq vs n
/-- no tuple stands there -/
def NT (h : Heap) (a : Addr) : Prop := ∀ o, h.get? a = some o → ¬ IsTup o
/-- all tuples stay -/
def Tp (h h' : Heap) : Prop := ∀ b o, h.get? b = some o → IsTup o → h'.get? b = some o
/-- all objects stay but those of X -/
def KpB (X : List Addr) (h h' : Heap) : Prop := ∀ b o, b ∉ X → h.get? b = some o → h'.get? b = some o
theorem KpB.trans {X : List Addr} {a b c : Heap} (x : KpB X a b) (y : KpB X b c) : KpB X a c := fun i o n e => y i o n (x i o n e)
theorem Kp.but {X : List Addr} {a b : Heap} (x : Kp a b) : KpB X a b := fun i o _ e => x i o e
theorem KpB.mono {X Y : List Addr} {a b : Heap} (x : KpB X a b) (h : ∀ i ∈ X, i ∈ Y) : KpB Y a b := fun i o n e => x i o (fun q => n (h i q)) e
theorem KpB.tp {X : List Addr} {a b : Heap} (x : KpB X a b) (h : ∀ i ∈ X, NT a i) : Tp a b := fun i o e q => x i o (fun m => h i m o e q) e
theorem KpB.kp {X : List Addr} {a b : Heap} (x : KpB X a b) (h : ∀ i ∈ X, a.get? i = none) : Kp a b := fun i o e => x i o (fun m => by rw [h i m] at e; cases e) e

theorem Kp.refl (h : Heap) : Kp h h := fun _ _ e => e
theorem Kp.trans {a b c : Heap} (x : Kp a b) (y : Kp b c) : Kp a c := fun i o e => y i o (x i o e)
theorem Kp.tp {a b : Heap} (x : Kp a b) : Tp a b := fun i o e _ => x i o e
theorem Tp.refl (h : Heap) : Tp h h := fun _ _ e _ => e
theorem Tp.trans {a b c : Heap} (x : Tp a b) (y : Tp b c) : Tp a c := fun i o e q => y i o (x i o e q) q
theorem Kp.push (h : Heap) (o : Obj) : Kp h (h.push o) := fun _ _ e => Heap.get?_push_of_some o e
theorem KpB.of_ext {h h' : Heap} {a : Addr} (x : Heap.ExtBut a h h') : KpB [a] h h' := fun b o n e => x b o (by simpa using n) e
theorem NT.ns {h : Heap} {a : Addr} {m : Str → Option Value} (x : h.Ns a m) : NT h a := fun o e q => by
  obtain ⟨o', es, ep, ho, hd, _⟩ := x
  obtain rfl : o' = o := Option.some.inj (ho.symm.trans e)
  obtain ⟨_, vs, n, q⟩ := q
  rw [hd] at q; cases q
theorem NT.cell {h : Heap} {a : Addr} {v : Option Value} (x : h.IsCell a v) : NT h a := fun o e q => by
  obtain ⟨o', ho, hd⟩ := x
  obtain rfl : o' = o := Option.some.inj (ho.symm.trans e)
  obtain ⟨_, vs, n, q⟩ := q
  rw [hd] at q; cases q
theorem NT.list {h : Heap} {a : Addr} {vs : Array Value} (x : h.IsList a vs) : NT h a := fun o e q => by
  obtain ⟨o', ho, hc, _⟩ := x
  obtain rfl : o' = o := Option.some.inj (ho.symm.trans e)
  have q1 := q.1
  rw [hc] at q1; simp at q1
theorem NT.fields {h : Heap} {a : Addr} {vs : Array Value} (x : ∃ o, h.get? a = some o ∧ o.data = .fields vs) : NT h a := fun o e q => by
  obtain ⟨o', ho, hd⟩ := x
  obtain rfl : o' = o := Option.some.inj (ho.symm.trans e)
  obtain ⟨_, vs, n, q⟩ := q
  rw [hd] at q; cases q
theorem NT.none {h : Heap} {a : Addr} (x : h.get? a = none) : NT h a := fun o e _ => by rw [x] at e; cases e

theorem isTuple_tp {h h' : Heap} {a : Addr} {vs : Array Value} (x : h.IsTuple a vs) (t : Tp h h') : h'.IsTuple a vs := let ⟨o, ho, hc, n, r⟩ := x; ⟨o, t a o ho ⟨hc, _, _, r⟩, hc, n, r⟩
theorem isTuple_inj {h : Heap} {a : Addr} {vs ws : Array Value} (x : h.IsTuple a vs) (y : h.IsTuple a ws) : vs = ws := by
  obtain ⟨o, ho, _, n, hd⟩ := x
  obtain ⟨o', ho', _, n', hd'⟩ := y
  obtain rfl : o = o' := Option.some.inj (ho.symm.trans ho')
  rw [hd] at hd'; injection hd'

def LtAt (A : Around) (s : Shared) (y x : Value) (b : Bool) : Prop :=
  ∀ (prog : Program) (w : World) (E : Value → Shared → Prop) (Q : Value → Shared → Prop), Q (.bool b) s → wpAny (model prog w) A (richCompare .Lt y x) Q E s

structure Kd (α : Type) [DecidableEq α] where
  is : Heap → Value → α → Prop
  lt : α → α → Bool
  un : Nat
  tp : ∀ {h h' : Heap} {v : Value} {x : α}, Tp h h' → is h v x → is h' v x
  inj : ∀ {h : Heap} {v : Value} {x y : α}, is h v x → is h v y → x = y
  eqAt : ∀ {A : Around} {s : Shared} {v u : Value} {x y : α}, is s.heap v x → is s.heap u y → A.units + un < cLine → EqAt A s v u (decide (x = y))
  ltAt : ∀ {A : Around} {s : Shared} {v u : Value} {x y : α}, is s.heap v x → is s.heap u y → A.units + un < cLine → LtAt A s v u (lt x y)

def Kd.int : Kd Int where
  is := fun _ v x => ∃ t, v = .int x t
  lt := iLt
  un := 0
  tp := fun _ x => x
  inj := fun x y => by
    obtain ⟨t, rfl⟩ := x
    obtain ⟨u, e⟩ := y
    injection e
  eqAt := fun x y _ => by
    obtain ⟨t, rfl⟩ := x
    obtain ⟨u, rfl⟩ := y
    exact fun prog w E Q h => wpAny_eqBool_int h
  ltAt := fun x y _ => by
    obtain ⟨t, rfl⟩ := x
    obtain ⟨u, rfl⟩ := y
    exact fun prog w E Q h => wpAny_lt_int h

def lexLt {α : Type} [DecidableEq α] (lt : α → α → Bool) : List α → List α → Bool
  | [], [] => false
  | [], _ :: _ => true
  | _ :: _, [] => false
  | a :: r, b :: t => if a = b then lexLt lt r t else lt a b

section
variable {α : Type} [DecidableEq α] (K : Kd α)

/-- values that hold data, one by one -/
def Vals (h : Heap) (vs : List Value) (xs : List α) : Prop := Paired (K.is h) vs xs
def TupIs (h : Heap) (v : Value) (xs : List α) : Prop := ∃ a vs, v = .ref a ∧ h.IsTuple a vs ∧ Vals K h vs.toList xs

variable {K}
theorem Vals.tp {h h' : Heap} (t : Tp h h') {vs : List Value} {xs : List α} (x : Vals K h vs xs) : Vals K h' vs xs := Paired.mono (fun _ _ y => K.tp t y) x
theorem Vals.inj {h : Heap} : ∀ {vs : List Value} {xs ys : List α}, Vals K h vs xs → Vals K h vs ys → xs = ys
  | _, _, _, .nil, .nil => rfl
  | _, _, _, .cons a r, .cons b t => by rw [K.inj a b, Vals.inj r t]
theorem Vals.length {h : Heap} {vs : List Value} {xs : List α} (x : Vals K h vs xs) : vs.length = xs.length := Paired.length x
theorem Vals.append {h : Heap} : ∀ {vs ws : List Value} {xs ys : List α}, Vals K h vs xs → Vals K h ws ys → Vals K h (vs ++ ws) (xs ++ ys)
  | _, _, _, _, .nil, y => y
  | _, _, _, _, .cons a r, y => .cons a (Vals.append r y)
theorem Vals.get {h : Heap} : ∀ {vs : List Value} {xs : List α} (_ : Vals K h vs xs) {i : Nat} {x : α}, xs[i]? = some x → ∃ v, vs[i]? = some v ∧ K.is h v x
  | _, _, .nil, i, x, e => by simp at e
  | _, _, .cons a r, i, x, e => by
    cases i with
    | zero => simp at e; subst e; exact ⟨_, rfl, a⟩
    | succ i => exact Vals.get r (by simpa using e)
theorem Vals.get' {h : Heap} : ∀ {vs : List Value} {xs : List α} (_ : Vals K h vs xs) {i : Nat} {v : Value}, vs[i]? = some v → ∃ x, xs[i]? = some x ∧ K.is h v x
  | _, _, .nil, i, x, e => by simp at e
  | _, _, .cons a r, i, x, e => by
    cases i with
    | zero => simp at e; subst e; exact ⟨_, rfl, a⟩
    | succ i => exact Vals.get' r (by simpa using e)

theorem all_range_eq (n : Nat) (f : Nat → Bool) : ((List.range n).all f = true) ↔ ∀ j, j < n → f j = true := by
  rw [List.all_eq_true]; constructor
  · intro h j hj; exact h j (List.mem_range.mpr hj)
  · intro h j hj; exact h j (List.mem_range.mp hj)

theorem eq_of_places {β : Type} [DecidableEq β] (xs ys : List β) : ((List.range (min xs.length ys.length)).all (fun j => decide (xs[j]? = ys[j]?)) && xs.length == ys.length) = decide (xs = ys) := by
  rw [Bool.eq_iff_iff, Bool.and_eq_true, all_range_eq, decide_eq_true_iff, beq_iff_eq]
  constructor
  · rintro ⟨h, hl⟩
    apply List.ext_getElem? ; intro i
    by_cases hi : i < xs.length
    · exact of_decide_eq_true (h i (by omega))
    · rw [List.getElem?_eq_none (by omega), List.getElem?_eq_none (by omega)]
  · rintro rfl; exact ⟨fun j _ => by simp, rfl⟩

theorem tup_rcAt {A : Around} {s : Shared} {a b : Addr} {vs ws : Array Value} {xs ys : List α} (ha : s.heap.IsTuple a vs) (hb : s.heap.IsTuple b ws) (hx : Vals K s.heap vs.toList xs) (hy : Vals K s.heap ws.toList ys)
    (hu : A.units + (K.un + 1) < cLine) : RcAt A s (.ref a) (.ref b) (decide (xs = ys)) := by
  have lx := hx.length
  have ly := hy.length
  have r := RcAt.tuples (A := A) (e := fun j => decide (xs[j]? = ys[j]?)) ha hb (by omega) (fun j h1 h2 => by
    obtain ⟨x, ex, ix⟩ := Vals.get' hx (i := j) (v := vs[j]) (by simp [h1])
    obtain ⟨y, ey, iy⟩ := Vals.get' hy (i := j) (v := ws[j]) (by simp [h2])
    have q := K.eqAt (A := A.in1) ix iy (by show A.units + 1 + K.un < cLine; omega)
    rw [ex, ey]
    by_cases h : x = y
    · rw [decide_eq_true h] at q; rw [decide_eq_true (by rw [h])]; exact q
    · rw [decide_eq_false h] at q; rw [decide_eq_false (by simpa using h)]; exact q)
  rw [show vs.size = xs.length by rw [← lx]; simp, show ws.size = ys.length by rw [← ly]; simp, eq_of_places] at r
  exact r

theorem tup_eqAt {A : Around} {s : Shared} {v u : Value} {xs ys : List α} (hx : TupIs K s.heap v xs) (hy : TupIs K s.heap u ys) (hu : A.units + (K.un + 1) < cLine) : EqAt A s v u (decide (xs = ys)) := by
  obtain ⟨a, vs, rfl, ha, hx⟩ := hx
  obtain ⟨b, ws, rfl, hb, hy⟩ := hy
  by_cases hab : a = b
  · subst hab
    have e := isTuple_inj ha hb
    subst e
    rw [decide_eq_true (Vals.inj hx hy)]
    exact EqAt.same _
  · exact EqAt.of_refs hab (tup_rcAt ha hb hx hy hu)

theorem tup_lt_tree {prog : Program} {w : World} {A : Around} {E : Value → Shared → Prop} {s : Shared} {a b : Addr} {vs ws : Array Value} {xs ys : List α} {P : Fin → Shared → Prop} (ha : s.heap.IsTuple a vs) (hb : s.heap.IsTuple b ws)
    (hx : Vals K s.heap vs.toList xs) (hy : Vals K s.heap ws.toList ys) (hu : A.units + K.un < cLine) (h : P (.done (.ret (.bool (lexLt K.lt xs ys)))) s) :
    wpAny (model prog w) A (Builtin.«tuple.__lt__» ⟨[.ref a, .ref b], []⟩) P E s := by
  have hTb := hb.typeIs
  obtain ⟨oa, hoa, _, na, hda⟩ := ha
  obtain ⟨ob, hob, _, nb, hdb⟩ := hb
  show wpAny _ _ (isInstance (.ref b) (.type "tuple") >>= _) _ _ s
  refine wpAny_bind (wpAny_isInstance hTb isSubtype_tuple_tuple ?_)
  simp only [Bool.not_true, Bool.false_eq_true, if_false]
  refine wpAny_bind (wpAny_tupleItemsOf hoa hda ?_)
  refine wpAny_bind (wpAny_tupleItemsOf hob hdb ?_)
  refine wpAny_bind ?_
  refine wpAny_forIn_list _
    (fun rest r s' => r.1 = none ∧ s' = s ∧ ∃ x' y' xs' ys', rest = List.zip xs' ys' ∧ Vals K s.heap xs' x' ∧ Vals K s.heap ys' y' ∧ lexLt K.lt x' y' = lexLt K.lt xs ys ∧ (decide (xs'.length < ys'.length) = decide (vs.size < ws.size)))
    _ ?_ ?_ _ _ ⟨rfl, rfl, xs, ys, vs.toList, ws.toList, rfl, hx, hy, rfl, by simp⟩
  · rintro ⟨u, v⟩ rest r s' ⟨hr, rfl, x', y', xs', ys', hz, hx', hy', hl, hlen⟩
    cases hx' with
    | nil => simp at hz
    | @cons u' k1 xs'' x'' h1 hx'' =>
      cases hy' with
      | nil => simp at hz
      | @cons v' k2 ys'' y'' h2 hy'' =>
        simp only [List.zip_cons_cons, List.cons.injEq, Prod.mk.injEq] at hz
        obtain ⟨⟨rfl, rfl⟩, rfl⟩ := hz
        refine wpAny_bind (K.eqAt h1 h2 hu prog w _ _ ?_)
        by_cases hk : k1 = k2
        · subst hk
          rw [decide_eq_true rfl]
          simp only [Bool.not_true, Bool.false_eq_true, if_false]
          refine wpAny_pure ⟨rfl, rfl, x'', y'', xs'', ys'', rfl, hx'', hy'', ?_, by simpa using hlen⟩
          rw [← hl]; simp [lexLt]
        · rw [decide_eq_false hk]
          simp only [Bool.not_false, if_true]
          have hf : lexLt K.lt xs ys = K.lt k1 k2 := by rw [← hl]; simp [lexLt, hk]
          rw [hf] at h
          refine wpAny_bind (wpAny_rule (wpAny_bind (K.ltAt h1 h2 hu prog w _ _ ?_)))
          exact wpAny_bind (wpAny_pure (wpAny_pure (wpAny_pure h)))
  · rintro ⟨r1, r2⟩ s' ⟨hr, rfl, x', y', xs', ys', hz, hx', hy', hl, hlen⟩
    simp only at hr
    subst hr
    refine wpAny_pure ?_
    have hfin : decide (vs.size < ws.size) = lexLt K.lt xs ys := by
      rw [← hl, ← hlen]
      cases hx' with
      | nil => cases hy' with
        | nil => simp [lexLt]
        | cons _ _ => simp [lexLt]
      | cons _ _ => cases hy' with
        | nil => simp [lexLt]
        | cons _ _ => simp at hz
    show P (.done (.ret (.bool (decide (vs.size < ws.size))))) s'
    rw [hfin]; exact h

theorem tup_ltAt {A : Around} {s : Shared} {v u : Value} {xs ys : List α} (hx : TupIs K s.heap v xs) (hy : TupIs K s.heap u ys) (hu : A.units + (K.un + 1) < cLine) : LtAt A s v u (lexLt K.lt xs ys) := by
  obtain ⟨a, vs, rfl, ha, hx⟩ := hx
  obtain ⟨b, ws, rfl, hb, hy⟩ := hy
  intro prog w E Q h
  exact wpAny_richCompare_same_room (op := .Lt) ha.typeIs hb.typeIs F.slot_tuple_lt
    (wpAny_call_entry F.slot_tuple_lt ha.typeIs F.entry_tuple_lt (tup_lt_tree (A := A.in1) ha hb hx hy (by show A.units + 1 + K.un < cLine; omega) ⟨_, rfl, (fun e => nomatch e), h⟩) (F.args_tuple_lt_2 _ _)) (by omega)

variable (K)
def Kd.tup : Kd (List α) where
  is := TupIs K
  lt := lexLt K.lt
  un := K.un + 1
  tp := fun t x => let ⟨a, vs, e, ht, r⟩ := x; ⟨a, vs, e, isTuple_tp ht t, Vals.tp t r⟩
  inj := fun x y => by
    obtain ⟨a, vs, rfl, ha, r⟩ := x
    obtain ⟨b, ws, e, hb, t⟩ := y
    injection e with e
    subst e
    have e := isTuple_inj ha hb
    subst e
    exact Vals.inj r t
  eqAt := fun x y hu => tup_eqAt x y hu
  ltAt := fun x y hu => tup_ltAt x y hu

def Kd.map {β : Type} [DecidableEq β] (f : β → α) (hf : ∀ x y, f x = f y → x = y) : Kd β where
  is := fun h v x => K.is h v (f x)
  lt := fun x y => K.lt (f x) (f y)
  un := K.un
  tp := fun t x => K.tp t x
  inj := fun x y => hf _ _ (K.inj x y)
  eqAt := fun {A s v u x y} hx hy hu => by
    have q := K.eqAt hx hy hu
    by_cases h : x = y
    · subst h; rw [decide_eq_true rfl] at q ⊢; exact q
    · rw [decide_eq_false (fun e => h (hf _ _ e))] at q; rw [decide_eq_false h]; exact q
  ltAt := fun hx hy hu => K.ltAt hx hy hu
end

def Kd.sq : Kd Sq := (Kd.int.tup).map (fun p => [p.1, p.2]) (fun x y e => by
  simp only [List.cons.injEq, and_true] at e
  exact Prod.ext e.1 e.2)
def Kd.shape : Kd Shape := Kd.sq.tup

theorem sq_lt : Kd.sq.lt = sqLt := by
  funext x y
  show lexLt iLt [x.1, x.2] [y.1, y.2] = sqLt x y
  simp only [lexLt, sqLt, iLt]
  by_cases h : x.1 = y.1
  · rw [if_pos h, if_pos h]
    by_cases h2 : x.2 = y.2
    · rw [if_pos h2]; simp [h2]
    · rw [if_neg h2]
  · rw [if_neg h, if_neg h]
theorem lexLt_sq : ∀ x y : Shape, lexLt sqLt x y = shLt x y
  | [], [] => rfl
  | [], _ :: _ => rfl
  | _ :: _, [] => rfl
  | a :: r, b :: t => by simp only [lexLt, shLt, lexLt_sq r t]
theorem shape_lt : Kd.shape.lt = shLt := by
  funext x y
  show lexLt Kd.sq.lt x y = shLt x y
  rw [sq_lt, lexLt_sq]
end Mine

-- part MLoop
namespace Mine
open PySem PySem.W PySem.Calls PyProof.Rows PySem.SeqAt

def NoE : Value → Shared → Prop := fun _ _ => False
abbrev Wp (prog : Program) (w : World) {α : Type} (A : Around) (t : Sem α) (Q : α → Shared → Prop) (s : Shared) : Prop := wpAny (model prog w) A t Q NoE s
section
variable {prog : Program} {w : World} {A : Around} {E : Value → Shared → Prop} {s : Shared}

theorem wp_any {α : Type} {t : Sem α} {Q : α → Shared → Prop} (h : Wp prog w A t Q s) : wpAny (model prog w) A t Q E s := wpAny_mono h (fun _ _ x => x) fun _ _ f => f.elim
theorem wp_mono {α : Type} {t : Sem α} {Q Q' : α → Shared → Prop} (h : Wp prog w A t Q s) (q : ∀ a s', Q a s' → Q' a s') : Wp prog w A t Q' s := wpAny_mono h q fun _ _ f => f

/-- one turn of a comprehension, behind its «next» -/
def turnT (target : Expr) (ifs : List Expr) (it : Value) (env : Env) (v : Value) (emit : Sem Unit) : Sem Unit :=
  letOwnedTupleGo target it v >>= fun _ => assign target env v >>= fun _ =>
    (forIn ifs true fun c r => if r = true then do let ok ← isTrue c env (eval c env); pure (ForInStep.yield ok) else pure (ForInStep.yield r)) >>= fun ok =>
      if ok = true then emit else pure ()
def turnA (target : Expr) (ifs : List Expr) (env : Env) (v : Value) (emit : Sem Unit) : Sem Unit :=
  assign target env v >>= fun _ =>
    (forIn ifs true fun c r => if r = true then do let ok ← isTrue c env (eval c env); pure (ForInStep.yield ok) else pure (ForInStep.yield r)) >>= fun ok =>
      if ok = true then emit else pure ()
def emitL (elt : Expr) (acc : Value) (env : Env) : Sem Unit := eval elt env >>= fun x => call (.builtin "list.append") [acc, x] >>= fun _ => pure ()
def emitM (e : Expr) (d : Nat) (iter : Expr) (acc : Value) (env : Env) : Sem Unit :=
  eval iter env >>= fun x => standAt iter.pos >>= fun _ => foldedSetIterable iter env x >>= fun x => holding [x] (pyIter x) >>= fun it => runOwn (.compStart e d it acc env) env >>= fun _ => pure ()

theorem compTurn_last {elt target iter : Expr} {gens : List Comprehension} {ifs : List Expr} {scope : Scope} {pos : Pos} {d : Nat} {it acc : Value} {env : Env} (hg : gens[d]? = some ⟨target, iter, ifs, 0⟩) (hn : gens[d + 1]? = none) :
    compTurn (.ListComp elt gens scope pos) d it acc env = (standAt iter.pos >>= fun _ => pyNext it >>= fun r => match r with
      | none => pure (.done .next)
      | some v => turnT target ifs it env v (emitL elt acc env) >>= fun _ => again (.compLoop (.ListComp elt gens scope pos) d it acc env)) := by
  unfold compTurn
  simp only [hg, hn]
  simp only [bne_self_eq_false, Bool.false_eq_true, if_false]
  refine congrArg _ (funext fun _ => congrArg _ (funext fun r => ?_))
  cases r with
  | none => rfl
  | some v =>
    simp only [turnT, emitL, bind_assoc]
    refine congrArg _ (funext fun _ => congrArg _ (funext fun _ => congrArg _ (funext fun ok => ?_)))
    cases ok with
    | false => simp
    | true => simp [bind_assoc]
theorem compTurn_mid {elt target iter target' iter' : Expr} {gens : List Comprehension} {ifs ifs' : List Expr} {scope : Scope} {pos : Pos} {d : Nat} {it acc : Value} {env : Env} (hg : gens[d]? = some ⟨target, iter, ifs, 0⟩) (hn : gens[d + 1]? = some ⟨target', iter', ifs', 0⟩) :
    compTurn (.ListComp elt gens scope pos) d it acc env = (standAt iter.pos >>= fun _ => pyNext it >>= fun r => match r with
      | none => pure (.done .next)
      | some v => turnT target ifs it env v (emitM (.ListComp elt gens scope pos) (d + 1) iter' acc env) >>= fun _ => again (.compLoop (.ListComp elt gens scope pos) d it acc env)) := by
  unfold compTurn
  simp only [hg, hn]
  simp only [bne_self_eq_false, Bool.false_eq_true, if_false]
  refine congrArg _ (funext fun _ => congrArg _ (funext fun r => ?_))
  cases r with
  | none => rfl
  | some v =>
    simp only [turnT, emitM, bind_assoc]
    refine congrArg _ (funext fun _ => congrArg _ (funext fun _ => congrArg _ (funext fun ok => ?_)))
    cases ok with
    | false => simp
    | true => simp [bind_assoc]

/-- the loop of a comprehension by an invariant over the turns -/
theorem comp_loop {R : Result → Shared → Prop} {elt target iter : Expr} {gens : List Comprehension} {ifs : List Expr} {scope : Scope} {pos : Pos} {d : Nat} {acc : Value} {env : Env} {I : Addr} {fp wr : List Addr} {n : Nat} {P : Nat → Value → Prop} {St : Nat → Heap → Prop}
    (W : Walks prog w A I fp wr n P St) (emit : Sem Unit)
    (heq : compTurn (.ListComp elt gens scope pos) d (.ref I) acc env = (standAt iter.pos >>= fun _ => pyNext (.ref I) >>= fun r => match r with
      | none => pure (.done .next)
      | some v => turnT target ifs (.ref I) env v emit >>= fun _ => again (.compLoop (.ListComp elt gens scope pos) d (.ref I) acc env)))
    (Inv : Nat → Shared → Prop) (hst : ∀ i s, Inv i s → St i s.heap)
    (turn : ∀ i s v h' tk, i < n → Inv i s → P i v → St (i + 1) h' → KpB wr s.heap h' → Wp prog w A (turnT target ifs (.ref I) env v emit) (fun _ s' => Inv (i + 1) s') { s with heap := h', toks := tk })
    (fin : ∀ s h' tk, Inv n s → KpB wr s.heap h' → R (.ok .next) { s with heap := h', toks := tk }) (h : Inv 0 s) : codeAny (model prog w) A (.compLoop (.ListComp elt gens scope pos) d (.ref I) acc env) R s := by
  refine codeAny_loop rfl (fun k s => ∃ i, k = n - i ∧ i ≤ n ∧ Inv i s) (fun k s hI => ?_) n ⟨0, rfl, Nat.zero_le _, h⟩
  obtain ⟨i, rfl, hi, hI⟩ := hI
  show wpAny _ A ((compTurn (.ListComp elt gens scope pos) d (.ref I) acc env).onRaise (fun x => do noteFrame x env; theTreesLotGoes x)) _ _ s
  refine wpAny_noted ?_
  rw [heq]
  refine wpAny_bind (wpAny_standAt (wpAny_bind ?_))
  rcases Nat.lt_or_ge i n with hlt | hge
  · refine W.item i s _ _ hlt (hst i s hI) fun v h' tk hP hS hk => ?_
    refine wpAny_bind (wpAny_mono (turn i s v h' tk hlt hI hP hS hk) (fun _ s' hs' => ?_) fun _ _ f => f.elim)
    exact wpAny_pure ⟨rfl, n - (i + 1), by omega, i + 1, rfl, hlt, hs'⟩
  · have e : i = n := by omega
    subst e
    exact W.done s _ _ (hst _ s hI) fun h' tk hk => wpAny_pure (fin s h' tk hI hk)

/-- a for's loop by an invariant over the turns -/
theorem for_loop {R : Result → Shared → Prop} {target : Expr} {body : List Stmt} {env : Env} {I : Addr} {fp wr : List Addr} {n : Nat} {P : Nat → Value → Prop} {St : Nat → Heap → Prop}
    (W : Walks prog w A I fp wr n P St)
    (Inv : Nat → Shared → Prop) (hst : ∀ i s, Inv i s → St i s.heap)
    (turn : ∀ i s v h' tk, i < n → Inv i s → P i v → St (i + 1) h' → KpB wr s.heap h' → Wp prog w A (letOwnedTupleGo target (.ref I) v) (fun _ s₁ => Wp prog w A (assign target env v) (fun _ s₂ => Wp prog w A (execs body env) (fun f s₃ => match f with
      | .next => Inv (i + 1) s₃
      | .cont => Inv (i + 1) s₃
      | .brk => False
      | .ret v => R (.ok (.ret v)) s₃) s₂) s₁) { s with heap := h', toks := tk })
    (fin : ∀ s h' tk, Inv n s → KpB wr s.heap h' → R (.ok .next) { s with heap := h', toks := tk }) (h : Inv 0 s) : codeAny (model prog w) A (.forLoop target (.ref I) body [] env) R s := by
  refine codeAny_loop' rfl (fun k s => ∃ i, k = n - i ∧ i ≤ n ∧ Inv i s) (fun k s hI => ?_) n ⟨0, rfl, Nat.zero_le _, h⟩
  obtain ⟨i, rfl, hi, hI⟩ := hI
  show wpAny _ A ((forTurn target (.ref I) body [] env).onRaise (fun x => do noteFrame x env; theTreesLotGoes x)) _ _ s
  refine wpAny_noted ?_
  simp only [forTurn]
  rcases Nat.lt_or_ge i n with hlt | hge
  · refine wpAny_bind (wpAny_standAt (wpAny_bind (wpAny_onRaise (W.item i s _ _ hlt (hst i s hI) fun v h' tk hP hS hk => ?_))))
    refine wpAny_bind (wpAny_mono (turn i s v h' tk hlt hI hP hS hk) (fun _ s₁ h₁ => ?_) fun _ _ f => f.elim)
    refine wpAny_bind (wpAny_mono h₁ (fun _ s₂ h₂ => ?_) fun _ _ f => f.elim)
    refine wpAny_bind (wpAny_mono h₂ (fun f s₃ h₃ => ?_) fun _ _ f => f.elim)
    cases f with
    | next => exact wpAny_pure (.inl ⟨rfl, n - (i + 1), by omega, i + 1, rfl, hlt, h₃⟩)
    | cont => exact wpAny_pure (.inl ⟨rfl, n - (i + 1), by omega, i + 1, rfl, hlt, h₃⟩)
    | brk => exact h₃.elim
    | ret v => exact wpAny_pure h₃
  · have e : i = n := by omega
    subst e
    refine wpAny_bind (wpAny_standAt (wpAny_bind (wpAny_onRaise (W.done s _ _ (hst _ s hI) fun h' tk hk => ?_))))
    exact wpAny_pure (.inr ⟨rfl, codeAny_block (wpAny_execs_nil (fin s h' tk hI hk))⟩)

theorem for_stmt {Q : Flow → Shared → Prop} {target iter : Expr} {body orelse : List Stmt} {env : Env} {pos : Pos}
    (h : Wp prog w A (eval iter env) (fun x s₁ => Wp prog w A (pyIter x) (fun it s₂ => codeAny (model prog w) A (.forLoop target it body orelse env) (fun r s' => ∃ f, r = .ok f ∧ Q f s') s₂) s₁) s)
    (hs : ∀ x, foldedSetIterable iter env x = pure x := by intro _; rfl) : Wp prog w A (exec (.For target iter body orelse pos) env) Q s :=
  wpAny_For (wpAny_mono h (fun x s₁ h₁ => wpAny_mono h₁ (fun it s₂ h₂ => codeAny_mono h₂ fun r s' hr => by obtain ⟨f, rfl, hq⟩ := hr; exact hq) fun _ _ f => f) fun _ _ f => f) hs

theorem while_stmt {Q : Flow → Shared → Prop} {test : Expr} {body orelse : List Stmt} {env : Env} {pos : Pos} (I : Nat → Shared → Prop)
    (turn : ∀ n s, I n s → Wp prog w A (isTrue test env (eval test env)) (fun b s₂ => (b = true ∧ Wp prog w A (execs body env) (fun f s₃ => f = .next ∧ ∃ m, m < n ∧ I m s₃) s₂) ∨ (b = false ∧ Wp prog w A (execs orelse env) Q s₂)) s)
    (n : Nat) (h : I n s) : Wp prog w A (exec (.While test body orelse pos) env) Q s := by
  refine wpAny_While (codeAny_whileLoop I (fun n s hI => wpAny_mono (turn n s hI) (fun b s₂ h₂ => ?_) fun _ _ f => f.elim) n h)
  rcases h₂ with ⟨rfl, h₂⟩ | ⟨rfl, h₂⟩
  · rw [if_pos rfl]
    refine wpAny_mono h₂ (fun f s₃ h₃ => ?_) fun _ _ f => f.elim
    obtain ⟨rfl, h₃⟩ := h₃
    exact h₃
  · rw [if_neg (by decide)]
    exact wpAny_mono h₂ (fun f s₃ h₃ => h₃) fun _ _ f => f.elim
end
end Mine

-- part MComp
namespace Mine
open PySem PySem.W PySem.Calls PyProof.Rows PySem.SeqAt

/-- the state goes on: all objects stay but those of X -/
structure UpB (X : List Addr) (s s' : Shared) : Prop where
  kp : KpB X s.heap s'.heap
  gens : s'.gens = s.gens
  drawn : s'.drawn = s.drawn
  os : s'.os = s.os
abbrev Up (s s' : Shared) : Prop := UpB [] s s'
section
variable {X Y : List Addr} {s s' s'' : Shared}
theorem UpB.refl (s : Shared) : UpB X s s := ⟨fun _ _ _ e => e, rfl, rfl, rfl⟩
theorem UpB.trans (x : UpB X s s') (y : UpB X s' s'') : UpB X s s'' := ⟨x.kp.trans y.kp, y.gens.trans x.gens, y.drawn.trans x.drawn, y.os.trans x.os⟩
theorem UpB.mono (x : UpB X s s') (h : ∀ i ∈ X, i ∈ Y) : UpB Y s s' := ⟨x.kp.mono h, x.gens, x.drawn, x.os⟩
theorem UpB.up (x : UpB [] s s') : UpB X s s' := x.mono fun _ h => nomatch h
theorem UpB.tp (x : UpB X s s') (h : ∀ i ∈ X, NT s.heap i) : Tp s.heap s'.heap := x.kp.tp h
theorem Up.k (x : Up s s') : Kp s.heap s'.heap := fun b o e => x.kp b o (fun h => nomatch h) e
theorem UpB.fresh (x : UpB X s s') (h : ∀ i ∈ X, s.heap.get? i = none) : Up s s' := ⟨fun b o _ e => x.kp.kp h b o e, x.gens, x.drawn, x.os⟩
theorem UpB.step {h' : Heap} {tk : Nat} (k : KpB X s.heap h') : UpB X s { s with heap := h', toks := tk } := ⟨k, rfl, rfl, rfl⟩
theorem UpB.of_k {h' : Heap} {tk : Nat} (k : Kp s.heap h') : UpB X s { s with heap := h', toks := tk } := ⟨k.but, rfl, rfl, rfl⟩
theorem UpB.one {a : Addr} {h' : Heap} {tk : Nat} (k : Heap.ExtBut a s.heap h') : UpB [a] s { s with heap := h', toks := tk } := ⟨.of_ext k, rfl, rfl, rfl⟩
end

section
variable {prog : Program} {w : World} {A : Around} {E : Value → Shared → Prop} {s : Shared}
variable {α β : Type} [DecidableEq α] [DecidableEq β] (K : Kd α) (K2 : Kd β)

theorem flat_take {l : List α} {g : α → List β} {i : Nat} {x : α} (h : l[i]? = some x) : (l.take (i + 1)).flatMap g = (l.take i).flatMap g ++ g x := by
  rw [List.take_add_one, h]; simp
theorem flat_le (l : List α) (g : α → List β) (i : Nat) : ((l.take i).flatMap g).length ≤ (l.flatMap g).length := by
  have e : l.flatMap g = (l.take i).flatMap g ++ (l.drop i).flatMap g := by rw [← List.flatMap_append, List.take_append_drop]
  rw [e, List.length_append]; omega

/-- an iterator over a tuple or a list -/
def IterAt (h : Heap) (I : Addr) : Prop := ∃ o T vs, h.get? I = some o ∧ o.cls = .type T ∧ o.data = .fields vs ∧ (T = "tuple_iterator" ∨ T = "list_iterator")
theorem owned_noop {target : Expr} {I : Addr} {v : Value} {s : Shared} (x : IterAt s.heap I) {Q : Unit → Shared → Prop} (q : Q () s) : Wp prog w A (letOwnedTupleGo target (.ref I) v) Q s := by
  obtain ⟨o, T, vs, ho, hc, hd, hT⟩ := x
  have key : Wp prog w A (match ((Value.ref I, v) : Value × Value) with
      | (.ref r, .ref a) => (do
        let o ← load r
        match o.cls, o.data with
        | .type n, .fields vs =>
          if ["enumerate", "zip", "dict_itemiterator", "dict_reverseitemiterator", "odict_iterator", "itertools.zip_longest", "itertools.pairwise"].contains n && vs[0]? == some (rawInt a) then
            rule "for.unpacks-the-owned-tuple"
            updateField r 0 .none
        | _, _ => pure ())
      | _ => pure ()) Q s := by
    cases v with
    | ref a =>
      refine wpAny_bind (wpAny_load ho ?_)
      rw [hc, hd]
      rcases hT with rfl | rfl
      · exact wpAny_pure q
      · exact wpAny_pure q
    | _ => exact wpAny_pure q
  unfold letOwnedTupleGo
  cases target <;> first | exact wpAny_pure q | exact key

variable {K K2}
/-- what a comprehension's loop keeps: its own frame at C, the list at D -/
structure CAcc (K2 : Kd β) (C D : Addr) (zs : List β) (s : Shared) : Prop where
  ns : ∃ m, s.heap.Ns C m
  acc : ∃ ys, s.heap.PlainList D ys ∧ Vals K2 s.heap ys.toList zs

theorem CAcc.up {C D : Addr} {zs : List β} {X : List Addr} {s s' : Shared} (x : CAcc K2 C D zs s) (u : UpB X s s') (hC : C ∉ X) (hD : D ∉ X) (hX : ∀ i ∈ X, NT s.heap i) : CAcc K2 C D zs s' := by
  obtain ⟨⟨m, hn⟩, ys, hl, hv⟩ := x
  exact ⟨⟨m, hn.at' fun o e => u.kp _ o hC e⟩, ys, hl.at fun o e => u.kp _ o hD e, hv.tp (u.tp hX)⟩

theorem acc_loop {elt target iter : Expr} {gens : List Comprehension} {ifs : List Expr} {scope : Scope} {pos : Pos} {d : Nat} {env : Env} {I C D : Addr} {fp wr : List Addr} {P : Nat → Value → Prop} {St : Nat → Heap → Prop} {xs : List α} {zs : List β} {g : α → List β} {vs : List Value}
    (W : Walks prog w A I fp wr vs.length P St) (emit : Sem Unit)
    (heq : compTurn (.ListComp elt gens scope pos) d (.ref I) (.ref D) env = (standAt iter.pos >>= fun _ => pyNext (.ref I) >>= fun r => match r with
      | none => pure (.done .next)
      | some v => turnT target ifs (.ref I) env v emit >>= fun _ => again (.compLoop (.ListComp elt gens scope pos) d (.ref I) (.ref D) env)))
    (hP : ∀ i v, P i v → vs[i]? = some v) (hnt : ∀ i h, St i h → ∀ b ∈ wr, NT h b) (hio : ∀ i h, St i h → IterAt h I) (hx : Vals K s.heap vs xs)
    (hCf : C ∉ fp) (hDf : D ∉ fp) (hst : St 0 s.heap) (h0 : CAcc K2 C D zs s) (hz : zs.length + (xs.flatMap g).length ≤ 100000)
    (turn : ∀ x v s₃ zs', x ∈ xs → K.is s₃.heap v x → CAcc K2 C D zs' s₃ → zs'.length + (g x).length ≤ 100000 → UpB (C :: D :: wr) s s₃ →
      Wp prog w A (turnA target ifs env v emit) (fun _ s₄ => UpB [C, D] s₃ s₄ ∧ CAcc K2 C D (zs' ++ g x) s₄) s₃) :
    codeAny (model prog w) A (.compLoop (.ListComp elt gens scope pos) d (.ref I) (.ref D) env) (fun r s' => r = .ok .next ∧ UpB (C :: D :: wr) s s' ∧ CAcc K2 C D (zs ++ xs.flatMap g) s') s := by
  have hCw : C ∉ wr := fun h => hCf (W.sub _ h)
  have hDw : D ∉ wr := fun h => hDf (W.sub _ h)
  have hl := hx.length
  have nt0 : ∀ i ∈ C :: D :: wr, NT s.heap i := fun i hi => by
    rcases List.mem_cons.mp hi with rfl | hi
    · exact NT.ns h0.ns.choose_spec
    · rcases List.mem_cons.mp hi with rfl | hi
      · exact NT.list h0.acc.choose_spec.1.isList
      · exact hnt _ _ hst i hi
  refine comp_loop W emit heq (fun i s' => UpB (C :: D :: wr) s s' ∧ St i s'.heap ∧ CAcc K2 C D (zs ++ (xs.take i).flatMap g) s') (fun _ _ h => h.2.1) ?_ ?_ ⟨UpB.refl s, hst, by simpa using h0⟩
  · rintro i s₁ v h' tk hi ⟨u, st, ca⟩ hp st' kp
    obtain ⟨x, ex, _⟩ := Vals.get' hx (hP i v hp)
    have up : UpB wr s₁ { s₁ with heap := h', toks := tk } := UpB.step kp
    have u2 : UpB (C :: D :: wr) s { s₁ with heap := h', toks := tk } := u.trans (up.mono fun i h => List.mem_cons_of_mem _ (List.mem_cons_of_mem _ h))
    have ca2 := ca.up up hCw hDw (hnt _ _ st)
    have hv : K.is h' v x := by
      obtain ⟨v', ev, iv⟩ := Vals.get (hx.tp (u2.tp nt0)) ex
      rw [hP i v hp] at ev; cases ev; exact iv
    have hb : (zs ++ (xs.take i).flatMap g).length + (g x).length ≤ 100000 := by
      have q := flat_le xs g (i + 1)
      rw [flat_take ex, List.length_append] at q
      rw [List.length_append]; omega
    unfold turnT
    refine wpAny_bind (owned_noop (hio _ _ st') ?_)
    refine wp_mono (turn x v _ _ (List.mem_of_getElem? ex) hv ca2 hb u2) fun _ s₄ h₄ => ?_
    refine ⟨u2.trans (h₄.1.mono fun i h => ?_), W.frame _ _ _ st' fun b hb o e => h₄.1.kp b o (fun q => ?_) e, ?_⟩
    · rcases List.mem_cons.mp h with rfl | h
      · exact .head _
      · rw [List.mem_singleton.mp h]; exact .tail _ (.head _)
    · rcases List.mem_cons.mp q with rfl | q
      · exact hCf hb
      · rw [List.mem_singleton.mp q] at hb; exact hDf hb
    · have := h₄.2
      rw [flat_take ex, ← List.append_assoc]; exact this
  · rintro s₁ h' tk ⟨u, st, ca⟩ kp
    have up : UpB wr s₁ { s₁ with heap := h', toks := tk } := UpB.step kp
    refine ⟨rfl, u.trans (up.mono fun i h => List.mem_cons_of_mem _ (List.mem_cons_of_mem _ h)), ?_⟩
    have := ca.up up hCw hDw (hnt _ _ st)
    rw [List.take_of_length_le (by omega)] at this
    exact this

/-- a written order of data: a tuple or a list -/
def SeqIs (K : Kd α) (h : Heap) (v : Value) (xs : List α) : Prop := ∃ a vs, v = .ref a ∧ (h.IsTuple a vs ∨ h.IsList a vs) ∧ Vals K h vs.toList xs

/-- its iterator -/
theorem seq_iter (hh : A.handled = none) {v : Value} {xs : List α} (hs : SeqIs K s.heap v xs) {Q : Value → Shared → Prop}
    (h : ∀ I a fp P St (vs : List Value) h', v = .ref a → Walks prog w A I fp [I] vs.length P St → (∀ i v, P i v → vs[i]? = some v) → (∀ i h, St i h → ∀ b ∈ [I], NT h b) → (∀ i h, St i h → IterAt h I) → St 0 h' → I = s.heap.objs.size → (∀ b ∈ fp, b < h'.objs.size) → Kp s.heap h' →
      Vals K h' vs xs → (∀ b ∈ fp, b = I ∨ b = a) → Q (.ref I) { s with heap := h' }) : Wp prog w A (pyIter v) Q s := by
  obtain ⟨a, vs, rfl, ht | hl, hv⟩ := hs
  · have hlt : a < s.heap.objs.size := by obtain ⟨o, ho, _⟩ := ht; exact Heap.lt_size ho
    refine wpAny_pyIter_tuple ht ?_
    refine h s.heap.objs.size a [s.heap.objs.size, a] (fun i v => vs[i]? = some v) (fun i h => h.IsTupleIter s.heap.objs.size a i ∧ h.IsTuple a vs) vs.toList _ rfl ?_ (fun i v e => by simpa using e) ?_ ?_ ⟨⟨_, Heap.get?_push_size _ rfl, rfl, rfl⟩, ht.push _⟩ rfl ?_ (Kp.push _ _) (hv.tp (Kp.push _ _).tp) (by simp)
    · rw [Array.length_toList]; exact Walks.tuple hh _ a (Nat.ne_of_lt hlt) vs
    · rintro i h ⟨⟨o, ho, _, hd⟩, _⟩ b hb
      rw [List.mem_singleton.mp hb]
      exact NT.fields ⟨o, ho, hd⟩
    · rintro i h ⟨⟨o, ho, hc, hd⟩, _⟩
      exact ⟨o, _, _, ho, hc, hd, by simp⟩
    · intro b hb
      simp only [List.mem_cons, List.not_mem_nil, or_false] at hb
      rw [Heap.size_push]
      rcases hb with rfl | rfl
      · exact Nat.lt_succ_self _
      · exact Nat.lt_succ_of_lt hlt
  · have hlt : a < s.heap.objs.size := by obtain ⟨o, ho, _⟩ := hl; exact Heap.lt_size ho
    refine wpAny_pyIter_list hl ?_
    refine h s.heap.objs.size a [s.heap.objs.size, a] (fun i v => vs[i]? = some v) (fun i h => h.IsListIter s.heap.objs.size a i ∧ h.IsList a vs) vs.toList _ rfl ?_ (fun i v e => by simpa using e) ?_ ?_ ⟨⟨_, Heap.get?_push_size _ rfl, rfl, rfl⟩, hl.push _⟩ rfl ?_ (Kp.push _ _) (hv.tp (Kp.push _ _).tp) (by simp)
    · rw [Array.length_toList]; exact Walks.list hh _ a (Nat.ne_of_lt hlt) vs
    · rintro i h ⟨⟨o, ho, _, hd⟩, _⟩ b hb
      rw [List.mem_singleton.mp hb]
      exact NT.fields ⟨o, ho, hd⟩
    · rintro i h ⟨⟨o, ho, hc, hd⟩, _⟩
      exact ⟨o, _, _, ho, hc, hd, by simp⟩
    · intro b hb
      simp only [List.mem_cons, List.not_mem_nil, or_false] at hb
      rw [Heap.size_push]
      rcases hb with rfl | rfl
      · exact Nat.lt_succ_self _
      · exact Nat.lt_succ_of_lt hlt

/-- a comprehension of one or more clauses: the way to its loop -/
theorem list_comp {elt target iter : Expr} {ifs : List Expr} {rest : List Comprehension} {scope : Scope} {pos : Pos} {env : Env} {cl : List (Str × Addr)} {Q : Value → Shared → Prop} {xs : List α} {zs : List β}
    (hh : A.handled = none) (hclos : closureFor scope env = pure cl) (hkind : scope.kind = .function) (hnames : ∀ x ∈ scope.names, x.2 = .local → scope.names.lookup x.1 = some .local) (hcell : ∀ x ∈ scope.names, x.2 ≠ .cell)
    (src : Wp prog w A (eval iter env) (fun v s₁ => Up s s₁ ∧ SeqIs K s₁.heap v xs) s)
    (loop : ∀ (I C D : Addr) fp P St (vs : List Value) s₂, Walks prog w A I fp [I] vs.length P St → (∀ i v, P i v → vs[i]? = some v) → (∀ i h, St i h → ∀ b ∈ [I], NT h b) → (∀ i h, St i h → IterAt h I) → St 0 s₂.heap → C ∉ fp → D ∉ fp → C ≠ I → D ≠ I → C ≠ D → s.heap.get? C = none → s.heap.get? D = none → s.heap.get? I = none → Up s s₂ →
      Vals K s₂.heap vs xs → CAcc K2 C D [] s₂ →
      codeAny (model prog w) A (.compLoop (.ListComp elt (⟨target, iter, ifs, 0⟩ :: rest) scope pos) 0 (.ref I) (.ref D) (compEnvC scope cl C env)) (fun r s' => r = .ok .next ∧ UpB [C, D, I] s₂ s' ∧ CAcc K2 C D zs s') s₂)
    (h : ∀ D ys s', Up s s' → s.heap.get? D = none → s'.heap.PlainList D ys → Vals K2 s'.heap ys.toList zs → Q (.ref D) s')
    (hs : ∀ x, foldedSetIterable iter env x = pure x := by intro _; rfl) :
    Wp prog w A (eval (.ListComp elt (⟨target, iter, ifs, 0⟩ :: rest) scope pos) env) Q s := by
  rw [eval_ListComp]
  refine wpAny_comprehension_free (use := none) rfl hs hclos hkind hnames (wpAny_mono src (fun v s₁ h₁ => ?_) fun _ _ f => f)
  obtain ⟨u1, hsq⟩ := h₁
  refine seq_iter hh hsq fun I a fp P St vs h' hva W hP hnt hio hst hI hfp hk hv hfp2 => ?_
  have u2 : Up s { s₁ with heap := h' } := u1.trans (UpB.of_k (tk := s₁.toks) hk)
  refine wpAny_newObj_type (wpAny_newFunctionEnv hcell (by intro y hy; simp at hy) (fun h₁ hns₁ hsb₁ => ?_) hkind)
  dsimp only at hns₁ hsb₁ ⊢
  generalize hH2 : h'.push { cls := .type "list", dict := none, data := .seq ([] : List Value).toArray } = H2 at hns₁ hsb₁ ⊢
  have hC : H2.objs.size = h'.objs.size + 1 := by rw [← hH2, Heap.size_push]
  have hDC : h'.objs.size ≠ H2.objs.size := by rw [hC]; exact Nat.ne_of_lt (Nat.lt_succ_self _)
  have below : ∀ b, b < h'.objs.size → b ≠ H2.objs.size ∧ b ≠ h'.objs.size := fun b hb => ⟨by rw [hC]; exact Nat.ne_of_lt (Nat.lt_succ_of_lt hb), Nat.ne_of_lt hb⟩
  have hDf : h'.objs.size ∉ fp := fun hm => Nat.lt_irrefl _ (hfp _ hm)
  have hCf : H2.objs.size ∉ fp := fun hm => by have := hfp _ hm; rw [hC] at this; exact Nat.lt_irrefl _ (Nat.lt_of_succ_lt this)
  have old : Kp h' h₁ := fun b o e => hsb₁.extBut b o (below b (Heap.lt_size e)).1 (Heap.get?_push_of_some _ (hH2 ▸ Heap.get?_push_of_some _ e))
  have fresh : ∀ a, h'.objs.size ≤ a → s.heap.get? a = none := fun a ha => by
    cases e : s.heap.get? a with
    | none => rfl
    | some o' => exact absurd (Heap.lt_size (u2.k _ _ e)) (Nat.not_lt.mpr ha)
  have hsz : s₁.heap.objs.size < h'.objs.size := hI ▸ hfp I (W.sub I (.head _))
  have hIf : s.heap.get? I = none := by
    cases e : s.heap.get? I with
    | none => rfl
    | some o' => exact absurd (Heap.lt_size (u1.k _ _ e)) (by rw [hI]; exact Nat.lt_irrefl _)
  have hIlt : I < h'.objs.size := hfp I (W.sub I (.head _))
  have hacc : h₁.PlainList h'.objs.size #[] := ⟨0, hsb₁.extBut _ _ hDC (Heap.get?_push_of_some _ (hH2 ▸ Heap.get?_push_size _ rfl))⟩
  have hst₁ : St 0 h₁ := W.frame _ _ _ hst fun b _ o e => old b o e
  have fin : ∀ s₃ : Shared, s₃ = { s₁ with heap := h₁, toks := s₁.toks + ([] : List (Str × Value)).length } →
      codeAny (model prog w) A (.compLoop (.ListComp elt (⟨target, iter, ifs, 0⟩ :: rest) scope pos) 0 (.ref I) (.ref h'.objs.size) (compEnvC scope cl H2.objs.size env))
        (compPost (model prog w) A NoE none Q (.ref h'.objs.size) H2.objs.size) s₃ := by
    rintro s₃ rfl
    have u3 : Up s { s₁ with heap := h₁, toks := s₁.toks + ([] : List (Str × Value)).length } := u1.trans (UpB.of_k (hk.trans old))
    refine codeAny_mono (loop I H2.objs.size h'.objs.size fp P St vs _ W hP hnt hio hst₁ hCf hDf (by rw [hC]; exact Nat.ne_of_gt (Nat.lt_succ_of_lt hIlt)) (Nat.ne_of_gt hIlt) (Ne.symm hDC)
      (fresh _ (by rw [hC]; exact Nat.le_succ _)) (fresh _ (Nat.le_refl _)) hIf u3 (hv.tp old.tp) ⟨⟨_, hns₁⟩, _, hacc, .nil⟩) fun r s' hr => ?_
    obtain ⟨rfl, u4, ⟨m, hm⟩, ys, hl, hz⟩ := hr
    refine ⟨m, hm, fun h'' hs'' => ?_⟩
    have u5 : Up s { s' with heap := h'' } := by
      refine UpB.fresh (X := [H2.objs.size, h'.objs.size, I]) (u3.up.trans (u4.trans (UpB.mono (UpB.one (tk := s'.toks) hs''.extBut) fun i hi => ?_))) fun i hi => ?_
      · rw [List.mem_singleton.mp hi]; exact .head _
      · simp only [List.mem_cons, List.not_mem_nil, or_false] at hi
        rcases hi with rfl | rfl | rfl
        · exact fresh _ (by rw [hC]; exact Nat.le_succ _)
        · exact fresh _ (Nat.le_refl _)
        · exact hIf
    refine h _ ys _ u5 (fresh _ (Nat.le_refl _)) (hl.extBut hs''.extBut hDC) (hz.tp ?_)
    exact KpB.tp (KpB.of_ext hs''.extBut) fun i hi => by rw [List.mem_singleton.mp hi]; exact NT.ns hm
  exact codeAny_compStart_list (fin _ rfl) (W.self 0 _ _ _ hst₁ (fin _ rfl))
end
end Mine

-- part MTurn
namespace Mine
open PySem PySem.W PySem.Calls PyProof.Rows PySem.SeqAt

section
variable {prog : Program} {w : World} {A : Around} {E : Value → Shared → Prop} {s : Shared}
variable {α β : Type} [DecidableEq α] [DecidableEq β] {K : Kd α} {K2 : Kd β}

/-- a comprehension's tests -/
abbrev testsT (ifs : List Expr) (env : Env) : Sem Bool := forIn ifs true fun c r => if r = true then do let ok ← isTrue c env (eval c env); pure (ForInStep.yield ok) else pure (ForInStep.yield r)

/-- one turn of the last clause -/
theorem turn_last {target elt : Expr} {ifs : List Expr} {env : Env} {v : Value} {C D : Addr} {zs g : List β} (hCD : C ≠ D) (ca : CAcc K2 C D zs s) (hz : zs.length + g.length ≤ 100000)
    (h : Wp prog w A (assign target env v) (fun _ s₄ => Wp prog w A (testsT ifs env) (fun ok s₅ =>
      (ok = true ∧ Wp prog w A (eval elt env) (fun y s₆ => UpB [C] s s₆ ∧ (∃ m, s₆.heap.Ns C m) ∧ ∃ z, g = [z] ∧ K2.is s₆.heap y z) s₅) ∨ (ok = false ∧ g = [] ∧ UpB [C] s s₅ ∧ ∃ m, s₅.heap.Ns C m)) s₄) s) :
    Wp prog w A (turnA target ifs env v (emitL elt (.ref D) env)) (fun _ s₄ => UpB [C, D] s s₄ ∧ CAcc K2 C D (zs ++ g) s₄) s := by
  unfold turnA
  have ntC : ∀ i ∈ [C], NT s.heap i := fun i hi => by rw [List.mem_singleton.mp hi]; exact NT.ns ca.ns.choose_spec
  have sub : ∀ i ∈ [C], i ∈ [C, D] := fun i hi => by rw [List.mem_singleton.mp hi]; exact .head _
  obtain ⟨_, ys, hl, hv⟩ := ca
  refine wpAny_bind (wp_mono h fun _ s₄ h₄ => wpAny_bind (wp_mono h₄ fun ok s₅ h₅ => ?_))
  rcases h₅ with ⟨rfl, h₅⟩ | ⟨rfl, rfl, u, m⟩
  · simp only [if_true]
    unfold emitL
    refine wpAny_bind (wp_mono h₅ fun y s₆ h₆ => ?_)
    obtain ⟨u, ⟨m, hn⟩, z, rfl, hy⟩ := h₆
    have hDC : D ∉ [C] := by simpa using Ne.symm hCD
    have hl₆ : s₆.heap.PlainList D ys := hl.at fun o e => u.kp _ o hDC e
    have hsz : ys.size ≤ sizeLine := by
      have := hv.length
      rw [Array.length_toList] at this
      rw [sizeLine_eq]; simp at hz; omega
    refine wpAny_bind (wpAny_list_append_plain (hsz := hsz) hl₆ fun h₇ hl₇ hs₇ => wpAny_pure ⟨?_, ⟨m, hn.at' fun o e => hs₇.extBut _ o hCD e⟩, _, hl₇, ?_⟩)
    · exact (u.mono sub).trans (UpB.mono (UpB.one (tk := s₆.toks) hs₇.extBut) fun i hi => by rw [List.mem_singleton.mp hi]; exact .tail _ (.head _))
    · have t7 : Tp s₆.heap h₇ := KpB.tp (KpB.of_ext hs₇.extBut) fun i hi => by rw [List.mem_singleton.mp hi]; exact NT.list hl₆.isList
      rw [Array.toList_push]
      exact Vals.append ((hv.tp (u.tp ntC)).tp t7) (.cons (K2.tp t7 hy) .nil)
  · simp only [Bool.false_eq_true, if_false]
    refine wpAny_pure ⟨u.mono sub, m, ys, hl.at fun o e => u.kp _ o (by simpa using Ne.symm hCD) e, ?_⟩
    rw [List.append_nil]
    exact hv.tp (u.tp ntC)

theorem assign_name {env : Env} {x : Str} {px : Pos} {C : Addr} {m : Str → Option Value} {v : Value} {Q : Unit → Shared → Prop} (hx : env.kindOf x = some .local) (hk : env.scope.kind = .function) (hC : env.locals = C) (hn : s.heap.Ns C m)
    (h : ∀ s', UpB [C] s s' → s'.heap.Ns C (fun z => if z = x then some v else m z) → Q () s') : Wp prog w A (assign (.Name x px) env v) Q s := by
  subst hC
  exact wpAny_assign_Name (wpAny_storeName_local hx hn (fun h' hn' hs' => h _ (UpB.one hs'.extBut) hn') (by rw [hk]; rfl))

theorem assign_pair {env : Env} {x y : Str} {px py : Pos} {k : Nat} {pos : Pos} {C t : Addr} {m : Str → Option Value} {a b : Value} {Q : Unit → Shared → Prop} (hh : A.handled = none) (hx : env.kindOf x = some .local) (hy : env.kindOf y = some .local) (hk : env.scope.kind = .function) (hC : env.locals = C) (hn : s.heap.Ns C m)
    (ht : s.heap.IsTuple t #[a, b]) (hxy : x ≠ y)
    (h : ∀ s' m', UpB [C] s s' → s'.heap.Ns C m' → m' x = some a → m' y = some b → (∀ z, z ≠ x → z ≠ y → m' z = m z) → Q () s') : Wp prog w A (assign (.Tuple [.Name x px, .Name y py] k pos) env (.ref t)) Q s := by
  refine wpAny_assign_Tuple hh ht rfl rfl fun h₁ he₁ => ?_
  have k₁ : Kp s.heap h₁ := fun b o e => he₁ b o (Nat.ne_of_lt (Heap.lt_size e)) e
  show wpAny _ _ (assignInOrder [assign (.Name x px) env, assign (.Name y py) env] [a, b]) _ _ _
  rw [assignInOrder]
  refine wpAny_bind (wpAny_holding (assign_name (m := m) hx hk hC (hn.keeps k₁) fun s₂ u₂ n₂ => ?_))
  rw [assignInOrder]
  refine wpAny_bind (wpAny_holding (assign_name hy hk hC n₂ fun s₃ u₃ n₃ => ?_))
  exact wpAny_pure (h s₃ _ ((UpB.of_k (tk := s.toks) k₁).trans (u₂.trans u₃)) n₃ (by show (if x = y then _ else _) = _; rw [if_neg hxy, if_pos rfl]) (by show (if y = y then _ else _) = _; rw [if_pos rfl])
    fun z hx hy => by show (if z = y then _ else _) = _; rw [if_neg hy, if_neg hx])

theorem name_local {env : Env} {x : Str} {pos : Pos} {C : Addr} {m : Str → Option Value} {v : Value} {Q : Value → Shared → Prop} (hx : env.kindOf x = some .local) (hk : env.scope.kind = .function) (hC : env.locals = C) (hn : s.heap.Ns C m) (hv : m x = some v) (h : Q v s)
    (hd : (x == ("__debug__" : Str)) = false := by decide) : Wp prog w A (eval (.Name x pos) env) Q s := by
  subst hC
  exact wpAny_Name (wpAny_loadName_local hk hx hn hv h) hd
theorem name_cell {env : Env} {x : Str} {pos : Pos} {c : Addr} {v : Value} {Q : Value → Shared → Prop} (hx : env.kindOf x = some .cell) (hk : env.scope.kind = .function) (hc : env.cells.lookup x = some c) (hv : s.heap.IsCell c (some v)) (h : Q v s)
    (hd : (x == ("__debug__" : Str)) = false := by decide) : Wp prog w A (eval (.Name x pos) env) Q s := wpAny_Name (wpAny_loadName_cell hk hx hc hv h) hd

/-- a comprehension of one clause -/
theorem comp1 {elt target iter : Expr} {ifs : List Expr} {scope : Scope} {pos : Pos} {env : Env} {cl : List (Str × Addr)} {Q : Value → Shared → Prop} {xs : List α} {g : α → List β}
    (hh : A.handled = none) (hclos : closureFor scope env = pure cl) (hkind : scope.kind = .function) (hnames : ∀ x ∈ scope.names, x.2 = .local → scope.names.lookup x.1 = some .local) (hcell : ∀ x ∈ scope.names, x.2 ≠ .cell)
    (hz : (xs.flatMap g).length ≤ 100000)
    (src : Wp prog w A (eval iter env) (fun v s₁ => Up s s₁ ∧ SeqIs K s₁.heap v xs) s)
    (turn : ∀ C x v s₃ m, x ∈ xs → K.is s₃.heap v x → s₃.heap.Ns C m → Up s s₃ → s.heap.get? C = none →
      Wp prog w A (assign target (compEnvC scope cl C env) v) (fun _ s₄ => Wp prog w A (testsT ifs (compEnvC scope cl C env)) (fun ok s₅ =>
        (ok = true ∧ Wp prog w A (eval elt (compEnvC scope cl C env)) (fun y s₆ => UpB [C] s₃ s₆ ∧ (∃ m, s₆.heap.Ns C m) ∧ ∃ z, g x = [z] ∧ K2.is s₆.heap y z) s₅) ∨ (ok = false ∧ g x = [] ∧ UpB [C] s₃ s₅ ∧ ∃ m, s₅.heap.Ns C m)) s₄) s₃)
    (h : ∀ D ys s', Up s s' → s.heap.get? D = none → s'.heap.PlainList D ys → Vals K2 s'.heap ys.toList (xs.flatMap g) → Q (.ref D) s')
    (hs : ∀ x, foldedSetIterable iter env x = pure x := by intro _; rfl) :
    Wp prog w A (eval (.ListComp elt [⟨target, iter, ifs, 0⟩] scope pos) env) Q s := by
  refine list_comp hh hclos hkind hnames hcell src (fun I C D fp P St vs s₂ W hP hnt hio hst hCf hDf hCI hDI hCD hC hD hI u2 hv ca => ?_) h hs
  have e : ([] : List β) ++ xs.flatMap g = xs.flatMap g := rfl
  rw [← e]
  refine codeAny_mono (acc_loop (K := K) (K2 := K2) W (emitL elt (.ref D) (compEnvC scope cl C env)) (compTurn_last rfl rfl) hP hnt hio hv hCf hDf hst ca (by simpa using hz) fun x v s₃ zs' hx hvx ca' hz' u3 => ?_) fun r s' hr => hr
  have fresh : ∀ i ∈ [C, D, I], s.heap.get? i = none := fun i hi => by
    simp only [List.mem_cons, List.not_mem_nil, or_false] at hi
    rcases hi with rfl | rfl | rfl
    · exact hC
    · exact hD
    · exact hI
  obtain ⟨m, hm⟩ := ca'.ns
  exact turn_last hCD ca' hz' (turn C x v s₃ m hx hvx hm (UpB.fresh (u2.up.trans u3) fresh) hC)
end
end Mine

-- part MSort
namespace Mine
open PySem PySem.W PySem.Calls PyProof.Rows PySem.SeqAt

/-- every question is of two places below n, every answer holds P -/
def KOk (n : Nat) {α : Type} (P : α → Prop) : KasT α → Prop
  | .ret a => P a
  | .ask i j k => i < n ∧ j < n ∧ ∀ b, KOk n P (k b)
theorem KOk.bind {n : Nat} {α β : Type} {P : α → Prop} {R : β → Prop} {f : α → KasT β} (hf : ∀ a, P a → KOk n R (f a)) : ∀ {t : KasT α}, KOk n P t → KOk n R (t.bind f)
  | .ret a, h => hf a h
  | .ask i j k, h => ⟨h.1, h.2.1, fun b => KOk.bind hf (h.2.2 b)⟩
theorem KOk.mono {n : Nat} {α : Type} {P R : α → Prop} (hf : ∀ a, P a → R a) : ∀ {t : KasT α}, KOk n P t → KOk n R t
  | .ret a, h => hf a h
  | .ask i j k, h => ⟨h.1, h.2.1, fun b => KOk.mono hf (h.2.2 b)⟩

def PLt (n : Nat) (p : Array Nat) : Prop := p.size = n ∧ ∀ x ∈ p, x < n
theorem PLt.get {n : Nat} {p : Array Nat} (h : PLt n p) (hn : 0 < n) (i : Nat) : p.getD i 0 < n := by
  by_cases hi : i < p.size
  · have e : p.getD i 0 = p[i] := by simp [Array.getD, hi]
    rw [e]; exact h.2 _ (Array.getElem_mem hi)
  · have e : p.getD i 0 = 0 := by simp [Array.getD, hi]
    rw [e]; exact hn
theorem PLt.perm {n : Nat} {p q : Array Nat} (h : PLt n p) (e : q.Perm p) : PLt n q := ⟨e.size_eq.trans h.1, fun x hx => h.2 x (e.mem_iff.mp hx)⟩
theorem PLt.rev {n : Nat} {p : Array Nat} (h : PLt n p) (i j : Nat) : PLt n (kas_rev p i j) := h.perm (mirror_perm _ _ _ _)
theorem PLt.bub {n : Nat} {p : Array Nat} (h : PLt n p) (i j : Nat) : PLt n (bubble p i j) := h.perm (bubble_perm _ _ _)
theorem PLt.range (n : Nat) : PLt n (List.toArray (List.range n)) := ⟨by simp, fun x hx => by simpa using hx⟩

section
variable {n : Nat} (hn : 0 < n)
include hn
theorem asc_ok {p : Array Nat} (hp : PLt n p) : ∀ f k, KOk n (fun _ => True) (kas_asc p f k)
  | 0, _ => trivial
  | f + 1, k => ⟨hp.get hn _, hp.get hn _, fun b => by cases b with
    | true => trivial
    | false => exact asc_ok hp f (k + 1)⟩
theorem desc_ok : ∀ f (p : Array Nat) (k q : Nat), PLt n p → KOk n (fun r => PLt n r.1) (kas_desc f p k q)
  | 0, p, k, q, hp => hp
  | f + 1, p, k, q, hp => ⟨hp.get hn _, hp.get hn _, fun b => by
      cases b with
      | true =>
        show KOk n _ (if q > 0 then _ else _)
        split
        · exact desc_ok f _ _ _ (hp.rev _ _)
        · exact desc_ok f _ _ _ hp
      | false => exact ⟨hp.get hn _, hp.get hn _, fun d => by
          cases d with
          | true => exact hp
          | false => exact desc_ok f _ _ _ hp⟩⟩
theorem tail3_ok {p : Array Nat} (hp : PLt n p) (a b : Nat) : KOk n (fun r => PLt n r.2) (kas_tail3 a b p) := by
  unfold kas_tail3
  refine KOk.bind (P := fun _ => True) (fun m _ => ?_) (asc_ok hn (hp.rev _ _) _ _)
  exact hp.rev 0 a
theorem descPart_ok {p : Array Nat} (hp : PLt n p) (a b : Nat) : KOk n (fun r => PLt n r.2) (kas_descPart a b p) := by
  unfold kas_descPart
  refine KOk.bind (P := fun r => PLt n r.1) (fun r hr => ?_) (desc_ok hn _ _ _ _ hp)
  split
  · exact tail3_ok hn (hr.rev _ _) _ _
  · exact tail3_ok hn hr _ _
theorem count_ok {p : Array Nat} (hp : PLt n p) (a : Nat) : KOk n (fun r => PLt n r.2) (kas_count a p) := by
  unfold kas_count
  refine KOk.bind (P := fun _ => True) (fun m _ => ?_) (asc_ok hn hp _ _)
  split
  · exact hp
  · split
    · refine ⟨hp.get hn _, hp.get hn _, fun b => ?_⟩
      cases b with
      | true => exact hp
      | false => exact descPart_ok hn (hp.rev _ _) _ _
    · exact descPart_ok hn hp _ _
theorem place_ok {p : Array Nat} (hp : PLt n p) (k : Nat) : ∀ f l r, KOk n (fun _ => True) (kas_place p k f l r)
  | 0, _, _ => trivial
  | f + 1, l, r => by
    unfold kas_place
    split
    · trivial
    · refine ⟨hp.get hn _, hp.get hn _, fun b => ?_⟩
      cases b with
      | true => exact place_ok hp k f _ _
      | false => exact place_ok hp k f _ _
theorem bin_ok : ∀ f (p : Array Nat) (k : Nat), PLt n p → KOk n (fun r => PLt n r) (kas_bin f p k)
  | 0, p, k, hp => hp
  | f + 1, p, k, hp => KOk.bind (P := fun _ => True) (fun l _ => bin_ok f _ _ (hp.bub _ _)) (place_ok hn hp _ _ _ _)
theorem sort_ok : KOk n (fun r => PLt n r) (kas_sort n) := by
  unfold kas_sort
  refine KOk.bind (P := fun r => PLt n r.2) (fun r hr => ?_) (count_ok hn (PLt.range n) n)
  split
  · exact bin_ok hn _ _ _ hr
  · exact hr
end

/-- a tree of questions that a pure order answers -/
theorem wp_run {n : Nat} {α : Type} {cmp : Nat → Nat → (Bool → Shared → Prop) → Shared → Prop} {f : Nat → Nat → Bool} {s : Shared} {P : α → Prop} {G : α → Shared → Prop} (hc : ∀ i j C, i < n → j < n → C (f i j) s → cmp i j C s) :
    ∀ {t : KasT α}, KOk n P t → (P (runT f t) → G (runT f t) s) → t.kasWp cmp G s
  | .ret a, hk, hg => hg hk
  | .ask i j k, hk, hg => hc i j _ hk.1 hk.2.1 (wp_run hc (hk.2.2 _) hg)
theorem run_ok {n : Nat} {α : Type} {P : α → Prop} (f : Nat → Nat → Bool) : ∀ {t : KasT α}, KOk n P t → P (runT f t)
  | .ret a, h => h
  | .ask i j k, h => by
    have h' := run_ok (t := k (f i j)) f (h.2.2 (f i j))
    exact h'

theorem sortBy_len {α : Type} (lt : α → α → Bool) (d : α) (l : List α) : (sortBy lt d l).length = l.length := by
  unfold sortBy
  split
  · rfl
  · rw [List.length_map, Array.length_toList]
    exact (run_ok _ (sort_ok (n := l.length) (by omega))).1

section
variable {prog : Program} {w : World} {A : Around} {E : Value → Shared → Prop} {s : Shared}
variable {α β : Type} [DecidableEq α] [DecidableEq β] {K : Kd α} {K2 : Kd β}

/-- how the sort's own order answers on data of a kind -/
def SortOk (prog : Program) (w : World) (K : Kd α) (xs : List α) : Prop := ∀ (A : Around) (s : Shared) (vs : List Value), Vals K s.heap vs xs → 2 ≤ xs.length → A.units + 20 < cLine → ∃ κ,
  (∀ (Q : SortKind → Shared → Prop), Q κ s → Wp prog w A (keyKind' vs.toArray) Q s) ∧
  ∀ v u x y (s' : Shared) (Q : Bool → Shared → Prop), K.is s'.heap v x → K.is s'.heap u y → Q (K.lt x y) s' → Wp prog w A (keyLt' κ v u) Q s'

theorem vals_pick {h : Heap} {vs : List Value} {xs : List α} {d : α} (hv : Vals K h vs xs) : ∀ (p : List Nat), (∀ i ∈ p, i < xs.length) → Vals K h (p.map fun i => vs.getD i .none) (p.map fun i => xs.getD i d)
  | [], _ => .nil
  | i :: r, hp => by
    have hi := hp i (.head _)
    obtain ⟨v, ev, iv⟩ := Vals.get hv (i := i) (x := xs[i]) (by simp [hi])
    refine .cons ?_ (vals_pick hv r fun j hj => hp j (.tail _ hj))
    have e1 : vs.getD i .none = v := by simp [List.getD, ev]
    have e2 : xs.getD i d = xs[i] := by simp [List.getD, hi]
    show K.is h (vs.getD i .none) (xs.getD i d)
    rw [e1, e2]; exact iv

theorem zip_snd {γ : Type} : ∀ l : List γ, (l.zip l).map (fun x => x.snd) = l
  | [] => rfl
  | a :: r => by rw [List.zip_cons_cons, List.map_cons, zip_snd r]

/-- list.sort upon a list that no name but a holds -/
theorem list_sort {a : Addr} {n : Nat} {vs : List Value} {xs : List α} {d : α} {P : Fin → Shared → Prop} (ho : s.heap.get? a = some (seqObj "list" vs.toArray n)) (hv : Vals K s.heap vs xs) (hk : SortOk prog w K xs) (h64 : xs.length < 64) (hu : A.units + 20 < cLine)
    (h : ∀ s' ys, UpB [a] s s' → s'.heap.IsList a ys → Vals K s'.heap ys.toList (sortBy K.lt d xs) → P (.done (.ret .none)) s') :
    wpAny (model prog w) A (Builtin.«list.sort» ⟨[.ref a], []⟩) P E s := by
  have hlen := hv.length
  have ha : a < s.heap.objs.size := Heap.lt_size ho
  have sz24 : vs.length ≤ sizeLine := by rw [sizeLine_eq]; omega
  have s1 := Heap.SameBut.update s.heap a (Obj.mapSeq fun _ => (#[] : Array Value))
  obtain ⟨e1, ho1⟩ : ∃ e1, (s.heap.update a (Obj.mapSeq fun _ => (#[] : Array Value))).get? a = some (seqObj "list" #[] e1) := ⟨_, get?_update_seq ho fun _ => #[]⟩
  generalize hH : ((s.heap.update a (Obj.mapSeq fun _ => (#[] : Array Value))).push (seqObj "tuple" vs.toArray 0)).push (seqObj "list" #[] 0) = H
  have k3 : KpB [a] s.heap H := fun b o nb e => by
    rw [← hH]; exact Heap.get?_push_of_some _ (Heap.get?_push_of_some _ (s1.extBut b o (by simpa using nb) e))
  have ho3 : H.get? a = some (seqObj "list" #[] e1) := by rw [← hH]; exact Heap.get?_push_of_some _ (Heap.get?_push_of_some _ ho1)
  have nt : ∀ i ∈ [a], NT s.heap i := fun i hi => by rw [List.mem_singleton.mp hi]; exact NT.list ⟨_, ho, rfl, n, rfl⟩
  have hv3 : Vals K H vs xs := hv.tp (k3.tp nt)
  have fin : ∀ (out : List Value) (s' : Shared), s' = { s with heap := H } → out.length = vs.length → Vals K H out (sortBy K.lt d xs) → wpAny (model prog w) A (do
      let touched := (← seqEpoch a) != e1
      Builtin.List.listUpdate (.ref a) fun _ => out.toArray
      if touched then rule "list.sort.modified"; raiseError "ValueError" "list modified during sort"
      ret .none) P E s' := by
    rintro out s' rfl ho' hvo
    refine wpAny_bind (seqEpoch_at ho3 rfl ?_)
    have hsz : out.toArray.size ≤ sizeLine := by rw [List.size_toArray, ho']; exact sz24
    refine wpAny_bind (listUpdate_at ho3 rfl ?_ (Nat.zero_le _) (Nat.le_succ_of_le hsz))
    simp only [bne_self_eq_false, Bool.false_eq_true, if_false]
    have s2 := Heap.SameBut.update H a (Obj.mapSeq fun _ => out.toArray)
    have k4 : KpB [a] H (H.update a (Obj.mapSeq fun _ => out.toArray)) := KpB.of_ext s2.extBut
    refine wpAny_pure (h _ out.toArray (UpB.step (k3.trans k4)) ⟨_, get?_update_seq ho3 fun _ => out.toArray, rfl, _, rfl⟩ ?_)
    exact hvo.tp (k4.tp fun i hi => by rw [List.mem_singleton.mp hi]; exact NT.list ⟨_, ho3, rfl, e1, rfl⟩)
  rw [list_sort_plain]
  refine wpAny_bind (listItems_at ho rfl ?_)
  refine wpAny_bind (listUpdate_at ho rfl ?_ (by rw [List.size_toArray]; exact sz24) (Nat.zero_le _))
  refine wpAny_bind (seqEpoch_at ho1 rfl ?_)
  refine wpAny_bind (wpAny_newTuple ?_ sz24)
  refine wpAny_bind (wpAny_newList ?_ (Nat.zero_le _))
  refine wpAny_holding ?_
  show wpAny (model prog w) A _ P E { s with heap := ((s.heap.update a (Obj.mapSeq fun _ => (#[] : Array Value))).push (seqObj "tuple" vs.toArray 0)).push (seqObj "list" #[] 0) }
  rw [hH]
  dsimp only
  by_cases h2 : vs.toArray.size < 2
  · rw [if_pos h2, if_pos h2]
    refine wpAny_bind (wpAny_pure ?_)
    rw [StateT.run_pure]
    refine wpAny_bind (wpAny_pure ?_)
    have e : (arrOf (SortSt.mk' general' (vs.toArray.zip vs.toArray) #[] 7 none)).map (·.2) = vs.toArray := by
      show (vs.toArray.zip vs.toArray).map (·.2) = _
      apply Array.ext'
      simp only [Array.toList_map, Array.toList_zip, List.toList_toArray]
      exact zip_snd vs
    have e2 : sortBy K.lt d xs = xs := by unfold sortBy; rw [if_pos (by rw [List.size_toArray, hlen] at h2; exact h2)]
    dsimp only
    rw [e]
    exact fin vs _ rfl rfl (by rw [e2]; exact hv3)
  · rw [if_neg h2, if_neg h2]
    rw [List.size_toArray] at h2
    obtain ⟨κ, hkind, hlt⟩ := hk A { s with heap := H } vs hv3 (by omega) hu
    refine wpAny_bind (wp_any (hkind _ ?_))
    have h0 : 0 < vs.length := by omega
    have ok : KOk vs.length (fun r => PLt vs.length r) (kas_sort vs.length) := sort_ok h0
    refine wpAny_bind (wpAny_mono (kat_run (κ := κ) (E := NoE) (Q := fun st' s' => s' = { s with heap := H } ∧ failedOf st' = none ∧ ∃ p : Array Nat, p = runT (fun i j => K.lt (xs.getD i d) (xs.getD j d)) (kas_sort vs.length) ∧ p.size = vs.length ∧ arrOf st' = p.map (kas_item (vs.toArray.zip vs.toArray)))
      (G := fun p s' => p = runT (fun i j => K.lt (xs.getD i d) (xs.getD j d)) (kas_sort vs.length) ∧ s' = { s with heap := H })
      rfl (by omega) (by omega) (fun p st' s' hp har hf hg => ⟨hg.2, hf, p, hg.1, hp, har⟩) ?_) ?_ fun _ _ f => f.elim)
    · refine wp_run (n := vs.length) (fun i j C hi hj hC => ?_) ok fun _ => ⟨rfl, rfl⟩
      obtain ⟨v, ev, iv⟩ := Vals.get hv3 (i := i) (x := xs[i]'(by omega)) (by simp [show i < xs.length by omega])
      obtain ⟨u, eu, iu⟩ := Vals.get hv3 (i := j) (x := xs[j]'(by omega)) (by simp [show j < xs.length by omega])
      unfold kas_ask
      have e1 : vs.getD i .none = v := by simp [List.getD, ev]
      have e2 : vs.getD j .none = u := by simp [List.getD, eu]
      have e3 : xs.getD i d = xs[i]'(by omega) := by simp [List.getD, show i < xs.length by omega]
      have e4 : xs.getD j d = xs[j]'(by omega) := by simp [List.getD, show j < xs.length by omega]
      rw [e1, e2]
      rw [e3, e4] at hC
      exact hlt v u _ _ _ _ iv iu hC
    · rintro ⟨⟨⟩, st'⟩ s' ⟨rfl, hf, p, hpe, hp, har⟩
      dsimp only at hf har ⊢
      have hout := kat_snds (vs := vs) rfl har
      rw [hout, hf]
      have hpl : PLt vs.length p := by rw [hpe]; exact run_ok _ ok
      refine fin (p.toList.map fun i => vs.getD i Value.none) _ rfl (by rw [List.length_map, Array.length_toList, hp]) ?_
      have e2 : sortBy K.lt d xs = p.toList.map fun i => xs.getD i d := by
        unfold sortBy
        rw [if_neg (by omega), ← hlen, ← hpe]
      rw [e2]
      exact vals_pick hv3 _ fun i hi => by rw [← hlen]; exact hpl.2 i (by simpa using hi)
end
end Mine

-- part MSorted
namespace Mine
open PySem PySem.W PySem.Calls PyProof.Rows PySem.SeqAt

def lexFin {α : Type} [DecidableEq α] (lt : α → α → Bool) (fin : Bool) : List α → List α → Bool
  | a :: r, b :: t => if a = b then lexFin lt fin r t else lt a b
  | _, _ => fin
theorem lexFin_eq {α : Type} [DecidableEq α] (lt : α → α → Bool) : ∀ xs ys : List α, lexFin lt (decide (xs.length < ys.length)) xs ys = lexLt lt xs ys
  | [], [] => by simp [lexFin, lexLt]
  | [], _ :: _ => by simp [lexFin, lexLt]
  | _ :: _, [] => by simp [lexFin, lexLt]
  | a :: r, b :: t => by
    have ih := lexFin_eq lt r t
    simp only [List.length_cons, Nat.add_lt_add_iff_right, lexFin, lexLt]
    rw [ih]

section
variable {prog : Program} {w : World} {A : Around} {E : Value → Shared → Prop} {s : Shared}
variable {α β : Type} [DecidableEq α] [DecidableEq β] {K : Kd α} {K2 : Kd β}

theorem katlex {b fin : Bool} {Q : Bool → Shared → Prop} (hu : A.units + K.un < cLine)
    (hone : ∀ (i : Nat) v u x y (s : Shared) (Q : Bool → Shared → Prop), K.is s.heap v x → K.is s.heap u y → Q (K.lt x y) s → Wp prog w A (oneLt' (b && i == 0) v u) Q s) :
    ∀ {vs ws : List Value} {xs ys : List α} (i : Nat), Vals K s.heap vs xs → Vals K s.heap ws ys → Q (lexFin K.lt fin xs ys) s → KatLex prog w A b fin Q (vs.zip ws) i s
  | _, _, _, _, i, .nil, _, h => by
    simp only [List.zip_nil_left]
    exact kat_nil (by simpa [lexFin] using h)
  | _, _, _, _, i, .cons _ _, .nil, h => by
    simp only [List.zip_nil_right]
    exact kat_nil (by simpa [lexFin] using h)
  | _, _, _, _, i, .cons (b := x) h1 r1, .cons (b := y) h2 r2, h => by
    simp only [List.zip_cons_cons]
    refine kat_cons (K.eqAt h1 h2 hu prog w _ _ ?_)
    by_cases e : x = y
    · rw [decide_eq_true e]
      refine kat_yes (katlex hu hone (i + 1) r1 r2 ?_)
      simpa [lexFin, e] using h
    · rw [decide_eq_false e]
      exact kat_no (hone i _ _ x y s Q h1 h2 (by simpa [lexFin, e] using h))

theorem keylt {b : Bool} {v u : Value} {x y : List α} {Q : Bool → Shared → Prop} (hu : A.units + K.un < cLine)
    (hone : ∀ (i : Nat) v u x y (s : Shared) (Q : Bool → Shared → Prop), K.is s.heap v x → K.is s.heap u y → Q (K.lt x y) s → Wp prog w A (oneLt' (b && i == 0) v u) Q s)
    (hx : TupIs K s.heap v x) (hy : TupIs K s.heap u y) (h : Q (lexLt K.lt x y) s) : Wp prog w A (keyLt' (tuples' b) v u) Q s := by
  obtain ⟨a, vs, rfl, ⟨o, ho, hc, n, hd⟩, hx⟩ := hx
  obtain ⟨c, ws, rfl, ⟨o', ho', hc', n', hd'⟩, hy⟩ := hy
  refine kat_lt ho hd ho' hd' (katlex hu hone 0 hx hy ?_)
  have e1 : vs.size = x.length := by rw [← hx.length]; simp
  have e2 : ws.size = y.length := by rw [← hy.length]; simp
  rw [e1, e2, lexFin_eq]
  exact h

theorem one_int (f : Bool) {v u : Value} {x y : Int} {Q : Bool → Shared → Prop} (hv : Kd.int.is s.heap v x) (hw : Kd.int.is s.heap u y) (h : Q (iLt x y) s) : Wp prog w A (oneLt' f v u) Q s := by
  obtain ⟨t, rfl⟩ := hv
  obtain ⟨t', rfl⟩ := hw
  cases f with
  | true => exact oneLt_int h
  | false => exact kat_one _ _ (wpAny_lt_int (show PySem.W.BoolBack Q (.bool (decide (x < y))) s from h))
theorem one_of {v u : Value} {x y : α} {Q : Bool → Shared → Prop} (hu : A.units + K.un < cLine) (hv : K.is s.heap v x) (hw : K.is s.heap u y) (h : Q (K.lt x y) s) : Wp prog w A (oneLt' false v u) Q s :=
  kat_one _ _ (K.ltAt hv hw hu prog w NoE _ (show PySem.W.BoolBack Q (.bool (K.lt x y)) s from h))

theorem sq_firsts {h : Heap} : ∀ {vs : List Value} {xs : List Sq}, Vals Kd.sq h vs xs → ∃ fs, KatTups h vs fs ∧ fs.length = vs.length ∧ ∀ v ∈ fs, ∃ i t, v = .int i t
  | _, _, .nil => ⟨[], .nil, rfl, fun _ h => nomatch h⟩
  | _, _, .cons hd r => by
    obtain ⟨fs, t, hl, hf⟩ := sq_firsts r
    obtain ⟨a, ws, rfl, ⟨o, ho, hc, n, hdt⟩, hv⟩ := hd
    obtain ⟨v0, e0, t0, rfl⟩ := Vals.get hv (i := 0) rfl
    refine ⟨_ :: fs, .cons ho hc hdt (by rw [← Array.getElem?_toList]; exact e0) t, by rw [List.length_cons, List.length_cons, hl], fun v hv => ?_⟩
    rcases List.mem_cons.mp hv with rfl | hv
    · exact ⟨_, _, rfl⟩
    · exact hf v hv
theorem sort_sq (xs : List Sq) : SortOk prog w Kd.sq xs := by
  intro A s vs hv h2 hu
  obtain ⟨fs, t, hl, hf⟩ := sq_firsts hv
  refine ⟨tuples' true, fun Q hq => ?_, fun v u x y s' Q hx hy hq => ?_⟩
  · refine kat_kind (T := .type "int") t (by rw [hl, hv.length]; omega) (fun v hv => ?_) (by decide) ?_
    · obtain ⟨i, t, rfl⟩ := hf v hv
      exact fun A Q E s _ q => wpAny_typeOf (s := s) (T := "int") (v := .int i t) rfl q
    · exact hq
  · exact keylt (K := Kd.int) (b := true) (by show A.units + 0 < cLine; omega) (fun i v u x y s Q a b h => one_int _ a b h) hx hy hq
theorem shape_firsts {h : Heap} : ∀ {vs : List Value} {xs : List Shape}, Vals Kd.shape h vs xs → (∀ x ∈ xs, x ≠ []) → ∃ fs, KatTups h vs fs ∧ fs.length = vs.length ∧ ∀ v ∈ fs, ∃ a o, v = .ref a ∧ h.get? a = some o ∧ o.cls = .type "tuple"
  | _, _, .nil, _ => ⟨[], .nil, rfl, fun _ h => nomatch h⟩
  | _, _, .cons (b := x) hd r, hne => by
    obtain ⟨fs, t, hl, hf⟩ := shape_firsts r fun x hx => hne x (.tail _ hx)
    obtain ⟨a, ws, rfl, ⟨o, ho, hc, n, hdt⟩, hv⟩ := hd
    obtain ⟨p, q, rfl⟩ : ∃ p q, x = p :: q := by
      cases x with
      | nil => exact absurd rfl (hne _ (.head _))
      | cons p q => exact ⟨p, q, rfl⟩
    obtain ⟨v0, e0, b, ws', rfl, ⟨o', ho', hc', _⟩, _⟩ := Vals.get hv (i := 0) rfl
    refine ⟨_ :: fs, .cons ho hc hdt (by rw [← Array.getElem?_toList]; exact e0) t, by rw [List.length_cons, List.length_cons, hl], fun v hv => ?_⟩
    rcases List.mem_cons.mp hv with rfl | hv
    · exact ⟨_, _, rfl, ho', hc'⟩
    · exact hf v hv
theorem sort_shape (xs : List Shape) (hne : ∀ x ∈ xs, x ≠ []) : SortOk prog w Kd.shape xs := by
  intro A s vs hv h2 hu
  obtain ⟨fs, t, hl, hf⟩ := shape_firsts hv hne
  refine ⟨tuples' false, fun Q hq => ?_, fun v u x y s' Q hx hy hq => ?_⟩
  · refine kat_kind (T := .type "tuple") t (by rw [hl, hv.length]; omega) (fun v hv => ?_) (by decide) ?_
    · obtain ⟨a, o, rfl, ho, hc⟩ := hf v hv
      exact fun A Q E s k q => wpAny_typeOf (s := s) (T := "tuple") (v := .ref a) ⟨o, k _ _ ho, hc⟩ q
    · exact hq
  · have e : Kd.sq.un = 1 := rfl
    refine keylt (K := Kd.sq) (b := false) (by omega) (fun i v u x y s Q a b h => ?_) hx hy hq
    rw [Bool.false_and]
    exact one_of (by omega) a b h

theorem sorted_call {v : Value} {xs : List α} {d : α} {Q : Value → Shared → Prop} (hc : Wp prog w A.in1 (collect v) (fun vs s₁ => Up s s₁ ∧ Vals K s₁.heap vs xs) s) (hk : SortOk prog w K xs) (h64 : xs.length < 64) (hu : A.units + 22 < cLine)
    (h : ∀ D s' ys, Up s s' → s.heap.get? D = none → s'.heap.IsList D ys → Vals K s'.heap ys.toList (sortBy K.lt d xs) → Q (.ref D) s') : Wp prog w A (call (.builtin "sorted") [v]) Q s := by
  refine Calls.call_function_entry kind_sorted plain_sorted entry_sorted (args_sorted1 _) ?_
  unfold Builtin.«sorted»
  refine wpAny_bind (m := checkCount "sorted" 1 1 _) (wpAny_pure ?_)
  refine wpAny_bind (wp_mono hc fun vs s₁ h₁ => ?_)
  obtain ⟨u₁, hv⟩ := h₁
  have hl := hv.length
  refine wpAny_bind (wpAny_newList ?_ (by rw [sizeLine_eq]; omega))
  have kp : Kp s₁.heap (s₁.heap.push (seqObj "list" vs.toArray 0)) := Kp.push _ _
  have ho : (s₁.heap.push (seqObj "list" vs.toArray 0)).get? s₁.heap.objs.size = some (seqObj "list" vs.toArray 0) := Heap.get?_push_size _ rfl
  show wpAny _ _ _ _ _ { s₁ with heap := s₁.heap.push (seqObj "list" vs.toArray 0) }
  have hf : s.heap.get? s₁.heap.objs.size = none := by
    cases e : s.heap.get? s₁.heap.objs.size with
    | none => rfl
    | some o => exact absurd (Heap.lt_size (u₁.k _ _ e)) (Nat.lt_irrefl _)
  refine wpAny_bind (wpAny_holding (wpAny_call_entry slot_list_sort ⟨_, ho, rfl⟩ entry_list_sort ?_ (args_list_sort _)))
  refine list_sort (s := { s₁ with heap := s₁.heap.push (seqObj "list" vs.toArray 0) }) (K := K) (d := d) ho (hv.tp kp.tp) hk h64 (by show A.units + 1 + 1 + 20 < cLine; omega) fun s' ys u₂ hl' hv' => ?_
  refine ⟨_, rfl, wpAny_pure ⟨_, rfl, h _ s' ys ?_ hf hl' hv'⟩⟩
  have u₃ : UpB [s₁.heap.objs.size] s s' := u₁.up.trans ((UpB.of_k (tk := s₁.toks) kp).trans u₂)
  exact u₃.fresh fun i hi => by rw [List.mem_singleton.mp hi]; exact hf

theorem collect_l {l : Addr} {vs : Array Value} {xs : List α} (hl : s.heap.IsList l vs) (hv : Vals K s.heap vs.toList xs) (hz : vs.size ≤ sizeLine) : Wp prog w A (collect (.ref l)) (fun vs s₁ => Up s s₁ ∧ Vals K s₁.heap vs xs) s := by
  have e : vs = vs.toList.toArray := by simp
  rw [e] at hl
  refine collect_list hl ?_ (by rw [Array.length_toList]; exact hz)
  have k : Kp s.heap ((s.heap.push (seqObj "list" #[] 0)).update s.heap.objs.size (Obj.mapSeq (· ++ vs.toList.toArray))) := fun b o q => by
    have hlt : b < s.heap.objs.size := Heap.lt_size q
    rw [Heap.get?_update_ne _ _ _ _ (Nat.ne_of_lt hlt), Heap.get?_push_ne _ _ _ (Nat.ne_of_lt hlt)]
    exact q
  exact ⟨UpB.of_k (tk := s.toks) k, hv.tp k.tp⟩
end
end Mine

-- part MMin
namespace Mine
open PySem PySem.W PySem.Calls PyProof.Rows PySem.SeqAt

section
variable {prog : Program} {w : World} {A : Around} {E : Value → Shared → Prop} {s : Shared} {R : Result → Shared → Prop}
variable {α β : Type} [DecidableEq α] [DecidableEq β] {K : Kd α} {K2 : Kd β} {I : Addr} {fp wr : List Addr} {P : Nat → Value → Prop} {St : Nat → Heap → Prop} {vs : List Value} {xs : List α}

abbrev minStep (lt : α → α → Bool) (b y : α) : α := if lt y b then y else b

theorem min_loop (W : Walks prog w A.in1 I fp wr vs.length P St) (hP : ∀ i v, P i v → vs[i]? = some v) (hnt : ∀ i h, St i h → ∀ b ∈ wr, NT h b) (S : Addr) (hSf : S ∉ fp) (hu : A.units + 1 + K.un < cLine) :
    ∀ (k j : Nat) (s : Shared) (vb : Value) (c : Nat) (best : α), vs.length - (j + 1) = k → j + 1 ≤ vs.length → St (j + 1) s.heap → Vals K s.heap vs xs → K.is s.heap vb best →
    s.heap.get? S = some { cls := .type "list", dict := none, data := .seq #[vb, vb] c, slots := #[] } →
    (∀ v h' tk, K.is h' v ((xs.drop (j + 1)).foldl (minStep K.lt) best) → KpB (S :: wr) s.heap h' → R (.ok (.ret v)) { s with heap := h', toks := tk }) →
    codeAny (model prog w) A (.builtin "min.loop" ⟨[.ref I, .none, .ref S], []⟩) R s := by
  have hSw : S ∉ wr := fun h => hSf (W.sub _ h)
  have hname : (toString "min" ++ toString ".loop" : String) = "min.loop" := by decide
  intro k
  induction k with
  | zero =>
    intro j s vb c best hk hj hst hv hb hS hR
    have hin : j + 1 = vs.length := by omega
    have hl := hv.length
    have hd : xs.drop (j + 1) = [] := List.drop_of_length_le (by omega)
    rw [hd, List.foldl_nil] at hR
    refine codeAny_builtin F.entry_min_loop ?_
    rw [Around.under_plainId F.plain_min_loop _]
    show wpAny _ A.in1 (seqItems? (.ref S) >>= _) _ _ s
    refine wpAny_bind (wpAny_seqItems hS rfl ?_)
    show wpAny _ A.in1 (tryCatch (pyNext (.ref I)) _ >>= _) _ _ s
    refine wpAny_bind (wpAny_tryCatch (W.done s _ _ (hin ▸ hst) fun h' tk hk' => ?_))
    have hS' := hk' S _ hSw hS
    show wpAny _ A.in1 (updateSeq S (fun _ => #[]) >>= _) _ _ _
    refine wpAny_bind ?_
    refine wpAny_updateSeq hS' rfl (wpAny_bind (wpAny_letGo (wpAny_pure ?_)))
    have k1 : KpB wr s.heap h' := hk'
    have k2 : KpB [S] h' (h'.update S (Obj.mapSeq fun _ => (#[] : Array Value))) := KpB.of_ext (Heap.SameBut.update ..).extBut
    have t1 : Tp s.heap h' := k1.tp (hnt _ _ hst)
    have t2 : Tp h' (h'.update S (Obj.mapSeq fun _ => (#[] : Array Value))) := k2.tp fun i hi => by rw [List.mem_singleton.mp hi]; exact NT.list ⟨_, hS', rfl, c, rfl⟩
    exact hR vb _ tk (K.tp t2 (K.tp t1 hb)) ((k1.mono fun i h => .tail _ h).trans (k2.mono fun i h => by rw [List.mem_singleton.mp h]; exact .head _))
  | succ k ih =>
    intro j s vb c best hk hj hst hv hb hS hR
    have hlt : j + 1 < vs.length := by omega
    have hl := hv.length
    have hd : xs.drop (j + 1) = xs[j + 1]'(by omega) :: xs.drop (j + 2) := List.drop_eq_getElem_cons (by omega)
    rw [hd, List.foldl_cons] at hR
    refine codeAny_builtin F.entry_min_loop ?_
    rw [Around.under_plainId F.plain_min_loop _]
    show wpAny _ A.in1 (seqItems? (.ref S) >>= _) _ _ s
    refine wpAny_bind (wpAny_seqItems hS rfl ?_)
    show wpAny _ A.in1 (tryCatch (pyNext (.ref I)) _ >>= _) _ _ s
    refine wpAny_bind (wpAny_tryCatch (W.item (j + 1) s _ _ hlt hst fun v h' tk hPv hst' hk' => ?_))
    have hS' := hk' S _ hSw hS
    have k1 : KpB wr s.heap h' := hk'
    have t1 : Tp s.heap h' := k1.tp (hnt _ _ hst)
    have hv' := hv.tp t1
    have hvx : K.is h' v (xs[j + 1]'(by omega)) := by
      obtain ⟨x, ex, ix⟩ := Vals.get' hv' (hP _ _ hPv)
      have : x = xs[j + 1]'(by omega) := by
        rw [List.getElem?_eq_getElem (by omega)] at ex
        exact (Option.some.inj ex).symm
      rw [← this]; exact ix
    show wpAny _ A.in1 (tryCatch (holding [v, v] (richCompare .Lt v vb >>= _)) _ >>= _) _ _ _
    refine wpAny_bind (wpAny_tryCatch (wpAny_holding (wpAny_bind (K.ltAt (A := A.in1) hvx (K.tp t1 hb) (by show A.units + 1 + K.un < cLine; omega) prog w _ _ ?_))))
    refine wpAny_bind (wpAny_holding (wpAny_truthy_bool ?_))
    refine wpAny_bind (wpAny_letGo (wpAny_pure ?_))
    cases hc : K.lt (xs[j + 1]'(by omega)) best with
    | true =>
      simp only [if_true]
      refine wpAny_bind ?_
      refine wpAny_updateSeq hS' rfl (wpAny_bind (wpAny_letGo ?_))
      rw [hname]
      have k2 : KpB [S] h' (h'.update S (Obj.mapSeq fun _ => #[v, v])) := KpB.of_ext (Heap.SameBut.update ..).extBut
      have t2 : Tp h' (h'.update S (Obj.mapSeq fun _ => #[v, v])) := k2.tp fun i hi => by rw [List.mem_singleton.mp hi]; exact NT.list ⟨_, hS', rfl, c, rfl⟩
      have e2 : minStep K.lt best (xs[j + 1]'(by omega)) = xs[j + 1]'(by omega) := by unfold minStep; rw [hc]; rfl
      rw [e2] at hR
      refine wpAny_pure ⟨plainId_quiet F.plain_min_loop _, ih (j + 1) _ v _ (xs[j + 1]'(by omega)) (by omega) hlt (W.frame _ _ _ hst' fun b hbf o e => ?_) (hv'.tp t2) (K.tp t2 hvx) (Heap.get?_update_self _ hS' rfl)
        fun v' h'' tk'' hb' hk'' => ?_⟩
      · exact (Heap.get?_update_other _ _ (fun h : S = b => hSf (by rw [h]; exact hbf))).trans e
      · exact hR v' h'' tk'' hb' (((k1.mono fun i h => .tail _ h).trans (k2.mono fun i h => by rw [List.mem_singleton.mp h]; exact .head _)).trans hk'')
    | false =>
      simp only [Bool.false_eq_true, if_false]
      refine wpAny_bind (wpAny_letGo ?_)
      rw [hname]
      have e2 : minStep K.lt best (xs[j + 1]'(by omega)) = best := by unfold minStep; rw [hc]; rfl
      rw [e2] at hR
      refine wpAny_pure ⟨plainId_quiet F.plain_min_loop _, ih (j + 1) _ vb c best (by omega) hlt hst' hv' (K.tp t1 hb) hS' fun v' h'' tk'' hb' hk'' => ?_⟩
      exact hR v' h'' tk'' hb' ((k1.mono fun i h => .tail _ h).trans hk'')

theorem min_first (W : Walks prog w A.in1 I fp wr vs.length P St) (hP : ∀ i v, P i v → vs[i]? = some v) (hnt : ∀ i h, St i h → ∀ b ∈ wr, NT h b) (S : Addr) (hSf : S ∉ fp) (hu : A.units + 1 + K.un < cLine) {d : α} (hne : xs ≠ []) {c : Nat} (hst : St 0 s.heap) (hv : Vals K s.heap vs xs)
    (hS : s.heap.get? S = some { cls := .type "list", dict := none, data := .seq #[] c, slots := #[] })
    (hR : ∀ v h' tk, K.is h' v (minBy K.lt d xs) → KpB (S :: wr) s.heap h' → R (.ok (.ret v)) { s with heap := h', toks := tk }) :
    codeAny (model prog w) A (.builtin "min.loop" ⟨[.ref I, .none, .ref S], []⟩) R s := by
  have hSw : S ∉ wr := fun h => hSf (W.sub _ h)
  have hname : (toString "min" ++ toString ".loop" : String) = "min.loop" := by decide
  have hl := hv.length
  obtain ⟨x, r, rfl⟩ : ∃ x r, xs = x :: r := by
    cases xs with
    | nil => exact absurd rfl hne
    | cons x r => exact ⟨x, r, rfl⟩
  have hn : 0 < vs.length := by rw [hl]; exact Nat.succ_pos _
  refine codeAny_builtin F.entry_min_loop ?_
  rw [Around.under_plainId F.plain_min_loop _]
  show wpAny _ A.in1 (seqItems? (.ref S) >>= _) _ _ s
  refine wpAny_bind (wpAny_seqItems hS rfl ?_)
  show wpAny _ A.in1 (tryCatch (pyNext (.ref I)) _ >>= _) _ _ s
  refine wpAny_bind (wpAny_tryCatch (W.item 0 s _ _ hn hst fun v h' tk hPv hst' hk' => ?_))
  have hS' := hk' S _ hSw hS
  have k1 : KpB wr s.heap h' := hk'
  have t1 : Tp s.heap h' := k1.tp (hnt _ _ hst)
  have hv' := hv.tp t1
  have hvx : K.is h' v x := by
    obtain ⟨y, ey, iy⟩ := Vals.get' hv' (hP _ _ hPv)
    simp at ey; subst ey; exact iy
  show wpAny _ A.in1 (updateSeq S (fun _ => #[v, v]) >>= _) _ _ _
  refine wpAny_bind ?_
  refine wpAny_updateSeq hS' rfl ?_
  rw [hname]
  have k2 : KpB [S] h' (h'.update S (Obj.mapSeq fun _ => #[v, v])) := KpB.of_ext (Heap.SameBut.update ..).extBut
  have t2 : Tp h' (h'.update S (Obj.mapSeq fun _ => #[v, v])) := k2.tp fun i hi => by rw [List.mem_singleton.mp hi]; exact NT.list ⟨_, hS', rfl, c, rfl⟩
  refine wpAny_pure ⟨plainId_quiet F.plain_min_loop _, min_loop W hP hnt S hSf hu _ 0 _ v _ x rfl hn (W.frame _ _ _ hst' fun b hbf o e => ?_) (hv'.tp t2) (K.tp t2 hvx) (Heap.get?_update_self _ hS' rfl) fun v' h'' tk'' hb' hk'' => ?_⟩
  · exact (Heap.get?_update_other _ _ (fun h : S = b => hSf (by rw [h]; exact hbf))).trans e
  · exact hR v' h'' tk'' hb' (((k1.mono fun i h => .tail _ h).trans (k2.mono fun i h => by rw [List.mem_singleton.mp h]; exact .head _)).trans hk'')

theorem min_call (hh : A.handled = none) {v : Value} {d : α} {Q : Value → Shared → Prop} (hs : SeqIs K s.heap v xs) (hne : xs ≠ []) (hu : A.units + 2 + K.un < cLine)
    (h : ∀ r s', Up s s' → K.is s'.heap r (minBy K.lt d xs) → Q r s') : Wp prog w A (call (.builtin "min") [v]) Q s := by
  have hname : (toString "min" ++ toString ".loop" : String) = "min.loop" := by decide
  refine call_function_tree F.kind_min F.plain_min F.entry_min (F.args_min1 _) ?_
  show wpAny _ A.in1 (Builtin.Builtins.bindParams "min" ["key", "default"] 0 ⟨[], []⟩ >>= _) _ _ s
  refine wpAny_bind (wpAny_of_eq (show Builtin.Builtins.bindParams "min" ["key", "default"] 0 ⟨[], []⟩ = pure [none, none] from rfl) ?_)
  refine wpAny_bind (wpAny_pure ?_)
  refine wpAny_bind (wp_any (seq_iter (A := A.in1) hh hs fun I a fp P St vs h' hva W hP hnt hio hst hI hfp hk hv hfp2 => ?_))
  refine wpAny_bind (wpAny_newObj_type ?_)
  have hSf : h'.objs.size ∉ fp := fun hm => Nat.lt_irrefl _ (hfp _ hm)
  have kp : Kp h' (h'.push { cls := .type "list", data := .seq ([] : List Value).toArray }) := Kp.push _ _
  rw [hname]
  have W' : Walks prog w A.in1 I fp [I] vs.length P St := W
  have fresh : ∀ a, s.heap.objs.size ≤ a → s.heap.get? a = none := fun a ha => by
    cases e : s.heap.get? a with
    | none => rfl
    | some o' => exact absurd (Heap.lt_size e) (Nat.not_lt.mpr ha)
  have hIlt : I < h'.objs.size := hfp I (W.sub I (.head _))
  refine wpAny_pure ⟨plainId_quiet F.plain_min_loop _, min_first (s := { s with heap := h'.push { cls := .type "list", data := .seq ([] : List Value).toArray } }) W' hP hnt h'.objs.size hSf (by omega) (d := d) hne (W.frame _ _ _ hst fun b _ o e => Heap.get?_push_of_some _ e) (hv.tp kp.tp) (Heap.get?_push_size _ rfl) fun v h'' tk hb hk2 => ?_⟩
  refine h v _ (UpB.fresh (X := [h'.objs.size, I]) ⟨(hk.trans kp).but.trans hk2, rfl, rfl, rfl⟩ fun i hi => fresh i ?_) hb
  simp only [List.mem_cons, List.not_mem_nil, or_false] at hi
  rcases hi with rfl | rfl
  · rw [hI] at hIlt; exact Nat.le_of_lt hIlt
  · exact Nat.le_of_eq hI.symm
end
end Mine

-- part MFn
namespace Mine
open PySem PySem.W PySem.Calls PyProof.Rows PySem.SeqAt

def stAt (i : Nat) : Stmt := PySem.Challenge.pw_gu0001_02.main.body.getD i (.Pass default)

/-- the def that a statement makes lies at f -/
inductive IsDef (h : Heap) (f : Addr) : Stmt → Value → Value → Prop
  | mk {nm q bn : Str} {doc pm cdv ct dV kV : Value} {an : Option Addr} {params : Arguments} {body : List Stmt} {scope : Scope} {pos : Pos} {o : Obj} : h.get? f = some o → o.data = .func (fnOf nm q params body scope dV kV doc pm an cdv ct) → h.CodeRec cdv q →
      IsDef h f (.FunctionDef nm params body [] none [] scope none bn pos) dV kV
theorem IsDef.keeps {h h' : Heap} {f : Addr} {st : Stmt} {dV kV : Value} (x : IsDef h f st dV kV) (k : Kp h h') : IsDef h' f st dV kV := by
  cases x with
  | mk a b c => exact .mk (k _ _ a) b (c.keeps k)

/-- one with the defaults (0, None) and the keyword's None: how its calls bind -/
inductive IsDfl (h : Heap) (f : Addr) : Stmt → Prop
  | mk {nm q bn : Str} {doc pm cdv ct dV kV : Value} {an : Option Addr} {params : Arguments} {body : List Stmt} {scope : Scope} {pos : Pos} {o : Obj} : h.get? f = some o → o.data = .func (fnOf nm q params body scope dV kV doc pm an cdv ct) → h.CodeRec cdv q →
      (∀ s : Shared, Kp h s.heap → ∀ a x, ∃ t, BindsTo s (fnOf nm q params body scope dV kV doc pm an cdv ct) ⟨[a, x], []⟩ [("a", a), ("x", x), ("lo", .int 0 t), ("hi", .none), ("key", .none)]) →
      (∀ s : Shared, Kp h s.heap → ∀ a x lo hi, BindsTo s (fnOf nm q params body scope dV kV doc pm an cdv ct) ⟨[a, x, lo, hi], []⟩ [("a", a), ("x", x), ("lo", lo), ("hi", hi), ("key", .none)]) →
      IsDfl h f (.FunctionDef nm params body [] none [] scope none bn pos)
theorem IsDfl.keeps {h h' : Heap} {f : Addr} {st : Stmt} (x : IsDfl h f st) (k : Kp h h') : IsDfl h' f st := by
  cases x with
  | mk a b c d e => exact .mk (k _ _ a) b (c.keeps k) (fun s q => d s (k.trans q)) fun s q => e s (k.trans q)
theorem IsDfl.isDef {h : Heap} {f : Addr} {st : Stmt} (x : IsDfl h f st) : ∃ dV kV, IsDef h f st dV kV := by
  cases x with
  | mk a b c d e => exact ⟨_, _, .mk a b c⟩

structure Gl (mg mb : Str → Option Value) (h : Heap) : Prop where
  g : h.Ns mainGlobals mg
  b : h.Ns builtinsNs mb
  lim : h.NoLimit
  nmin : mg "min" = none ∧ mb "min" = some (.builtin "min")
  nsorted : mg "sorted" = none ∧ mb "sorted" = some (.builtin "sorted")
  nlen : mg "len" = none ∧ mb "len" = some (.builtin "len")
  nsum : mg "sum" = none ∧ mb "sum" = some (.builtin "sum")
  nisi : mg "isinstance" = none ∧ mb "isinstance" = some (.builtin "isinstance")
  ntuple : mg "tuple" = none ∧ mb "tuple" = some (.type "tuple")
  ndict : mg "dict" = none ∧ mb "dict" = some (.type "dict")
  nrange : mg "range" = none ∧ mb "range" = some (.type "range")
  fadd : ∃ f, mg "add_callers" = some (.ref f) ∧ IsDef h f (stAt 1) .none .none
  fcount : ∃ f, mg "count_calls" = some (.ref f) ∧ IsDef h f (stAt 2) .none .none
  fmoved : ∃ f, mg "_law_moved" = some (.ref f) ∧ IsDef h f (stAt 7) .none .none
  fbeside : ∃ f, mg "_law_beside" = some (.ref f) ∧ IsDef h f (stAt 8) .none .none
  fgrown : ∃ f, mg "_law_grown" = some (.ref f) ∧ IsDef h f (stAt 9) .none .none
  feight : ∃ f, mg "_law_eight" = some (.ref f) ∧ IsDef h f (stAt 10) .none .none
  fins : ∃ f, mg "insort_left" = some (.ref f) ∧ IsDfl h f (stAt 4)
  fbis : ∃ f, mg "bisect_left" = some (.ref f) ∧ IsDfl h f (stAt 5)

/-- where a def of the text may be called -/
structure Cx (mg mb : Str → Option Value) (k : Nat) (A : Around) (h : Heap) : Prop where
  gl : Gl mg mb h
  hh : A.handled = none
  dp : A.depth + k < recursionLimit
  un : A.units + 40 * k + 60 < cLine

section
variable {mg mb : Str → Option Value} {h h' : Heap} {A : Around} {k : Nat}
theorem Gl.keeps (x : Gl mg mb h) (q : Kp h h') : Gl mg mb h' where
  g := x.g.keeps q
  b := x.b.keeps q
  lim := x.lim.keeps q
  nmin := x.nmin
  nsorted := x.nsorted
  nlen := x.nlen
  nsum := x.nsum
  nisi := x.nisi
  ntuple := x.ntuple
  ndict := x.ndict
  nrange := x.nrange
  fadd := let ⟨f, a, b⟩ := x.fadd; ⟨f, a, b.keeps q⟩
  fcount := let ⟨f, a, b⟩ := x.fcount; ⟨f, a, b.keeps q⟩
  fmoved := let ⟨f, a, b⟩ := x.fmoved; ⟨f, a, b.keeps q⟩
  fbeside := let ⟨f, a, b⟩ := x.fbeside; ⟨f, a, b.keeps q⟩
  fgrown := let ⟨f, a, b⟩ := x.fgrown; ⟨f, a, b.keeps q⟩
  feight := let ⟨f, a, b⟩ := x.feight; ⟨f, a, b.keeps q⟩
  fins := let ⟨f, a, b⟩ := x.fins; ⟨f, a, b.keeps q⟩
  fbis := let ⟨f, a, b⟩ := x.fbis; ⟨f, a, b.keeps q⟩
theorem Cx.keeps (x : Cx mg mb k A h) (q : Kp h h') : Cx mg mb k A h' := ⟨x.gl.keeps q, x.hh, x.dp, x.un⟩
theorem Cx.deeper {env : Env} (x : Cx mg mb (k + 1) A h) : Cx mg mb k (A.deeper env) h := ⟨x.gl, x.hh, by
  have := x.dp
  show A.depth + 1 + k < _; omega, by
  have := x.un
  show A.units + 3 + 40 * k + 60 < _; omega⟩
end

section
variable {s₀ s s' : Shared} {L : Addr} {m cm : Str → Option Value} {cs : List (Str × Addr)} {X : List Addr}
theorem ic_kp (x : InCallC s₀ L m cs cm s) : Kp s₀.heap s.heap := x.toInCall.keep
theorem ic_up0 (x : InCallC s₀ L m cs cm s) : Up s₀ s := by
  obtain ⟨h, tk, rfl⟩ := x.toInCall.same
  exact UpB.of_k x.toInCall.keep
theorem ic_upB (x : InCallC s₀ L m cs cm s) (u : UpB X s s') (hL : L ∉ X) (h0 : ∀ i ∈ X, s₀.heap.get? i = none) (hc : ∀ n c, cs.lookup n = some c → c ∉ X) : InCallC s₀ L m cs cm s' := by
  refine ⟨⟨?_, x.toInCall.ns.at' fun o e => u.kp _ o hL e, fun b o e => u.kp b o (fun q => by rw [h0 b q] at e; cases e) (x.toInCall.keep b o e), x.toInCall.fresh⟩, fun n c e => ?_, x.apart, x.above⟩
  · obtain ⟨h, tk, rfl⟩ := x.toInCall.same
    obtain ⟨h', g', d', t', o'⟩ := s'
    have e1 : g' = s₀.gens := u.gens
    have e2 : d' = s₀.drawn := u.drawn
    have e3 : o' = s₀.os := u.os
    subst e1 e2 e3
    exact ⟨h', t', rfl⟩
  · obtain ⟨o, ho, hd⟩ := x.cell n c e
    exact ⟨o, u.kp _ o (hc n c e) ho, hd⟩
theorem ic_up (x : InCallC s₀ L m cs cm s) (u : Up s s') : InCallC s₀ L m cs cm s' := ic_upB x u (fun h => nomatch h) (fun _ h => nomatch h) fun _ _ _ h => nomatch h
end

section
variable {prog : Program} {w : World} {A : Around} {s : Shared} {env : Env} {mg mb : Str → Option Value}

theorem fn_cells {f : Addr} {o : Obj} {fd : FuncData} {body : List Stmt} {vals : List Value} {binds : List (Str × Value)} {Q : Value → Shared → Prop}
    (hroom : A.depth < recursionLimit) (ho : s.heap.get? f = some o) (hdata : o.data = .func fd) (hlim : s.heap.NoLimit) (hcd : s.heap.CodeRec fd.code fd.qualname)
    (hbody : fd.body = .stmts body) (hbind : bindArgs fd ⟨vals, []⟩ = pure binds) (hclo : fd.closure = [])
    (hkind : ∀ x ∈ binds, fd.scope.names.lookup x.1 = some .local ∨ (fd.scope.names.lookup x.1 = some .cell ∧ ((cellsFrom (s.heap.objs.size + 1) fd.scope.names []).lookup x.1).isSome = true))
    (h : ∀ L s₁ env, env = callEnvC fd L f → L = s.heap.objs.size → InCallC s L (bindL env.kindOf binds fun _ => none) env.cells
        (bindC env.kindOf binds fun _ => none) s₁ → Wp prog w (A.deeper env) (execs body env) (fun fl s' => ∃ v, fl = .ret v ∧ Q v s') s₁)
    (hco : fd.scope.isCoroutine = false := by rfl) (hgen : fd.scope.isGenerator = false := by rfl) (hk : fd.scope.kind = .function := by rfl) : Wp prog w A (call (.ref f) vals) Q s := by
  refine wpAny_call (codeAny_call_cells hroom ho hdata hlim hcd hbody hbind hclo hkind (fun s₁ x => ?_) hco hgen hk)
  exact wpAny_mono (h _ s₁ _ rfl rfl x) (fun fl s' hq => by obtain ⟨v, rfl, hq⟩ := hq; exact hq) fun _ _ f => f.elim

theorem fn_def {f : Addr} {o : Obj} {fd : FuncData} {body : List Stmt} {args : Args} {binds : List (Str × Value)} {Q : Value → Shared → Prop}
    (hroom : A.depth < recursionLimit) (ho : s.heap.get? f = some o) (hdata : o.data = .func fd) (hlim : s.heap.NoLimit) (hcd : s.heap.CodeRec fd.code fd.qualname)
    (hbody : fd.body = .stmts body) (hclo : fd.closure = []) (hbind : BindsTo s fd args binds)
    (hcell : ∀ x ∈ fd.scope.names, x.2 ≠ .cell) (hloc : ∀ x ∈ binds, fd.scope.names.lookup x.1 = some .local)
    (h : ∀ L s₁ env, env = callEnv fd L f → env.locals = L → env.cells = [] → InCallC s L (fun x => binds.reverse.lookup x) [] (fun _ => none) s₁ → Wp prog w (A.deeper env) (execs body env) (fun fl s' => ∃ v, fl = .ret v ∧ Q v s') s₁)
    (hco : fd.scope.isCoroutine = false := by rfl) (hgen : fd.scope.isGenerator = false := by rfl) (hk : fd.scope.kind = .function := by rfl) : Wp prog w A (call (.ref f) args.pos args.kw) Q s := by
  refine wpAny_call (codeAny_call_def hroom ho hdata hlim hcd hbody hbind hcell hloc (fun h₀ hn hk₁ => ?_) hco hgen hk)
  exact wpAny_mono (h _ _ _ rfl rfl hclo ⟨⟨⟨_, _, rfl⟩, hn, hk₁, Nat.le_refl _⟩, (fun _ _ e => by cases e), List.Pairwise.nil, (fun _ _ e => by cases e)⟩) (fun fl s' hq => by obtain ⟨v, rfl, hq⟩ := hq; exact hq) fun _ _ f => f.elim

theorem name_builtin {x : Str} {pos : Pos} {h₀ : Heap} {v : Value} {Q : Value → Shared → Prop} (G : s.heap.Ns mainGlobals mg) (B : s.heap.Ns builtinsNs mb) (e : mg x = none ∧ mb x = some v) (h : Q v s)
    (hk : env.scope.kind = .function) (hx : env.kindOf x = some .globalImplicit) (hg : env.globals = mainGlobals) (hb : env.builtins = builtinsNs) (hd : (x == ("__debug__" : Str)) = false := by decide) : Wp prog w A (eval (.Name x pos) env) Q s :=
  Name_function_global hk hx (loadGlobal_builtin (by rw [hg]; exact G) e.1 (by rw [hb]; exact B) e.2 h) hd
theorem name_global {x : Str} {pos : Pos} {v : Value} {Q : Value → Shared → Prop} (G : s.heap.Ns mainGlobals mg) (e : mg x = some v) (h : Q v s)
    (hk : env.scope.kind = .function) (hx : env.kindOf x = some .globalImplicit) (hg : env.globals = mainGlobals) (hd : (x == ("__debug__" : Str)) = false := by decide) : Wp prog w A (eval (.Name x pos) env) Q s :=
  Name_function_global hk hx (loadGlobal_global (by rw [hg]; exact G) e h) hd

/-- calls by a name, of one argument and more -/
theorem call_b1 {x : Str} {np pos : Pos} {e : Expr} {id : String} {Q : Value → Shared → Prop} (hs : starEach [e] env = [(false, eval e env)]) (hn : ∀ {R : Value → Shared → Prop}, R (.builtin id) s → Wp prog w A (eval (.Name x np) env) R s)
    (h : Wp prog w A (eval e env) (fun v s₁ => Wp prog w A (call (.builtin id) [v]) Q s₁) s) : Wp prog w A (eval (.Call (.Name x np) [e] [] pos) env) Q s :=
  Call_name1 hs (hn (callWith_builtin1 h))
theorem call_t1 {x : Str} {np pos : Pos} {e : Expr} {T : String} {Q : Value → Shared → Prop} (hs : starEach [e] env = [(false, eval e env)]) (hn : ∀ {R : Value → Shared → Prop}, R (.type T) s → Wp prog w A (eval (.Name x np) env) R s)
    (h : Wp prog w A (eval e env) (fun v s₁ => Wp prog w A (call (.type T) [v]) Q s₁) s) : Wp prog w A (eval (.Call (.Name x np) [e] [] pos) env) Q s :=
  Call_name1 hs (hn (callWith_type1 h))
theorem call_f1 {x : Str} {np pos : Pos} {e : Expr} {f : Addr} {Q : Value → Shared → Prop} (hs : starEach [e] env = [(false, eval e env)]) (hn : ∀ {R : Value → Shared → Prop}, R (.ref f) s → Wp prog w A (eval (.Name x np) env) R s)
    (h : Wp prog w A (eval e env) (fun v s₁ => (∃ st dV kV, IsDef s₁.heap f st dV kV) ∧ Wp prog w A (call (.ref f) [v]) Q s₁) s) : Wp prog w A (eval (.Call (.Name x np) [e] [] pos) env) Q s := by
  refine Call_name1 hs (hn ?_)
  unfold callWith
  refine wpAny_bind (wpAny_holding ?_)
  refine evalArgs_plain (spliced_cons (wp_mono h fun v s₁ h₁ => spliced_nil ?_))
  obtain ⟨⟨st, dV, kV, hf⟩, h₁⟩ := h₁
  refine wpAny_bind (wpAny_standAt ?_)
  cases hf with
  | mk a b c =>
    have tail : ∀ {t : Sem Value}, Wp prog w A t Q s₁ → Wp prog w A (t >>= fun r => holding [r] point >>= fun _ => pure r) Q s₁ :=
      fun ht => wpAny_bind (wpAny_mono ht (fun r s₂ hr => wpAny_bind (wpAny_holding (wpAny_point (wpAny_pure hr)))) fun _ _ x => x)
    refine wpAny_bind (m := keeperOf (.ref f)) ?_
    unfold keeperOf
    refine wpAny_bind (wpAny_load a ?_)
    rw [b]
    refine wpAny_pure ?_
    first
      | (refine wpAny_ite ?_; split <;> first | exact tail h₁ | exact tail (by unfold callMarked; exact Calls.wpAny_keep h₁))
      | exact tail h₁
end
end Mine

-- part MMoved
namespace Mine
open PySem PySem.W PySem.Calls PyProof.Rows PySem.SeqAt

theorem sq_open {h : Heap} {v : Value} {p : Sq} (x : Kd.sq.is h v p) : ∃ t t1 t2, v = .ref t ∧ h.IsTuple t #[.int p.1 t1, .int p.2 t2] := by
  obtain ⟨a, vs, rfl, ht, hv⟩ := x
  obtain ⟨l⟩ := vs
  cases hv with
  | cons h1 r =>
    cases r with
    | cons h2 r =>
      cases r
      obtain ⟨t1, rfl⟩ := h1
      obtain ⟨t2, rfl⟩ := h2
      exact ⟨a, t1, t2, rfl, ht⟩
theorem sq_mk {h : Heap} {t : Addr} {p : Sq} {t1 t2 : Tok} (ht : h.IsTuple t #[.int p.1 t1, .int p.2 t2]) : Kd.sq.is h (.ref t) p :=
  ⟨t, _, rfl, ht, .cons ⟨t1, rfl⟩ (.cons ⟨t2, rfl⟩ .nil)⟩
theorem shape_seq {h : Heap} {v : Value} {sh : Shape} (x : Kd.shape.is h v sh) : SeqIs Kd.sq h v sh := let ⟨a, vs, e, ht, hv⟩ := x; ⟨a, vs, e, .inl ht, hv⟩

theorem SeqIs.keeps {α : Type} [DecidableEq α] {K : Kd α} {h h' : Heap} {v : Value} {xs : List α} (x : SeqIs K h v xs) (k : Kp h h') : SeqIs K h' v xs := by
  obtain ⟨a, vs, e, q, hv⟩ := x
  refine ⟨a, vs, e, ?_, hv.tp k.tp⟩
  rcases q with q | q
  · exact .inl (q.at fun o e => k _ o e)
  · exact .inr (q.at fun o e => k _ o e)

section
variable {prog : Program} {w : World} {A : Around} {s : Shared} {mg mb : Str → Option Value}

theorem closNil {scope : Scope} {env : Env} (h : ∀ x ∈ scope.names, x.2 ≠ .free) : closureFor scope env = pure [] := closureFor_none h

local macro_rules | `(tactic| walk_at "env") => `(tactic| (subst_vars; rfl))

/-- [.. for x, y in squares] -/
theorem comp_pairs {β : Type} [DecidableEq β] {K2 : Kd β} {elt iter : Expr} {x y : Str} {px py tp : Pos} {tk : Nat} {scope : Scope} {pos : Pos} {env : Env} {cl : List (Str × Addr)} {Q : Value → Shared → Prop} {xs : List Sq} {g : Sq → β}
    (hh : A.handled = none) (hclos : closureFor scope env = pure cl) (hkind : scope.kind = .function) (hnames : ∀ x ∈ scope.names, x.2 = .local → scope.names.lookup x.1 = some .local) (hcell : ∀ x ∈ scope.names, x.2 ≠ .cell)
    (hx : scope.names.lookup x = some .local) (hy : scope.names.lookup y = some .local) (hxy : x ≠ y) (hz : xs.length ≤ 100000)
    (src : Wp prog w A (eval iter env) (fun v s₁ => Up s s₁ ∧ SeqIs Kd.sq s₁.heap v xs) s)
    (turn : ∀ C p t1 t2 m s₄, p ∈ xs → s.heap.get? C = none → Up s s₄ → s₄.heap.Ns C m → m x = some (.int p.1 t1) → m y = some (.int p.2 t2) → Wp prog w A (eval elt (compEnvC scope cl C env)) (fun u s₅ => Up s₄ s₅ ∧ K2.is s₅.heap u (g p)) s₄)
    (h : ∀ D ys s', Up s s' → s.heap.get? D = none → s'.heap.IsList D ys → Vals K2 s'.heap ys.toList (xs.map g) → Q (.ref D) s')
    (hs : ∀ x, foldedSetIterable iter env x = pure x := by intro _; rfl) :
    Wp prog w A (eval (.ListComp elt [⟨.Tuple [.Name x px, .Name y py] tk tp, iter, [], 0⟩] scope pos) env) Q s := by
  have e : xs.map g = xs.flatMap fun p => [g p] := List.map_eq_flatMap
  refine comp1 (K := Kd.sq) (K2 := K2) (g := fun p => [g p]) hh hclos hkind hnames hcell (by rw [← e, List.length_map]; exact hz) src (fun C p v s₃ m hp hv hn u hC => ?_) (fun D ys s' a b c d => h D ys s' a b c.isList (by rw [e]; exact d)) hs
  obtain ⟨t, t1, t2, rfl, ht⟩ := sq_open hv
  refine assign_pair hh (lookup_relabel_local hx) (lookup_relabel_local hy) (by show (relabel scope env).kind = _; exact hkind) rfl hn ht hxy fun s₄ m' u₄ n₄ m1 m2 _ => ?_
  refine wpAny_tests_nil (.inl ⟨rfl, ?_⟩)
  have fr : ∀ i ∈ [C], s.heap.get? i = none := fun i hi => by rw [List.mem_singleton.mp hi]; exact hC
  refine wp_mono (turn C p t1 t2 m' s₄ hp hC (UpB.fresh (u.up.trans u₄) fr) n₄ m1 m2) fun z s₅ h₅ => ?_
  exact ⟨u₄.trans h₅.1.up, ⟨m', n₄.keeps h₅.1.k⟩, g p, rfl, h₅.2⟩

theorem moved_call {k : Nat} {f : Addr} {v : Value} {sh : Shape} {Q : Value → Shared → Prop} (C : Cx mg mb (k + 1) A s.heap) (hf : IsDef s.heap f (stAt 7) .none .none) (hv : SeqIs Kd.sq s.heap v sh) (hne : sh ≠ []) (hl : sh.length ≤ 60)
    (h : ∀ r s', Up s s' → Kd.shape.is s'.heap r (movedF sh) → Q r s') : Wp prog w A (call (.ref f) [v]) Q s := by
  generalize hst : stAt 7 = st at hf
  cases hf with
  | mk ho hd hc =>
    cases hst
    refine fn_cells (by have := C.dp; omega) ho hd C.gl.lim hc rfl (binds := [("shape", v)]) rfl rfl (kindsX rfl _) fun L s₁ env he hL x => ?_
    have C₁ := (C.keeps (ic_kp x)).deeper (env := env)
    have hk : env.scope.kind = .function := by walk_at "env"
    have hloc : env.locals = L := by walk_at "env"
    have hgl : env.globals = mainGlobals := by walk_at "env"
    have hbl : env.builtins = builtinsNs := by walk_at "env"
    have hc1 : env.cells.lookup (Str.ofString "low") = some (L + 1) := by walk_at "env"
    have hc2 : env.cells.lookup (Str.ofString "left") = some (L + 1 + 1) := by walk_at "env"
    have kS : env.kindOf "shape" = some .local := by walk_at "env"
    obtain ⟨m, x, hm⟩ : ∃ m, InCallC s L m env.cells (bindC env.kindOf [("shape", v)] fun _ => none) s₁ ∧ m "shape" = some v := ⟨_, x, by walk_at "env"⟩
    clear ho hd hc
    have hle : A.units + 40 * k + 63 < cLine := by have := C₁.un; show A.units + 40 * k + 63 < _; have e : (A.deeper env).units = A.units + 3 := rfl; omega
    have hle' : (A.deeper env).units + 60 < cLine := by have := C₁.un; omega
    have hhd : (A.deeper env).handled = none := C₁.hh
    have x := hloc.symm ▸ x
    -- the squares, read by the name
    have src : ∀ s', Up s₁ s' → ∀ pos, Wp prog w (A.deeper env) (eval (.Name "shape" pos) env) (fun v s₁ => Up s' s₁ ∧ SeqIs Kd.sq s₁.heap v sh) s' := fun s' u pos =>
      name_local kS hk rfl (x.toInCall.ns.keeps u.k) hm ⟨UpB.refl _, hv.keeps ((ic_kp x).trans u.k)⟩
    have hne1 : sh.map (fun p => p.1) ≠ [] := by simpa using hne
    have hne2 : sh.map (fun p => p.2) ≠ [] := by simpa using hne
    refine wpAny_execs_cons ?_
    refine Assign_Tuple (hs := ?hs1) (hw := ?hw1) ?g1
    case hs1 => walk_at "env"
    case hw1 => walk_at "env"
    refine wpAny_Tuple (wpAny_items_cons ?_)
    refine call_b1 rfl (fun hq => name_builtin (h₀ := s.heap) C₁.gl.g C₁.gl.b C₁.gl.nmin hq hk (by walk_at "env") hgl hbl) ?_
    refine comp_pairs (K2 := Kd.int) (g := fun p => p.1) hhd (cl := []) (closNil (by decide)) rfl (by decide) (by decide) rfl rfl (by decide) (by omega) (src s₁ (UpB.refl _) _) (fun D p t1 t2 m' s₄ hp hD u₄ n₄ m1 m2 => ?_) fun D ys s₂ u₂ hD hlD hvD => ?_
    · exact name_local (lookup_relabel_local rfl) rfl rfl n₄ m1 ⟨UpB.refl _, _, rfl⟩
    refine min_call hhd (K := Kd.int) (d := 0) ⟨D, ys, rfl, .inr hlD, hvD⟩ hne1 (by show _ + 2 + 0 < _; omega) fun r1 s₃ u₃ hr1 => ?_
    have u₁₃ : Up s₁ s₃ := u₂.trans u₃
    have C₃ := C₁.keeps u₁₃.k
    refine wpAny_items_cons ?_
    refine call_b1 rfl (fun hq => name_builtin (h₀ := s.heap) C₃.gl.g C₃.gl.b C₃.gl.nmin hq hk (by walk_at "env") hgl hbl) ?_
    refine comp_pairs (K2 := Kd.int) (g := fun p => p.2) hhd (cl := []) (closNil (by decide)) rfl (by decide) (by decide) rfl rfl (by decide) (by omega) (src s₃ u₁₃ _) (fun D p t1 t2 m' s₄ hp hD u₄ n₄ m1 m2 => ?_) fun D2 ys2 s₄ u₄ hD2 hlD2 hvD2 => ?_
    · exact name_local (lookup_relabel_local rfl) rfl rfl n₄ m2 ⟨UpB.refl _, _, rfl⟩
    refine min_call hhd (K := Kd.int) (d := 0) ⟨D2, ys2, rfl, .inr hlD2, hvD2⟩ hne2 (by show _ + 2 + 0 < _; omega) fun r2 s₅ u₅ hr2 => ?_
    have u₁₅ : Up s₁ s₅ := (u₁₃.trans u₄).trans u₅
    refine wpAny_items_nil ⟨by rw [sizeLine_eq]; show 2 ≤ _; omega, ?_⟩
    -- low and left, kept in their cells
    have u₁₆ : Up s₁ { s₅ with heap := s₅.heap.push { cls := .type "tuple", data := .seq [r1, r2].toArray } } := u₁₅.trans (UpB.of_k (tk := s₅.toks) (Kp.push _ _))
    refine wpAny_assign_Tuple hhd (items := #[r1, r2]) ⟨_, Heap.get?_push_size _ rfl, rfl, 0, rfl⟩ rfl rfl fun h₇ he₇ => ?_
    have u₁₇ : Up s₁ { s₅ with heap := h₇ } := u₁₆.trans (UpB.fresh (UpB.one (tk := s₅.toks) he₇) fun i hi => by rw [List.mem_singleton.mp hi]; exact Heap.get?_none_of_le (Nat.le_refl _))
    have x₇ := ic_up x u₁₇
    show wpAny _ _ (assignInOrder [assign (.Name "low" _) env, assign (.Name "left" _) env] [r1, r2]) _ _ _
    rw [assignInOrder]
    refine wpAny_bind (wpAny_holding (wpAny_assign_Name (stCC x₇ hk (by walk_at "env") hc1 fun s₈ x₈ => ?_)))
    rw [assignInOrder]
    refine wpAny_bind (wpAny_holding (wpAny_assign_Name (stCC x₈ hk (by walk_at "env") hc2 fun s₉ x₉ => wpAny_pure ?_)))
    obtain ⟨i1, rfl⟩ := hr1
    obtain ⟨i2, rfl⟩ := hr2
    have c1 := x₉.cell _ _ hc1
    have c2 := x₉.cell _ _ hc2
    rw [if_neg (by decide), if_pos rfl] at c1
    rw [if_pos rfl] at c2
    -- the squares less these two, in order, as a tuple
    have u₀₉ := ic_up0 x₉
    have C₉ : Cx mg mb k (A.deeper env) s₉.heap := (C.keeps (ic_kp x₉)).deeper
    refine wpAny_execs_cons (wpAny_Return_some ?_)
    refine call_t1 rfl (fun hq => name_builtin (h₀ := s.heap) C₉.gl.g C₉.gl.b C₉.gl.ntuple hq hk (by walk_at "env") hgl hbl) ?_
    refine call_b1 rfl (fun hq => name_builtin (h₀ := s.heap) C₉.gl.g C₉.gl.b C₉.gl.nsorted hq hk (by walk_at "env") hgl hbl) ?_
    refine comp_pairs (K2 := Kd.sq) (g := fun p => (p.1 - minBy iLt 0 (sh.map fun p => p.1), p.2 - minBy iLt 0 (sh.map fun p => p.2))) hhd (cl := [("low", L + 1), ("left", L + 1 + 1)]) (by walk_at "env") rfl (by decide) (by decide) rfl rfl (by decide) (by omega)
      (name_local kS hk rfl x₉.toInCall.ns hm ⟨UpB.refl _, hv.keeps u₀₉.k⟩) (fun D p t1 t2 m' s₄ hp hD u₄ n₄ m1 m2 => ?_) fun D ys s₂ u₂ hD hlD hvD => ?_
    · have c1' := c1.keeps u₄.k
      have c2' := c2.keeps u₄.k
      refine wpAny_Tuple (wpAny_items_cons (wpAny_BinOp (name_local (lookup_relabel_local rfl) rfl rfl n₄ m1 (name_cell (c := L + 1) (by walk_at "env") rfl rfl c1' (P.sub_int ?_)))))
      refine wpAny_items_cons (wpAny_BinOp (name_local (s := { s₄ with toks := s₄.toks + 1 }) (lookup_relabel_local rfl) rfl rfl n₄ m2 (name_cell (c := L + 1 + 1) (by walk_at "env") rfl rfl c2' (P.sub_int ?_))))
      refine wpAny_items_nil ⟨by rw [sizeLine_eq]; show 2 ≤ _; omega, UpB.of_k (Kp.push _ _), ?_⟩
      exact sq_mk ⟨_, Heap.get?_push_size _ rfl, rfl, 0, rfl⟩
    have hvl := hvD.length
    rw [List.length_map, Array.length_toList] at hvl
    refine sorted_call (K := Kd.sq) (d := (0, 0)) (xs := sh.map fun p => (p.1 - minBy iLt 0 (sh.map fun p => p.1), p.2 - minBy iLt 0 (sh.map fun p => p.2))) (collect_l hlD hvD (by rw [sizeLine_eq]; omega)) (sort_sq _) (by rw [List.length_map]; omega) (by omega) fun D2 s₃ ys2 u₃ hD2 hl2 hv2 => ?_
    have u₀₃ := u₀₉.trans (u₂.trans u₃)
    have hvl2 := hv2.length
    rw [sortBy_len, List.length_map, Array.length_toList] at hvl2
    refine call_tuple_list hl2 (fun h' hk' => ⟨_, rfl, h _ _ (u₀₃.trans (UpB.of_k (Kp.trans hk' (Kp.push _ _)))) ?_⟩) ?_
    · refine ⟨_, _, rfl, ⟨_, Heap.get?_push_size _ rfl, rfl, 0, rfl⟩, ?_⟩
      have e : movedF sh = sortBy Kd.sq.lt (0, 0) (sh.map fun p => (p.1 - minBy iLt 0 (sh.map fun p => p.1), p.2 - minBy iLt 0 (sh.map fun p => p.2))) := by rw [sq_lt]; rfl
      rw [e]
      exact hv2.tp (Kp.tp (Kp.trans hk' (Kp.push _ _)))
    · rw [sizeLine_eq]; omega
end
end Mine

-- part MBis
namespace Mine
open PySem PySem.W PySem.Calls PyProof.Rows PySem.SeqAt

local macro_rules | `(tactic| walk_at "env") => do
  let he := Lean.mkIdent `he
  `(tactic| (rw [$he:ident]; rfl))
local macro_rules | `(tactic| walk_at "same") => `(tactic| exact if_pos rfl)
local macro_rules | `(tactic| walk_at "other") => `(tactic| (refine (if_neg (by decide)).trans ?_; assumption))

section
variable {prog : Program} {w : World} {A : Around} {s : Shared} {mg mb : Str → Option Value}

theorem bisGo_end {a : List Shape} {x : Shape} : ∀ (f lo hi : Nat), ¬ lo < hi → bisGo a x f lo hi = lo
  | 0, _, _, _ => rfl
  | f + 1, lo, hi, h => by rw [bisGo, if_neg h]

theorem noCell {l : List (Str × NameKind)} (h : (l.all fun x => !decide (x.2 = .cell)) = true) : ∀ x ∈ l, x.2 ≠ .cell := fun x hx e => by
  have := List.all_eq_true.mp h x hx
  rw [e] at this; cases this

theorem bisect_call {k : Nat} {f l : Addr} {vs : Array Value} {xs : List Shape} {xv : Value} {x : Shape} {args : List Value} {Q : Value → Shared → Prop} (C : Cx mg mb (k + 1) A s.heap) (hf : IsDfl s.heap f (stAt 5))
    (hargs : args = [.ref l, xv] ∨ ∃ t, args = [.ref l, xv, .int 0 t, .none]) (hl : s.heap.IsList l vs) (hv : Vals Kd.shape s.heap vs.toList xs) (hx : Kd.shape.is s.heap xv x) (hlen : xs.length ≤ 1000)
    (h : ∀ t s', Up s s' → Q (.int (bisF xs x : Int) t) s') : Wp prog w A (call (.ref f) args) Q s := by
  generalize hst : stAt 5 = st at hf
  cases hf with
  | mk ho hd hc hb2 hb4 =>
    cases hst
    obtain ⟨t1, hb2⟩ := hb2 s (Kp.refl _) (.ref l) xv
    rcases hargs with rfl | ⟨t0, rfl⟩
    case' inl => refine fn_def (args := ⟨_, []⟩) (by have := C.dp; omega) ho hd C.gl.lim hc rfl rfl hb2 (noCell rfl) (locs rfl) fun L s₁ env he hloc hcl x₁ => ?_
    case' inl => generalize t1 = t0 at *
    case' inr => refine fn_def (args := ⟨_, []⟩) (by have := C.dp; omega) ho hd C.gl.lim hc rfl rfl (hb4 s (Kp.refl _) _ _ _ _) (noCell rfl) (locs rfl) fun L s₁ env he hloc hcl x₁ => ?_
    all_goals
      have C₁ := (C.keeps (ic_kp x₁)).deeper (env := env)
      have hk : env.scope.kind = .function := by walk_at "env"
      have hgl : env.globals = mainGlobals := by walk_at "env"
      have hbl : env.builtins = builtinsNs := by walk_at "env"
      have kA : env.kindOf "a" = some .local := by walk_at "env"
      have kX : env.kindOf "x" = some .local := by walk_at "env"
      have kLo : env.kindOf "lo" = some .local := by walk_at "env"
      have kHi : env.kindOf "hi" = some .local := by walk_at "env"
      have kKey : env.kindOf "key" = some .local := by walk_at "env"
      have kMid : env.kindOf "mid" = some .local := by walk_at "env"
      have kLen : env.kindOf "len" = some .globalImplicit := by walk_at "env"
      rw [← hloc, ← hcl] at x₁
      obtain ⟨m, x₁, mA, mX, mLo, mHi, mKey⟩ : ∃ m, InCallC s env.locals m env.cells (fun _ => none) s₁ ∧ m "a" = some (.ref l) ∧ m "x" = some xv ∧ m "lo" = some (.int 0 t0) ∧ m "hi" = some .none ∧ m "key" = some .none := ⟨_, x₁, rfl, rfl, rfl, rfl, rfl⟩
      clear ho hd hc he hb2 hb4
      have hle' : (A.deeper env).units + 60 < cLine := by have := C₁.un; omega
      -- if lo < 0
      refine wpAny_execs_cons (wpAny_If (wpAny_isTrue_Compare1 (name_local kLo hk rfl x₁.toInCall.ns mLo (wpAny_Constant_int (P.lt_int (wpAny_truthy_bool ?_))))))
      simp only [Int.lt_irrefl, decide_false, Bool.false_eq_true, if_false]
      refine wpAny_execs_nil ?_
      -- if hi is None: hi = len(a)
      refine wpAny_execs_cons (wpAny_If (wpAny_isTrue_Compare1 (name_local (s := { s₁ with toks := s₁.toks + 1 }) kHi hk rfl x₁.toInCall.ns mHi (wpAny_Constant_none (is_none (wpAny_truthy_bool ?_))))))
      rw [if_pos (by rfl)]
      have x₂ := ic_up (s' := { s₁ with toks := s₁.toks + 1 }) x₁ (UpB.of_k (Kp.refl _))
      have hl₂ : s₁.heap.IsList l vs := hl.at fun o e => (ic_kp x₁) _ o e
      have hvl : vs.size = xs.length := by rw [← hv.length]; simp
      refine wpAny_execs_cons (wpAny_Assign_Name (call_b1 rfl (fun hq => name_builtin (h₀ := s.heap) C₁.gl.g C₁.gl.b C₁.gl.nlen hq hk kLen hgl hbl) (name_local (s := { s₁ with toks := s₁.toks + 1 }) kA hk rfl x₁.toInCall.ns mA ?_)))
      refine call_len_list (s := { s₁ with toks := s₁.toks + 1 }) hl₂ (by omega) ?_
      refine stLC (ic_up (s' := { s₁ with toks := s₁.toks + 1 + 1 + 1 }) x₁ (UpB.of_k (Kp.refl _))) hk kHi fun s₃ x₃ => wpAny_execs_nil ?_
      have C₃ : Cx mg mb k (A.deeper env) s₃.heap := (C.keeps (ic_kp x₃)).deeper
      rw [hvl] at x₃
      obtain ⟨m3, x₃, mA, mX, mLo, mHi, mKey⟩ : ∃ m, InCallC s env.locals m env.cells (fun _ => none) s₃ ∧ m "a" = some (.ref l) ∧ m "x" = some xv ∧ m "lo" = some (.int ((0 : Nat) : Int) t0) ∧ (∃ t, m "hi" = some (.int (xs.length : Int) t)) ∧ m "key" = some .none :=
        ⟨_, x₃, by walk_at "other", by walk_at "other", by walk_at "other", ⟨_, by walk_at "same"⟩, by walk_at "other"⟩
      obtain ⟨th, mHi⟩ := mHi
      -- if key is None: the loop
      refine wpAny_execs_cons (wpAny_If (wpAny_isTrue_Compare1 (name_local kKey hk rfl x₃.toInCall.ns mKey (wpAny_Constant_none (is_none (wpAny_truthy_bool ?_))))))
      rw [if_pos (by rfl)]
      refine wpAny_execs_cons (while_stmt (fun n s' => ∃ m lo hi f t1 t2, n = hi - lo ∧ InCallC s env.locals m env.cells (fun _ => none) s' ∧ m "a" = some (.ref l) ∧ m "x" = some xv ∧ m "lo" = some (.int ((lo : Nat) : Int) t1) ∧ m "hi" = some (.int ((hi : Nat) : Int) t2) ∧
        hi ≤ xs.length ∧ hi - lo ≤ f ∧ bisF xs x = bisGo xs x f lo hi) ?_ _ ⟨m3, 0, xs.length, xs.length + 1, t0, th, rfl, x₃, mA, mX, mLo, mHi, Nat.le_refl _, by omega, rfl⟩)
      rintro n s₄ ⟨m4, lo, hi, f, t1, t2, rfl, x₄, mA, mX, mLo, mHi, hhi, hf, hbis⟩
      have C₄ : Cx mg mb k (A.deeper env) s₄.heap := (C.keeps (ic_kp x₄)).deeper
      refine wpAny_isTrue_Compare1 (name_local kLo hk rfl x₄.toInCall.ns mLo (name_local kHi hk rfl x₄.toInCall.ns mHi (P.lt_int (wpAny_truthy_bool ?_))))
      by_cases hlt : lo < hi
      · refine .inl ⟨by simp; omega, ?_⟩
        have hl₄ : s₄.heap.IsList l vs := hl.at fun o e => (ic_kp x₄) _ o e
        have hv₄ := hv.tp (ic_kp x₄).tp
        have hx₄ := Kd.shape.tp (ic_kp x₄).tp hx
        have hmid : (((lo : Int) + (hi : Int)).fdiv 2) = (((lo + hi) / 2 : Nat) : Int) := by
          rw [← Int.natCast_add, Int.fdiv_eq_ediv_of_nonneg _ (by decide)]; rfl
        -- mid = (lo + hi) // 2
        refine wpAny_execs_cons (wpAny_Assign_Name (wpAny_BinOp (wpAny_BinOp (name_local kLo hk rfl x₄.toInCall.ns mLo (name_local kHi hk rfl x₄.toInCall.ns mHi (P.add_int ?_))))))
        refine wpAny_Constant_int (floordiv_int (by decide) ?_ (hp := Or.inl (PyProof.noPylong_small (by omega))))
        rw [hmid]
        refine stLC (ic_up (s' := { s₄ with toks := s₄.toks + 1 + 1 + 1 }) x₄ (UpB.of_k (Kp.refl _))) hk kMid fun s₅ x₅ => ?_
        have up5 : Up s s₅ := ic_up0 x₅
        have n5 := x₅.toInCall.ns
        -- a[mid] < x
        have hml : (lo + hi) / 2 < xs.length := by omega
        obtain ⟨v, ev, iv⟩ := Vals.get (hv.tp up5.k.tp) (i := (lo + hi) / 2) (x := xs[(lo + hi) / 2]) (by simp [hml])
        refine wpAny_execs_cons (wpAny_If (wpAny_isTrue_Compare1 (Subscript_ (name_local kA hk rfl n5 (by walk_at "other") (name_local kMid hk rfl n5 (by walk_at "same") ?_)))))
        have hl₅ : s₅.heap.IsList l vs := hl.at fun o e => up5.k _ o e
        refine tail_any hl₅.typeIs slot_list_getitem.lookup (wpAny_getItem_list hl₅ (by omega) (by omega) (x := v) (by rw [Int.toNat_natCast, ← Array.getElem?_toList]; exact ev) ?_) rfl
        refine name_local kX hk rfl n5 (by walk_at "other") ?_
        refine Kd.shape.ltAt iv (Kd.shape.tp up5.k.tp hx) (by show _ + 2 < _; omega) prog w _ _ (wpAny_truthy_bool ?_)
        rw [shape_lt]
        obtain ⟨f', rfl⟩ : ∃ f', f = f' + 1 := ⟨f - 1, by omega⟩
        rw [bisGo, if_pos hlt] at hbis
        rw [show xs.getD ((lo + hi) / 2) [] = xs[(lo + hi) / 2] from by simp [List.getD, hml]] at hbis
        split
        · rename_i hc'
          rw [if_pos hc'] at hbis
          refine wpAny_execs_cons (wpAny_Assign_Name (wpAny_BinOp (name_local kMid hk rfl n5 (by walk_at "same") (wpAny_Constant_int (P.add_int ?_)))))
          refine stLC (ic_up (s' := { s₅ with toks := s₅.toks + 1 + 1 }) x₅ (UpB.of_k (Kp.refl _))) hk kLo fun s₆ x₆ => wpAny_execs_nil (wpAny_execs_nil ?_)
          exact ⟨rfl, hi - ((lo + hi) / 2 + 1), by omega, _, (lo + hi) / 2 + 1, hi, f', _, _, rfl, x₆, by walk_at "other", by walk_at "other", by walk_at "same", by walk_at "other", hhi, by omega, hbis⟩
        · rename_i hc'
          rw [if_neg hc'] at hbis
          refine wpAny_execs_cons (wpAny_Assign_Name (name_local kMid hk rfl n5 (by walk_at "same") ?_))
          refine stLC (ic_up (s' := s₅) x₅ (UpB.of_k (Kp.refl _))) hk kHi fun s₆ x₆ => wpAny_execs_nil (wpAny_execs_nil ?_)
          exact ⟨rfl, (lo + hi) / 2 - lo, by omega, _, lo, (lo + hi) / 2, f', _, _, rfl, x₆, by walk_at "other", by walk_at "other", by walk_at "other", by walk_at "same", by omega, by omega, hbis⟩
      · refine .inr ⟨by simp; omega, ?_⟩
        refine wpAny_execs_nil (wpAny_execs_nil ?_)
        refine wpAny_execs_cons (wpAny_Return_some (name_local kLo hk rfl x₄.toInCall.ns mLo ⟨_, rfl, ?_⟩))
        rw [bisGo_end _ _ _ hlt] at hbis
        rw [← hbis]
        exact h _ _ (ic_up0 x₄)
end
end Mine

-- part MFn2
namespace Mine
open PySem PySem.W PySem.Calls PyProof.Rows PySem.SeqAt
section
variable {prog : Program} {w : World} {A : Around} {s : Shared} {env : Env} {mg mb : Str → Option Value}

theorem fn_defN {f : Addr} {o : Obj} {fd : FuncData} {body : List Stmt} {args : Args} {binds : List (Str × Value)} {Q : Value → Shared → Prop}
    (hroom : A.depth < recursionLimit) (ho : s.heap.get? f = some o) (hdata : o.data = .func fd) (hlim : s.heap.NoLimit) (hcd : s.heap.CodeRec fd.code fd.qualname)
    (hbody : fd.body = .stmts body) (hclo : fd.closure = []) (hbind : BindsTo s fd args binds)
    (hcell : ∀ x ∈ fd.scope.names, x.2 ≠ .cell) (hloc : ∀ x ∈ binds, fd.scope.names.lookup x.1 = some .local)
    (h : ∀ L s₁ env, env = callEnv fd L f → env.locals = L → env.cells = [] → InCallC s L (fun x => binds.reverse.lookup x) [] (fun _ => none) s₁ → Wp prog w (A.deeper env) (execs body env) (fun fl s' => fl = .next ∧ Q .none s') s₁)
    (hco : fd.scope.isCoroutine = false := by rfl) (hgen : fd.scope.isGenerator = false := by rfl) (hk : fd.scope.kind = .function := by rfl) : Wp prog w A (call (.ref f) args.pos args.kw) Q s := by
  refine wpAny_call (codeAny_call_def hroom ho hdata hlim hcd hbody hbind hcell hloc (fun h₀ hn hk₁ => ?_) hco hgen hk)
  exact wpAny_mono (h _ _ _ rfl rfl hclo ⟨⟨⟨_, _, rfl⟩, hn, hk₁, Nat.le_refl _⟩, (fun _ _ e => by cases e), List.Pairwise.nil, (fun _ _ e => by cases e)⟩) (fun fl s' hq => by obtain ⟨rfl, hq⟩ := hq; exact hq) fun _ _ f => f.elim

theorem call_f2 {x : Str} {np pos : Pos} {e1 e2 : Expr} {f : Addr} {Q : Value → Shared → Prop} (hs : starEach [e1, e2] env = [(false, eval e1 env), (false, eval e2 env)])
    (hn : ∀ {R : Value → Shared → Prop}, R (.ref f) s → Wp prog w A (eval (.Name x np) env) R s)
    (h : Wp prog w A (spliced [(false, eval e1 env), (false, eval e2 env)]) (fun vs s₁ => (∃ st dV kV, IsDef s₁.heap f st dV kV) ∧ Wp prog w A (call (.ref f) vs) Q s₁) s) : Wp prog w A (eval (.Call (.Name x np) [e1, e2] [] pos) env) Q s := by
  show wpAny _ A (do callWith pos (← eval (.Name x np) env) [] (backTo pos (starEach [e1, e2] env)) (backToKw pos (keywordEach [] env))) Q _ s
  rw [hs]
  refine wpAny_bind (hn ?_)
  unfold callWith
  refine wpAny_bind (wpAny_holding ?_)
  refine evalArgs_plain (wp_mono h fun vs s₁ h₁ => ?_)
  obtain ⟨⟨st, dV, kV, hf⟩, h₁⟩ := h₁
  refine wpAny_bind (wpAny_standAt ?_)
  cases hf with
  | mk a b c =>
    have tail : ∀ {t : Sem Value}, Wp prog w A t Q s₁ → Wp prog w A (t >>= fun r => holding [r] point >>= fun _ => pure r) Q s₁ :=
      fun ht => wpAny_bind (wpAny_mono ht (fun r s₂ hr => wpAny_bind (wpAny_holding (wpAny_point (wpAny_pure hr)))) fun _ _ x => x)
    refine wpAny_bind (m := keeperOf (.ref f)) ?_
    unfold keeperOf
    refine wpAny_bind (wpAny_load a ?_)
    rw [b]
    refine wpAny_pure ?_
    first
      | (refine wpAny_ite ?_; split <;> first | exact tail h₁ | exact tail (by unfold callMarked; exact Calls.wpAny_keep h₁))
      | exact tail h₁
theorem call_f4 {x : Str} {np pos : Pos} {e1 e2 e3 e4 : Expr} {f : Addr} {Q : Value → Shared → Prop} (hs : starEach [e1, e2, e3, e4] env = [(false, eval e1 env), (false, eval e2 env), (false, eval e3 env), (false, eval e4 env)])
    (hn : ∀ {R : Value → Shared → Prop}, R (.ref f) s → Wp prog w A (eval (.Name x np) env) R s)
    (h : Wp prog w A (spliced [(false, eval e1 env), (false, eval e2 env), (false, eval e3 env), (false, eval e4 env)]) (fun vs s₁ => (∃ st dV kV, IsDef s₁.heap f st dV kV) ∧ Wp prog w A (call (.ref f) vs) Q s₁) s) : Wp prog w A (eval (.Call (.Name x np) [e1, e2, e3, e4] [] pos) env) Q s := by
  show wpAny _ A (do callWith pos (← eval (.Name x np) env) [] (backTo pos (starEach [e1, e2, e3, e4] env)) (backToKw pos (keywordEach [] env))) Q _ s
  rw [hs]
  refine wpAny_bind (hn ?_)
  unfold callWith
  refine wpAny_bind (wpAny_holding ?_)
  refine evalArgs_plain (wp_mono h fun vs s₁ h₁ => ?_)
  obtain ⟨⟨st, dV, kV, hf⟩, h₁⟩ := h₁
  refine wpAny_bind (wpAny_standAt ?_)
  cases hf with
  | mk a b c =>
    have tail : ∀ {t : Sem Value}, Wp prog w A t Q s₁ → Wp prog w A (t >>= fun r => holding [r] point >>= fun _ => pure r) Q s₁ :=
      fun ht => wpAny_bind (wpAny_mono ht (fun r s₂ hr => wpAny_bind (wpAny_holding (wpAny_point (wpAny_pure hr)))) fun _ _ x => x)
    refine wpAny_bind (m := keeperOf (.ref f)) ?_
    unfold keeperOf
    refine wpAny_bind (wpAny_load a ?_)
    rw [b]
    refine wpAny_pure ?_
    first
      | (refine wpAny_ite ?_; split <;> first | exact tail h₁ | exact tail (by unfold callMarked; exact Calls.wpAny_keep h₁))
      | exact tail h₁
end
end Mine

-- part MIns
namespace Mine
open PySem PySem.W PySem.Calls PyProof.Rows PySem.SeqAt

local macro_rules | `(tactic| walk_at "env") => do
  let he := Lean.mkIdent `he
  `(tactic| (rw [$he:ident]; rfl))
local macro_rules | `(tactic| walk_at "same") => `(tactic| exact if_pos rfl)
local macro_rules | `(tactic| walk_at "other") => `(tactic| (refine (if_neg (by decide)).trans ?_; assumption))

section
variable {prog : Program} {w : World} {A : Around} {s : Shared} {mg mb : Str → Option Value}

theorem bisGo_le {a : List Shape} {x : Shape} : ∀ (f lo hi n : Nat), lo ≤ n → hi ≤ n → bisGo a x f lo hi ≤ n
  | 0, lo, hi, n, h, _ => h
  | f + 1, lo, hi, n, h, h2 => by
    rw [bisGo]
    split
    · split
      · exact bisGo_le f _ _ _ (by omega) h2
      · exact bisGo_le f _ _ _ h (by omega)
    · exact h
theorem bisF_le (a : List Shape) (x : Shape) : bisF a x ≤ a.length := bisGo_le _ _ _ _ (Nat.zero_le _) (Nat.le_refl _)

theorem Vals.take {α : Type} [DecidableEq α] {K : Kd α} {h : Heap} : ∀ {vs : List Value} {xs : List α} (n : Nat), Vals K h vs xs → Vals K h (vs.take n) (xs.take n)
  | _, _, 0, _ => .nil
  | _, _, n + 1, .nil => .nil
  | _, _, n + 1, .cons a r => .cons a (Vals.take n r)
theorem Vals.drop {α : Type} [DecidableEq α] {K : Kd α} {h : Heap} : ∀ {vs : List Value} {xs : List α} (n : Nat), Vals K h vs xs → Vals K h (vs.drop n) (xs.drop n)
  | _, _, 0, r => r
  | _, _, n + 1, .nil => .nil
  | _, _, n + 1, .cons a r => Vals.drop n r

def xs' (vs : Array Value) (k : Nat) (x : Value) : Array Value := (vs.extract 0 k).push x ++ vs.extract k

theorem insort_call {k : Nat} {f l : Addr} {vs : Array Value} {xs : List Shape} {xv : Value} {x : Shape} {Q : Value → Shared → Prop} (C : Cx mg mb (k + 2) A s.heap) (hf : IsDfl s.heap f (stAt 4))
    (hlo : ∃ n, s.heap.get? l = some (seqObj "list" vs n)) (hv : Vals Kd.shape s.heap vs.toList xs) (hx : Kd.shape.is s.heap xv x) (hlen : xs.length ≤ 1000)
    (h : ∀ s' ys, UpB [l] s s' → (∃ n, s'.heap.get? l = some (seqObj "list" ys n)) → Vals Kd.shape s'.heap ys.toList (insF xs x) → Q .none s') : Wp prog w A (call (.ref f) [.ref l, xv]) Q s := by
  obtain ⟨n0, hlo⟩ := hlo
  have hl : s.heap.IsList l vs := ⟨_, hlo, rfl, n0, rfl⟩
  generalize hst : stAt 4 = st at hf
  cases hf with
  | mk ho hd hc hb2 hb4 =>
    cases hst
    obtain ⟨t0, hb2⟩ := hb2 s (Kp.refl _) (.ref l) xv
    refine fn_defN (args := ⟨_, []⟩) (by have := C.dp; omega) ho hd C.gl.lim hc rfl rfl hb2 (noCell rfl) (locs rfl) fun L s₁ env he hloc hcl x₁ => ?_
    have C₁ := (C.keeps (ic_kp x₁)).deeper (env := env)
    have hk : env.scope.kind = .function := by walk_at "env"
    have hgl : env.globals = mainGlobals := by walk_at "env"
    have kA : env.kindOf "a" = some .local := by walk_at "env"
    have kX : env.kindOf "x" = some .local := by walk_at "env"
    have kLo : env.kindOf "lo" = some .local := by walk_at "env"
    have kHi : env.kindOf "hi" = some .local := by walk_at "env"
    have kKey : env.kindOf "key" = some .local := by walk_at "env"
    have kB : env.kindOf "bisect_left" = some .globalImplicit := by walk_at "env"
    rw [← hloc, ← hcl] at x₁
    obtain ⟨m, x₁, mA, mX, mLo, mHi, mKey⟩ : ∃ m, InCallC s env.locals m env.cells (fun _ => none) s₁ ∧ m "a" = some (.ref l) ∧ m "x" = some xv ∧ m "lo" = some (.int 0 t0) ∧ m "hi" = some .none ∧ m "key" = some .none := ⟨_, x₁, rfl, rfl, rfl, rfl, rfl⟩
    have hin : interactive env = false := by walk_at "env"
    clear ho hd hc he hb2 hb4
    have n₁ := x₁.toInCall.ns
    have up₁ := ic_up0 x₁
    refine wpAny_execs_cons (wpAny_If (wpAny_isTrue_Compare1 (name_local kKey hk rfl n₁ mKey (wpAny_Constant_none (is_none (wpAny_truthy_bool ?_))))))
    rw [if_pos (by rfl)]
    obtain ⟨fb, eb, hfb⟩ := C₁.gl.fbis
    refine wpAny_execs_cons (wpAny_Assign_Name (call_f4 rfl (fun hq => name_global C₁.gl.g eb hq hk kB hgl) (spliced_cons (name_local kA hk rfl n₁ mA (spliced_cons (name_local kX hk rfl n₁ mX (spliced_cons (name_local kLo hk rfl n₁ mLo (spliced_cons (name_local kHi hk rfl n₁ mHi (spliced_nil ⟨?_, ?_⟩)))))))))))
    · obtain ⟨dV, kV, q⟩ := hfb.isDef
      exact ⟨_, dV, kV, q⟩
    have hl₁ : s₁.heap.IsList l vs := hl.at fun o e => up₁.k _ o e
    refine bisect_call C₁ hfb (.inr ⟨_, rfl⟩) hl₁ (hv.tp up₁.k.tp) (Kd.shape.tp up₁.k.tp hx) hlen fun t s₂ up₂ => ?_
    refine stLC (ic_up x₁ up₂) hk kLo fun s₃ x₃ => wpAny_execs_nil ?_
    have n₃ := x₃.toInCall.ns
    have up₃ := ic_up0 x₃
    have hl₃ : s₃.heap.IsList l vs := hl.at fun o e => up₃.k _ o e
    have ho₃ : s₃.heap.get? l = some (seqObj "list" vs n0) := up₃.k _ _ hlo
    have hvl : vs.size = xs.length := by rw [← hv.length]; simp
    have hb := bisF_le xs x
    refine wpAny_execs_cons (wpAny_Expr (hi := hin) (Call_method2 rfl rfl rfl (name_local kA hk rfl n₃ (by walk_at "other") ?_)))
    refine ⟨"list", "list.insert", PySem.F.plainAttrs_list, PySem.F.slot_list_insert, PySem.F.type_list_insert, hl₃.typeIs, (fun a e => by cases e; exact ⟨_, ho₃, rfl⟩), ?_⟩
    refine method2_meetsIn PySem.F.slot_list_insert PySem.F.entry_list_insert (name_local kLo hk rfl n₃ (by walk_at "same") (name_local kX hk rfl n₃ (by walk_at "other") ?_))
    refine ⟨hl₃.typeIs, PySem.F.args_list_insert_3 _ _ _, _, (PySem.AutoSeq1.list_insert_list_int_val_1 l vs n0 _ _ xv (by unfold Builtin.List.listFitsIndex; simp; omega) (by rw [sizeLine_eq, hvl]; omega)).inModel _ _, ho₃, wpAny_execs_nil ⟨rfl, ?_⟩⟩
    have hg : (fun xs_1 : Array Value => have k := if ((bisF xs x : Nat) : Int) < 0 then (((bisF xs x : Nat) : Int) + (xs_1.size : Int)).toNat else min ((bisF xs x : Nat) : Int).toNat xs_1.size; (xs_1.extract 0 k).push xv ++ xs_1.extract k) vs = xs' vs (bisF xs x) xv := by
      have e : (if ((bisF xs x : Nat) : Int) < 0 then (((bisF xs x : Nat) : Int) + (vs.size : Int)).toNat else min ((bisF xs x : Nat) : Int).toNat vs.size) = bisF xs x := by
        rw [if_neg (by omega), Int.toNat_natCast, hvl]; omega
      show (vs.extract 0 _).push xv ++ vs.extract _ = _
      rw [e]; rfl
    generalize hG : (fun xs_1 : Array Value => have k := if ((bisF xs x : Nat) : Int) < 0 then (((bisF xs x : Nat) : Int) + (xs_1.size : Int)).toNat else min ((bisF xs x : Nat) : Int).toNat xs_1.size; (xs_1.extract 0 k).push xv ++ xs_1.extract k) = g at hg ⊢
    have kp : KpB [l] s₃.heap (s₃.heap.update l (Obj.mapSeq g)) := fun i o hi he => by
      rw [Heap.get?_update_ne _ _ _ _ (by simpa using hi)]
      exact he
    have hlt := get?_update_seq ho₃ g
    rw [hg] at hlt
    refine h _ (xs' vs (bisF xs x) xv) (up₃.up.trans ⟨kp, rfl, rfl, rfl⟩) ⟨_, hlt⟩ ?_
    have tp : Tp s.heap (s₃.heap.update l (Obj.mapSeq g)) := (up₃.up.kp.trans kp).tp fun i hi => by rw [List.mem_singleton.mp hi]; exact .list hl
    have e : (xs' vs (bisF xs x) xv).toList = vs.toList.take (bisF xs x) ++ xv :: vs.toList.drop (bisF xs x) := by
      unfold xs'
      simp
      exact List.take_of_length_le (by simp)
    rw [e]
    exact ((hv.tp tp).take _).append (.cons (Kd.shape.tp tp hx) ((hv.tp tp).drop _))
end
end Mine

-- part MWalk
namespace Mine
open PySem PySem.W PySem.Calls PyProof.Rows PySem.SeqAt

theorem UpB.drop {X : List Addr} {I : Addr} {s s' : Shared} (x : UpB (I :: X) s s') (h : s.heap.get? I = none) : UpB X s s' :=
  ⟨fun b o hb e => x.kp b o (fun q => (List.mem_cons.mp q).elim (fun q => by subst q; rw [h] at e; cases e) hb) e, x.gens, x.drawn, x.os⟩
/-- an iterator's record stands there -/
def IsFld (h : Heap) (a : Addr) : Prop := ∃ o vs, h.get? a = some o ∧ o.data = .fields vs
theorem IsFld.nt {h : Heap} {a : Addr} (x : IsFld h a) : NT h a := let ⟨o, vs, e, d⟩ := x; NT.fields ⟨o, e, d⟩
theorem IsFld.ne_seq {h : Heap} {a b : Addr} {T : String} {vs : Array Value} {n : Nat} (x : IsFld h a) (y : h.get? b = some (seqObj T vs n)) : b ≠ a := fun e => by
  subst e
  obtain ⟨o, ws, e, d⟩ := x
  rw [y] at e; cases e; cases d
theorem IsFld.ne_list {h : Heap} {a b : Addr} {vs : Array Value} (x : IsFld h a) (y : h.IsList b vs) : b ≠ a := fun e => by
  subst e
  obtain ⟨o, ws, e, d⟩ := x
  obtain ⟨o', e', _, n, d'⟩ := y
  rw [e'] at e; cases e
  rw [d'] at d; cases d
theorem IterAt.fld {h : Heap} {I : Addr} (x : IterAt h I) : IsFld h I := let ⟨o, _, vs, e, _, d, _⟩ := x; ⟨o, vs, e, d⟩
theorem lt_of_get {h : Heap} {a : Addr} {o : Obj} (e : h.get? a = some o) : a < h.objs.size := Heap.lt_size e

section
variable {prog : Program} {w : World} {A : Around} {E : Value → Shared → Prop} {s s₀ : Shared} {env : Env} {m cm : Str → Option Value}
variable {α : Type} [DecidableEq α] {K : Kd α}

theorem stU {n : Str} {v : Value} {Q : Unit → Shared → Prop} (x : InCallC s₀ env.locals m env.cells cm s) (hk : env.scope.kind = .function) (hl : env.kindOf n = some .local)
    (h : ∀ s', UpB [env.locals] s s' → InCallC s₀ env.locals (fun y => if y = n then some v else m y) env.cells cm s' → Q () s') : Wp prog w A (storeName env n v) Q s := by
  refine wpAny_storeName_local hl x.toInCall.ns (fun h' hn' hs' => h _ (UpB.one hs'.extBut) ⟨⟨?_, hn', fun b o e => ?_, x.toInCall.fresh⟩, fun k c hc => ?_, x.apart, x.above⟩) (by rw [hk]; rfl)
  · obtain ⟨h₁, tk, rfl⟩ := x.toInCall.same
    exact ⟨h', _, rfl⟩
  · exact hs'.extBut b o (Nat.ne_of_lt (Nat.lt_of_lt_of_le (Heap.lt_size e) x.toInCall.fresh)) (x.toInCall.keep b o e)
  · exact (x.cell k c hc).sameBut hs' (Nat.ne_of_gt (x.above k c (mem_of_lookup hc)))

theorem stCU {n : Str} {c : Addr} {v : Value} {Q : Unit → Shared → Prop} (x : InCallC s₀ env.locals m env.cells cm s) (hk : env.scope.kind = .function) (hl : env.kindOf n = some .cell)
    (hc : env.cells.lookup n = some c)
    (h : ∀ s', UpB [c] s s' → InCallC s₀ env.locals m env.cells (fun y => if y = n then some v else cm y) s' → Q () s') : Wp prog w A (storeName env n v) Q s := by
  have hLc := x.above n c (mem_of_lookup hc)
  refine wpAny_storeName_cell hk hl hc (x.cell n c hc) fun h' hc' hs' => h _ (UpB.one hs'.extBut) ⟨⟨?_, x.toInCall.ns.sameBut hs' (Nat.ne_of_lt hLc), fun b o e => ?_, x.toInCall.fresh⟩, fun k c' hk' => ?_, x.apart, x.above⟩
  · obtain ⟨h₁, tk, rfl⟩ := x.toInCall.same
    exact ⟨h', _, rfl⟩
  · exact hs'.extBut b o (Nat.ne_of_lt (Nat.lt_trans (Nat.lt_of_lt_of_le (Heap.lt_size e) x.toInCall.fresh) hLc)) (x.toInCall.keep b o e)
  · by_cases hkn : k = n
    · subst hkn
      rw [hc] at hk'; cases hk'
      simpa using hc'
    · rw [if_neg hkn]
      exact (x.cell k c' hk').sameBut hs' fun e => hkn (name_of_addr x.apart (mem_of_lookup hk') (e ▸ mem_of_lookup hc))

theorem loop_walk {Q : Flow → Shared → Prop} {target : Expr} {body : List Stmt} {I : Addr} {fp : List Addr} {n : Nat} {P : Nat → Value → Prop} {St : Nat → Heap → Prop} (W : Walks prog w A I fp [I] n P St)
    (own : ∀ i v s' (R : Unit → Shared → Prop), P i v → St (i + 1) s'.heap → R () s' → Wp prog w A (letOwnedTupleGo target (.ref I) v) R s')
    (hnt : ∀ i h, St i h → IsFld h I) (X : List Addr) (hX : ∀ b ∈ X, b ∉ fp)
    (Inv : Nat → Shared → Prop) (hInv : ∀ i s' s'', Inv i s' → IsFld s'.heap I → UpB [I] s' s'' → Inv i s'')
    (turn : ∀ i v s', i < n → P i v → UpB (I :: X) s s' → Inv i s' → Wp prog w A (assign target env v) (fun _ s₂ => Wp prog w A (execs body env) (fun f s₃ => (f = .next ∧ UpB X s' s₃ ∧ Inv (i + 1) s₃) ∨ ∃ r, f = .ret r ∧ Q (.ret r) s₃) s₂) s')
    (fin : ∀ s', UpB (I :: X) s s' → Inv n s' → Q .next s') (hst : St 0 s.heap) (h0 : Inv 0 s) :
    codeAny (model prog w) A (.forLoop target (.ref I) body [] env) (fun r s' => ∃ f, r = .ok f ∧ Q f s') s := by
  refine for_loop W (fun i s' => UpB (I :: X) s s' ∧ St i s'.heap ∧ Inv i s') (fun _ _ h => h.2.1) ?_ ?_ ⟨UpB.refl s, hst, h0⟩
  · rintro i s₁ v h' tk hi ⟨u, st, iv⟩ hp st' kp
    have up : UpB [I] s₁ { s₁ with heap := h', toks := tk } := UpB.step kp
    have u2 := u.trans (up.mono (Y := I :: X) fun i h => by rw [List.mem_singleton.mp h]; exact .head _)
    refine own i v _ _ hp st' ?_
    refine wp_mono (turn i v _ hi hp u2 (hInv _ _ _ iv (hnt _ _ st) up)) fun _ s₂ h₂ => ?_
    refine wp_mono h₂ fun f s₃ h₃ => ?_
    rcases h₃ with ⟨rfl, u₃, iv₃⟩ | ⟨r, rfl, hq⟩
    · exact ⟨u2.trans (u₃.mono fun i h => .tail _ h), W.frame _ _ _ st' fun b hb o e => u₃.kp b o (fun q => hX b q hb) e, iv₃⟩
    · exact ⟨_, rfl, hq⟩
  · rintro s₁ h' tk ⟨u, st, iv⟩ kp
    have up : UpB [I] s₁ { s₁ with heap := h', toks := tk } := UpB.step kp
    have u2 := u.trans (up.mono (Y := I :: X) fun i h => by rw [List.mem_singleton.mp h]; exact .head _)
    exact ⟨_, rfl, fin _ u2 (hInv _ _ _ iv (hnt _ _ st) up)⟩

theorem loop_seq {Q : Flow → Shared → Prop} {target : Expr} {body : List Stmt} {v : Value} {xs : List α} (hh : A.handled = none) (hs : SeqIs K s.heap v xs)
    (X : List Addr) (hX : ∀ b ∈ X, (∃ o, s.heap.get? b = some o) ∧ v ≠ .ref b ∧ NT s.heap b)
    (Inv : Nat → Shared → Prop) (hInv : ∀ I i s' s'', s.heap.get? I = none → Inv i s' → IsFld s'.heap I → UpB [I] s' s'' → Inv i s'')
    (turn : ∀ i x v s', xs[i]? = some x → K.is s'.heap v x → UpB X s s' → Inv i s' → Wp prog w A (assign target env v) (fun _ s₂ => Wp prog w A (execs body env) (fun f s₃ => (f = .next ∧ UpB X s' s₃ ∧ Inv (i + 1) s₃) ∨ ∃ r, f = .ret r ∧ Q (.ret r) s₃) s₂) s')
    (fin : ∀ s', UpB X s s' → Inv xs.length s' → Q .next s') (h0 : ∀ s', Up s s' → Inv 0 s') :
    Wp prog w A (pyIter v) (fun it s₂ => codeAny (model prog w) A (.forLoop target it body [] env) (fun r s' => ∃ f, r = .ok f ∧ Q f s') s₂) s := by
  refine seq_iter (K := K) hh hs fun I a fp P St vs h' hva W hP hnt hio hst hI hfp hk hv hfp2 => ?_
  have hIn : s.heap.get? I = none := by rw [hI]; exact Heap.get?_none_of_le (Nat.le_refl _)
  have up : ∀ {Y}, UpB Y s { s with heap := h' } := UpB.of_k (tk := s.toks) hk
  have hl := hv.length
  refine loop_walk W (fun i v s' R hp st r => owned_noop (hio _ _ st) r) (fun i h st => (hio i h st).fld) X (fun b hb hf => ?_) Inv (fun i s' s'' => hInv I i s' s'' hIn) (fun i v s' hi hp u iv => ?_) (fun s' u iv => fin s' ((up.trans u).drop hIn) (by rw [← hl]; exact iv)) hst (h0 _ up)
  · obtain ⟨⟨o, h1⟩, h2, _⟩ := hX b hb
    have h1 := lt_of_get h1
    rcases hfp2 b hf with rfl | rfl
    · rw [hI] at h1; exact Nat.lt_irrefl _ h1
    · exact h2 hva
  · obtain ⟨x, ex, _⟩ := Vals.get' hv (hP i v hp)
    refine turn i x v s' ex ?_ ((up.trans u).drop hIn) iv
    have nt : ∀ b ∈ I :: X, NT h' b := fun b hb => by
      rcases List.mem_cons.mp hb with rfl | hb
      · exact hnt _ _ hst b (.head _)
      · intro o e q
        obtain ⟨⟨o0, e0⟩, _, h3⟩ := hX b hb
        rw [hk _ _ e0] at e; cases e
        exact h3 _ e0 q
    obtain ⟨v', ev, iv'⟩ := Vals.get (hv.tp (u.tp nt)) ex
    rw [hP i v hp] at ev; cases ev; exact iv'

/-- for .. in range(n), n small -/
theorem loop_range {Q : Flow → Shared → Prop} {target : Expr} {body : List Stmt} {n : Nat} {t : Tok} (hh : A.handled = none) (hn : n ≤ 1000)
    (X : List Addr) (hX : ∀ b ∈ X, ∃ o, s.heap.get? b = some o)
    (Inv : Nat → Shared → Prop) (hInv : ∀ I i s' s'', s.heap.get? I = none → Inv i s' → IsFld s'.heap I → UpB [I] s' s'' → Inv i s'')
    (turn : ∀ i t s', i < n → UpB X s s' → Inv i s' → Wp prog w A (assign target env (.int (i : Int) t)) (fun _ s₂ => Wp prog w A (execs body env) (fun f s₃ => (f = .next ∧ UpB X s' s₃ ∧ Inv (i + 1) s₃) ∨ ∃ r, f = .ret r ∧ Q (.ret r) s₃) s₂) s')
    (fin : ∀ s', UpB X s s' → Inv n s' → Q .next s') (h0 : ∀ s', Up s s' → Inv 0 s') :
    Wp prog w A (call (.type "range") [.int (n : Int) t]) (fun xv s₁ => Wp prog w A (pyIter xv) (fun it s₂ => codeAny (model prog w) A (.forLoop target it body [] env) (fun r s' => ∃ f, r = .ok f ∧ Q f s') s₂) s₁) s := by
  refine call_range_1 ?_
  refine wpAny_pyIter_range (IsRange.new ..) (small_one (by decide) (by decide) (by omega) (by omega)) ?_
  have hsz : Builtin.Range.rangeSize 0 n 1 = (n : Int) := by rw [rangeSize_one]; split <;> omega
  have up : ∀ {Y}, UpB Y s { s with heap := (s.heap.push { cls := .type "range", data := .fields #[.int 0 s.toks, .int n t, .int 1 (s.toks + 1)] }).push { cls := .type "range_iterator", data := .fields #[rawInt 0, rawInt (Builtin.Range.rangeSize 0 n 1), rawInt 1] }, toks := s.toks + 1 + 1 } := UpB.of_k (Kp.trans (Kp.push _ _) (Kp.push _ _))
  have hIn : s.heap.get? (s.heap.push { cls := .type "range", data := .fields #[.int 0 s.toks, .int n t, .int 1 (s.toks + 1)] }).objs.size = none := Heap.get?_none_of_le (by rw [Heap.size_push]; omega)
  refine loop_walk (Walks.range hh _ 0 1 n) (fun i v s' R hp st r => ?_) (fun i h st => ⟨_, _, st, rfl⟩) X (fun b hb hf => ?_) Inv (fun i s' s'' => hInv _ i s' s'' hIn) (fun i v s' hi hp u iv => ?_) (fun s' u iv => fin s' ((up.trans u).drop hIn) iv) ?_ (h0 _ up)
  · obtain ⟨t, rfl⟩ := hp
    unfold letOwnedTupleGo
    cases target <;> exact wpAny_pure r
  · rw [List.mem_singleton.mp hf] at hb
    obtain ⟨o, h1⟩ := hX _ hb
    have h1 := lt_of_get h1
    rw [Heap.size_push] at h1
    exact Nat.lt_irrefl _ (Nat.lt_of_succ_lt h1)
  · obtain ⟨t, rfl⟩ := hp
    rw [show (0 + (i : Int) * 1) = (i : Int) by omega]
    exact turn i t s' hi ((up.trans u).drop hIn) iv
  · have e1 : (0 + ((0 : Nat) : Int) * 1) = 0 := by simp
    have e2 : ((n : Int) - ((0 : Nat) : Int)) = Builtin.Range.rangeSize 0 n 1 := by rw [hsz]; simp
    rw [e1, e2]
    exact Heap.get?_push_size _ rfl
end
end Mine

-- part MEight
namespace Mine
open PySem PySem.W PySem.Calls PyProof.Rows PySem.SeqAt

local macro_rules | `(tactic| walk_at "env") => do
  let he := Lean.mkIdent `he
  `(tactic| (rw [$he:ident]; rfl))
local macro_rules | `(tactic| walk_at "same") => `(tactic| exact if_pos rfl)
local macro_rules | `(tactic| walk_at "other") => `(tactic| (refine (if_neg (by decide)).trans ?_; first | assumption | exact if_pos rfl | walk_at "other"))

section
variable {prog : Program} {w : World} {A : Around} {s : Shared} {mg mb : Str → Option Value}

theorem list_ne_ns {h : Heap} {D L : Addr} {ys : Array Value} {m : Str → Option Value} (hD : h.IsList D ys) (n : h.Ns L m) : D ≠ L := fun e => by
  subst e
  obtain ⟨o, ho, hc, n', hd⟩ := hD
  obtain ⟨o', es, ep, ho', hd', _⟩ := n
  rw [ho] at ho'; cases ho'
  rw [hd] at hd'; cases hd'
theorem movedF_len (sh : Shape) : (movedF sh).length = sh.length := by
  unfold movedF
  dsimp only
  rw [sortBy_len, List.length_map]
theorem movedF_ne {sh : Shape} (h : sh ≠ []) : movedF sh ≠ [] := fun e => by
  have := movedF_len sh
  rw [e] at this
  exact h (List.length_eq_zero_iff.mp this.symm)

theorem list_cat {l b : Addr} {vs ws : Array Value} {Q : Value → Shared → Prop} (hl : s.heap.IsList l vs) (hb : s.heap.IsList b ws) (hsz : vs.size + ws.size ≤ sizeLine)
    (h : ∀ D s', Up s s' → s.heap.get? D = none → s'.heap.PlainList D (vs ++ ws) → Q (.ref D) s') : Wp prog w A (binaryOp .Add (.ref l) (.ref b)) Q s := by
  obtain ⟨⟨cls, dd, data, sl⟩, ho, hc, n, hd⟩ := id hl
  obtain ⟨⟨cls2, dd2, data2, sl2⟩, ho2, hc2, n2, hd2⟩ := id hb
  simp only at hc hd hc2 hd2
  subst hc hd hc2 hd2
  refine concat_meets ⟨_, ho, rfl⟩ ⟨_, ho2, rfl⟩ noFill_list_add seq_list_add PySem.F.slot_list_add PySem.F.entry_list_add (PySem.F.args_list_add_2 _ _) (list_addW l b vs ws n n2 dd dd2 sl sl2 hsz) ⟨ho, ho2, ?_⟩
  exact h _ _ (UpB.of_k (tk := s.toks) (Kp.push _ _)) (Heap.get?_none_of_le (Nat.le_refl _)) ⟨0, Heap.get?_push_size _ rfl⟩
theorem tuple_cat {t b : Addr} {vs ws : Array Value} {Q : Value → Shared → Prop} (hl : s.heap.IsTuple t vs) (hb : s.heap.IsTuple b ws) (hv : vs.isEmpty = false) (hw : ws.isEmpty = false) (hsz : vs.size + ws.size ≤ sizeLine)
    (h : ∀ D s', Up s s' → s.heap.get? D = none → s'.heap.IsTuple D (vs ++ ws) → Q (.ref D) s') : Wp prog w A (binaryOp .Add (.ref t) (.ref b)) Q s := by
  obtain ⟨⟨cls, dd, data, sl⟩, ho, hc, n, hd⟩ := id hl
  obtain ⟨⟨cls2, dd2, data2, sl2⟩, ho2, hc2, n2, hd2⟩ := id hb
  simp only at hc hd hc2 hd2
  subst hc hd hc2 hd2
  refine concat_meets ⟨_, ho, rfl⟩ ⟨_, ho2, rfl⟩ noFill_tuple_add seq_tuple_add PySem.F.slot_tuple_add PySem.F.entry_tuple_add (PySem.F.args_tuple_add_2 _ _) (tuple_addW2 t b vs ws n n2 dd dd2 sl sl2 (by simp [hv]) (by simp [hw]) hsz) ⟨ho, ho2, ?_⟩
  exact h _ _ (UpB.of_k (tk := s.toks) (Kp.push _ _)) (Heap.get?_none_of_le (Nat.le_refl _)) ⟨_, Heap.get?_push_size _ rfl, rfl, 0, rfl⟩

theorem eight_call {k : Nat} {f : Addr} {v : Value} {sh : Shape} {Q : Value → Shared → Prop} (C : Cx mg mb (k + 2) A s.heap) (hf : IsDef s.heap f (stAt 10) .none .none) (hv : Kd.shape.is s.heap v sh) (hne : sh ≠ []) (hl : sh.length ≤ 60)
    (h : ∀ D ys s', Up s s' → s'.heap.PlainList D ys → Vals Kd.shape s'.heap ys.toList (eightF sh) → Q (.ref D) s') : Wp prog w A (call (.ref f) [v]) Q s := by
  generalize hst : stAt 10 = st at hf
  cases hf with
  | mk ho hd hc =>
    cases hst
    refine fn_cells (by have := C.dp; omega) ho hd C.gl.lim hc rfl (binds := [("shape", v)]) rfl rfl (kindsX rfl _) fun L s₁ env he hL x => ?_
    have C₁ := (C.keeps (ic_kp x)).deeper (env := env)
    have hk : env.scope.kind = .function := by walk_at "env"
    have hloc : env.locals = L := by walk_at "env"
    have hgl : env.globals = mainGlobals := by walk_at "env"
    have hbl : env.builtins = builtinsNs := by walk_at "env"
    have hcl : env.cells = [] := by walk_at "env"
    have kS : env.kindOf "shape" = some .local := by walk_at "env"
    have kF : env.kindOf "found" = some .local := by walk_at "env"
    have kT : env.kindOf "turn" = some .local := by walk_at "env"
    have kR : env.kindOf "range" = some .globalImplicit := by walk_at "env"
    have kM : env.kindOf "_law_moved" = some .globalImplicit := by walk_at "env"
    have hin : interactive env = false := by walk_at "env"
    rw [← hloc] at x
    obtain ⟨m, x, hm⟩ : ∃ m, InCallC s env.locals m env.cells (bindC env.kindOf [("shape", v)] fun _ => none) s₁ ∧ m "shape" = some v := ⟨_, x, by walk_at "env"⟩
    clear ho hd hc he
    have hhd : (A.deeper env).handled = none := C₁.hh
    refine wpAny_execs_cons (wpAny_Assign_Name (wpAny_List (wpAny_items_nil ⟨Nat.zero_le _, ?_⟩)))
    refine stU (ic_up x (UpB.of_k (tk := s₁.toks) (Kp.push _ _))) hk kF fun s₂ u₂ x₂ => ?_
    have hl₂ : s₂.heap.PlainList s₁.heap.objs.size #[] := by
      have e : s₁.heap.objs.size ≠ env.locals := fun e => by
        obtain ⟨o, es, ep, ho, _⟩ := x.toInCall.ns
        exact absurd (Heap.lt_size ho) (by rw [← e]; exact Nat.lt_irrefl _)
      exact ⟨0, u₂.kp _ _ (by simpa using e) (Heap.get?_push_size _ rfl)⟩
    have hv₂ : Kd.shape.is s₂.heap v sh := Kd.shape.tp (ic_kp x₂).tp hv
    have C₂ : Cx mg mb (k + 1) (A.deeper env) s₂.heap := (C.keeps (ic_kp x₂)).deeper
    have hL₂ : ∀ s' : Shared, ∀ {cm}, ∀ {m}, InCallC s env.locals m env.cells cm s' → ∃ o, s'.heap.get? env.locals = some o := fun s' _ _ x => let ⟨o, _, _, ho, _⟩ := x.toInCall.ns; ⟨o, ho⟩
    refine wpAny_execs_cons (for_stmt (call_t1 rfl (fun hq => name_builtin (h₀ := s.heap) C₂.gl.g C₂.gl.b C₂.gl.nrange hq hk kR hgl hbl) (wpAny_Constant_int ?_)))
    refine loop_range (n := 4) hhd (by decide) [env.locals] (fun b hb => by rw [List.mem_singleton.mp hb]; exact hL₂ s₂ x₂)
      (fun i s' => ∃ m sv sh' D ys f', InCallC s env.locals m env.cells (bindC env.kindOf [("shape", v)] fun _ => none) s' ∧ m "shape" = some sv ∧ Kd.shape.is s'.heap sv sh' ∧ m "found" = some (.ref D) ∧ s'.heap.PlainList D ys ∧ Vals Kd.shape s'.heap ys.toList f' ∧
        sh' ≠ [] ∧ sh'.length ≤ 60 ∧ f'.length = 2 * i ∧ eightF sh = eightGo (4 - i) sh' f') (fun I i s' s'' hI hi hnt u => ?_) (fun i t s' hi u iv => ?_) (fun s' u iv => ?_) (fun s' u => ?_)
    · obtain ⟨m, sv, sh', D, ys, f', x, m1, hs, m2, hD, hy, r⟩ := hi
      have tp : Tp s'.heap s''.heap := u.tp fun i hi => by rw [List.mem_singleton.mp hi]; exact hnt.nt
      have hLI : env.locals ≠ I := fun e => by
        obtain ⟨o, ho⟩ := hL₂ _ x₂
        rw [e] at ho
        exact absurd (ho.symm.trans hI) (by simp)
      refine ⟨m, sv, sh', D, ys, f', ic_upB x u (by simpa using hLI) (fun i hi => ?_) (fun n c e => ?_), m1, Kd.shape.tp tp hs, m2, hD.at fun o e => u.kp _ o (by simpa using hnt.ne_list hD.isList) e, hy.tp tp, r⟩
      · rw [List.mem_singleton.mp hi]
        cases e : s.heap.get? I with
        | none => rfl
        | some o => exact absurd (((ic_kp x₂) _ _ e).symm.trans hI) (by simp)
      · rw [hcl] at e; cases e
    · obtain ⟨m, sv, sh', D, ys, f', x, m1, hs, m2, hD, hy, hne', hl', hf', hgo⟩ := iv
      refine wpAny_assign_Name (stU x hk kT fun s₃ u₃ x₃ => ?_)
      have C₃ : Cx mg mb (k + 1) (A.deeper env) s₃.heap := (C.keeps (ic_kp x₃)).deeper
      obtain ⟨fm, em, hfm⟩ := C₃.gl.fmoved
      have n₃ := x₃.toInCall.ns
      have sub : ∀ i ∈ [env.locals], NT s₃.heap i := fun i hi => by rw [List.mem_singleton.mp hi]; exact .ns n₃
      have u₀₃ := u₃
      have tp₃ : Tp s'.heap s₃.heap := u₃.tp fun i hi => by rw [List.mem_singleton.mp hi]; exact .ns x.toInCall.ns
      have hs₃ := Kd.shape.tp tp₃ hs
      have hD₃ : s₃.heap.PlainList D ys := hD.at fun o e => u₃.kp _ o (by simpa using list_ne_ns hD.isList x.toInCall.ns) e
      have hy₃ := hy.tp tp₃
      refine wpAny_execs_cons (wpAny_Assign_Name (call_f1 rfl (fun hq => name_global C₃.gl.g em hq hk kM hgl) ?_))
      refine comp_pairs (K2 := Kd.sq) (g := fun p => (p.2, 0 - p.1)) hhd (cl := []) (closNil (by decide)) rfl (by decide) (by decide) rfl rfl (by decide) (by omega) (name_local kS hk rfl n₃ (by walk_at "other") ⟨UpB.refl _, shape_seq hs₃⟩) (fun D p t1 t2 m' s₄ hp hD u₄ n₄ m1 m2 => ?_) fun D4 ys4 s₄ u₄ hD4 hl4 hv4 => ?_
      · refine wpAny_Tuple (wpAny_items_cons (name_local (lookup_relabel_local rfl) rfl rfl n₄ m2 (wpAny_items_cons (wpAny_BinOp (wpAny_Constant_int (name_local (s := { s₄ with toks := s₄.toks + 1 }) (lookup_relabel_local rfl) rfl rfl n₄ m1 (P.sub_int ?_)))))))
        refine wpAny_items_nil ⟨by rw [sizeLine_eq]; show 2 ≤ _; omega, UpB.of_k (Kp.push _ _), ?_⟩
        exact sq_mk (p := (p.2, 0 - p.1)) ⟨_, Heap.get?_push_size _ rfl, rfl, 0, rfl⟩
      have C₄ := C₃.keeps u₄.k
      refine ⟨⟨_, _, _, hfm.keeps u₄.k⟩, ?_⟩
      refine moved_call (k := k) C₄ (hfm.keeps u₄.k) (sh := sh'.map fun p => (p.2, 0 - p.1)) ⟨D4, ys4, rfl, .inr hl4, hv4⟩ (by simpa using hne') (by rw [List.length_map]; exact hl') fun r s₅ u₅ hr => ?_
      have u₃₅ : Up s₃ s₅ := u₄.trans u₅
      refine stU (ic_up x₃ u₃₅) hk kS fun s₆ u₆ x₆ => ?_
      have n₆ := x₆.toInCall.ns
      have nt : ∀ i ∈ [env.locals], NT s₅.heap i := fun i hi => by rw [List.mem_singleton.mp hi]; exact .ns (n₃.keeps u₃₅.k)
      have tp₆ : Tp s₃.heap s₆.heap := u₃₅.k.tp.trans (u₆.tp nt)
      have hr₆ := Kd.shape.tp (u₆.tp nt) hr
      have kp₆ : KpB [env.locals] s₃.heap s₆.heap := u₃₅.k.but.trans u₆.kp
      have hD₆ : s₆.heap.PlainList D ys := hD₃.at fun o e => kp₆ _ o (by simpa using list_ne_ns hD₃.isList n₃) e
      have C₆ : Cx mg mb (k + 1) (A.deeper env) s₆.heap := (C.keeps (ic_kp x₆)).deeper
      obtain ⟨fm', em', hfm'⟩ := C₆.gl.fmoved
      refine wpAny_execs_cons (wpAny_Assign_Name (wpAny_BinOp (name_local kF hk rfl n₆ (by walk_at "other") (wpAny_List (wpAny_items_cons (name_local kS hk rfl n₆ (by walk_at "same") (wpAny_items_cons (call_f1 rfl (fun hq => name_global C₆.gl.g em' hq hk kM hgl) ?_))))))))
      refine comp_pairs (K2 := Kd.sq) (g := fun p => (p.1, 0 - p.2)) hhd (cl := []) (closNil (by decide)) rfl (by decide) (by decide) rfl rfl (by decide) (by rw [movedF_len, List.length_map]; omega) (name_local kS hk rfl n₆ (by walk_at "same") ⟨UpB.refl _, shape_seq hr₆⟩) (fun D p t1 t2 m' s₄ hp hD u₄ n₄ m1 m2 => ?_) fun D7 ys7 s₇ u₇ hD7 hl7 hv7 => ?_
      · refine wpAny_Tuple (wpAny_items_cons (name_local (lookup_relabel_local rfl) rfl rfl n₄ m1 (wpAny_items_cons (wpAny_BinOp (wpAny_Constant_int (name_local (s := { s₄ with toks := s₄.toks + 1 }) (lookup_relabel_local rfl) rfl rfl n₄ m2 (P.sub_int ?_)))))))
        refine wpAny_items_nil ⟨by rw [sizeLine_eq]; show 2 ≤ _; omega, UpB.of_k (Kp.push _ _), ?_⟩
        exact sq_mk (p := (p.1, 0 - p.2)) ⟨_, Heap.get?_push_size _ rfl, rfl, 0, rfl⟩
      have C₇ := C₆.keeps u₇.k
      refine ⟨⟨_, _, _, hfm'.keeps u₇.k⟩, ?_⟩
      have hl2 : (movedF (sh'.map fun p => (p.2, 0 - p.1))).length ≤ 60 := by rw [movedF_len, List.length_map]; exact hl'
      have hne2 : movedF (sh'.map fun p => (p.2, 0 - p.1)) ≠ [] := movedF_ne (by simpa using hne')
      refine moved_call (k := k) C₇ (hfm'.keeps u₇.k) (sh := (movedF (sh'.map fun p => (p.2, 0 - p.1))).map fun p => (p.1, 0 - p.2)) ⟨D7, ys7, rfl, .inr hl7, hv7⟩ (by simpa using hne2) (by rw [List.length_map]; exact hl2) fun r2 s₈ u₈ hr2 => ?_
      have u₆₈ : Up s₆ s₈ := u₇.trans u₈
      refine wpAny_items_nil ⟨by rw [sizeLine_eq]; show 2 ≤ _; omega, ?_⟩
      have hD₈ : (s₈.heap.push (seqObj "list" [r, r2].toArray 0)).IsList D ys := (hD₆.at fun o e => u₆₈.k _ o e).isList.push _
      have hys : ys.size = 2 * i := by rw [← hf', ← hy.length]; simp
      refine list_cat (vs := ys) (ws := [r, r2].toArray) hD₈ ⟨_, Heap.get?_push_size _ rfl, rfl, 0, rfl⟩ (by rw [sizeLine_eq, hys]; show 2 * i + 2 ≤ _; omega) fun D9 s₉ u₉ hD9 hl9 => ?_
      have u₆₉ : Up s₆ s₉ := u₆₈.trans ((UpB.of_k (tk := s₈.toks) (Kp.push _ _)).trans u₉)
      have u₈₉ : Up s₈ s₉ := (UpB.of_k (tk := s₈.toks) (Kp.push _ _)).trans u₉
      refine stU (ic_up x₆ u₆₉) hk kF fun s₁₀ u₁₀ x₁₀ => wpAny_execs_nil (.inl ⟨rfl, ?_, ?_⟩)
      · exact u₃.trans (u₃₅.up.trans (u₆.trans (u₆₉.up.trans u₁₀)))
      · have nt9 : ∀ i ∈ [env.locals], NT s₉.heap i := fun i hi => by rw [List.mem_singleton.mp hi]; exact .ns (n₆.keeps u₆₉.k)
        have tp₁₀ : Tp s₆.heap s₁₀.heap := u₆₉.k.tp.trans (u₁₀.tp nt9)
        refine ⟨_, r, movedF (sh'.map fun p => (p.2, 0 - p.1)), D9, ys ++ [r, r2].toArray, f' ++ [turnF sh', flipF (turnF sh')], x₁₀, by walk_at "other", Kd.shape.tp tp₁₀ hr₆, by walk_at "same", hl9.at fun o e => u₁₀.kp _ o (by simpa using list_ne_ns hl9.isList (n₆.keeps u₆₉.k)) e, ?_, hne2, hl2, ?_, ?_⟩
        · have e : (ys ++ [r, r2].toArray).toList = ys.toList ++ [r, r2] := by simp
          rw [e]
          refine (hy₃.tp (tp₆.trans tp₁₀)).append (.cons (Kd.shape.tp tp₁₀ hr₆) (.cons (Kd.shape.tp (u₈₉.k.tp.trans (u₁₀.tp nt9)) hr2) .nil))
        · rw [List.length_append, hf']; show 2 * i + 2 = _; omega
        · rw [hgo, show 4 - i = (4 - (i + 1)) + 1 by omega, eightGo]; rfl
    · obtain ⟨m, sv, sh', D, ys, f', x, m1, hs, m2, hD, hy, hne', hl', hf', hgo⟩ := iv
      refine wpAny_execs_cons (wpAny_Return_some (name_local kF hk rfl x.toInCall.ns m2 ⟨_, rfl, h D ys s' (ic_up0 x) hD ?_⟩))
      rw [hgo]; exact hy
    · have u' : Up s₂ s' := (UpB.of_k (tk := s₂.toks + 1) (Kp.refl _)).trans u
      exact ⟨_, v, sh, s₁.heap.objs.size, #[], [], ic_up x₂ u', by walk_at "other", Kd.shape.tp u'.k.tp hv₂, by walk_at "same", hl₂.at fun o e => u'.k _ o e, .nil, hne, hl, rfl, rfl⟩
end
end Mine

-- part MDict
namespace Mine
open PySem PySem.W PySem.Calls PyProof.Rows PySem.SeqAt

/-- a dict by its raw entries -/
def RawAt (h : Heap) (d : Addr) (es : Array DictEntry) (ep : Nat) : Prop := ∃ o, h.get? d = some o ∧ o.ExactDict ∧ o.data = .dict es ep
theorem RawAt.at {h h' : Heap} {d : Addr} {es : Array DictEntry} {ep : Nat} (x : RawAt h d es ep) (e : ∀ o, h.get? d = some o → h'.get? d = some o) : RawAt h' d es ep := let ⟨o, ho, r⟩ := x; ⟨o, e o ho, r⟩
theorem RawAt.typeIs {s : Shared} {d : Addr} {es : Array DictEntry} {ep : Nat} (x : RawAt s.heap d es ep) : s.TypeIs (.ref d) "dict" := let ⟨o, ho, hc, _⟩ := x; ⟨o, ho, hc.1⟩
theorem RawAt.lt {h : Heap} {d : Addr} {es : Array DictEntry} {ep : Nat} (x : RawAt h d es ep) : d < h.objs.size := let ⟨_, ho, _⟩ := x; Heap.lt_size ho
theorem RawAt.noDict {h : Heap} {d : Addr} {es : Array DictEntry} {ep : Nat} (x : RawAt h d es ep) : ∀ b, Value.ref d = .ref b → ∃ ob, h.get? b = some ob ∧ ob.dict = none :=
  fun b e => by injection e with e; subst e; exact let ⟨o, ho, hc, _⟩ := x; ⟨o, ho, hc.2.1⟩
theorem raw_of {prog : Program} {w : World} {K : Type} [DecidableEq K] {knd : HeapKind prog w K} {h : Heap} {d : Addr} {xs : List (K × Addr × Value)} (x : h.DictOfH knd d xs) : ∃ es ep, RawAt h d es ep ∧ es.toList = xs.map (entryOfKey knd) :=
  let ⟨o, es, ep, ho, hc, hd, he, _⟩ := x; ⟨es, ep, ⟨o, ho, hc, hd⟩, he⟩

section
variable {prog : Program} {w : World} {A : Around} {E : Value → Shared → Prop} {s : Shared} {d : Addr} {es : Array DictEntry} {ep : Nat}
theorem raw_iter {Q : Value → Shared → Prop} (hd : (d == sysModules) = false) (hm : RawAt s.heap d es ep)
    (hQ : Q (.ref s.heap.objs.size) { s with heap := s.heap.push { cls := .type "dict_keyiterator", data := .fields #[.ref d, .int 0 0, .int es.size 0, .int ep 0] } }) :
    wpAny (model prog w) A (pyIter (.ref d)) Q E s := by
  have hT := hm.typeIs
  obtain ⟨o, ho, hc, hdat⟩ := id hm
  refine wpAny_pyIter_slot hT PySem.F.slot_dict_iter (wpAny_call_entry PySem.F.slot_dict_iter hT PySem.F.entry_dict_iter ?_ (PySem.F.args_dict_iter_1 _))
  unfold Builtin.«dict.__iter__»
  refine wpAny_bind ?_
  unfold Builtin.Dict.dictSlotNone
  refine wpAny_bind (wpAny_notOrdered_dict hT (show wpAny _ _ (pure (Value.ref d)) _ _ s from wpAny_pure ?_))
  show wpAny _ _ (Builtin.Dict.showsAll d >>= _) _ _ s
  unfold Builtin.Dict.showsAll
  rw [if_neg (by rw [hd]; exact Bool.false_ne_true)]
  refine wpAny_bind (wpAny_pure (wpAny_bind (wpAny_dictEntries ho hdat (wpAny_bind (wpAny_dictEpoch ho hdat ?_)))))
  refine wpAny_bind (wpAny_newObj_type (wpAny_pure ⟨_, rfl, "dict_keyiterator", _, ⟨_, Heap.get?_push_size _ rfl, rfl⟩, PySem.F.slot_dict_keyiterator_next.lookup, ?_⟩))
  simpa [rawInt] using hQ

theorem raw_meets_view {id T : String} {B : Builtin} (hB : B ⟨[.ref d], []⟩ = (do let a ← Builtin.Dict.noArgs (id) ⟨[.ref d], []⟩; Builtin.Dict.showsAll a; ret (← newFields T [.ref a]))) (hd : (d == sysModules) = false) :
    MeetsIn prog w (B ⟨[.ref d], []⟩) (fun _ R s => (∃ es ep, RawAt s.heap d es ep) ∧ R (.ok (.ret (.ref s.heap.objs.size))) { s with heap := s.heap.push { cls := .type T, data := .fields #[.ref d] } }) :=
  .of_wp fun A R s ⟨⟨es, ep, hm⟩, h⟩ => by
    rw [hB]
    refine wpAny_bind ?_
    unfold Builtin.Dict.noArgs
    refine wpAny_bind (wpAny_notOrdered_dict hm.typeIs (show wpAny _ _ (pure d) _ _ s from wpAny_pure ?_))
    show wpAny _ _ (Builtin.Dict.showsAll d >>= _) _ _ s
    unfold Builtin.Dict.showsAll
    rw [if_neg (by rw [hd]; exact Bool.false_ne_true)]
    exact wpAny_bind (wpAny_pure (wpAny_bind (wpAny_newObj_type (wpAny_pure ⟨_, rfl, h⟩))))

theorem raw_next_keys {it : Addr} {i : Nat} {Q : Option Value → Shared → Prop} (hit : s.heap.IsKeyIter it d i es.size ep) (hm : RawAt s.heap d es ep) (hlt : i < es.size)
    (hQ : ∀ h', h'.IsKeyIter it d (i + 1) es.size ep → Heap.SameBut it s.heap h' → Q (some es[i].key) { s with heap := h' }) : wpAny (model prog w) A (pyNext (.ref it)) Q E s := by
  obtain ⟨o, ho, hc, hd⟩ := id hit
  obtain ⟨od, hod, hcd, hdd⟩ := hm
  unfold pyNext
  refine wpAny_bind (wpAny_attempt (wpAny_callSpecial?_slot (name := Str.ofString "__next__") hit.typeIs PySem.F.slot_dict_keyiterator_next
    (wpAny_call_entry PySem.F.slot_dict_keyiterator_next hit.typeIs PySem.F.entry_dict_keyiterator_next ?_ (PySem.F.args_dict_keyiterator_next_1 _))))
  refine wpAny_bind (wpAny_pure (wpAny_bind (wpAny_bind ?_)))
  first | refine wpAny_bind (wpAny_typeNameOfWhole_keyiter hit.typeIs (wpAny_pure ?_)) | refine wpAny_bind (wpAny_typeNameOf_keyiter hit.typeIs (wpAny_pure ?_))
  refine wpAny_bind (wpAny_fieldsOf ho hd ?_)
  simp only [show Builtin.Dict_items.ownsTuple "dict_keyiterator" = false by decide, Bool.false_eq_true, if_false]
  show wpAny _ _ (if (Value.ref d == Value.none) = true then _ else _) _ _ s
  rw [if_neg (show ¬ ((Value.ref d == Value.none) = true) from Bool.false_ne_true)]
  refine wpAny_bind (wpAny_pure (wpAny_bind (wpAny_dictEntries hod hdd ?_)))
  rw [if_neg (by simp)]
  refine wpAny_bind (wpAny_pure (wpAny_bind (wpAny_dictEpoch hod hdd ?_)))
  rw [if_neg (by simp)]
  refine wpAny_pure ?_
  simp only [show ¬ ((i : Int) < 0) from by omega, if_false, Int.toNat_natCast, Array.getElem?_eq_getElem hlt]
  refine wpAny_bind ?_
  first | refine wpAny_bind (wpAny_typeNameOfWhole_keyiter hit.typeIs (wpAny_pure ?_)) | refine wpAny_bind (wpAny_typeNameOf_keyiter hit.typeIs (wpAny_pure ?_))
  refine wpAny_bind (wpAny_isOneOf_keyiter hit.typeIs ?_)
  show wpAny _ _ (setField (.ref it) 1 (rawInt ((i : Int) + 1)) >>= _) _ _ s
  refine wpAny_bind (wpAny_setField ho hd (by simp) ?_)
  have hit' : (s.heap.update it (Obj.mapFields (·.setIfInBounds 1 (rawInt ((i : Int) + 1))))).IsKeyIter it d (i + 1) es.size ep :=
    ⟨_, Heap.get?_update_self _ ho (Obj.isFreed_of_fields (Obj.data_mapFields hd _)), (Obj.cls_mapFields ..).trans hc, by rw [Obj.data_mapFields hd]; simp [rawInt]⟩
  refine wpAny_bind (wpAny_holding ?_)
  refine wpAny_bind (wpAny_isOneOf_keyiter (s := { s with heap := s.heap.update it (Obj.mapFields (·.setIfInBounds 1 (rawInt ((i : Int) + 1)))) }) hit'.typeIs ?_)
  show wpAny _ _ (pure es[i].key) _ _ _
  exact wpAny_pure (wpAny_pure ⟨_, rfl, wpAny_pure (hQ _ hit' (Heap.SameBut.update ..))⟩)

theorem raw_end_keys {it : Addr} {i : Nat} {Q : Option Value → Shared → Prop} (hh : A.handled = none) (hit : s.heap.IsKeyIter it d i es.size ep) (hm : RawAt s.heap d es ep) (hge : es.size ≤ i)
    (hQ : ∀ h', Heap.ExtBut it s.heap h' → Q none { s with heap := h' }) : wpAny (model prog w) A (pyNext (.ref it)) Q E s := by
  have hT := hit.typeIs
  obtain ⟨o, ho, hc, hd⟩ := id hit
  obtain ⟨od, hod, hcd, hdd⟩ := hm
  unfold pyNext
  refine wpAny_bind (wpAny_attempt (wpAny_callSpecial?_slot (name := Str.ofString "__next__") hT PySem.F.slot_dict_keyiterator_next
    (wpAny_call_entry PySem.F.slot_dict_keyiterator_next hT PySem.F.entry_dict_keyiterator_next ?_ (PySem.F.args_dict_keyiterator_next_1 _))))
  refine wpAny_bind (wpAny_pure (wpAny_bind (wpAny_bind ?_)))
  first | refine wpAny_bind (wpAny_typeNameOfWhole_keyiter hT (wpAny_pure ?_)) | refine wpAny_bind (wpAny_typeNameOf_keyiter hT (wpAny_pure ?_))
  refine wpAny_bind (wpAny_fieldsOf ho hd ?_)
  simp only [show Builtin.Dict_items.ownsTuple "dict_keyiterator" = false by decide, Bool.false_eq_true, if_false, if_true]
  show wpAny _ _ (if (Value.ref d == Value.none) = true then _ else _) _ _ s
  rw [if_neg (show ¬ ((Value.ref d == Value.none) = true) from Bool.false_ne_true)]
  refine wpAny_bind (wpAny_pure (wpAny_bind (wpAny_dictEntries hod hdd ?_)))
  rw [if_neg (by simp)]
  refine wpAny_bind (wpAny_pure (wpAny_bind (wpAny_dictEpoch hod hdd ?_)))
  rw [if_neg (by simp)]
  refine wpAny_pure ?_
  simp only [show ¬ ((i : Int) < 0) from by omega, if_false, Int.toNat_natCast, Array.getElem?_eq_none hge]
  refine wpAny_bind ?_
  first | refine wpAny_bind (wpAny_typeNameOfWhole_keyiter hT (wpAny_pure ?_)) | refine wpAny_bind (wpAny_typeNameOf_keyiter hT (wpAny_pure ?_))
  show wpAny _ _ (setField (.ref it) 0 .none >>= _) _ _ s
  refine wpAny_bind (wpAny_setField ho hd (by simp) ?_)
  show wpAny _ _ (newExc (.type "StopIteration") [] >>= _) _ _ _
  refine wpAny_bind ?_
  simp only [newExc, newTuple]
  refine wpAny_bind (wpAny_newObj_type ?_ (by size_fits))
  refine wpAny_bind (m := firstArgMember _ _) (wpAny_of_eq (a := Value.none) (by first | rfl | (simp only [firstArgMember]; rfl)) ?_)
  refine wpAny_newObj_type ?_ (by size_fits)
  simp only [raiseNew]
  refine wpAny_bind (wpAny_handled ?_)
  rw [show A.in1.handled = none from hh]
  refine wpAny_bind (wpAny_pure (wpAny_throw ?_))
  refine wpAny_bind (wpAny_isInstance (T := "StopIteration") (b := true) ⟨_, Heap.get?_push_size _ rfl, rfl⟩ isSubtype_stop ?_)
  exact wpAny_pure (hQ _ (((Heap.SameBut.update ..).extBut.push _).push _))

theorem raw_next_values {it : Addr} {i : Nat} {Q : Option Value → Shared → Prop} (hit : s.heap.IsValIter it d i es.size ep) (hm : RawAt s.heap d es ep) (hlt : i < es.size)
    (hQ : ∀ h', h'.IsValIter it d (i + 1) es.size ep → Heap.SameBut it s.heap h' → Q (some es[i].val) { s with heap := h' }) : wpAny (model prog w) A (pyNext (.ref it)) Q E s := by
  obtain ⟨o, ho, hc, hd⟩ := id hit
  obtain ⟨od, hod, hcd, hdd⟩ := hm
  unfold pyNext
  refine wpAny_bind (wpAny_attempt (wpAny_callSpecial?_slot (name := Str.ofString "__next__") hit.typeIs PySem.F.slot_dict_valueiterator_next
    (wpAny_call_entry PySem.F.slot_dict_valueiterator_next hit.typeIs PySem.F.entry_dict_valueiterator_next ?_ (PySem.F.args_dict_valueiterator_next_1 _))))
  refine wpAny_bind (wpAny_pure (wpAny_bind (wpAny_bind ?_)))
  first | refine wpAny_bind (wpAny_typeNameOfWhole_valiter hit.typeIs (wpAny_pure ?_)) | refine wpAny_bind (wpAny_typeNameOf_valiter hit.typeIs (wpAny_pure ?_))
  refine wpAny_bind (wpAny_fieldsOf ho hd ?_)
  simp only [show Builtin.Dict_items.ownsTuple "dict_valueiterator" = false by decide, Bool.false_eq_true, if_false]
  show wpAny _ _ (if (Value.ref d == Value.none) = true then _ else _) _ _ s
  rw [if_neg (show ¬ ((Value.ref d == Value.none) = true) from Bool.false_ne_true)]
  refine wpAny_bind (wpAny_pure (wpAny_bind (wpAny_dictEntries hod hdd ?_)))
  rw [if_neg (by simp)]
  refine wpAny_bind (wpAny_pure (wpAny_bind (wpAny_dictEpoch hod hdd ?_)))
  rw [if_neg (by simp)]
  refine wpAny_pure ?_
  simp only [show ¬ ((i : Int) < 0) from by omega, if_false, Int.toNat_natCast, Array.getElem?_eq_getElem hlt]
  refine wpAny_bind ?_
  first | refine wpAny_bind (wpAny_typeNameOfWhole_valiter hit.typeIs (wpAny_pure ?_)) | refine wpAny_bind (wpAny_typeNameOf_valiter hit.typeIs (wpAny_pure ?_))
  refine wpAny_bind (wpAny_isOneOf_valiter hit.typeIs ?_)
  show wpAny _ _ (setField (.ref it) 1 (rawInt ((i : Int) + 1)) >>= _) _ _ s
  refine wpAny_bind (wpAny_setField ho hd (by simp) ?_)
  have hit' : (s.heap.update it (Obj.mapFields (·.setIfInBounds 1 (rawInt ((i : Int) + 1))))).IsValIter it d (i + 1) es.size ep :=
    ⟨_, Heap.get?_update_self _ ho (Obj.isFreed_of_fields (Obj.data_mapFields hd _)), (Obj.cls_mapFields ..).trans hc, by rw [Obj.data_mapFields hd]; simp [rawInt]⟩
  refine wpAny_bind (wpAny_holding ?_)
  refine wpAny_bind (wpAny_isOneOf_valiter (s := { s with heap := s.heap.update it (Obj.mapFields (·.setIfInBounds 1 (rawInt ((i : Int) + 1)))) }) hit'.typeIs ?_)
  refine wpAny_bind (wpAny_isOneOf_valiter (s := { s with heap := s.heap.update it (Obj.mapFields (·.setIfInBounds 1 (rawInt ((i : Int) + 1)))) }) hit'.typeIs ?_)
  show wpAny _ _ (pure es[i].val) _ _ _
  exact wpAny_pure (wpAny_pure ⟨_, rfl, wpAny_pure (hQ _ hit' (Heap.SameBut.update ..))⟩)

theorem raw_end_values {it : Addr} {i : Nat} {Q : Option Value → Shared → Prop} (hh : A.handled = none) (hit : s.heap.IsValIter it d i es.size ep) (hm : RawAt s.heap d es ep) (hge : es.size ≤ i)
    (hQ : ∀ h', Heap.ExtBut it s.heap h' → Q none { s with heap := h' }) : wpAny (model prog w) A (pyNext (.ref it)) Q E s := by
  have hT := hit.typeIs
  obtain ⟨o, ho, hc, hd⟩ := id hit
  obtain ⟨od, hod, hcd, hdd⟩ := hm
  unfold pyNext
  refine wpAny_bind (wpAny_attempt (wpAny_callSpecial?_slot (name := Str.ofString "__next__") hT PySem.F.slot_dict_valueiterator_next
    (wpAny_call_entry PySem.F.slot_dict_valueiterator_next hT PySem.F.entry_dict_valueiterator_next ?_ (PySem.F.args_dict_valueiterator_next_1 _))))
  refine wpAny_bind (wpAny_pure (wpAny_bind (wpAny_bind ?_)))
  first | refine wpAny_bind (wpAny_typeNameOfWhole_valiter hT (wpAny_pure ?_)) | refine wpAny_bind (wpAny_typeNameOf_valiter hT (wpAny_pure ?_))
  refine wpAny_bind (wpAny_fieldsOf ho hd ?_)
  simp only [show Builtin.Dict_items.ownsTuple "dict_valueiterator" = false by decide, Bool.false_eq_true, if_false, if_true]
  show wpAny _ _ (if (Value.ref d == Value.none) = true then _ else _) _ _ s
  rw [if_neg (show ¬ ((Value.ref d == Value.none) = true) from Bool.false_ne_true)]
  refine wpAny_bind (wpAny_pure (wpAny_bind (wpAny_dictEntries hod hdd ?_)))
  rw [if_neg (by simp)]
  refine wpAny_bind (wpAny_pure (wpAny_bind (wpAny_dictEpoch hod hdd ?_)))
  rw [if_neg (by simp)]
  refine wpAny_pure ?_
  simp only [show ¬ ((i : Int) < 0) from by omega, if_false, Int.toNat_natCast, Array.getElem?_eq_none hge]
  refine wpAny_bind ?_
  first | refine wpAny_bind (wpAny_typeNameOfWhole_valiter hT (wpAny_pure ?_)) | refine wpAny_bind (wpAny_typeNameOf_valiter hT (wpAny_pure ?_))
  show wpAny _ _ (setField (.ref it) 0 .none >>= _) _ _ s
  refine wpAny_bind (wpAny_setField ho hd (by simp) ?_)
  show wpAny _ _ (newExc (.type "StopIteration") [] >>= _) _ _ _
  refine wpAny_bind ?_
  simp only [newExc, newTuple]
  refine wpAny_bind (wpAny_newObj_type ?_ (by size_fits))
  refine wpAny_bind (m := firstArgMember _ _) (wpAny_of_eq (a := Value.none) (by first | rfl | (simp only [firstArgMember]; rfl)) ?_)
  refine wpAny_newObj_type ?_ (by size_fits)
  simp only [raiseNew]
  refine wpAny_bind (wpAny_handled ?_)
  rw [show A.in1.handled = none from hh]
  refine wpAny_bind (wpAny_pure (wpAny_throw ?_))
  refine wpAny_bind (wpAny_isInstance (T := "StopIteration") (b := true) ⟨_, Heap.get?_push_size _ rfl, rfl⟩ isSubtype_stop ?_)
  exact wpAny_pure (hQ _ (((Heap.SameBut.update ..).extBut.push _).push _))

theorem raw_next_items {it : Addr} {i : Nat} {ok ov : Value} {Q : Option Value → Shared → Prop} (hit : IsItemIter s.heap it d i es.size ep ok ov) (hm : RawAt s.heap d es ep) (hlt : i < es.size)
    (hQ : ∀ h', IsItemIterOut h' it d (i + 1) es.size ep es[i].key es[i].val s.heap.objs.size → h'.get? s.heap.objs.size = some (seqObj "tuple" #[es[i].key, es[i].val] 0) → Heap.ExtBut it s.heap h' →
      Q (some (.ref s.heap.objs.size)) { s with heap := h' }) : wpAny (model prog w) A (pyNext (.ref it)) Q E s := by
  obtain ⟨od, hod, hcd, hdd⟩ := hm
  have hT : s.TypeIs (.ref it) "dict_itemiterator" := ⟨_, hit, rfl⟩
  have hil : it < s.heap.objs.size := Heap.lt_size hit
  unfold pyNext
  refine wpAny_bind (wpAny_attempt (wpAny_callSpecial?_slot (name := Str.ofString "__next__") hT PySem.F.slot_dict_itemiterator_next
    (wpAny_call_entry PySem.F.slot_dict_itemiterator_next hT PySem.F.entry_dict_itemiterator_next ?_ (PySem.F.args_dict_itemiterator_next_1 _))))
  refine wpAny_bind (wpAny_pure (wpAny_bind (wpAny_bind ?_)))
  first | refine wpAny_bind (wpAny_typeNameOfWhole_itemiter hT (wpAny_pure ?_)) | refine wpAny_bind (wpAny_typeNameOf_itemiter hT (wpAny_pure ?_))
  refine wpAny_bind (wpAny_fieldsOf hit rfl ?_)
  simp only [show Builtin.Dict_items.ownsTuple "dict_itemiterator" = true by decide, if_true]
  show wpAny _ _ (if (Value.ref d == Value.none) = true then _ else _) _ _ s
  rw [if_neg (show ¬ ((Value.ref d == Value.none) = true) from Bool.false_ne_true)]
  refine wpAny_bind (wpAny_pure (wpAny_bind (wpAny_dictEntries hod hdd ?_)))
  rw [if_neg (by simp)]
  refine wpAny_bind (wpAny_pure (wpAny_bind (wpAny_dictEpoch hod hdd ?_)))
  rw [if_neg (by simp)]
  refine wpAny_pure ?_
  simp only [show ¬ ((i : Int) < 0) from by omega, if_false, Int.toNat_natCast, Array.getElem?_eq_getElem hlt]
  refine wpAny_bind ?_
  first | refine wpAny_bind (wpAny_typeNameOfWhole_itemiter hT (wpAny_pure ?_)) | refine wpAny_bind (wpAny_typeNameOf_itemiter hT (wpAny_pure ?_))
  refine wpAny_bind (wpAny_isOneOf_itemiter hT ?_)
  show wpAny _ _ (setField (.ref it) 3 (rawInt ((i : Int) + 1)) >>= _) _ _ s
  refine wpAny_bind (wpAny_setField_rec hit (by simp) fun h₁ he₁ hs₁ => ?_)
  replace hs₁ : Heap.SameBut it s.heap h₁ := hs₁
  replace he₁ : IsItemIter h₁ it d (i + 1) es.size ep ok ov := by
    have e : ((i + 1 : Nat) : Int) = (i : Int) + 1 := by omega
    unfold IsItemIter; rw [e]; simpa [rawInt] using he₁
  have hT₁ : Shared.TypeIs { s with heap := h₁ } (.ref it) "dict_itemiterator" := ⟨_, he₁, rfl⟩
  refine wpAny_bind (wpAny_holding (wpAny_bind (wpAny_isOneOf_itemiter hT₁ (wpAny_bind (wpAny_isOneOf_itemiter hT₁ ?_)))))
  show wpAny _ _ (Builtin.Dict_items.pairFromOwner (.ref it) 6 es[i].key es[i].val) _ _ { s with heap := h₁ }
  unfold Builtin.Dict_items.pairFromOwner
  refine wpAny_bind (wpAny_newTuple ?_)
  have he₂ : IsItemIter (h₁.push (seqObj "tuple" #[es[i].key, es[i].val] 0)) it d (i + 1) es.size ep ok ov := Heap.get?_push_of_some _ he₁
  have hz₁ : h₁.objs.size = s.heap.objs.size := hs₁.1
  have ht₂ : (h₁.push (seqObj "tuple" #[es[i].key, es[i].val] 0)).get? s.heap.objs.size = some (seqObj "tuple" #[es[i].key, es[i].val] 0) := by rw [← hz₁]; exact Heap.get?_push_size _ rfl
  have hk₂ : Heap.ExtBut it s.heap (h₁.push (seqObj "tuple" #[es[i].key, es[i].val] 0)) := fun b o hb e => Heap.get?_push_of_some _ (hs₁.extBut b o hb e)
  show wpAny _ _ (Builtin.Dict_items.ownedTupleIsFree (.ref it) >>= _) _ _ { s with heap := h₁.push (seqObj "tuple" #[es[i].key, es[i].val] 0) }
  rw [hz₁]
  generalize h₁.push (seqObj "tuple" #[es[i].key, es[i].val] 0) = h₂ at he₂ ht₂ hk₂ ⊢
  clear he₁ hs₁ hT₁ hz₁
  refine wpAny_bind ?_
  unfold Builtin.Dict_items.ownedTupleIsFree
  refine wpAny_bind (wpAny_field he₂ rfl (x := .none) rfl (wpAny_pure ?_))
  simp only [if_true]
  refine wpAny_bind (wpAny_field he₂ rfl (x := ok) rfl (wpAny_bind (wpAny_field he₂ rfl (x := ov) rfl ?_)))
  refine wpAny_bind (wpAny_setField_rec he₂ (by simp) fun h₃ he₃ hs₃ => ?_)
  replace hs₃ : Heap.SameBut it h₂ h₃ := hs₃
  replace he₃ : IsItemIter h₃ it d (i + 1) es.size ep es[i].key ov := he₃
  refine wpAny_bind (wpAny_setField_rec he₃ (by simp) fun h₄ he₄ hs₄ => ?_)
  replace hs₄ : Heap.SameBut it h₃ h₄ := hs₄
  replace he₄ : IsItemIter h₄ it d (i + 1) es.size ep es[i].key es[i].val := he₄
  refine wpAny_bind (wpAny_setField_rec he₄ (by simp) fun h₅ he₅ hs₅ => ?_)
  replace hs₅ : Heap.SameBut it h₄ h₅ := hs₅
  replace he₅ : IsItemIterOut h₅ it d (i + 1) es.size ep es[i].key es[i].val s.heap.objs.size := he₅
  refine wpAny_bind (wpAny_setField_rec he₅ (by simp) fun h₆ he₆ hs₆ => ?_)
  replace hs₆ : Heap.SameBut it h₅ h₆ := hs₆
  replace he₆ : IsItemIterOut h₆ it d (i + 1) es.size ep es[i].key es[i].val s.heap.objs.size := he₆
  have ext : Heap.ExtBut it h₂ h₆ := fun b o hb e => hs₆.extBut b o hb (hs₅.extBut b o hb (hs₄.extBut b o hb (hs₃.extBut b o hb e)))
  exact wpAny_bind (wpAny_letGo (wpAny_pure (wpAny_pure ⟨_, rfl, wpAny_pure (hQ h₆ he₆ (ext _ _ (Nat.ne_of_gt hil) ht₂) fun b o hb e => ext b o hb (hk₂ b o hb e))⟩)))

theorem raw_end_items {it : Addr} {i : Nat} {ok ov : Value} {Q : Option Value → Shared → Prop} (hh : A.handled = none) (hit : IsItemIter s.heap it d i es.size ep ok ov) (hm : RawAt s.heap d es ep) (hge : es.size ≤ i)
    (hQ : ∀ h', Heap.ExtBut it s.heap h' → Q none { s with heap := h' }) : wpAny (model prog w) A (pyNext (.ref it)) Q E s := by
  have hT : s.TypeIs (.ref it) "dict_itemiterator" := ⟨_, hit, rfl⟩
  have ho := hit
  have hd : (({ cls := .type "dict_itemiterator", dict := none, data := .fields #[.none, .bool false, .ref d, .int i 0, .int es.size 0, .int ep 0, ok, ov], slots := #[] } : Obj)).data = _ := rfl
  obtain ⟨od, hod, hcd, hdd⟩ := hm
  unfold pyNext
  refine wpAny_bind (wpAny_attempt (wpAny_callSpecial?_slot (name := Str.ofString "__next__") hT PySem.F.slot_dict_itemiterator_next
    (wpAny_call_entry PySem.F.slot_dict_itemiterator_next hT PySem.F.entry_dict_itemiterator_next ?_ (PySem.F.args_dict_itemiterator_next_1 _))))
  refine wpAny_bind (wpAny_pure (wpAny_bind (wpAny_bind ?_)))
  first | refine wpAny_bind (wpAny_typeNameOfWhole_itemiter hT (wpAny_pure ?_)) | refine wpAny_bind (wpAny_typeNameOf_itemiter hT (wpAny_pure ?_))
  refine wpAny_bind (wpAny_fieldsOf ho hd ?_)
  simp only [show Builtin.Dict_items.ownsTuple "dict_itemiterator" = true by decide, Bool.false_eq_true, if_false, if_true]
  show wpAny _ _ (if (Value.ref d == Value.none) = true then _ else _) _ _ s
  rw [if_neg (show ¬ ((Value.ref d == Value.none) = true) from Bool.false_ne_true)]
  refine wpAny_bind (wpAny_pure (wpAny_bind (wpAny_dictEntries hod hdd ?_)))
  rw [if_neg (by simp)]
  refine wpAny_bind (wpAny_pure (wpAny_bind (wpAny_dictEpoch hod hdd ?_)))
  rw [if_neg (by simp)]
  refine wpAny_pure ?_
  simp only [show ¬ ((i : Int) < 0) from by omega, if_false, Int.toNat_natCast, Array.getElem?_eq_none hge]
  refine wpAny_bind ?_
  first | refine wpAny_bind (wpAny_typeNameOfWhole_itemiter hT (wpAny_pure ?_)) | refine wpAny_bind (wpAny_typeNameOf_itemiter hT (wpAny_pure ?_))
  show wpAny _ _ (setField (.ref it) 2 .none >>= _) _ _ s
  refine wpAny_bind (wpAny_setField ho hd (by simp) ?_)
  show wpAny _ _ (newExc (.type "StopIteration") [] >>= _) _ _ _
  refine wpAny_bind ?_
  simp only [newExc, newTuple]
  refine wpAny_bind (wpAny_newObj_type ?_ (by size_fits))
  refine wpAny_bind (m := firstArgMember _ _) (wpAny_of_eq (a := Value.none) (by first | rfl | (simp only [firstArgMember]; rfl)) ?_)
  refine wpAny_newObj_type ?_ (by size_fits)
  simp only [raiseNew]
  refine wpAny_bind (wpAny_handled ?_)
  rw [show A.in1.handled = none from hh]
  refine wpAny_bind (wpAny_pure (wpAny_throw ?_))
  refine wpAny_bind (wpAny_isInstance (T := "StopIteration") (b := true) ⟨_, Heap.get?_push_size _ rfl, rfl⟩ isSubtype_stop ?_)
  exact wpAny_pure (hQ _ (((Heap.SameBut.update ..).extBut.push _).push _))

theorem raw_iter_values {v : Addr} {Q : Value → Shared → Prop} (hv : s.heap.IsValuesView v d) (hm : RawAt s.heap d es ep)
    (hQ : Q (.ref s.heap.objs.size) { s with heap := s.heap.push { cls := .type "dict_valueiterator", data := .fields #[.ref d, .int 0 0, .int es.size 0, .int ep 0] } }) : wpAny (model prog w) A (pyIter (.ref v)) Q E s := by
  have hT := hv.typeIs
  obtain ⟨ov, hov, hcv, hdv⟩ := hv
  obtain ⟨o, ho, hc, hdat⟩ := hm
  refine wpAny_pyIter_slot hT PySem.F.slot_dict_values_iter (wpAny_call_entry PySem.F.slot_dict_values_iter hT PySem.F.entry_dict_values_iter ?_ (PySem.F.args_dict_values_iter_1 _))
  unfold Builtin.«dict_values.__iter__»
  refine wpAny_bind (wpAny_pure (wpAny_bind ?_))
  unfold Builtin.Dict_items.dictOf
  refine wpAny_bind (wpAny_field hov hdv (x := .ref d) rfl (wpAny_pure (wpAny_bind ?_)))
  unfold Builtin.Dict_items.newIterator
  refine wpAny_bind (wpAny_dictEntries ho hdat (wpAny_bind (wpAny_dictEpoch ho hdat ?_)))
  simp only [show Builtin.Dict_items.ownsTuple "dict_valueiterator" = false by decide, Bool.false_eq_true, if_false]
  refine wpAny_newObj_type (wpAny_pure ⟨_, rfl, "dict_valueiterator", _, ⟨_, Heap.get?_push_size _ rfl, rfl⟩, PySem.F.slot_dict_valueiterator_next.lookup, ?_⟩)
  simpa [rawInt] using hQ
theorem raw_iter_items {v : Addr} {Q : Value → Shared → Prop} (hv : s.heap.IsItemsView v d) (hm : RawAt s.heap d es ep)
    (hQ : Q (.ref s.heap.objs.size) { s with heap := s.heap.push { cls := .type "dict_itemiterator", data := .fields #[.none, .bool false, .ref d, .int 0 0, .int es.size 0, .int ep 0, .none, .none] } }) : wpAny (model prog w) A (pyIter (.ref v)) Q E s := by
  have hT := hv.typeIs
  obtain ⟨ov, hov, hcv, hdv⟩ := hv
  obtain ⟨o, ho, hc, hdat⟩ := hm
  refine wpAny_pyIter_slot hT PySem.F.slot_dict_items_iter (wpAny_call_entry PySem.F.slot_dict_items_iter hT PySem.F.entry_dict_items_iter ?_ (PySem.F.args_dict_items_iter_1 _))
  unfold Builtin.«dict_items.__iter__»
  refine wpAny_bind (wpAny_pure (wpAny_bind ?_))
  unfold Builtin.Dict_items.dictOf
  refine wpAny_bind (wpAny_field hov hdv (x := .ref d) rfl (wpAny_pure (wpAny_bind ?_)))
  unfold Builtin.Dict_items.newIterator
  refine wpAny_bind (wpAny_dictEntries ho hdat (wpAny_bind (wpAny_dictEpoch ho hdat ?_)))
  simp only [show Builtin.Dict_items.ownsTuple "dict_itemiterator" = true by decide, if_true]
  refine wpAny_newObj_type (wpAny_pure ⟨_, rfl, "dict_itemiterator", _, ⟨_, Heap.get?_push_size _ rfl, rfl⟩, PySem.F.slot_dict_itemiterator_next.lookup, ?_⟩)
    (by simp only [sizeOk, Builtin.Dict_items.ownedTupleFields, List.size_toArray, List.length_append, List.length_cons, List.length_nil, sizeLine_eq]; omega)
  simpa [rawInt, Builtin.Dict_items.ownedTupleFields] using hQ

theorem raw_walk_keys (hh : A.handled = none) (I : Addr) (hne : d ≠ I) :
    Walks prog w A I [I, d] [I] es.size (fun i v => ∃ e, es[i]? = some e ∧ v = e.key) (fun i h => h.IsKeyIter I d i es.size ep ∧ RawAt h d es ep) where
  sub := fun b hb => by simp at hb; simp [hb]
  frame := fun _ _ _ st hk => ⟨st.1.at fun o e => hk I (by simp) o e, st.2.at fun o e => hk d (by simp) o e⟩
  item := fun i s Q E hi st hQ => raw_next_keys st.1 st.2 hi fun h' hit' hs' => hQ _ h' s.toks ⟨es[i], by simp [hi], rfl⟩ ⟨hit', st.2.at fun o e => hs'.extBut d o hne e⟩ fun b o hb e => hs'.extBut b o (fun h => hb (by simp [h])) e
  done := fun s Q E st hQ => raw_end_keys hh st.1 st.2 (Nat.le_refl _) fun h' he' => hQ h' s.toks fun b o hb e => he' b o (fun h => hb (by simp [h])) e
  self := fun _ _ _ _ st hQ => wpAny_pyIter_keyiter st.1 hQ
theorem raw_walk_values (hh : A.handled = none) (I : Addr) (hne : d ≠ I) :
    Walks prog w A I [I, d] [I] es.size (fun i v => ∃ e, es[i]? = some e ∧ v = e.val) (fun i h => h.IsValIter I d i es.size ep ∧ RawAt h d es ep) where
  sub := fun b hb => by simp at hb; simp [hb]
  frame := fun _ _ _ st hk => ⟨st.1.at fun o e => hk I (by simp) o e, st.2.at fun o e => hk d (by simp) o e⟩
  item := fun i s Q E hi st hQ => raw_next_values st.1 st.2 hi fun h' hit' hs' => hQ _ h' s.toks ⟨es[i], by simp [hi], rfl⟩ ⟨hit', st.2.at fun o e => hs'.extBut d o hne e⟩ fun b o hb e => hs'.extBut b o (fun h => hb (by simp [h])) e
  done := fun s Q E st hQ => raw_end_values hh st.1 st.2 (Nat.le_refl _) fun h' he' => hQ h' s.toks fun b o hb e => he' b o (fun h => hb (by simp [h])) e
  self := fun _ _ _ _ st hQ => wpAny_pyIter_valiter st.1 hQ

theorem raw_collect {R : List Value → Shared → Prop} (lo : (d == sysModules) = false) (hh : A.handled = none) (hm : RawAt s.heap d es ep) (hn : es.size ≤ sizeLine)
    (h : ∀ h' tk acc, Kp s.heap h' → acc = es.toList.map (·.key) → R acc { s with heap := h', toks := tk }) : wpAny (model prog w) A (collect (.ref d)) R E s := by
  refine kdu_collect (T := "dict") (d := d) (n := es.size) (P := fun i v => ∃ e, es[i]? = some e ∧ v = e.key) (OK := fun h => RawAt h d es ep) ⟨fun _ hm => hm.typeIs, fun _ hm => ⟨hm.lt, hm.lt⟩, fun _ _ hm hk => hm.at fun o e => hk d (.inl rfl) o e, by decide, by decide,
    fun _ _ _ _ hm hq => kdl_hint_dict hm.typeIs hq, fun A s hh hm => ⟨_, _, (fun _ _ hq => raw_iter lo hm hq), raw_walk_keys (ep := ep) hh _ (Nat.ne_of_lt hm.lt), ⟨⟨_, Heap.get?_push_size _ rfl, rfl, rfl⟩, hm.at fun o e => Heap.get?_push_of_some _ e⟩⟩⟩ hh hm hn fun h' tk acc hk hacc => ?_
  refine h h' tk _ hk ?_
  apply List.ext_getElem?
  intro i
  rw [Array.getElem?_toList, List.getElem?_map, Array.getElem?_toList]
  cases ha : acc[i]? with
  | some v =>
    obtain ⟨e, he, rfl⟩ := hacc.2 i v ha
    rw [he]; rfl
  | none =>
    have := Array.getElem?_eq_none_iff.mp ha
    rw [hacc.1] at this
    rw [Array.getElem?_eq_none this]; rfl
end
end Mine

-- part MCmp
namespace Mine
open PySem PySem.W PySem.Calls PyProof.Rows PySem.SeqAt

section
variable {prog : Program} {w : World} {A : Around} {E : Value → Shared → Prop} {s : Shared}
variable {α : Type} [DecidableEq α] {K : Kd α}

open Classical in
noncomputable def isB (K : Kd α) (h : Heap) (x : α) (y : Value) : Bool := decide (K.is h y x)
theorem isB_eq {h : Heap} {x z : α} {y : Value} (hz : K.is h y z) : isB K h x y = decide (z = x) := by
  unfold isB
  by_cases e : z = x
  · subst e; simp [hz]
  · have : ¬ K.is h y x := fun q => e (K.inj hz q)
    simp [e, this]
theorem vals_any {h : Heap} {x : α} : ∀ {vs : List Value} {xs : List α}, Vals K h vs xs → vs.any (isB K h x) = decide (x ∈ xs)
  | _, _, .nil => by simp
  | _, _, .cons (b := z) a r => by
    rw [List.any_cons, isB_eq a, vals_any r]
    by_cases e : z = x
    · simp [e]
    · simp [e, Ne.symm e]
theorem vals_count {h : Heap} {x : α} : ∀ {vs : List Value} {xs : List α}, Vals K h vs xs → vs.countP (isB K h x) = xs.count x
  | _, _, .nil => by simp
  | _, _, .cons (b := z) a r => by
    rw [List.countP_cons, isB_eq a, vals_count r, List.count_cons]
    by_cases e : z = x
    · simp [e]
    · simp [e]
theorem vals_eqAt {vs : List Value} {xs : List α} {xv : Value} {x : α} (hv : Vals K s.heap vs xs) (hx : K.is s.heap xv x) (hu : A.units + K.un < cLine) : ∀ y ∈ vs, EqAt A s y xv (isB K s.heap x y) := by
  intro y hy
  obtain ⟨i, hi⟩ := List.mem_iff_getElem?.mp hy
  obtain ⟨z, _, iz⟩ := Vals.get' hv hi
  rw [isB_eq iz]
  exact K.eqAt iz hx hu

theorem seq_in {xv v : Value} {xs : List α} {x : α} {Q : Value → Shared → Prop} (hs : SeqIs K s.heap v xs) (hx : K.is s.heap xv x) (hu : A.units + 1 + K.un < cLine)
    (h : Q (.bool (decide (x ∈ xs))) s) : Wp prog w A (compareOp .In xv v) Q s := by
  obtain ⟨a, vs, rfl, ht | hl, hv⟩ := hs
  · refine in_tupleAt (isB K s.heap x) ht (fun y hy => vals_eqAt (A := A.in1) hv hx hu y (Array.mem_toList_iff.mpr hy)) ?_
    rw [← Array.any_toList, vals_any hv]; exact h
  · refine in_listAt (isB K s.heap x) hl (fun y hy => vals_eqAt (A := A.in1) hv hx hu y (Array.mem_toList_iff.mpr hy)) ?_
    rw [← Array.any_toList, vals_any hv]; exact h
theorem seq_notin {xv v : Value} {xs : List α} {x : α} {Q : Value → Shared → Prop} (hs : SeqIs K s.heap v xs) (hx : K.is s.heap xv x) (hu : A.units + 1 + K.un < cLine)
    (h : Q (.bool (decide (x ∉ xs))) s) : Wp prog w A (compareOp .NotIn xv v) Q s := by
  have e : (!decide (x ∈ xs)) = decide (x ∉ xs) := by simp
  rw [← e] at h
  obtain ⟨a, vs, rfl, ht | hl, hv⟩ := hs
  · refine notIn_tupleAt (isB K s.heap x) ht (fun y hy => vals_eqAt (A := A.in1) hv hx hu y (Array.mem_toList_iff.mpr hy)) ?_
    rw [← Array.any_toList, vals_any hv]; exact h
  · refine notIn_listAt (isB K s.heap x) hl (fun y hy => vals_eqAt (A := A.in1) hv hx hu y (Array.mem_toList_iff.mpr hy)) ?_
    rw [← Array.any_toList, vals_any hv]; exact h

theorem vals_at {vs ws : Array Value} {xs ys : List α} (hx : Vals K s.heap vs.toList xs) (hy : Vals K s.heap ws.toList ys) (hu : A.units + K.un < cLine) (j : Nat) (h1 : j < vs.size) (h2 : j < ws.size) :
    EqAt A s vs[j] ws[j] (decide (xs[j]? = ys[j]?)) := by
  obtain ⟨x, ex, ix⟩ := Vals.get' hx (i := j) (v := vs[j]) (by simp [h1])
  obtain ⟨y, ey, iy⟩ := Vals.get' hy (i := j) (v := ws[j]) (by simp [h2])
  have q := K.eqAt (A := A) ix iy hu
  rw [ex, ey]
  by_cases h : x = y
  · rw [decide_eq_true h] at q; rw [decide_eq_true (by rw [h])]; exact q
  · rw [decide_eq_false h] at q; rw [decide_eq_false (by simpa using h)]; exact q

theorem tup_ne {v u : Value} {xs ys : List α} {Q : Value → Shared → Prop} (hx : TupIs K s.heap v xs) (hy : TupIs K s.heap u ys) (hu : A.units + 1 + K.un < cLine)
    (h : Q (.bool (decide (xs ≠ ys))) s) : Wp prog w A (compareOp .NotEq v u) Q s := by
  obtain ⟨a, vs, rfl, ha, hx⟩ := hx
  obtain ⟨b, ws, rfl, hb, hy⟩ := hy
  have r := RcNeAt.tuples (A := A) (e := fun j => decide (xs[j]? = ys[j]?)) ha hb (by omega) (fun j h1 h2 => vals_at (A := A.in1) hx hy hu j h1 h2)
  have e : (!decide (xs = ys)) = decide (xs ≠ ys) := by simp
  rw [show vs.size = xs.length by rw [← hx.length]; simp, show ws.size = ys.length by rw [← hy.length]; simp, eq_of_places, e] at r
  exact r prog w _ Q h
theorem list_ne {a b : Addr} {vs ws : Array Value} {xs ys : List α} {Q : Value → Shared → Prop} (ha : s.heap.IsList a vs) (hb : s.heap.IsList b ws) (hx : Vals K s.heap vs.toList xs) (hy : Vals K s.heap ws.toList ys) (hu : A.units + 1 + K.un < cLine)
    (h : Q (.bool (decide (xs ≠ ys))) s) : Wp prog w A (compareOp .NotEq (.ref a) (.ref b)) Q s := by
  have e1 : vs.size = xs.length := by rw [← hx.length]; simp
  have e2 : ws.size = ys.length := by rw [← hy.length]; simp
  by_cases hsz : vs.size = ws.size
  · have r := RcNeAt.lists (A := A) (e := fun j => decide (xs[j]? = ys[j]?)) ha hb hsz (by omega) (fun j h1 h2 => vals_at (A := A.in1) hx hy hu j h1 h2)
    have q := eq_of_places xs ys
    rw [show min xs.length ys.length = vs.size by omega, show (xs.length == ys.length) = true by rw [beq_iff_eq]; omega, Bool.and_true] at q
    have e : (!decide (xs = ys)) = decide (xs ≠ ys) := by simp
    rw [q, e] at r
    exact r prog w _ Q h
  · have r := RcNeAt.lists_lengths (A := A) ha hb (by simpa using hsz) (by omega)
    have e : decide (xs ≠ ys) = true := decide_eq_true fun q => hsz (by rw [e1, e2, q])
    rw [e] at h
    exact r prog w _ Q h

theorem list_count {l : Addr} {vs : Array Value} {xs : List α} {xv : Value} {x : α} {P : Fin → Shared → Prop} (hl : s.heap.IsList l vs) (hv : Vals K s.heap vs.toList xs) (hx : K.is s.heap xv x) (hu : A.units + 1 + K.un < cLine) : True := trivial
end
end Mine

-- part MPairs
namespace Mine
open PySem PySem.W PySem.Calls PyProof.Rows PySem.SeqAt

theorem keys_miss_list_name : typeLookup (.type "list") "keys" = pure none := am_miss_of_fast (by decide +kernel)

section
variable {prog : Program} {w : World} {A : Around} {s : Shared}
theorem keys_miss {a : Addr} {xs : Array Value} {Q : Option Value → Shared → Prop} (hx : s.heap.PlainList a xs) (hA : A.handled = none)
    (h : ∀ h' tk, Kp s.heap h' → Q none { s with heap := h', toks := tk }) : Wp prog w A (getAttr? (.ref a) "keys") Q s := by
  obtain ⟨k, hx⟩ := hx
  obtain ⟨hp, g, d, tk, os⟩ := s
  have hT : ∀ tk', (⟨hp, g, d, tk', os⟩ : Shared).TypeIs (.ref a) "list" := fun _ => ⟨_, hx, rfl⟩
  have f1 := sub_AttributeError
  have f3 := PySem.F.slot_list_getattribute.lookup
  have f4 := PySem.F.slot_list_getattribute.bind (.ref a)
  have f5 := am_list_getattr_none
  unfold getAttr? getAttrBy? getAttrBy
  repeat (any_goals (first | assumption | exact hT _ | ((with_reducible show wpAny _ _ (call (Value.builtin "list.__getattribute__") _ _) _ _ _); refine call_meets PySem.F.slot_list_getattribute (hT _) am_entry_list_getattribute (PySem.F.args_list_getattribute_2 _ _) (meets_getattribute_miss_list a xs k #[] "keys" _ keys_miss_list_name (by decide) (by size_fits)) ⟨hx, hA, fun h' tk' e hx' => ?_⟩) | wp_step))
  obtain ⟨t', u', he⟩ := hx'.there
  have hE : ∀ tk'', (⟨h', g, d, tk'', os⟩ : Shared).TypeIs (.ref e) "AttributeError" := fun _ => ⟨_, he, rfl⟩
  show wpAny _ _ (getattributeRaised _ _ _ _ _ _ _) _ _ _
  unfold getattributeRaised
  repeat (any_goals (first | assumption | exact hE _ | wp_step))
  exact h h' tk' hx'.keeps
end

/-- a square and a one -/
def PrIs (h : Heap) (v : Value) (p : Sq) : Prop := ∃ a key t, v = .ref a ∧ h.IsTuple a #[key, .int 1 t] ∧ Kd.sq.is h key p
def Kd.pr : Kd Sq where
  is := PrIs
  lt := fun _ _ => false
  un := cLine
  tp := fun t x => let ⟨a, key, t', e, ht, hk⟩ := x; ⟨a, key, t', e, isTuple_tp ht t, Kd.sq.tp t hk⟩
  inj := fun x y => by
    obtain ⟨a, key, t, rfl, ha, hk⟩ := x
    obtain ⟨b, key', t', e, hb, hk'⟩ := y
    injection e with e
    subst e
    have e := isTuple_inj ha hb
    simp only [Array.mk.injEq, List.cons.injEq, and_true] at e
    obtain ⟨rfl, _⟩ := e
    exact Kd.sq.inj hk hk'
  eqAt := fun _ _ hu => absurd hu (by omega)
  ltAt := fun _ _ hu => absurd hu (by omega)

abbrev sqKind (prog : Program) (w : World) : HeapKind prog w (List Int) := tupleKind (intKind prog w)
def sqK (p : Sq) : List Int := [p.1, p.2]
theorem sqK_inj {p q : Sq} (h : sqK p = sqK q) : p = q := by
  simp only [sqK, List.cons.injEq, and_true] at h
  exact Prod.ext h.1 h.2
section
variable {prog : Program} {w : World} {A : Around} {s : Shared}
theorem sq_key {h : Heap} {a : Addr} {p : Sq} (x : Kd.sq.is h (.ref a) p) : (sqKind prog w).is h (sqK p) a := by
  obtain ⟨t, t1, t2, e, o, ho, hc, n, hd⟩ := sq_open x
  injection e with e
  subst e
  exact ⟨o, _, n, ho, hc, hd, .cons (by simp [intKind, Value.isInt]) (.cons (by simp [intKind, Value.isInt]) .nil)⟩
theorem key_sq {h : Heap} {a : Addr} {p : Sq} (x : (sqKind prog w).is h (sqK p) a) : Kd.sq.is h (.ref a) p := by
  obtain ⟨o, items, n, ho, hc, hd, hi⟩ := x
  obtain ⟨l⟩ := items
  cases hi with
  | cons h1 r => cases r with
    | cons h2 r => cases r with
      | nil =>
        obtain ⟨t1, rfl⟩ := Value.isInt_shape h1
        obtain ⟨t2, rfl⟩ := Value.isInt_shape h2
        exact sq_mk ⟨o, ho, hc, n, hd⟩

def SqDict (prog : Program) (w : World) (h : Heap) (d : Addr) (ps : List Sq) : Prop := ∃ xs, h.DictOfH (sqKind prog w) d xs ∧ xs.map (·.1) = ps.map sqK
theorem SqDict.up {X : List Addr} {h h' : Heap} {d : Addr} {ps : List Sq} (x : SqDict prog w h d ps) (k : KpB X h h') (hd : d ∉ X) (hX : ∀ i ∈ X, NT h i) : SqDict prog w h' d ps := by
  obtain ⟨xs, ⟨o, es, ep, ho, hc, hdat, he, his, hn⟩, hk⟩ := x
  have tp := k.tp hX
  refine ⟨xs, ⟨o, es, ep, k d o hd ho, hc, hdat, he, fun x hx => ?_, hn⟩, hk⟩
  obtain ⟨o', items, n, ho', hc', hd', hi⟩ := his x hx
  exact ⟨o', items, n, tp _ _ ho' ⟨hc', _, _, hd'⟩, hc', hd', hi⟩
abbrev addK (acc : List Sq) (k : Sq) : List Sq := if k ∈ acc then acc else acc ++ [k]
theorem keys_stored {K : Type} [DecidableEq K] (xs : List (K × Addr × Value)) (k : K) (a : Addr) (v : Value) : (storedH xs k a v).map (·.1) = if k ∈ xs.map (·.1) then xs.map (·.1) else xs.map (·.1) ++ [k] := by
  cases h : atKey xs k with
  | none =>
    have hn : k ∉ xs.map (·.1) := by
      intro hm
      obtain ⟨x, hx, rfl⟩ := List.mem_map.mp hm
      unfold atKey at h
      rw [Option.map_eq_none_iff, List.find?_eq_none] at h
      exact h x hx (by simp)
    rw [storedH_new h, if_neg hn]; simp
  | some p =>
    have hm : k ∈ xs.map (·.1) := by
      unfold atKey at h
      obtain ⟨x, hx, _⟩ := Option.map_eq_some_iff.mp h
      have h1 := List.mem_of_find?_eq_some hx
      have h2 := List.find?_some hx
      exact List.mem_map.mpr ⟨x, h1, by simpa using h2⟩
    rw [storedH_old h, keys_map_putAt, if_pos hm]
theorem mem_map_sqK {p : Sq} {ps : List Sq} : sqK p ∈ ps.map sqK ↔ p ∈ ps := by
  constructor
  · intro h
    obtain ⟨q, hq, e⟩ := List.mem_map.mp h
    rw [← sqK_inj e]; exact hq
  · intro h; exact List.mem_map_of_mem h
theorem addK_len (acc : List Sq) (k : Sq) : (addK acc k).length ≤ acc.length + 1 := by
  unfold addK
  split
  · omega
  · simp

theorem sqdict_set {d : Addr} {kv v : Value} {p : Sq} {ps : List Sq} {Q : Unit → Shared → Prop} (hu : A.units < cLine) (hk : Kd.sq.is s.heap kv p) (hd : SqDict prog w s.heap d ps) (hz : ps.length ≤ 100000)
    (h : ∀ s', UpB [d] s s' → SqDict prog w s'.heap d (addK ps p) → Q () s') : Wp prog w A (dictSet d kv v) Q s := by
  obtain ⟨t, _, _, rfl, _⟩ := sq_open hk
  obtain ⟨xs, hD, hxs⟩ := hd
  have hl : xs.length = ps.length := by rw [← List.length_map (f := (·.1)), hxs, List.length_map]
  refine wpAny_dictSet_heap (knd := sqKind prog w) (hsz := by rw [sizeLine_eq]; omega) hu (sq_key hk) hD fun h' hD' hs => ?_
  refine h _ (UpB.one hs.extBut) ⟨_, hD', ?_⟩
  rw [keys_stored, hxs]
  unfold addK
  by_cases hm : p ∈ ps
  · rw [if_pos (mem_map_sqK.mpr hm), if_pos hm]
  · rw [if_neg (fun q => hm (mem_map_sqK.mp q)), if_neg hm]; simp
end

namespace F
theorem entry_dict_update_loop : entryFor table "dict.update.loop" = some Builtin.«dict.update.loop» := entryFor_of_tree (by kernel_rfl)
theorem plain_dict_update_loop : plainId "dict.update.loop" = true := by decide +kernel
end F

section
variable {prog : Program} {w : World} {A : Around} {s : Shared} {R : Result → Shared → Prop}
variable {I : Addr} {fp : List Addr} {P : Nat → Value → Prop} {St : Nat → Heap → Prop} {vs : List Value} {ps : List Sq}

theorem pairs_loop (W : Walks prog w A.in1 I fp [I] vs.length P St) (hP : ∀ i v, P i v → vs[i]? = some v) (hnt : ∀ i h, St i h → ∀ b ∈ [I], NT h b) (D : Addr) (hDf : D ∉ fp) (hu : A.units + 10 < cLine) (hlen : vs.length ≤ 1000) :
    ∀ (k i : Nat) (s : Shared) (done : List Sq), vs.length - i = k → i ≤ vs.length → St i s.heap → Vals Kd.pr s.heap vs ps → SqDict prog w s.heap D done → done.length ≤ i →
    (∀ s', UpB [D, I] s s' → SqDict prog w s'.heap D ((ps.drop i).foldl addK done) → R (.ok (.ret .none)) s') →
    codeAny (model prog w) A (.builtin "dict.update.loop" ⟨[.ref D, .ref I, rawInt (i : Int), .none], []⟩) R s := by
  have hDI : D ∉ [I] := fun h => hDf (W.sub _ h)
  intro k
  induction k with
  | zero =>
    intro i s done hk hi hst hv hD hdl hR
    have hin : i = vs.length := by omega
    have hl := hv.length
    have hd : ps.drop i = [] := List.drop_of_length_le (by omega)
    rw [hd, List.foldl_nil] at hR
    refine codeAny_builtin F.entry_dict_update_loop ?_
    rw [Around.under_plainId F.plain_dict_update_loop _]
    show wpAny _ A.in1 (pyNext (.ref I) >>= _) _ _ s
    refine wpAny_bind (W.done s _ _ (hin ▸ hst) fun h' tk hk' => ?_)
    show wpAny _ A.in1 (Builtin.Dict.addKeywords D [] >>= _) _ _ _
    have k1 : KpB [I] s.heap h' := hk'
    refine wpAny_bind (wpAny_pure (wpAny_pure (hR _ ?_ (hD.up k1 hDI (hnt _ _ hst)))))
    exact ⟨k1.mono fun i h => .tail _ h, rfl, rfl, rfl⟩
  | succ k ih =>
    intro i s done hk hi hst hv hD hdl hR
    have hlt : i < vs.length := by omega
    have hl := hv.length
    have hd : ps.drop i = ps[i]'(by omega) :: ps.drop (i + 1) := List.drop_eq_getElem_cons (by omega)
    rw [hd, List.foldl_cons] at hR
    refine codeAny_builtin F.entry_dict_update_loop ?_
    rw [Around.under_plainId F.plain_dict_update_loop _]
    show wpAny _ A.in1 (pyNext (.ref I) >>= _) _ _ s
    refine wpAny_bind (W.item i s _ _ hlt hst fun v h' tk hPv hst' hk' => ?_)
    have k1 : KpB [I] s.heap h' := hk'
    have t1 : Tp s.heap h' := k1.tp (hnt _ _ hst)
    have hv' := hv.tp t1
    have hD' := hD.up k1 hDI (hnt _ _ hst)
    obtain ⟨T, key, t, rfl, hT, hkey⟩ : Kd.pr.is h' v (ps[i]'(by omega)) := by
      obtain ⟨x, ex, ix⟩ := Vals.get' hv' (hP _ _ hPv)
      have : x = ps[i]'(by omega) := by
        rw [List.getElem?_eq_getElem (by omega)] at ex
        exact (Option.some.inj ex).symm
      rw [← this]; exact ix
    have hTT : Shared.TypeIs { s with heap := h', toks := tk } (.ref T) "tuple" := let ⟨o, ho, hc, _⟩ := hT; ⟨o, ho, hc⟩
    obtain ⟨o, ho, hc, n, hdat⟩ := id hT
    refine wpAny_bind (wpAny_holding (wpAny_bind (wpAny_tryCatch ?_)))
    unfold Builtin.Dict.pairItems
    refine wpAny_bind (wpAny_typeOf hTT ?_)
    simp only [show (Value.type "tuple" == Value.type "list") = false by decide, beq_self_eq_true, Bool.false_or, if_true]
    refine wpAny_bind (wpAny_seqItems ho hdat (wpAny_pure ?_))
    show wpAny _ A.in1 (holding [key, .int 1 t] (dictSet D key (.int 1 t))) _ _ _
    refine wpAny_holding (wp_any (sqdict_set (s := { s with heap := h', toks := tk }) (by show A.units + 1 < _; omega) hkey hD' (by omega) fun s₂ u₂ hD₂ => ?_))
    have e1 : ((i : Int) + 1) = ((i + 1 : Nat) : Int) := by omega
    have hD₂n : D ∉ [I] := hDI
    have ntD : ∀ i ∈ [D], NT h' i := fun i hi => by
      rw [List.mem_singleton.mp hi]
      obtain ⟨xs, ⟨o, es, ep, ho, hc, hdat, _⟩, _⟩ := hD'
      intro o' ho' q
      rw [ho] at ho'; cases ho'
      obtain ⟨_, ws, n, q⟩ := q
      rw [hdat] at q; cases q
    have t2 : Tp h' s₂.heap := u₂.kp.tp ntD
    show wpAny _ A.in1 (again (.builtin "dict.update.loop" ⟨[.ref D, .ref I, rawInt ((i : Int) + 1), .none], []⟩)) _ _ _
    rw [e1]
    refine wpAny_pure ⟨plainId_quiet F.plain_dict_update_loop _, ih (i + 1) s₂ _ (by omega) hlt (W.frame _ _ _ hst' fun b hb o e => u₂.kp b o (fun q => by rw [List.mem_singleton.mp q] at hb; exact hDf hb) e) (hv'.tp t2) hD₂ (Nat.le_trans (addK_len _ _) (by omega)) fun s₃ u₃ hD₃ => hR s₃ ?_ hD₃⟩
    have u0 : UpB [I] s { s with heap := h', toks := tk } := UpB.step k1
    exact (u0.mono fun i h => .tail _ h).trans ((u₂.mono fun i h => by rw [List.mem_singleton.mp h]; exact .head _).trans u₃)

theorem dict_call {l : Addr} {items : Array Value} {Q : Value → Shared → Prop} (hh : A.handled = none) (hl : s.heap.PlainList l items) (hv : Vals Kd.pr s.heap items.toList ps) (hlen : ps.length ≤ 1000) (hu : A.units + 12 < cLine)
    (h : ∀ D s', Up s s' → s.heap.get? D = none → s.heap.objs.size ≤ D → SqDict prog w s'.heap D (dedup ps) → Q (.ref D) s') : Wp prog w A (call (.type "dict") [.ref l]) Q s := by
  refine callType_codes (Q₁ := fun obj s₁ => obj = .ref s.heap.objs.size ∧ s₁ = { s with heap := s.heap.push { cls := .type "dict", data := .dict #[] } }) PySem.F.kt_called_dict (PySem.F.kt_typeCall_dict_1 _) PySem.F.entry_dict_init (kt_code_dict_new _ ⟨rfl, rfl⟩) ?_
  rintro obj s₁ ⟨rfl, rfl⟩
  have kp0 : Kp s.heap (s.heap.push { cls := .type "dict", data := .dict #[] }) := Kp.push _ _
  have hnew : (s.heap.push { cls := .type "dict", data := .dict #[] }).DictOfH (sqKind prog w) s.heap.objs.size [] := Heap.DictOfH.new s.heap
  have hl' := hl.at (h' := s.heap.push { cls := .type "dict", data := .dict #[] }) fun o e => kp0 _ o e
  have hl'T : Shared.TypeIs { s with heap := s.heap.push { cls := .type "dict", data := .dict #[] } } (.ref l) "list" := let ⟨n, e⟩ := hl'; ⟨_, e, rfl⟩
  refine ⟨hnew.typeIs, PySem.F.args_dict_init_2 _ _, ?_⟩
  unfold Builtin.«dict.__init__»
  refine wpAny_bind ?_
  unfold Builtin.Dict.selfAndRest
  refine wpAny_bind (wpAny_notOrdered_dict (s := { s with heap := s.heap.push { cls := .type "dict", data := .dict #[] } }) hnew.typeIs ?_)
  show wpAny _ _ (pure (s.heap.objs.size, [Value.ref l])) _ _ _
  refine wpAny_pure ?_
  show wpAny _ _ (Builtin.Dict.updateFrom "dict.__init__" s.heap.objs.size (.ref l) [] .none) _ _ _
  unfold Builtin.Dict.updateFrom
  refine wpAny_bind (wpAny_typeOf hl'T ?_)
  rw [if_pos (by decide)]
  refine wpAny_bind (wp_any (keys_miss hl' hh fun h₁ tk₁ kp₁ => ?_))
  simp only [Option.isNone_none, if_true]
  refine wpAny_bind (wpAny_rule ?_)
  have hv₁ : Vals Kd.pr h₁ items.toList ps := hv.tp (kp0.trans kp₁).tp
  have hl₁ := (hl'.at fun o e => kp₁ _ o e).isList
  have hD₁ : SqDict prog w h₁ s.heap.objs.size [] := SqDict.up (X := []) ⟨[], hnew, rfl⟩ kp₁.but (fun h => nomatch h) (fun _ h => nomatch h)
  refine wpAny_bind (wp_any (seq_iter (K := Kd.pr) (A := A.in1.in1) (s := { s with heap := h₁, toks := tk₁ }) hh ⟨l, items, rfl, .inr hl₁, hv₁⟩ fun I a fp P St vs h₂ hva W hP hnt hio hst hI hfp hk hv₂ hfp2 => ?_))
  have hDlt : s.heap.objs.size < h₁.objs.size := by
    obtain ⟨xs, ⟨o, es, ep, ho, _⟩, _⟩ := hD₁
    exact Heap.lt_size ho
  have hll : l < s.heap.objs.size := let ⟨n, e⟩ := hl; Heap.lt_size e
  have hDf : s.heap.objs.size ∉ fp := fun hm => by
    rcases hfp2 _ hm with e | e
    · have hI' : I = h₁.objs.size := hI
      rw [e, hI'] at hDlt; exact Nat.lt_irrefl _ hDlt
    · injection hva with hva
      rw [hva] at hll
      rw [e] at hll
      exact Nat.lt_irrefl _ hll
  have hlen2 : vs.length ≤ 1000 := by rw [hv₂.length]; exact hlen
  have hD₂ : SqDict prog w h₂ s.heap.objs.size [] := hD₁.up (X := []) hk.but (fun h => nomatch h) (fun _ h => nomatch h)
  have u₂ : Up s { s with heap := h₂, toks := tk₁ } := UpB.of_k ((kp0.trans kp₁).trans hk)
  refine wpAny_pure ⟨plainId_quiet F.plain_dict_update_loop _, pairs_loop (A := A.in1) W hP hnt s.heap.objs.size hDf (by show A.units + 1 + 10 < _; omega) hlen2 _ 0 { s with heap := h₂, toks := tk₁ } [] rfl (Nat.zero_le _) hst hv₂ hD₂ (Nat.le_refl _) fun s₃ u₃ hD₃ => ?_⟩
  refine ⟨rfl, h _ s₃ ?_ (Heap.get?_none_of_le (Nat.le_refl _)) (Nat.le_refl _) hD₃⟩
  refine UpB.fresh (X := [s.heap.objs.size, I]) (u₂.up.trans u₃) fun i hi => ?_
  simp only [List.mem_cons, List.not_mem_nil, or_false] at hi
  rcases hi with rfl | rfl
  · exact Heap.get?_none_of_le (Nat.le_refl _)
  · have hI' : i = h₁.objs.size := hI
    exact Heap.get?_none_of_le (by rw [hI']; exact Nat.le_of_lt hDlt)

theorem collect_dict {d : Addr} (hh : A.handled = none) (lo : (d == sysModules) = false) (hd : SqDict prog w s.heap d ps) (hz : ps.length ≤ 1000) : Wp prog w A (collect (.ref d)) (fun vs s₁ => Up s s₁ ∧ Vals Kd.sq s₁.heap vs ps) s := by
  obtain ⟨xs, hD, hxs⟩ := hd
  have hl : xs.length = ps.length := by rw [← List.length_map (f := (·.1)), hxs, List.length_map]
  obtain ⟨es, ep, hraw, hes⟩ := raw_of hD
  have his : ∀ x ∈ xs, (sqKind prog w).is s.heap x.1 x.2.1 := let ⟨_, _, _, _, _, _, _, his, _⟩ := hD; his
  have hsz : es.size = xs.length := by rw [← Array.length_toList, hes, List.length_map]
  refine raw_collect lo hh hraw (by rw [sizeLine_eq]; omega) fun h' tk acc kp hacc => ⟨UpB.of_k kp, ?_⟩
  rw [hacc, hes, List.map_map]
  clear hacc hraw hes hsz hl hD hz
  induction ps generalizing xs with
  | nil =>
    cases xs with
    | nil => exact .nil
    | cons x r => simp at hxs
  | cons p ps ih =>
    cases xs with
    | nil => simp at hxs
    | cons x r =>
      simp only [List.map_cons, List.cons.injEq] at hxs
      refine .cons ?_ (ih r hxs.2 fun y hy => his y (.tail _ hy))
      have q := his x (.head _)
      rw [hxs.1] at q
      exact Kd.sq.tp kp.tp (key_sq q)
end
end Mine

-- part MComp2
namespace Mine
open PySem PySem.W PySem.Calls PyProof.Rows PySem.SeqAt

section
variable {prog : Program} {w : World} {A : Around} {E : Value → Shared → Prop} {s : Shared}
variable {α β γ : Type} [DecidableEq α] [DecidableEq β] [DecidableEq γ] {K : Kd α} {K2 : Kd β} {K3 : Kd γ} {M : (Str → Option Value) → Prop}

/-- what the loop keeps, with a word on the frame's names -/
structure CAccM (M : (Str → Option Value) → Prop) (K2 : Kd β) (C D : Addr) (zs : List β) (s : Shared) : Prop where
  ns : ∃ m, s.heap.Ns C m ∧ M m
  acc : ∃ ys, s.heap.PlainList D ys ∧ Vals K2 s.heap ys.toList zs
theorem CAccM.c {C D : Addr} {zs : List β} {s : Shared} (x : CAccM M K2 C D zs s) : CAcc K2 C D zs s := ⟨let ⟨m, h, _⟩ := x.ns; ⟨m, h⟩, x.acc⟩
theorem CAccM.up {C D : Addr} {zs : List β} {X : List Addr} {s s' : Shared} (x : CAccM M K2 C D zs s) (u : UpB X s s') (hC : C ∉ X) (hD : D ∉ X) (hX : ∀ i ∈ X, NT s.heap i) : CAccM M K2 C D zs s' := by
  obtain ⟨⟨m, hn, hm⟩, ys, hl, hv⟩ := x
  exact ⟨⟨m, hn.at' fun o e => u.kp _ o hC e, hm⟩, ys, hl.at fun o e => u.kp _ o hD e, hv.tp (u.tp hX)⟩

theorem acc_loopM {elt target iter : Expr} {gens : List Comprehension} {ifs : List Expr} {scope : Scope} {pos : Pos} {d : Nat} {env : Env} {I C D : Addr} {fp wr : List Addr} {P : Nat → Value → Prop} {St : Nat → Heap → Prop} {xs : List α} {zs : List β} {g : α → List β} {vs : List Value}
    (W : Walks prog w A I fp wr vs.length P St) (emit : Sem Unit)
    (heq : compTurn (.ListComp elt gens scope pos) d (.ref I) (.ref D) env = (standAt iter.pos >>= fun _ => pyNext (.ref I) >>= fun r => match r with
      | none => pure (.done .next)
      | some v => turnT target ifs (.ref I) env v emit >>= fun _ => again (.compLoop (.ListComp elt gens scope pos) d (.ref I) (.ref D) env)))
    (hP : ∀ i v, P i v → vs[i]? = some v) (hnt : ∀ i h, St i h → ∀ b ∈ wr, NT h b) (hio : ∀ i h, St i h → IterAt h I) (hx : Vals K s.heap vs xs)
    (hCf : C ∉ fp) (hDf : D ∉ fp) (hst : St 0 s.heap) (h0 : CAccM M K2 C D zs s) (hz : zs.length + (xs.flatMap g).length ≤ 100000)
    (turn : ∀ x v s₃ zs', x ∈ xs → K.is s₃.heap v x → CAccM M K2 C D zs' s₃ → zs'.length + (g x).length ≤ 100000 → UpB (C :: D :: wr) s s₃ →
      Wp prog w A (turnA target ifs env v emit) (fun _ s₄ => UpB [C, D] s₃ s₄ ∧ CAccM M K2 C D (zs' ++ g x) s₄) s₃) :
    codeAny (model prog w) A (.compLoop (.ListComp elt gens scope pos) d (.ref I) (.ref D) env) (fun r s' => r = .ok .next ∧ UpB (C :: D :: wr) s s' ∧ CAccM M K2 C D (zs ++ xs.flatMap g) s') s := by
  have hCw : C ∉ wr := fun h => hCf (W.sub _ h)
  have hDw : D ∉ wr := fun h => hDf (W.sub _ h)
  have hl := hx.length
  have nt0 : ∀ i ∈ C :: D :: wr, NT s.heap i := fun i hi => by
    rcases List.mem_cons.mp hi with rfl | hi
    · exact NT.ns h0.ns.choose_spec.1
    · rcases List.mem_cons.mp hi with rfl | hi
      · exact NT.list h0.acc.choose_spec.1.isList
      · exact hnt _ _ hst i hi
  refine comp_loop W emit heq (fun i s' => UpB (C :: D :: wr) s s' ∧ St i s'.heap ∧ CAccM M K2 C D (zs ++ (xs.take i).flatMap g) s') (fun _ _ h => h.2.1) ?_ ?_ ⟨UpB.refl s, hst, by simpa using h0⟩
  · rintro i s₁ v h' tk hi ⟨u, st, ca⟩ hp st' kp
    obtain ⟨x, ex, _⟩ := Vals.get' hx (hP i v hp)
    have up : UpB wr s₁ { s₁ with heap := h', toks := tk } := UpB.step kp
    have u2 : UpB (C :: D :: wr) s { s₁ with heap := h', toks := tk } := u.trans (up.mono fun i h => List.mem_cons_of_mem _ (List.mem_cons_of_mem _ h))
    have ca2 := ca.up up hCw hDw (hnt _ _ st)
    have hv : K.is h' v x := by
      obtain ⟨v', ev, iv⟩ := Vals.get (hx.tp (u2.tp nt0)) ex
      rw [hP i v hp] at ev; cases ev; exact iv
    have hb : (zs ++ (xs.take i).flatMap g).length + (g x).length ≤ 100000 := by
      have q := flat_le xs g (i + 1)
      rw [flat_take ex, List.length_append] at q
      rw [List.length_append]; omega
    unfold turnT
    refine wpAny_bind (owned_noop (hio _ _ st') ?_)
    refine wp_mono (turn x v _ _ (List.mem_of_getElem? ex) hv ca2 hb u2) fun _ s₄ h₄ => ?_
    refine ⟨u2.trans (h₄.1.mono fun i h => ?_), W.frame _ _ _ st' fun b hb o e => h₄.1.kp b o (fun q => ?_) e, ?_⟩
    · rcases List.mem_cons.mp h with rfl | h
      · exact .head _
      · rw [List.mem_singleton.mp h]; exact .tail _ (.head _)
    · rcases List.mem_cons.mp q with rfl | q
      · exact hCf hb
      · rw [List.mem_singleton.mp q] at hb; exact hDf hb
    · have := h₄.2
      rw [flat_take ex, ← List.append_assoc]; exact this
  · rintro s₁ h' tk ⟨u, st, ca⟩ kp
    have up : UpB wr s₁ { s₁ with heap := h', toks := tk } := UpB.step kp
    refine ⟨rfl, u.trans (up.mono fun i h => List.mem_cons_of_mem _ (List.mem_cons_of_mem _ h)), ?_⟩
    have := ca.up up hCw hDw (hnt _ _ st)
    rw [List.take_of_length_le (by omega)] at this
    exact this

theorem turn_lastM {target elt : Expr} {ifs : List Expr} {env : Env} {v : Value} {C D : Addr} {zs g : List β} (hCD : C ≠ D) (ca : CAccM M K2 C D zs s) (hz : zs.length + g.length ≤ 100000)
    (h : Wp prog w A (assign target env v) (fun _ s₄ => Wp prog w A (testsT ifs env) (fun ok s₅ =>
      (ok = true ∧ Wp prog w A (eval elt env) (fun y s₆ => UpB [C] s s₆ ∧ (∃ m, s₆.heap.Ns C m ∧ M m) ∧ ∃ z, g = [z] ∧ K2.is s₆.heap y z) s₅) ∨ (ok = false ∧ g = [] ∧ UpB [C] s s₅ ∧ ∃ m, s₅.heap.Ns C m ∧ M m)) s₄) s) :
    Wp prog w A (turnA target ifs env v (emitL elt (.ref D) env)) (fun _ s₄ => UpB [C, D] s s₄ ∧ CAccM M K2 C D (zs ++ g) s₄) s := by
  unfold turnA
  have ntC : ∀ i ∈ [C], NT s.heap i := fun i hi => by rw [List.mem_singleton.mp hi]; exact NT.ns ca.ns.choose_spec.1
  have sub : ∀ i ∈ [C], i ∈ [C, D] := fun i hi => by rw [List.mem_singleton.mp hi]; exact .head _
  obtain ⟨_, ys, hl, hv⟩ := ca
  refine wpAny_bind (wp_mono h fun _ s₄ h₄ => wpAny_bind (wp_mono h₄ fun ok s₅ h₅ => ?_))
  rcases h₅ with ⟨rfl, h₅⟩ | ⟨rfl, rfl, u, m⟩
  · simp only [if_true]
    unfold emitL
    refine wpAny_bind (wp_mono h₅ fun y s₆ h₆ => ?_)
    obtain ⟨u, ⟨m, hn, hm⟩, z, rfl, hy⟩ := h₆
    have hDC : D ∉ [C] := by simpa using Ne.symm hCD
    have hl₆ : s₆.heap.PlainList D ys := hl.at fun o e => u.kp _ o hDC e
    have hsz : ys.size ≤ sizeLine := by
      have := hv.length
      rw [Array.length_toList] at this
      rw [sizeLine_eq]; simp at hz; omega
    refine wpAny_bind (wpAny_list_append_plain (hsz := hsz) hl₆ fun h₇ hl₇ hs₇ => wpAny_pure ⟨?_, ⟨m, hn.at' fun o e => hs₇.extBut _ o hCD e, hm⟩, _, hl₇, ?_⟩)
    · exact (u.mono sub).trans (UpB.mono (UpB.one (tk := s₆.toks) hs₇.extBut) fun i hi => by rw [List.mem_singleton.mp hi]; exact .tail _ (.head _))
    · have t7 : Tp s₆.heap h₇ := KpB.tp (KpB.of_ext hs₇.extBut) fun i hi => by rw [List.mem_singleton.mp hi]; exact NT.list hl₆.isList
      rw [Array.toList_push]
      exact Vals.append ((hv.tp (u.tp ntC)).tp t7) (.cons (K2.tp t7 hy) .nil)
  · simp only [Bool.false_eq_true, if_false]
    refine wpAny_pure ⟨u.mono sub, m, ys, hl.at fun o e => u.kp _ o (by simpa using Ne.symm hCD) e, ?_⟩
    rw [List.append_nil]
    exact hv.tp (u.tp ntC)

theorem codeAny_compStart_at {R : Result → Shared → Prop} {elt target iter : Expr} {ifs : List Expr} {gens : List Comprehension} {scope : Scope} {pos : Pos} {d : Nat} {it acc : Value} {env : Env} (hd : gens[d]? = some ⟨target, iter, ifs, 0⟩)
    (h0 : codeAny (model prog w) A (.compLoop (.ListComp elt gens scope pos) d it acc env) R s)
    (h : wpAny (model prog w) A (pyIter it) (fun it' s' => codeAny (model prog w) A (.compLoop (.ListComp elt gens scope pos) d it' acc env) R s')
      (notedBy (model prog w) A env fun x s' => R (.error x) s') s) :
    codeAny (model prog w) A (.compStart (.ListComp elt gens scope pos) d it acc env) R s := by
  refine codeAny_of_tree ?_
  show wpAny _ _ ((compStart (.ListComp elt gens scope pos) d it acc env).onRaise (fun x => do noteFrame x env; standAt theWindowsPlace)) _ _ s
  refine wpAny_notedAt ?_
  unfold compStart
  have e : clausesOf (.ListComp elt gens scope pos) = gens := rfl
  rw [e, hd]
  show wpAny _ _ (ask >>= _) _ _ s
  refine wpAny_bind (wpAny_askSetting (wpAny_ite ?_))
  split
  · first
      | exact wpAny_bind (wpAny_pure (wpAny_pure (And.intro rfl h0)))
      | exact wpAny_pure (And.intro rfl h0)
  · first
      | exact wpAny_bind (wpAny_rule (wpAny_bind (wpAny_standAt (wpAny_bind (wpAny_mono h (fun it' s' h' => wpAny_pure (And.intro rfl h')) fun _ _ x => x)))))
      | (refine wpAny_bind (wpAny_rule ?_); show wpAny _ _ (standAt iter.pos >>= _) _ _ s; exact wpAny_bind (wpAny_standAt (wpAny_bind (wpAny_mono h (fun it' s' h' => wpAny_pure (And.intro rfl h')) fun _ _ x => x))))

/-- a comprehension of two clauses, a test on the second -/
theorem comp2 {elt target iter target' iter' : Expr} {ifs' : List Expr} {scope : Scope} {pos : Pos} {env : Env} {cl : List (Str × Addr)} {Q : Value → Shared → Prop} {xs : List α} {ws : α → List γ} {g : α → γ → List β} {M : α → (Str → Option Value) → Prop}
    (hh : A.handled = none) (hclos : closureFor scope env = pure cl) (hkind : scope.kind = .function) (hnames : ∀ x ∈ scope.names, x.2 = .local → scope.names.lookup x.1 = some .local) (hcell : ∀ x ∈ scope.names, x.2 ≠ .cell)
    (hz : (xs.flatMap fun x => (ws x).flatMap (g x)).length ≤ 100000)
    (src : Wp prog w A (eval iter env) (fun v s₁ => Up s s₁ ∧ SeqIs K s₁.heap v xs) s)
    (turn1 : ∀ C x v s₃ m, x ∈ xs → K.is s₃.heap v x → s₃.heap.Ns C m → Up s s₃ → s.heap.get? C = none →
      Wp prog w A (assign target (compEnvC scope cl C env) v) (fun _ s₄ => Wp prog w A (eval iter' (compEnvC scope cl C env)) (fun u s₅ => UpB [C] s₃ s₅ ∧ (∃ m, s₅.heap.Ns C m ∧ M x m) ∧ SeqIs K3 s₅.heap u (ws x) ∧ ∀ a, u = .ref a → s₃.heap.get? a = none) s₄) s₃)
    (turn2 : ∀ C x y v s₃ m, x ∈ xs → y ∈ ws x → K3.is s₃.heap v y → s₃.heap.Ns C m → M x m → Up s s₃ → s.heap.get? C = none →
      Wp prog w A (assign target' (compEnvC scope cl C env) v) (fun _ s₄ => Wp prog w A (testsT ifs' (compEnvC scope cl C env)) (fun ok s₅ =>
        (ok = true ∧ Wp prog w A (eval elt (compEnvC scope cl C env)) (fun z s₆ => UpB [C] s₃ s₆ ∧ (∃ m, s₆.heap.Ns C m ∧ M x m) ∧ ∃ b, g x y = [b] ∧ K2.is s₆.heap z b) s₅) ∨ (ok = false ∧ g x y = [] ∧ UpB [C] s₃ s₅ ∧ ∃ m, s₅.heap.Ns C m ∧ M x m)) s₄) s₃)
    (h : ∀ D ys s', Up s s' → s.heap.get? D = none → s'.heap.PlainList D ys → Vals K2 s'.heap ys.toList (xs.flatMap fun x => (ws x).flatMap (g x)) → Q (.ref D) s')
    (hs : ∀ x, foldedSetIterable iter env x = pure x := by intro _; rfl) (hs' : ∀ e x, foldedSetIterable iter' e x = pure x := by intro _ _; rfl) :
    Wp prog w A (eval (.ListComp elt [⟨target, iter, [], 0⟩, ⟨target', iter', ifs', 0⟩] scope pos) env) Q s := by
  refine list_comp hh hclos hkind hnames hcell src (fun I C D fp P St vs s₂ W hP hnt hio hst hCf hDf hCI hDI hCD hC hD hI u2 hv ca => ?_) h hs
  have e : ([] : List β) ++ (xs.flatMap fun x => (ws x).flatMap (g x)) = xs.flatMap fun x => (ws x).flatMap (g x) := rfl
  rw [← e]
  have fresh : ∀ i ∈ [C, D, I], s.heap.get? i = none := fun i hi => by
    simp only [List.mem_cons, List.not_mem_nil, or_false] at hi
    rcases hi with rfl | rfl | rfl
    · exact hC
    · exact hD
    · exact hI
  refine codeAny_mono (acc_loop (K := K) (K2 := K2) (g := fun x => (ws x).flatMap (g x)) W (emitM (.ListComp elt [⟨target, iter, [], 0⟩, ⟨target', iter', ifs', 0⟩] scope pos) 1 iter' (.ref D) (compEnvC scope cl C env)) (compTurn_mid rfl rfl) hP hnt hio hv hCf hDf hst ca (by simpa using hz) fun x v s₃ zs' hx hvx ca' hz' u3 => ?_) fun r s' hr => hr
  obtain ⟨m, hm⟩ := ca'.ns
  have us₃ : Up s s₃ := UpB.fresh (u2.up.trans u3) fresh
  have ntC : ∀ i ∈ [C], NT s₃.heap i := fun i hi => by rw [List.mem_singleton.mp hi]; exact NT.ns hm
  unfold turnA
  refine wpAny_bind (wp_mono (turn1 C x v s₃ m hx hvx hm us₃ hC) fun _ s₄ h₄ => ?_)
  refine wpAny_bind (wpAny_tests_nil ?_)
  simp only [if_true]
  unfold emitM
  refine wpAny_bind (wp_mono h₄ fun u s₅ h₅ => ?_)
  obtain ⟨u₅, ⟨m₅, hn₅, hM₅⟩, hsq, hfr⟩ := h₅
  obtain ⟨_, ys, hl, hvy⟩ := ca'
  have hDC : D ∉ [C] := by simpa using Ne.symm hCD
  have ca₅ : CAccM (M x) K2 C D zs' s₅ := ⟨⟨m₅, hn₅, hM₅⟩, ys, hl.at fun o e => u₅.kp _ o hDC e, hvy.tp (u₅.tp ntC)⟩
  refine wpAny_bind (wpAny_standAt ?_)
  rw [hs']
  refine wpAny_bind (wpAny_pure ?_)
  refine wpAny_bind (wpAny_holding (seq_iter (K := K3) hh hsq fun I2 a fp2 P2 St2 vs2 h₆ hva W2 hP2 hnt2 hio2 hst2 hI2 hfp2 hk2 hv2 hfpa => ?_))
  have hClt : C < s₅.heap.objs.size := let ⟨o, _, _, ho, _⟩ := hn₅; Heap.lt_size ho
  have hDlt : D < s₅.heap.objs.size := let ⟨n, e⟩ := hl.at (fun o e => u₅.kp _ o hDC e); Heap.lt_size e
  have uk : UpB ([] : List Addr) s₅ { s₅ with heap := h₆ } := UpB.of_k (tk := s₅.toks) hk2
  have ca₆ := ca₅.up uk (fun h => nomatch h) (fun h => nomatch h) (fun _ h => nomatch h)
  have hC3 : ∀ b, s₃.heap.get? b = none → b ≠ C ∧ b ≠ D := by
    intro b hb
    constructor
    · intro e
      obtain ⟨o, _, _, ho, _⟩ := hm
      rw [e, ho] at hb; cases hb
    · intro e
      obtain ⟨n, ho⟩ := hl
      rw [e, ho] at hb; cases hb
  have hI2n : I2 = s₅.heap.objs.size := hI2
  have hCf2 : C ∉ fp2 := fun hm' => by
    rcases hfpa _ hm' with e | e
    · rw [e, hI2n] at hClt; exact Nat.lt_irrefl _ hClt
    · exact (hC3 a (hfr a hva)).1 e.symm
  have hDf2 : D ∉ fp2 := fun hm' => by
    rcases hfpa _ hm' with e | e
    · rw [e, hI2n] at hDlt; exact Nat.lt_irrefl _ hDlt
    · exact (hC3 a (hfr a hva)).2 e.symm
  have hI2f : s₃.heap.get? I2 = none := by
    cases e : s₃.heap.get? I2 with
    | none => rfl
    | some o =>
      by_cases hIC : I2 = C
      · rw [hIC] at hI2n; rw [hI2n] at hClt; exact absurd hClt (Nat.lt_irrefl _)
      · have := Heap.lt_size (u₅.kp I2 o (by simpa using hIC) e)
        rw [hI2n] at this; exact absurd this (Nat.lt_irrefl _)
  have u₆ : UpB [C] s₃ { s₅ with heap := h₆ } := u₅.trans uk.up
  have loop : codeAny (model prog w) A (.compLoop (.ListComp elt [⟨target, iter, [], 0⟩, ⟨target', iter', ifs', 0⟩] scope pos) 1 (.ref I2) (.ref D) (compEnvC scope cl C env)) (fun r s' => ∃ f, r = .ok f ∧ Wp prog w A (pure () : Sem Unit) (fun _ s₄ => UpB [C, D] s₃ s₄ ∧ CAcc K2 C D (zs' ++ (ws x).flatMap (g x)) s₄) s') { s₅ with heap := h₆ } := by
    refine codeAny_mono (acc_loopM (K := K3) (K2 := K2) (M := M x) (g := g x) (s := { s₅ with heap := h₆ }) W2 (emitL elt (.ref D) (compEnvC scope cl C env)) (compTurn_last rfl rfl) hP2 hnt2 hio2 hv2 hCf2 hDf2 hst2 ca₆ hz' fun y v₇ s₇ zs₇ hy hvy₇ ca₇ hz₇ u₇ => ?_) fun r s' hr => ?_
    · obtain ⟨m₇, hn₇, hM₇⟩ := ca₇.ns
      have fresh7 : ∀ i ∈ [I2, C, D], s.heap.get? i = none := fun i hi => by
        simp only [List.mem_cons, List.not_mem_nil, or_false] at hi
        rcases hi with rfl | rfl | rfl
        · cases e : s.heap.get? i with
          | none => rfl
          | some o => exact absurd ((us₃.k _ _ e).symm.trans hI2f) (by simp)
        · exact hC
        · exact hD
      have us₇ : Up s s₇ := UpB.fresh (us₃.up.trans ((u₆.mono fun i hi => by rw [List.mem_singleton.mp hi]; simp).trans (u₇.mono fun i hi => by
        simp only [List.mem_cons, List.not_mem_nil, or_false] at hi ⊢
        rcases hi with rfl | rfl | rfl <;> simp))) fresh7
      exact turn_lastM hCD ca₇ hz₇ (turn2 C x y v₇ s₇ m₇ hx hy hvy₇ hn₇ hM₇ us₇ hC)
    · obtain ⟨rfl, u₈, ca₈⟩ := hr
      refine ⟨_, rfl, wpAny_pure ⟨?_, ca₈.c⟩⟩
      have u₉ : UpB [I2, C, D] s₃ s' := (u₆.mono fun i hi => by rw [List.mem_singleton.mp hi]; simp).trans (u₈.mono fun i hi => by
        simp only [List.mem_cons, List.not_mem_nil, or_false] at hi ⊢
        rcases hi with rfl | rfl | rfl <;> simp)
      exact u₉.drop hI2f
  refine wpAny_bind (wpAny_runOwn (codeAny_compStart_at rfl (codeAny_mono loop fun r s' hr => ?_) (W2.self 0 _ _ _ hst2 (codeAny_mono loop fun r s' hr => ?_))))
  all_goals
    obtain ⟨f, rfl, hr⟩ := hr
    exact hr
end
end Mine

-- part MEv
namespace Mine
open PySem PySem.W PySem.Calls PyProof.Rows PySem.SeqAt

section
variable {prog : Program} {w : World} {A : Around} {s s₀ : Shared} {env : Env}
variable {α : Type} [DecidableEq α] {K : Kd α}

/-- an expression that gives a datum, wherever the state has gone on to -/
structure Ev (prog : Program) (w : World) (A : Around) (env : Env) (K : Kd α) (s₀ : Shared) (e : Expr) (x : α) : Prop where
  star : ∀ rest, starEach (e :: rest) env = (false, eval e env) :: starEach rest env
  ev : ∀ (s : Shared) (Q : Value → Shared → Prop), Up s₀ s → (∀ v s', Up s s' → K.is s'.heap v x → Q v s') → Wp prog w A (eval e env) Q s
inductive EvAll (prog : Program) (w : World) (A : Around) (env : Env) (K : Kd α) (s₀ : Shared) : List Expr → List α → Prop
  | nil : EvAll prog w A env K s₀ [] []
  | cons {e : Expr} {x : α} {es : List Expr} {xs : List α} : Ev prog w A env K s₀ e x → EvAll prog w A env K s₀ es xs → EvAll prog w A env K s₀ (e :: es) (x :: xs)

theorem Ev.up {e : Expr} {x : α} (h : Ev prog w A env K s₀ e x) (u : Up s₀ s) : Ev prog w A env K s e x := ⟨h.star, fun s' Q u' => h.ev s' Q (u.trans u')⟩
theorem EvAll.length {es : List Expr} {xs : List α} (h : EvAll prog w A env K s₀ es xs) : es.length = xs.length := by
  induction h with
  | nil => rfl
  | cons _ _ ih => simp [ih]
theorem EvAll.ev {pos : Pos} : ∀ {es : List Expr} {xs : List α} (h : EvAll prog w A env K s₀ es xs) (s : Shared) (Q : List Value → Shared → Prop), Up s₀ s → (∀ vs s', Up s s' → Vals K s'.heap vs xs → Q vs s') → Wp prog w A (spliced (backTo pos (starEach es env))) Q s
  | _, _, .nil, s, Q, u, h => wpAny_items_nil (h [] s (UpB.refl _) .nil)
  | _, _, .cons a r, s, Q, u, h => by
    refine wpAny_items_cons (a.ev s _ u fun v s₁ u₁ hv => r.ev s₁ _ (u.trans u₁) fun vs s₂ u₂ hvs => ?_) (a.star _)
    exact h _ _ (u₁.trans u₂) (.cons (K.tp u₂.k.tp hv) hvs)

theorem ev_int {i : Int} {k : Nat} {pos : Pos} : Ev prog w A env Kd.int s₀ (.Constant (.int i) k pos) i :=
  ⟨fun _ => rfl, fun s Q u h => wpAny_Constant_int (h _ _ (UpB.of_k (Kp.refl _)) ⟨_, rfl⟩)⟩
theorem ev_name {x : Str} {pos : Pos} {C : Addr} {m : Str → Option Value} {i : Int} {t : Tok} (hx : env.kindOf x = some .local) (hk : env.scope.kind = .function) (hC : env.locals = C) (hn : s₀.heap.Ns C m) (hv : m x = some (.int i t))
    (hd : (x == ("__debug__" : Str)) = false := by decide) : Ev prog w A env Kd.int s₀ (.Name x pos) i :=
  ⟨fun _ => rfl, fun s Q u h => name_local hx hk hC (hn.keeps u.k) hv (h _ _ (UpB.refl _) ⟨_, rfl⟩) hd⟩
theorem ev_cname {scope : Scope} {cl : List (Str × Addr)} {x : Str} {pos : Pos} {C : Addr} {m : Str → Option Value} {i : Int} {t : Tok} (hx : scope.names.lookup x = some .local) (hk : scope.kind = .function) (hn : s₀.heap.Ns C m) (hv : m x = some (.int i t))
    (hd : (x == ("__debug__" : Str)) = false := by decide) : Ev prog w A (compEnvC scope cl C env) Kd.int s₀ (.Name x pos) i :=
  ev_name (lookup_relabel_local hx) hk rfl hn hv hd
theorem ev_nameK {x : Str} {pos : Pos} {C : Addr} {m : Str → Option Value} {v : Value} {y : α} (hx : env.kindOf x = some .local) (hk : env.scope.kind = .function) (hC : env.locals = C) (hn : s₀.heap.Ns C m) (hv : m x = some v) (hy : K.is s₀.heap v y)
    (hd : (x == ("__debug__" : Str)) = false := by decide) : Ev prog w A env K s₀ (.Name x pos) y :=
  ⟨fun _ => rfl, fun s Q u h => name_local hx hk hC (hn.keeps u.k) hv (h _ _ (UpB.refl _) (K.tp u.k.tp hy)) hd⟩
theorem ev_add {e1 e2 : Expr} {a b : Int} {pos : Pos} (h1 : Ev prog w A env Kd.int s₀ e1 a) (h2 : Ev prog w A env Kd.int s₀ e2 b) : Ev prog w A env Kd.int s₀ (.BinOp e1 .Add e2 pos) (a + b) :=
  ⟨fun _ => rfl, fun s Q u h => wpAny_BinOp (h1.ev s _ u fun v s₁ u₁ hv => h2.ev s₁ _ (u.trans u₁) fun v2 s₂ u₂ hv2 => by
    obtain ⟨t, rfl⟩ := hv
    obtain ⟨t2, rfl⟩ := hv2
    exact P.add_int (h _ _ ((u₁.trans u₂).trans (UpB.of_k (Kp.refl _))) ⟨_, rfl⟩))⟩
theorem ev_sub {e1 e2 : Expr} {a b : Int} {pos : Pos} (h1 : Ev prog w A env Kd.int s₀ e1 a) (h2 : Ev prog w A env Kd.int s₀ e2 b) : Ev prog w A env Kd.int s₀ (.BinOp e1 .Sub e2 pos) (a - b) :=
  ⟨fun _ => rfl, fun s Q u h => wpAny_BinOp (h1.ev s _ u fun v s₁ u₁ hv => h2.ev s₁ _ (u.trans u₁) fun v2 s₂ u₂ hv2 => by
    obtain ⟨t, rfl⟩ := hv
    obtain ⟨t2, rfl⟩ := hv2
    exact P.sub_int (h _ _ ((u₁.trans u₂).trans (UpB.of_k (Kp.refl _))) ⟨_, rfl⟩))⟩
theorem ev_tuple {es : List Expr} {xs : List α} {k : Nat} {pos : Pos} (h : EvAll prog w A env K s₀ es xs) (hl : xs.length ≤ 1000) : Ev prog w A env K.tup s₀ (.Tuple es k pos) xs :=
  ⟨fun _ => rfl, fun s Q u q => wpAny_Tuple (h.ev s _ u fun vs s₁ u₁ hvs => ⟨by rw [sizeLine_eq, hvs.length]; omega, q _ _ (u₁.trans (UpB.of_k (Kp.push _ _))) ⟨_, _, rfl, ⟨_, Heap.get?_push_size _ rfl, rfl, 0, rfl⟩, hvs.tp (Kp.push _ _).tp⟩⟩)⟩
theorem ev_sq {e1 e2 : Expr} {a b : Int} {k : Nat} {pos : Pos} (h1 : Ev prog w A env Kd.int s₀ e1 a) (h2 : Ev prog w A env Kd.int s₀ e2 b) : Ev prog w A env Kd.sq s₀ (.Tuple [e1, e2] k pos) (a, b) :=
  let x := ev_tuple (k := k) (pos := pos) (.cons h1 (.cons h2 .nil)) (by show 2 ≤ 1000; decide)
  ⟨x.star, x.ev⟩
theorem ev_pr {e1 : Expr} {p : Sq} {k k' : Nat} {pos pos' : Pos} (h1 : Ev prog w A env Kd.sq s₀ e1 p) : Ev prog w A env Kd.pr s₀ (.Tuple [e1, .Constant (.int 1) k' pos'] k pos) p :=
  ⟨fun _ => rfl, fun s Q u q => wpAny_Tuple (wpAny_items_cons (h1.ev s _ u fun v s₁ u₁ hv => wpAny_items_cons (wpAny_Constant_int (wpAny_items_nil ⟨by rw [sizeLine_eq]; show 2 ≤ _; omega,
    q _ _ (u₁.trans (UpB.of_k (Kp.push _ _))) ⟨_, v, _, rfl, ⟨_, Heap.get?_push_size _ rfl, rfl, 0, rfl⟩, Kd.sq.tp (Kp.push _ _).tp hv⟩⟩))) (h1.star _))⟩
theorem ev_list {es : List Expr} {xs : List α} {pos : Pos} {Q : Value → Shared → Prop} (h : EvAll prog w A env K s₀ es xs) (hl : xs.length ≤ 1000) (u : Up s₀ s)
    (q : ∀ D ys s', Up s s' → s.heap.get? D = none → s'.heap.PlainList D ys → Vals K s'.heap ys.toList xs → Q (.ref D) s') : Wp prog w A (eval (.List es pos) env) Q s :=
  wpAny_List (h.ev s _ u fun vs s₁ u₁ hvs => ⟨by rw [sizeLine_eq, hvs.length]; omega, q _ _ _ (u₁.trans (UpB.of_k (Kp.push _ _))) (by
    cases e : s.heap.get? s₁.heap.objs.size with
    | none => rfl
    | some o => exact absurd (Heap.lt_size (u₁.k _ _ e)) (Nat.lt_irrefl _)) ⟨_, Heap.get?_push_size _ rfl⟩ (hvs.tp (Kp.push _ _).tp)⟩)
end
end Mine

-- part MBeside
namespace Mine
open PySem PySem.W PySem.Calls PyProof.Rows PySem.SeqAt

local macro_rules | `(tactic| walk_at "env") => do
  let he := Lean.mkIdent `he
  `(tactic| (rw [$he:ident]; rfl))
local macro_rules | `(tactic| walk_at "same") => `(tactic| exact if_pos rfl)
local macro_rules | `(tactic| walk_at "other") => `(tactic| (refine (if_neg (by decide)).trans ?_; first | assumption | exact if_pos rfl | walk_at "other"))

theorem Up.none {s s' : Shared} (u : Up s s') {b : Addr} (h : s'.heap.get? b = none) : s.heap.get? b = none := by
  cases e : s.heap.get? b with
  | none => rfl
  | some o => exact absurd ((u.k _ _ e).symm.trans h) (by simp)

theorem flat_ifs {α β : Type} (p : β → Bool) (f : α → β) : ∀ l : List α, (l.flatMap fun y => if p (f y) then [f y] else []) = (l.map f).filter p
  | [] => rfl
  | a :: r => by
    rw [List.flatMap_cons, List.map_cons, List.filter_cons, flat_ifs p f r]
    cases p (f a) <;> simp

theorem dedup_len (l : List Sq) : (dedup l).length ≤ l.length := by
  have : ∀ (l acc : List Sq), (l.foldl addK acc).length ≤ acc.length + l.length := by
    intro l
    induction l with
    | nil => intro acc; simp
    | cons a r ih =>
      intro acc
      rw [List.foldl_cons]
      have h1 := ih (addK acc a)
      have h2 := addK_len acc a
      rw [List.length_cons]; omega
  have := this l []
  simpa [dedup] using this
def besF (sh : Shape) : List Sq := sh.flatMap fun p => sides.flatMap fun q => if decide ((p.1 + q.1, p.2 + q.2) ∉ sh) then [(p.1 + q.1, p.2 + q.2)] else []
theorem besF_eq (sh : Shape) : sortBy sqLt (0, 0) (dedup (besF sh)) = besideF sh := by
  unfold besF besideF
  have : (fun p : Sq => sides.flatMap fun q => if decide ((p.1 + q.1, p.2 + q.2) ∉ sh) then [(p.1 + q.1, p.2 + q.2)] else []) = fun p : Sq => (sides.map fun q => (p.1 + q.1, p.2 + q.2)).filter fun x => decide (x ∉ sh) := by
    funext p
    exact flat_ifs (fun x => decide (x ∉ sh)) (fun q : Sq => (p.1 + q.1, p.2 + q.2)) sides
  rw [this]
theorem flat_len {α β : Type} (n : Nat) (f : α → List β) (hf : ∀ x, (f x).length ≤ n) : ∀ l : List α, (l.flatMap f).length ≤ n * l.length
  | [] => by simp
  | a :: r => by
    have h1 := flat_len n f hf r
    have h2 := hf a
    rw [List.flatMap_cons, List.length_append, List.length_cons, Nat.mul_add]; omega
theorem besF_len (sh : Shape) : (besF sh).length ≤ 4 * sh.length := by
  unfold besF
  refine flat_len 4 _ (fun p => ?_) sh
  refine Nat.le_trans (flat_len 1 _ (fun q => ?_) sides) (by decide)
  split <;> simp

section
variable {prog : Program} {w : World} {A : Around} {s : Shared} {mg mb : Str → Option Value}

theorem ev_sides {env : Env} {p1 p2 p3 p4 p5 p6 p7 p8 p9 p10 p11 p12 p13 p14 p15 p16 : Pos} {k1 k2 k3 k4 k5 k6 k7 k8 k9 k10 k11 k12 k13 k14 : Nat} : EvAll prog w A env Kd.sq s
    [.Tuple [.Constant (.int 0) k1 p1, .Constant (.int 1) k2 p2] k3 p3, .Tuple [.Constant (.int 1) k4 p4, .Constant (.int 0) k5 p5] k6 p6,
      .Tuple [.Constant (.int 0) k7 p7, .BinOp (.Constant (.int 0) k8 p8) .Sub (.Constant (.int 1) k9 p9) p10] k10 p11, .Tuple [.BinOp (.Constant (.int 0) k11 p12) .Sub (.Constant (.int 1) k12 p13) p14, .Constant (.int 0) k13 p15] k14 p16] sides := by
  have e : sides = [(0, 1), (1, 0), (0, 0 - 1), (0 - 1, 0)] := by decide
  rw [e]
  exact .cons (ev_sq ev_int ev_int) (.cons (ev_sq ev_int ev_int) (.cons (ev_sq ev_int (ev_sub ev_int ev_int)) (.cons (ev_sq (ev_sub ev_int ev_int) ev_int) .nil)))

theorem beside_call {k : Nat} {f : Addr} {v : Value} {sh : Shape} {Q : Value → Shared → Prop} (C : Cx mg mb (k + 1) A s.heap) (hf : IsDef s.heap f (stAt 8) .none .none) (hv : Kd.shape.is s.heap v sh) (hl : sh.length ≤ 15)
    (h : ∀ D ys s', Up s s' → s.heap.get? D = none → s'.heap.IsList D ys → Vals Kd.sq s'.heap ys.toList (besideF sh) → Q (.ref D) s') : Wp prog w A (call (.ref f) [v]) Q s := by
  generalize hst : stAt 8 = st at hf
  cases hf with
  | mk ho hd hc =>
    cases hst
    refine fn_cells (by have := C.dp; omega) ho hd C.gl.lim hc rfl (binds := [("shape", v)]) rfl rfl (kindsX rfl _) fun L s₁ env he hL x => ?_
    have C₁ := (C.keeps (ic_kp x)).deeper (env := env)
    have hk : env.scope.kind = .function := by walk_at "env"
    have hloc : env.locals = L := by walk_at "env"
    have hgl : env.globals = mainGlobals := by walk_at "env"
    have hbl : env.builtins = builtinsNs := by walk_at "env"
    have kS : env.kindOf "shape" = some .cell := by walk_at "env"
    have hc1 : env.cells.lookup (Str.ofString "shape") = some (L + 1) := by walk_at "env"
    have kSo : env.kindOf "sorted" = some .globalImplicit := by walk_at "env"
    have kDi : env.kindOf "dict" = some .globalImplicit := by walk_at "env"
    have c1 := x.cell _ _ hc1
    have hcm : (bindC env.kindOf [("shape", v)] fun _ => none) "shape" = some v := by walk_at "env"
    rw [hcm] at c1
    clear ho hd hc
    have hle' : (A.deeper env).units + 60 < cLine := by have := C₁.un; omega
    have hhd : (A.deeper env).handled = none := C₁.hh
    have up₁ := ic_up0 x
    have hv₁ : Kd.shape.is s₁.heap v sh := Kd.shape.tp up₁.k.tp hv
    refine wpAny_execs_cons (wpAny_Return_some ?_)
    refine call_b1 rfl (fun hq => name_builtin (h₀ := s.heap) C₁.gl.g C₁.gl.b C₁.gl.nsorted hq hk kSo hgl hbl) ?_
    refine call_t1 rfl (fun hq => name_builtin (h₀ := s.heap) C₁.gl.g C₁.gl.b C₁.gl.ndict hq hk kDi hgl hbl) ?_
    refine comp2 (K := Kd.sq) (K2 := Kd.pr) (K3 := Kd.sq) (xs := sh) (ws := fun _ => sides) (g := fun p q => if decide ((p.1 + q.1, p.2 + q.2) ∉ sh) then [(p.1 + q.1, p.2 + q.2)] else [])
      (M := fun p m => ∃ t1 t2, m "row" = some (.int p.1 t1) ∧ m "column" = some (.int p.2 t2)) hhd (cl := [("shape", L + 1)]) (by walk_at "env") rfl (by decide) (by decide) (by have := besF_len sh; show (besF sh).length ≤ _; omega)
      (name_cell kS hk hc1 c1 ⟨UpB.refl _, shape_seq hv₁⟩) (fun D p u s₃ m hp hu hn us hD => ?_) (fun D p q u s₃ m hp hq hu hn hM us hD => ?_) fun D ys s₂ u₂ hD hl₂ hv₂ => ?_
    · obtain ⟨t, t1, t2, rfl, ht⟩ := sq_open hu
      refine assign_pair hhd (lookup_relabel_local rfl) (lookup_relabel_local rfl) (by show (relabel _ env).kind = _; rfl) rfl hn ht (by decide) fun s₄ m' u₄ n₄ m1 m2 _ => ?_
      replace n₄ : s₄.heap.Ns D m' := n₄
      replace u₄ : UpB [D] s₃ s₄ := u₄
      refine ev_list (K := Kd.sq) (xs := sides) (s₀ := s₄) ?e1 ?e2 ?e3 ?e4
      case e1 => exact ev_sides
      case e2 => decide
      case e3 => exact UpB.refl _
      intro F ys s₅ u₅ hF hl₅ hv₅
      refine ⟨u₄.trans u₅.up, ⟨m', n₄.keeps u₅.k, t1, t2, m1, m2⟩, ⟨F, ys, rfl, .inr hl₅.isList, hv₅⟩, fun a e => ?_⟩
      injection e with e
      subst e
      cases e : s₃.heap.get? F with
      | none => rfl
      | some o =>
        by_cases hFD : F = D
        · obtain ⟨o', _, _, ho', _⟩ := n₄
          rw [← hFD, hF] at ho'; cases ho'
        · have := u₄.kp F o (by simpa using hFD) e
          rw [hF] at this; cases this
    · obtain ⟨t1, t2, m1, m2⟩ := hM
      obtain ⟨t, t3, t4, rfl, ht⟩ := sq_open hu
      refine assign_pair hhd (lookup_relabel_local rfl) (lookup_relabel_local rfl) (by show (relabel _ env).kind = _; rfl) rfl hn ht (by decide) fun s₄ m' u₄ n₄ m3 m4 mo => ?_
      replace n₄ : s₄.heap.Ns D m' := n₄
      replace u₄ : UpB [D] s₃ s₄ := u₄
      have m1' := (mo "row" (by decide) (by decide)).trans m1
      have m2' := (mo "column" (by decide) (by decide)).trans m2
      refine wpAny_tests_one (wpAny_isTrue_Compare1 ((ev_sq (ev_add (ev_cname rfl rfl n₄ m1') (ev_cname rfl rfl n₄ m3)) (ev_add (ev_cname rfl rfl n₄ m2') (ev_cname rfl rfl n₄ m4))).ev s₄ _ (UpB.refl _) fun v₅ s₅ u₅ hv₅ => ?_))
      have ntD : ∀ i ∈ [D], NT s₃.heap i := fun i hi => by rw [List.mem_singleton.mp hi]; exact NT.ns hn
      have kD : L + 1 ≠ D := fun e => by
        obtain ⟨o, ho, _⟩ := c1
        rw [e, hD] at ho; cases ho
      have u₁₅ : UpB [D] s₁ s₅ := us.up.trans (u₄.trans u₅.up)
      have c5 : s₅.heap.IsCell (L + 1) (some v) := let ⟨o, ho, r⟩ := c1; ⟨o, u₁₅.kp _ o (by simpa using kD) ho, r⟩
      have ntD1 : ∀ i ∈ [D], NT s₁.heap i := fun i hi => by rw [List.mem_singleton.mp hi]; exact NT.none hD
      refine name_cell (c := L + 1) (by walk_at "env") rfl rfl c5 ?_
      refine seq_notin (K := Kd.sq) (shape_seq (Kd.shape.tp (u₁₅.tp ntD1) hv₁)) hv₅ (by show _ + 1 + 1 < _; omega) (wpAny_truthy_bool ?_)
      by_cases hin : (p.1 + q.1, p.2 + q.2) ∉ sh
      · refine .inl ⟨by simpa using hin, ?_⟩
        refine (ev_pr (ev_sq (ev_add (ev_cname rfl rfl (n₄.keeps u₅.k) m1') (ev_cname rfl rfl (n₄.keeps u₅.k) m3)) (ev_add (ev_cname rfl rfl (n₄.keeps u₅.k) m2') (ev_cname rfl rfl (n₄.keeps u₅.k) m4)))).ev s₅ _ (UpB.refl _) fun v₆ s₆ u₆ hv₆ => ?_
        exact ⟨u₄.trans (u₅.trans u₆).up, ⟨m', (n₄.keeps u₅.k).keeps u₆.k, t1, t2, m1', m2'⟩, _, if_pos (by simpa using hin), hv₆⟩
      · refine .inr ⟨by simpa using hin, if_neg (by simpa using hin), u₄.trans u₅.up, m', n₄.keeps u₅.k, t1, t2, m1', m2'⟩
    · have hln : (besF sh).length ≤ 60 := by have := besF_len sh; omega
      refine dict_call hhd hl₂ hv₂ (by show (besF sh).length ≤ _; omega) (by omega) fun d s₃ u₃ hd₃ hdz hD₃ => ?_
      have lo : (d == sysModules) = false := by
        obtain ⟨o, _, _, ho, _⟩ := (C₁.keeps u₂.k).gl.g
        have h1 := Heap.lt_size ho
        have h2 : sysModules < d := Nat.lt_of_lt_of_le (Nat.lt_of_le_of_lt (by decide) h1) hdz
        exact beq_eq_false_iff_ne.mpr (Nat.ne_of_gt h2)
      have hdl : (dedup (besF sh)).length ≤ 60 := Nat.le_trans (dedup_len _) hln
      refine sorted_call (K := Kd.sq) (d := (0, 0)) (xs := dedup (besF sh)) (collect_dict hhd lo hD₃ (by omega)) (sort_sq _) (by omega) (by omega) fun F s₄ ys2 u₄ hF hl₄ hv₄ => ?_
      rw [sq_lt, besF_eq] at hv₄
      exact ⟨_, rfl, h _ _ _ (up₁.trans ((u₂.trans u₃).trans u₄)) (Up.none (up₁.trans (u₂.trans u₃)) hF) hl₄ hv₄⟩
end
end Mine

-- part MGrown
namespace Mine
open PySem PySem.W PySem.Calls PyProof.Rows PySem.SeqAt

local macro_rules | `(tactic| walk_at "env") => do
  let he := Lean.mkIdent `he
  `(tactic| (rw [$he:ident]; rfl))
local macro_rules | `(tactic| walk_at "same") => `(tactic| exact if_pos rfl)
local macro_rules | `(tactic| walk_at "other") => `(tactic| (refine (if_neg (by decide)).trans ?_; first | assumption | exact if_pos rfl | walk_at "other"))

theorem UpB.two1 {a b : Addr} {s s' : Shared} (x : UpB [a] s s') : UpB [a, b] s s' := x.mono fun i h => by rw [List.mem_singleton.mp h]; exact .head _
theorem UpB.two2 {a b : Addr} {s s' : Shared} (x : UpB [b] s s') : UpB [a, b] s s' := x.mono fun i h => by rw [List.mem_singleton.mp h]; exact .tail _ (.head _)
theorem plain_ne_ns {h : Heap} {D L : Addr} {ys : Array Value} {m : Str → Option Value} (hD : h.PlainList D ys) (n : h.Ns L m) : D ≠ L := list_ne_ns hD.isList n
theorem shape_append {h : Heap} {vs : Array Value} {sh : Shape} {sv : Value} {q : Sq} (hv : Vals Kd.sq h vs.toList sh) (hq : Kd.sq.is h sv q) : Vals Kd.sq h (vs ++ #[sv]).toList (sh ++ [q]) := by
  rw [Array.toList_append]
  exact hv.append (.cons hq .nil)
theorem insF_len (a : List Shape) (x : Shape) : (insF a x).length = a.length + 1 := by
  have := bisF_le a x
  unfold insF
  rw [List.length_append, List.length_cons, List.length_take, List.length_drop]; omega
theorem growSq_len (sh : Shape) (f : List Shape) (q : Sq) : (growSq sh f q).length ≤ f.length + 1 := by
  unfold growSq
  dsimp only
  split
  · rw [insF_len]; exact Nat.le_refl _
  · omega
theorem besideF_len (sh : Shape) : (besideF sh).length ≤ 4 * sh.length := by
  rw [← besF_eq, sortBy_len]
  exact Nat.le_trans (dedup_len _) (besF_len sh)

section
variable {prog : Program} {w : World} {A : Around} {s : Shared} {mg mb : Str → Option Value}

theorem grown_call {k : Nat} {f : Addr} {v : Value} {order : List Shape} {Q : Value → Shared → Prop} (C : Cx mg mb (k + 3) A s.heap) (hf : IsDef s.heap f (stAt 9) .none .none) (hv : SeqIs Kd.shape s.heap v order) (hol : order.length ≤ 10) (hsh : ∀ sh ∈ order, sh ≠ [] ∧ sh.length ≤ 14)
    (h : ∀ D ys s', Up s s' → s.heap.get? D = none → s'.heap.PlainList D ys → Vals Kd.shape s'.heap ys.toList (grownF order) → Q (.ref D) s') : Wp prog w A (call (.ref f) [v]) Q s := by
  generalize hst : stAt 9 = st at hf
  cases hf with
  | mk ho hd hc =>
    cases hst
    refine fn_cells (by have := C.dp; omega) ho hd C.gl.lim hc rfl (binds := [("order", v)]) rfl rfl (kindsX rfl _) fun L s₁ env he hL x => ?_
    have C₁ := (C.keeps (ic_kp x)).deeper (env := env)
    have hk : env.scope.kind = .function := by walk_at "env"
    have hloc : env.locals = L := by walk_at "env"
    have hgl : env.globals = mainGlobals := by walk_at "env"
    have hbl : env.builtins = builtinsNs := by walk_at "env"
    have hcl : env.cells = [] := by walk_at "env"
    have kO : env.kindOf "order" = some .local := by walk_at "env"
    have kF : env.kindOf "found" = some .local := by walk_at "env"
    have kS : env.kindOf "shape" = some .local := by walk_at "env"
    have kQ : env.kindOf "square" = some .local := by walk_at "env"
    have kA : env.kindOf "after" = some .local := by walk_at "env"
    have kP : env.kindOf "place" = some .local := by walk_at "env"
    have kB : env.kindOf "_law_beside" = some .globalImplicit := by walk_at "env"
    have kM : env.kindOf "_law_moved" = some .globalImplicit := by walk_at "env"
    have kBi : env.kindOf "bisect_left" = some .globalImplicit := by walk_at "env"
    have kLe : env.kindOf "len" = some .globalImplicit := by walk_at "env"
    have kIn : env.kindOf "insort_left" = some .globalImplicit := by walk_at "env"
    have hin : interactive env = false := by walk_at "env"
    rw [← hloc] at x
    obtain ⟨m, x, hm⟩ : ∃ m, InCallC s env.locals m env.cells (bindC env.kindOf [("order", v)] fun _ => none) s₁ ∧ m "order" = some v := ⟨_, x, by walk_at "env"⟩
    have hcm : ∀ n c, env.cells.lookup n = some c → False := fun n c e => by rw [hcl] at e; cases e
    clear ho hd hc he
    have hle' : (A.deeper env).units + 60 < cLine := by have := C₁.un; omega
    have hhd : (A.deeper env).handled = none := C₁.hh
    have hLn : s.heap.get? env.locals = none := by rw [hloc, hL]; exact Heap.get?_none_of_le (Nat.le_refl _)
    refine wpAny_execs_cons (wpAny_Assign_Name (wpAny_List (wpAny_items_nil ⟨Nat.zero_le _, ?_⟩)))
    generalize hDe : s₁.heap.objs.size = D
    have hD0 : s₁.heap.get? D = none := by rw [← hDe]; exact Heap.get?_none_of_le (Nat.le_refl _)
    have hDs : s.heap.get? D = none := Up.none (ic_up0 x) hD0
    have hDL : D ≠ env.locals := fun e => by
      obtain ⟨o, es, ep, ho, _⟩ := x.toInCall.ns
      rw [← e, hD0] at ho; cases ho
    refine stU (ic_up x (UpB.of_k (tk := s₁.toks) (Kp.push _ _))) hk kF fun s₂ u₂ x₂ => ?_
    have hl₂ : s₂.heap.PlainList D #[] := ⟨0, u₂.kp _ _ (by simpa using hDL) (by rw [← hDe]; exact Heap.get?_push_size _ rfl)⟩
    have hv₂ : SeqIs Kd.shape s₂.heap v order := hv.keeps (ic_kp x₂)
    have hvD : v ≠ .ref D ∧ v ≠ .ref env.locals := by
      obtain ⟨a, vs, rfl, ht, _⟩ := hv
      have hs : ∃ o, s.heap.get? a = some o := by
        rcases ht with ⟨o, ho, _⟩ | ⟨o, ho, _⟩ <;> exact ⟨o, ho⟩
      obtain ⟨o, ho⟩ := hs
      constructor
      · intro e; injection e with e; rw [e, hDs] at ho; cases ho
      · intro e; injection e with e; rw [e, hLn] at ho; cases ho
    have C₂ : Cx mg mb (k + 2) (A.deeper env) s₂.heap := (C.keeps (ic_kp x₂)).deeper
    refine wpAny_execs_cons (for_stmt (name_local kO hk rfl x₂.toInCall.ns (by walk_at "other") ?_))
    refine loop_seq (K := Kd.shape) hhd hv₂ [env.locals, D] (fun b hb => ?_)
      (fun i s' => ∃ m ys f', InCallC s env.locals m env.cells (bindC env.kindOf [("order", v)] fun _ => none) s' ∧ m "found" = some (.ref D) ∧ s'.heap.PlainList D ys ∧ Vals Kd.shape s'.heap ys.toList f' ∧ f' = (order.take i).foldl (fun f sh => (besideF sh).foldl (growSq sh) f) [] ∧ f'.length ≤ 60 * i)
      (fun I i s' s'' hI hi hnt u => ?_) (fun i sh sv s' hsi hsv u iv => ?_) (fun s' u iv => ?_) (fun s' u => ?_)
    · rcases List.mem_cons.mp hb with rfl | hb
      · obtain ⟨o, _, _, ho, _⟩ := x₂.toInCall.ns
        exact ⟨⟨o, ho⟩, hvD.2, NT.ns x₂.toInCall.ns⟩
      · rw [List.mem_singleton.mp hb]
        obtain ⟨n, ho⟩ := hl₂
        exact ⟨⟨_, ho⟩, hvD.1, NT.list (Heap.PlainList.isList ⟨n, ho⟩)⟩
    · obtain ⟨m, ys, f', x', m1, hl, hvs, e1, e2⟩ := hi
      have tp : Tp s'.heap s''.heap := u.tp fun i hi => by rw [List.mem_singleton.mp hi]; exact hnt.nt
      have hLI : env.locals ≠ I := fun e => by
        obtain ⟨o, _, _, ho, _⟩ := x₂.toInCall.ns
        rw [e, hI] at ho; cases ho
      refine ⟨m, ys, f', ic_upB x' u (by simpa using hLI) (fun i hi => by rw [List.mem_singleton.mp hi]; exact Up.none (ic_up0 x₂) hI) (fun n c e => (hcm n c e).elim), m1, hl.at fun o e => u.kp _ o (by simpa using hnt.ne_list hl.isList) e, hvs.tp tp, e1, e2⟩
    · obtain ⟨m, ys, f0, x', m1, hl, hvs, e1, e2⟩ := iv
      have hi10 : i < order.length := (List.getElem?_eq_some_iff.mp hsi).1
      obtain ⟨hne, hsl⟩ := hsh sh (List.mem_of_getElem? hsi)
      refine wpAny_assign_Name (stU x' hk kS fun s₃ u₃ x₃ => ?_)
      have n₃ := x₃.toInCall.ns
      have tp₃ : Tp s'.heap s₃.heap := u₃.tp fun i hi => by rw [List.mem_singleton.mp hi]; exact .ns x'.toInCall.ns
      have hs₃ := Kd.shape.tp tp₃ hsv
      have hl₃ : s₃.heap.PlainList D ys := hl.at fun o e => u₃.kp _ o (by simpa using hDL) e
      have hvs₃ := hvs.tp tp₃
      have C₃ : Cx mg mb (k + 2) (A.deeper env) s₃.heap := (C.keeps (ic_kp x₃)).deeper
      obtain ⟨fb, eb, hfb⟩ := C₃.gl.fbeside
      refine wpAny_execs_cons (for_stmt (call_f1 rfl (fun hq => name_global C₃.gl.g eb hq hk kB hgl) (name_local kS hk rfl n₃ (by walk_at "same") ⟨⟨_, _, _, hfb⟩, ?_⟩)))
      refine beside_call (k := k + 1) C₃ hfb hs₃ (by omega) fun F ys₄ s₄ u₄ hF hlF hvF => ?_
      have hFD : F ≠ D ∧ F ≠ env.locals := by
        constructor
        · intro e; obtain ⟨n, ho⟩ := hl₃; rw [← e, hF] at ho; cases ho
        · intro e; obtain ⟨o, _, _, ho, _⟩ := n₃; rw [← e, hF] at ho; cases ho
      have hbl4 := besideF_len sh
      have x₄ := ic_up x₃ u₄
      have hs₄ := Kd.shape.tp u₄.k.tp hs₃
      refine loop_seq (K := Kd.sq) hhd ⟨F, ys₄, rfl, .inr hlF, hvF⟩ [env.locals, D] (fun b hb => ?_)
        (fun j s'' => ∃ m ys f', InCallC s env.locals m env.cells (bindC env.kindOf [("order", v)] fun _ => none) s'' ∧ m "found" = some (.ref D) ∧ m "shape" = some sv ∧ s''.heap.PlainList D ys ∧ Vals Kd.shape s''.heap ys.toList f' ∧ Kd.shape.is s''.heap sv sh ∧ f' = ((besideF sh).take j).foldl (growSq sh) f0 ∧ f'.length ≤ 60 * i + j)
        (fun I i s' s'' hI hi hnt u => ?_) (fun j sq qv s₅ hsq hqv u₅ iv => ?_) (fun s₅ u₅ iv => ?_) (fun s₅ u₅ => ?_)
      · rcases List.mem_cons.mp hb with rfl | hb
        · obtain ⟨o, _, _, ho, _⟩ := x₄.toInCall.ns
          exact ⟨⟨o, ho⟩, fun e => by injection e with e; exact hFD.2 e, NT.ns x₄.toInCall.ns⟩
        · rw [List.mem_singleton.mp hb]
          obtain ⟨n, ho⟩ := hl₃.at fun o e => u₄.k _ o e
          exact ⟨⟨_, ho⟩, fun e => by injection e with e; exact hFD.1 e, NT.list (Heap.PlainList.isList ⟨n, ho⟩)⟩
      · obtain ⟨m, ys, f', x', m1, m2, hl, hvs, hs, e1, e2⟩ := hi
        have tp : Tp s'.heap s''.heap := u.tp fun i hi => by rw [List.mem_singleton.mp hi]; exact hnt.nt
        have hLI : env.locals ≠ I := fun e => by
          obtain ⟨o, _, _, ho, _⟩ := x₄.toInCall.ns
          rw [e, hI] at ho; cases ho
        refine ⟨m, ys, f', ic_upB x' u (by simpa using hLI) (fun i hi => by rw [List.mem_singleton.mp hi]; exact Up.none (ic_up0 x₄) hI) (fun n c e => (hcm n c e).elim), m1, m2, hl.at fun o e => u.kp _ o (by simpa using hnt.ne_list hl.isList) e, hvs.tp tp, Kd.shape.tp tp hs, e1, e2⟩
      · obtain ⟨m, ys, f', x₅, m1, m2, hl, hvs, hs, e1', e2'⟩ := iv
        have hj : j < (besideF sh).length := (List.getElem?_eq_some_iff.mp hsq).1
        have hfl : f'.length ≤ 900 := by omega
        refine wpAny_assign_Name (stU x₅ hk kQ fun s₆ u₆ x₆ => ?_)
        have n₆ := x₆.toInCall.ns
        have tp₆ : Tp s₅.heap s₆.heap := u₆.tp fun i hi => by rw [List.mem_singleton.mp hi]; exact .ns x₅.toInCall.ns
        have hs₆ := Kd.shape.tp tp₆ hs
        have hq₆ := Kd.sq.tp tp₆ hqv
        have hl₆ : s₆.heap.PlainList D ys := hl.at fun o e => u₆.kp _ o (by simpa using hDL) e
        have hvs₆ := hvs.tp tp₆
        have C₆ : Cx mg mb (k + 2) (A.deeper env) s₆.heap := (C.keeps (ic_kp x₆)).deeper
        obtain ⟨fm, em, hfm⟩ := C₆.gl.fmoved
        -- after = _law_moved(shape + (square,))
        refine wpAny_execs_cons (wpAny_Assign_Name (call_f1 rfl (fun hq => name_global C₆.gl.g em hq hk kM hgl) (wpAny_BinOp (name_local kS hk rfl n₆ (by walk_at "other") (wpAny_Tuple (wpAny_items_cons (name_local kQ hk rfl n₆ (by walk_at "same") (wpAny_items_nil ⟨by rw [sizeLine_eq]; show 1 ≤ _; omega, ?_⟩))))))))
        obtain ⟨ta, tvs, rfl, hta, htv⟩ := hs₆
        have tvl : tvs.size = sh.length := by rw [← htv.length]; simp
        have kp0 : Kp s₆.heap (s₆.heap.push { cls := .type "tuple", data := .seq [qv].toArray }) := Kp.push _ _
        refine tuple_cat (vs := tvs) (ws := #[qv]) (hta.push _) ⟨_, Heap.get?_push_size _ rfl, rfl, 0, rfl⟩ (by
          rw [Array.isEmpty_eq_false_iff]; intro e; rw [e] at tvl; simp at tvl; exact hne (List.length_eq_zero_iff.mp tvl.symm)) rfl (by rw [sizeLine_eq, tvl]; show sh.length + 1 ≤ _; omega) fun T s₇ u₇ hT htT => ?_
        have u₆₇ : Up s₆ s₇ := (UpB.of_k (tk := s₆.toks) kp0).trans u₇
        have C₇ := C₆.keeps u₆₇.k
        refine ⟨⟨_, _, _, hfm.keeps u₆₇.k⟩, ?_⟩
        refine moved_call (k := k + 1) C₇ (hfm.keeps u₆₇.k) (sh := sh ++ [sq]) ⟨T, _, rfl, .inl htT, shape_append (htv.tp u₆₇.k.tp) (Kd.sq.tp u₆₇.k.tp hq₆)⟩ (by simp) (by rw [List.length_append]; show _ + 1 ≤ _; omega) fun r s₈ u₈ hr => ?_
        have u₆₈ : Up s₆ s₈ := u₆₇.trans u₈
        refine stU (ic_up x₆ u₆₈) hk kA fun s₉ u₉ x₉ => ?_
        have n₉ := x₉.toInCall.ns
        have u₆₉ : UpB [env.locals] s₆ s₉ := u₆₈.up.trans u₉
        have nt6 : ∀ i ∈ [env.locals], NT s₆.heap i := fun i hi => by rw [List.mem_singleton.mp hi]; exact .ns n₆
        have nt8 : ∀ i ∈ [env.locals], NT s₈.heap i := fun i hi => by rw [List.mem_singleton.mp hi]; exact .ns (n₆.keeps u₆₈.k)
        have hr₉ := Kd.shape.tp (u₉.tp nt8) hr
        have hl₉ : s₉.heap.PlainList D ys := hl₆.at fun o e => u₆₉.kp _ o (by simpa using hDL) e
        have hvs₉ := hvs₆.tp (u₆₉.tp nt6)
        have C₉ : Cx mg mb (k + 2) (A.deeper env) s₉.heap := (C.keeps (ic_kp x₉)).deeper
        obtain ⟨fi, ei, hfi⟩ := C₉.gl.fbis
        obtain ⟨dV, kV, hfi'⟩ := hfi.isDef
        -- place = bisect_left(found, after)
        refine wpAny_execs_cons (wpAny_Assign_Name (call_f2 rfl (fun hq => name_global C₉.gl.g ei hq hk kBi hgl) (spliced_cons (name_local kF hk rfl n₉ (by walk_at "other") (spliced_cons (name_local kA hk rfl n₉ (by walk_at "same") (spliced_nil ⟨⟨_, _, _, hfi'⟩, ?_⟩)))))))
        refine bisect_call (k := k + 1) C₉ hfi (.inl rfl) hl₉.isList hvs₉ hr₉ (by omega) fun t s₁₀ u₁₀ => ?_
        refine stU (ic_up x₉ u₁₀) hk kP fun s₁₁ u₁₁ x₁₁ => ?_
        have n₁₁ := x₁₁.toInCall.ns
        have u₉₁₁ : UpB [env.locals] s₉ s₁₁ := u₁₀.up.trans u₁₁
        have nt9 : ∀ i ∈ [env.locals], NT s₉.heap i := fun i hi => by rw [List.mem_singleton.mp hi]; exact .ns n₉
        have hl₁₁ : s₁₁.heap.PlainList D ys := hl₉.at fun o e => u₉₁₁.kp _ o (by simpa using hDL) e
        have hvs₁₁ := hvs₉.tp (u₉₁₁.tp nt9)
        have hr₁₁ := Kd.shape.tp (u₉₁₁.tp nt9) hr₉
        have hs₁₁ : Kd.shape.is s₁₁.heap (.ref ta) sh := Kd.shape.tp (u₉₁₁.tp nt9) (Kd.shape.tp (u₆₉.tp nt6) ⟨ta, tvs, rfl, hta, htv⟩)
        have ysl : ys.size = f'.length := by rw [← hvs₁₁.length]; simp
        have u₅₁₁ : UpB [env.locals, D] s₅ s₁₁ := (u₆.trans (u₆₉.trans u₉₁₁)).two1
        have C₁₁ : Cx mg mb (k + 2) (A.deeper env) s₁₁.heap := (C.keeps (ic_kp x₁₁)).deeper
        have hgrow : growSq sh f' sq = if bisF f' (movedF (sh ++ [sq])) = f'.length ∨ f'.getD (bisF f' (movedF (sh ++ [sq]))) [] ≠ movedF (sh ++ [sq]) then insF f' (movedF (sh ++ [sq])) else f' := rfl
        have hstep : ((besideF sh).take (j + 1)).foldl (growSq sh) f0 = growSq sh f' sq := by rw [List.take_add_one, hsq, e1']; simp
        have hlen1 := growSq_len sh f' sq
        have hble := bisF_le f' (movedF (sh ++ [sq]))
        generalize movedF (sh ++ [sq]) = mv at *
        generalize hpl : bisF f' mv = pl at *
        -- if place == len(found) or found[place] != after
        refine wpAny_execs_cons (wpAny_If (wp_mono (Q := fun b s' => ∃ tk, s' = { s₁₁ with toks := tk } ∧ b = decide (pl = f'.length ∨ f'.getD pl [] ≠ mv)) ?t1 ?t2))
        case t1 =>
          refine isTrue_or (wpAny_isTrue_Compare1 (name_local kP hk rfl n₁₁ (by walk_at "same") (call_b1 rfl (fun hq => name_builtin (h₀ := s.heap) C₁₁.gl.g C₁₁.gl.b C₁₁.gl.nlen hq hk kLe hgl hbl) (name_local kF hk rfl n₁₁ (by walk_at "other") (call_len_list hl₁₁.isList (by omega) (P.eq_int (wpAny_truthy_bool ?_)))))))
          by_cases hp1 : pl = f'.length
          · rw [ysl, hp1]
            simp
          · have e0 : ((pl : Int) == (ys.size : Int)) = false := beq_eq_false_iff_ne.mpr (by omega)
            rw [e0]
            simp only [Bool.false_eq_true, if_false]
            have hpl2 : pl < f'.length := by omega
            obtain ⟨pv, epv, ipv⟩ := Vals.get hvs₁₁ (i := pl) (x := f'[pl]) (by simp [hpl2])
            refine isTrue_or (wpAny_isTrue_Compare1 (Subscript_ (name_local (s := { s₁₁ with toks := s₁₁.toks + 1 + 1 }) kF hk rfl n₁₁ (by walk_at "other") (name_local (s := { s₁₁ with toks := s₁₁.toks + 1 + 1 }) kP hk rfl n₁₁ (by walk_at "same") ?_))))
            refine tail_any (s := { s₁₁ with toks := s₁₁.toks + 1 + 1 }) hl₁₁.isList.typeIs slot_list_getitem.lookup (wpAny_getItem_list (s := { s₁₁ with toks := s₁₁.toks + 1 + 1 }) hl₁₁.isList (by omega) (by omega) (x := pv) (by rw [Int.toNat_natCast, ← Array.getElem?_toList]; exact epv) ?_) rfl
            refine name_local (s := { s₁₁ with toks := s₁₁.toks + 1 + 1 }) kA hk rfl n₁₁ (by walk_at "other") ?_
            refine tup_ne (K := Kd.sq) (s := { s₁₁ with toks := s₁₁.toks + 1 + 1 }) ipv hr₁₁ (by show _ + 1 + 1 < _; omega) (wpAny_truthy_bool ?_)
            have e3 : f'.getD pl [] = f'[pl] := by simp [List.getD, hpl2]
            rw [e3]
            by_cases hne2 : f'[pl] ≠ mv
            · rw [decide_eq_true hne2]
              simp only [if_true]
              exact ⟨_, rfl, by simp [hp1, hne2]⟩
            · rw [decide_eq_false hne2]
              simp only [Bool.false_eq_true, if_false]
              exact isTrue_or_nil ⟨_, rfl, by simp [hp1, hne2]⟩
        case t2 =>
          rintro _ _ ⟨tk, rfl, rfl⟩
          by_cases hcond : pl = f'.length ∨ f'.getD pl [] ≠ mv
          · rw [if_pos hcond] at hgrow
            rw [if_pos (decide_eq_true hcond)]
            obtain ⟨fn, en, hfn⟩ := C₁₁.gl.fins
            obtain ⟨dV', kV', hfn'⟩ := hfn.isDef
            refine wpAny_execs_cons (wpAny_Expr (hi := hin) (call_f2 rfl (fun hq => name_global C₁₁.gl.g en hq hk kIn hgl) (spliced_cons (name_local (s := { s₁₁ with toks := tk }) kF hk rfl n₁₁ (by walk_at "other") (spliced_cons (name_local (s := { s₁₁ with toks := tk }) kA hk rfl n₁₁ (by walk_at "other") (spliced_nil ⟨⟨_, _, _, hfn'⟩, ?_⟩)))))))
            refine insort_call (k := k) (s := { s₁₁ with toks := tk }) C₁₁ hfn hl₁₁ hvs₁₁ hr₁₁ (by omega) fun s₁₂ zs u₁₂ hl₁₂ hvs₁₂ => wpAny_execs_nil (wpAny_execs_nil (.inl ⟨rfl, ?_, ?_⟩))
            · exact u₅₁₁.trans ((UpB.of_k (tk := tk) (Kp.refl _)).trans u₁₂.two2)
            · have u₁₂' : UpB [D] s₁₁ s₁₂ := (UpB.of_k (tk := tk) (Kp.refl _)).trans u₁₂
              refine ⟨_, zs, insF f' mv, ic_upB x₁₁ u₁₂' (by simpa using Ne.symm hDL) (fun i hi => by rw [List.mem_singleton.mp hi]; exact hDs) (fun n c e => (hcm n c e).elim), by walk_at "other", by walk_at "other", hl₁₂, hvs₁₂, Kd.shape.tp (u₁₂'.tp fun i hi => by rw [List.mem_singleton.mp hi]; exact .list hl₁₁.isList) hs₁₁, ?_, ?_⟩
              · rw [hstep, hgrow]
              · rw [insF_len]; omega
          · rw [if_neg hcond] at hgrow
            rw [if_neg (by simpa using hcond)]
            refine wpAny_execs_nil (wpAny_execs_nil (.inl ⟨rfl, ?_, ?_⟩))
            · exact u₅₁₁.trans (UpB.of_k (tk := tk) (Kp.refl _))
            · have u₁₂' : Up s₁₁ { s₁₁ with toks := tk } := UpB.of_k (tk := tk) (Kp.refl _)
              refine ⟨_, ys, f', ic_up x₁₁ u₁₂', by walk_at "other", by walk_at "other", hl₁₁, hvs₁₁, hs₁₁, ?_, by omega⟩
              rw [hstep, hgrow]
      · obtain ⟨m, ys, f', x', m1, m2, hl, hvs, hs, e1', e2'⟩ := iv
        refine wpAny_execs_nil (.inl ⟨rfl, u₃.two1.trans (u₄.up.trans u₅), m, ys, f', x', m1, hl, hvs, ?_, by omega⟩)
        rw [List.take_of_length_le (Nat.le_refl _)] at e1'
        rw [e1', List.take_add_one, hsi, e1]; simp
      · exact ⟨_, ys, f0, ic_up x₄ u₅, by walk_at "other", by walk_at "same", (hl₃.at fun o e => u₄.k _ o e).at fun o e => u₅.k _ o e, (hvs₃.tp u₄.k.tp).tp u₅.k.tp, Kd.shape.tp u₅.k.tp hs₄, rfl, e2⟩
    · obtain ⟨m, ys, f', x', m1, hl, hvs, e1, e2⟩ := iv
      refine wpAny_execs_cons (wpAny_Return_some (name_local kF hk rfl x'.toInCall.ns m1 ⟨_, rfl, h D ys s' (ic_up0 x') hDs hl ?_⟩))
      rw [List.take_of_length_le (Nat.le_refl _)] at e1
      rw [e1] at hvs; exact hvs
    · exact ⟨_, #[], [], ic_up x₂ u, by walk_at "same", hl₂.at fun o e => u.k _ o e, .nil, rfl, Nat.zero_le _⟩
end
end Mine

-- part MKey
namespace Mine
open PySem PySem.W PySem.Calls PyProof.Rows PySem.SeqAt

section
variable {prog : Program} {w : World}

/-- how a value hashes: to H, by n draws -/
def HashAt (prog : Program) (w : World) (A : Around) (h : Heap) (v : Value) (H : Int) (n : Nat) : Prop := ∀ (E : Value → Shared → Prop) (Q : Int → Shared → Prop) (s : Shared), s.heap = h → Q H { s with toks := s.toks + n } → wpAny (model prog w) A (pyHash v) Q E s
inductive HashAll (prog : Program) (w : World) (A : Around) (h : Heap) : List Value → List Int → Nat → Prop
  | nil : HashAll prog w A h [] [] 0
  | cons {v : Value} {H : Int} {n : Nat} {vs : List Value} {Hs : List Int} {m : Nat} : HashAt prog w A h v H n → HashAll prog w A h vs Hs m → HashAll prog w A h (v :: vs) (H :: Hs) (n + m)
def tupH (Hs : List Int) : Int := reduceHash (Builtin.Tuple.tupleHashOf Hs)

theorem tuple_hash {A : Around} {h : Heap} {a : Addr} {items : Array Value} {Hs : List Int} {n : Nat} (hu : A.units < cLine) (ht : h.IsTuple a items) (hi : HashAll prog w A.in1 h items.toList Hs n) : HashAt prog w A h (.ref a) (tupH Hs) (n + 1) := by
  intro E Q s hs h
  subst hs
  have hT : s.TypeIs (.ref a) "tuple" := let ⟨o, ho, hc, _⟩ := ht; ⟨o, ho, hc⟩
  obtain ⟨o, ho, _, k, hd⟩ := ht
  unfold pyHash
  first | unfold pyHashByItsType | skip
  first | refine wpAny_bind (wpAny_cRoomFor_or (.inr hu) ?_) | skip
  refine wpAny_bind (wpAny_specialOf hT PySem.F.slot_tuple_hash.lookup ?_)
  show wpAny _ _ (if (some (Value.builtin "tuple.__hash__") == some Value.none) = true then _ else _) Q E s
  rw [if_neg (by rw [beq_builtin_none]; exact Bool.false_ne_true)]
  refine wpAny_bind (wpAny_specialOf hT PySem.F.slot_tuple_hash.lookup ?_)
  show wpAny _ _ (callSpecialIfBoundUnlessNone? (.ref a) "__hash__" _ >>= _) Q E s
  refine wpAny_bind (wpAny_callSpecialIfBoundUnlessNone?_slot hT PySem.F.slot_tuple_hash (wpAny_call_entry PySem.F.slot_tuple_hash hT PySem.F.entry_tuple_hash ?_ (PySem.F.args_tuple_hash_1 _)))
  show wpAny _ _ (Builtin.Tuple.tupleItemsOf (.ref a) >>= _) _ _ s
  refine wpAny_bind (wpAny_tupleItemsOf ho hd ?_)
  refine wpAny_bind ?_
  rw [← Array.forIn_toList]
  refine wpAny_forIn_list _
    (fun rest (b : Array Int) s' => ∃ left m j, HashAll prog w A.in1 s.heap rest left m ∧ b.toList ++ left = Hs ∧ s' = { s with toks := s.toks + j } ∧ j + m = n)
    _ ?_ ?_ _ _ ⟨Hs, n, 0, hi, rfl, rfl, Nat.zero_add _⟩
  · rintro x rest b s' ⟨left, m, j, hl, hb, rfl, hj⟩
    cases hl with
    | @cons _ H n1 _ Hs' m' h1 hl' =>
      refine wpAny_bind (h1 _ _ _ rfl ?_)
      first
        | exact wpAny_pure ⟨Hs', m', j + n1, hl', by simpa using hb, by simp [Nat.add_assoc], by omega⟩
        | exact wpAny_bind (wpAny_pure (wpAny_pure ⟨Hs', m', j + n1, hl', by simpa using hb, by simp [Nat.add_assoc], by omega⟩))
  · rintro b s' ⟨left, m, j, hl, hb, rfl, hj⟩
    cases hl
    rw [List.append_nil] at hb
    have hjn : j = n := by omega
    subst hjn
    show wpAny _ _ (retInt (Builtin.Tuple.tupleHashOf b.toList)) _ _ _
    rw [hb]
    refine wpAny_ret_mkInt ?_
    show wpAny _ _ (if (decide (-(2 : Int) ^ 63 ≤ Builtin.Tuple.tupleHashOf Hs) && decide (Builtin.Tuple.tupleHashOf Hs < 2 ^ 63)) = true then _ else _) Q E _
    unfold tupH reduceHash at h
    by_cases hr : (decide (-(2 : Int) ^ 63 ≤ Builtin.Tuple.tupleHashOf Hs) && decide (Builtin.Tuple.tupleHashOf Hs < 2 ^ 63)) = true
    · rw [if_pos hr]
      rw [if_pos hr] at h
      exact wpAny_pure (by simpa [Nat.add_assoc] using h)
    · rw [if_neg hr]
      rw [if_neg hr] at h
      exact wpAny_bind (wpAny_rule (wpAny_pure (by simpa [Nat.add_assoc] using h)))

def QuietAt (prog : Program) (w : World) (A : Around) (h : Heap) (n : Nat) (v : Value) : Prop := ∀ (E : Value → Shared → Prop) (Q : Bool → Shared → Prop) (s : Shared), s.heap = h → Q true s → wpAny (model prog w) A (eqIsQuiet n v) Q E s
theorem quiet_val {A : Around} {h : Heap} {n : Nat} {v : Value} (hv : carriedByValue v = true) : QuietAt prog w A h n v := fun E Q s _ q => by
  rw [eqIsQuiet_byValue n hv]; exact wpAny_pure q
theorem tuple_quiet {A : Around} {h : Heap} {n : Nat} {a : Addr} {items : Array Value} (ht : h.IsTuple a items) (hi : ∀ v ∈ items.toList, QuietAt prog w A h n v) : QuietAt prog w A h (n + 1) (.ref a) := by
  intro E Q s hs h
  subst hs
  have hT : s.TypeIs (.ref a) "tuple" := let ⟨o, ho, hc, _⟩ := ht; ⟨o, ho, hc⟩
  obtain ⟨o, ho, _, k, hd⟩ := ht
  unfold eqIsQuiet
  refine wpAny_bind (wpAny_specialOf hT PySem.F.slot_tuple_eq.lookup ?_)
  show wpAny _ _ (isInstance (.ref a) (.type "tuple") >>= _) _ _ s
  refine wpAny_bind (wpAny_isInstance hT isSubtype_tuple_tuple ?_)
  simp only [Bool.not_true, Bool.false_eq_true, if_false]
  refine wpAny_bind (wpAny_seqItems ho hd ?_)
  refine wpAny_bind ?_
  show wpAny _ _ (forIn items _ _) _ _ s
  rw [← Array.forIn_toList]
  refine wpAny_forIn_list _ (fun rest r s' => r.1 = none ∧ s' = s ∧ ∀ v ∈ rest, QuietAt prog w A s.heap n v) _ ?_ ?_ _ _ ⟨rfl, rfl, hi⟩
  · rintro v rest r s' ⟨hr, rfl, hall⟩
    refine wpAny_bind (hall v List.mem_cons_self _ _ _ rfl ?_)
    simp only [Bool.not_true, Bool.false_eq_true, if_false]
    exact wpAny_pure ⟨rfl, rfl, fun u hu' => hall u (List.mem_cons_of_mem _ hu')⟩
  · rintro ⟨r1, r2⟩ s' ⟨hr, rfl, _⟩
    simp only at hr
    subst hr
    exact wpAny_pure h

def sqHash (p : Sq) : Int := tupH [hashInt p.1, hashInt p.2]
theorem sq_hash {A : Around} {h : Heap} {v : Value} {p : Sq} (hu : A.units < cLine) (hv : Kd.sq.is h v p) : HashAt prog w A h v (sqHash p) 3 := by
  obtain ⟨t, t1, t2, rfl, ht⟩ := sq_open hv
  exact tuple_hash hu ht (.cons (fun E Q s _ q => wpAny_pyHash_int q) (.cons (fun E Q s _ q => wpAny_pyHash_int q) .nil))
theorem sqs_hash {A : Around} {h : Heap} (hu : A.units < cLine) : ∀ {vs : List Value} {sh : Shape}, Vals Kd.sq h vs sh → HashAll prog w A h vs (sh.map sqHash) (3 * sh.length)
  | _, _, .nil => .nil
  | _, _, .cons (b := p) (l₂ := sh) a r => by
    have e : 3 * (p :: sh).length = 3 + 3 * sh.length := by rw [List.length_cons]; omega
    rw [e]
    exact .cons (sq_hash hu a) (sqs_hash hu r)
def shHash (sh : Shape) : Int := tupH (sh.map sqHash)
theorem sh_hash {A : Around} {h : Heap} {v : Value} {sh : Shape} (hu : A.units + 1 < cLine) (hv : Kd.shape.is h v sh) : HashAt prog w A h v (shHash sh) (3 * sh.length + 1) := by
  obtain ⟨t, vs, rfl, ht, hv⟩ := hv
  exact tuple_hash (by omega) ht (sqs_hash (A := A.in1) hu hv)
theorem sq_quiet {A : Around} {h : Heap} {n : Nat} {v : Value} {p : Sq} (hv : Kd.sq.is h v p) : QuietAt prog w A h (n + 1) v := by
  obtain ⟨t, t1, t2, rfl, ht⟩ := sq_open hv
  refine tuple_quiet ht fun v hv => quiet_val ?_
  simp only [List.mem_cons, List.not_mem_nil, or_false] at hv
  rcases hv with rfl | rfl <;> rfl
theorem sh_quiet {A : Around} {h : Heap} {n : Nat} {v : Value} {sh : Shape} (hv : Kd.shape.is h v sh) : QuietAt prog w A h (n + 2) v := by
  obtain ⟨t, vs, rfl, ht, hv⟩ := hv
  refine tuple_quiet ht fun v hm => ?_
  obtain ⟨i, hi⟩ := List.mem_iff_getElem?.mp hm
  obtain ⟨p, _, ip⟩ := Vals.get' hv hi
  exact sq_quiet ip

/-- the key ('like', shape, 'first') -/
def KeyIs (h : Heap) (sh : Shape) (a : Addr) : Prop := ∃ t1 t2 v, h.IsTuple a #[.str "like" t1, v, .str "first" t2] ∧ Kd.shape.is h v sh
theorem KeyIs.tp {h h' : Heap} {sh : Shape} {a : Addr} (x : KeyIs h sh a) (t : Tp h h') : KeyIs h' sh a := let ⟨t1, t2, v, ht, hv⟩ := x; ⟨t1, t2, v, isTuple_tp ht t, Kd.shape.tp t hv⟩
theorem KeyIs.inj {h : Heap} {a : Addr} {x y : Shape} (hx : KeyIs h x a) (hy : KeyIs h y a) : x = y := by
  obtain ⟨t1, t2, v, ht, hv⟩ := hx
  obtain ⟨t3, t4, u, ht', hv'⟩ := hy
  have e := isTuple_inj ht ht'
  simp only [Array.mk.injEq, List.cons.injEq, and_true] at e
  obtain ⟨_, rfl, _⟩ := e
  exact Kd.shape.inj hv hv'
def keyHash (w : World) (sh : Shape) : Int := tupH [hashStr w "like", shHash sh, hashStr w "first"]
theorem key_hash {A : Around} {h : Heap} {a : Addr} {sh : Shape} (hu : A.units + 2 < cLine) (hv : KeyIs h sh a) : HashAt prog w A h (.ref a) (keyHash w sh) (3 * sh.length + 4) := by
  obtain ⟨t1, t2, v, ht, hv⟩ := hv
  have e : 3 * sh.length + 4 = (1 + ((3 * sh.length + 1) + (1 + 0))) + 1 := by omega
  rw [e]
  exact tuple_hash (by omega) ht (.cons (fun E Q s _ q => wpAny_pyHash_str q) (.cons (sh_hash (A := A.in1) (by show A.units + 1 + 1 < _; omega) hv) (.cons (fun E Q s _ q => wpAny_pyHash_str q) .nil)))
theorem key_quiet {A : Around} {h : Heap} {a : Addr} {sh : Shape} (hv : KeyIs h sh a) : QuietAt prog w A h 8 (.ref a) := by
  obtain ⟨t1, t2, v, ht, hv⟩ := hv
  refine tuple_quiet ht fun u hu => ?_
  simp only [List.mem_cons, List.not_mem_nil, or_false] at hu
  rcases hu with rfl | rfl | rfl
  · exact quiet_val rfl
  · exact sh_quiet hv
  · exact quiet_val rfl
theorem key_eq {A : Around} {s : Shared} {a b : Addr} {x y : Shape} (hu : A.units + 4 < cLine) (hx : KeyIs s.heap x a) (hy : KeyIs s.heap y b) : EqAt A s (.ref a) (.ref b) (decide (x = y)) := by
  by_cases hab : a = b
  · subst hab
    rw [decide_eq_true (hx.inj hy)]
    exact EqAt.same _
  · obtain ⟨t1, t2, v, ht, hv⟩ := hx
    obtain ⟨t3, t4, u, ht', hv'⟩ := hy
    have r := RcAt.tuples (A := A) (s := s) (e := fun j => if j = 1 then decide (x = y) else true) ht ht' (by omega) (fun j h1 h2 => by
      match j, h1, h2 with
      | 0, _, _ => exact fun prog w E Q h => wpAny_eqBool_str (by simpa using h)
      | 1, _, _ => exact Kd.shape.eqAt (A := A.in1) hv hv' (by show A.units + 1 + 2 < _; omega)
      | 2, _, _ => exact fun prog w E Q h => wpAny_eqBool_str (by simpa using h))
    have e : ((List.range (min 3 3)).all (fun j => if j = 1 then decide (x = y) else true) && (3 : Nat) == 3) = decide (x = y) := by
      by_cases h : x = y
      · simp [h]
      · simp [h]
    have r' : RcAt A s (.ref a) (.ref b) (decide (x = y)) := e ▸ r
    exact EqAt.of_refs hab r'

theorem tp_dict {h h' : Heap} {d : Addr} {o : Obj} {es : Array DictEntry} {ep : Nat} (ho : h.get? d = some o) (hd : o.data = .dict es ep) (hs : Heap.SameBut d h h') : Tp h h' :=
  KpB.tp (KpB.of_ext hs.extBut) fun i hi => by
    rw [List.mem_singleton.mp hi]
    intro o' ho' q
    rw [ho] at ho'; cases ho'
    obtain ⟨_, vs, n, q⟩ := q
    rw [hd] at q; cases q

def keyKind (prog : Program) (w : World) : HeapKind prog w Shape where
  is := KeyIs
  hash := keyHash w
  draws := fun sh => 3 * sh.length + 4
  room := fun A => A.units + 4 < cLine
  inj := fun x y => x.inj y
  keeps := fun x ho hd hs => x.tp (tp_dict ho hd hs)
  pyHash := fun hu hk h => key_hash (by omega) hk _ _ _ rfl h
  eqBool := fun hu hx hy h => key_eq hu hx hy _ _ _ _ h
  quiet := fun hk h => key_quiet hk _ _ _ rfl h
end
end Mine

-- part MItems
namespace Mine
open PySem PySem.W PySem.Calls PyProof.Rows PySem.SeqAt

/-- a walk over pairs that the iterator itself lends out -/
structure LentWalk (prog : Program) (w : World) (A : Around) (I : Addr) (fp wr : List Addr) (n : Nat) (Pt : Nat → Array Value → Prop) (St : Nat → Heap → Prop) (Mid : Nat → Addr → Heap → Prop) : Prop where
  stays : ∀ i h h', St i h → (∀ b ∈ fp, ∀ o, h.get? b = some o → h'.get? b = some o) → St i h'
  next : ∀ i (s : Shared) (Q : Option Value → Shared → Prop) (E : Value → Shared → Prop), i < n → St i s.heap →
    (∀ T vals h' tk, Pt i vals → h'.IsTuple T vals → Mid i T h' → KpB wr s.heap h' → Q (some (.ref T)) { s with heap := h', toks := tk }) → wpAny (model prog w) A (pyNext (.ref I)) Q E s
  back : ∀ (elts : List Expr) (k : Nat) (pos : Pos) i T (s : Shared) (Q : Unit → Shared → Prop) (E : Value → Shared → Prop), Mid i T s.heap →
    (∀ h', St (i + 1) h' → KpB wr s.heap h' → Q () { s with heap := h' }) → wpAny (model prog w) A (letOwnedTupleGo (.Tuple elts k pos) (.ref I) (.ref T)) Q E s
  other : ∀ i T h, Mid i T h → T ∉ wr
  last : ∀ (s : Shared) (Q : Option Value → Shared → Prop) (E : Value → Shared → Prop), St n s.heap →
    (∀ h' tk, KpB wr s.heap h' → Q none { s with heap := h', toks := tk }) → wpAny (model prog w) A (pyNext (.ref I)) Q E s
section
variable {prog : Program} {w : World} {A : Around} {E : Value → Shared → Prop} {s : Shared} {d : Addr} {es : Array DictEntry} {ep : Nat} {env : Env}

theorem raw_walkT_items (hh : A.handled = none) (I : Addr) (hne : d ≠ I) :
    LentWalk prog w A I [I, d] [I] es.size (fun i vals => ∃ e, es[i]? = some e ∧ vals = #[e.key, e.val]) (fun i h => (∃ ok ov, IsItemIter h I d i es.size ep ok ov) ∧ RawAt h d es ep)
      (fun i T h => (∃ ok ov, IsItemIterOut h I d (i + 1) es.size ep ok ov T) ∧ RawAt h d es ep ∧ T ≠ I) where
  stays := fun _ _ _ st hk => by
    obtain ⟨⟨ok, ov, he⟩, hm⟩ := st
    exact ⟨⟨ok, ov, hk I (by simp) _ he⟩, hm.at fun o e => hk d (by simp) o e⟩
  next := fun i s Q E hi st hQ => by
    obtain ⟨⟨ok, ov, he⟩, hm⟩ := st
    refine raw_next_items he hm hi fun h' ho hT hk => ?_
    exact hQ _ _ h' s.toks ⟨es[i], by simp [hi], rfl⟩ ⟨_, hT, rfl, _, rfl⟩ ⟨⟨_, _, ho⟩, hm.at fun o e => hk d o hne e, Nat.ne_of_gt (Heap.lt_size he)⟩ fun b o hb e => hk b o (fun h => hb (by simp [h])) e
  back := fun elts k pos i T s Q E hm hQ => by
    obtain ⟨⟨ok, ov, ho⟩, hd, hTI⟩ := hm
    refine wpAny_letOwnedTupleGo_items ho fun h' he hs => ?_
    exact hQ h' ⟨⟨ok, ov, he⟩, hd.at fun o e => hs.extBut d o hne e⟩ fun b o hb e => hs.extBut b o (fun h => hb (by simp [h])) e
  other := fun i T h hm => by simpa using hm.2.2
  last := fun s Q E st hQ => by
    obtain ⟨⟨ok, ov, he⟩, hm⟩ := st
    exact raw_end_items hh he hm (Nat.le_refl _) fun h' hx => hQ h' s.toks fun b o hb e => hx b o (fun h => hb (by simp [h])) e

/-- a for's loop over pairs that an iterator owns -/
theorem for_loopT {R : Result → Shared → Prop} {elts : List Expr} {kk : Nat} {tpos : Pos} {body : List Stmt} {I : Addr} {fp wr : List Addr} {n : Nat} {Pt : Nat → Array Value → Prop} {St : Nat → Heap → Prop} {Mid : Nat → Addr → Heap → Prop}
    (W : LentWalk prog w A I fp wr n Pt St Mid)
    (Inv : Nat → Shared → Prop) (hst : ∀ i s, Inv i s → St i s.heap)
    (turn : ∀ i s T vals h' tk, i < n → Inv i s → Pt i vals → St (i + 1) h' → h'.IsTuple T vals → KpB wr s.heap h' → Wp prog w A (assign (.Tuple elts kk tpos) env (.ref T)) (fun _ s₂ => Wp prog w A (execs body env) (fun f s₃ => match f with
      | .next => Inv (i + 1) s₃
      | .cont => Inv (i + 1) s₃
      | .brk => False
      | .ret v => R (.ok (.ret v)) s₃) s₂) { s with heap := h', toks := tk })
    (fin : ∀ s h' tk, Inv n s → KpB wr s.heap h' → R (.ok .next) { s with heap := h', toks := tk }) (h : Inv 0 s) : codeAny (model prog w) A (.forLoop (.Tuple elts kk tpos) (.ref I) body [] env) R s := by
  refine codeAny_loop' rfl (fun k s => ∃ i, k = n - i ∧ i ≤ n ∧ Inv i s) (fun k s hI => ?_) n ⟨0, rfl, Nat.zero_le _, h⟩
  obtain ⟨i, rfl, hi, hI⟩ := hI
  show wpAny _ A ((forTurn (.Tuple elts kk tpos) (.ref I) body [] env).onRaise (fun x => do noteFrame x env; theTreesLotGoes x)) _ _ s
  refine wpAny_noted ?_
  simp only [forTurn]
  rcases Nat.lt_or_ge i n with hlt | hge
  · refine wpAny_bind (wpAny_standAt (wpAny_bind (wpAny_onRaise (W.next i s _ _ hlt (hst i s hI) fun T vals h' tk hP hT hM hk => ?_))))
    refine wpAny_bind (W.back elts kk tpos i T _ _ _ hM fun h'' st'' hk'' => ?_)
    have hk2 : KpB wr s.heap h'' := KpB.trans hk hk''
    refine wpAny_bind (wpAny_mono (turn i s T vals h'' tk hlt hI hP st'' (hT.at fun o e => hk'' _ o (W.other i T _ hM) e) hk2) (fun _ s₂ h₂ => ?_) fun _ _ f => f.elim)
    refine wpAny_bind (wpAny_mono h₂ (fun f s₃ h₃ => ?_) fun _ _ f => f.elim)
    cases f with
    | next => exact wpAny_pure (.inl ⟨rfl, n - (i + 1), by omega, i + 1, rfl, hlt, h₃⟩)
    | cont => exact wpAny_pure (.inl ⟨rfl, n - (i + 1), by omega, i + 1, rfl, hlt, h₃⟩)
    | brk => exact h₃.elim
    | ret v => exact wpAny_pure h₃
  · have e : i = n := by omega
    subst e
    refine wpAny_bind (wpAny_standAt (wpAny_bind (wpAny_onRaise (W.last s _ _ (hst _ s hI) fun h' tk hk => ?_))))
    exact wpAny_pure (.inr ⟨rfl, codeAny_block (wpAny_execs_nil (fin s h' tk hI hk))⟩)

/-- a table of shapes to ints -/
def ShDict (prog : Program) (w : World) (h : Heap) (d : Addr) (c : List (Shape × Int)) : Prop := ∃ xs, h.DictOfH (keyKind prog w) d xs ∧ Paired (fun x p => x.1 = p.1 ∧ ∃ t, x.2.2 = .int p.2 t) xs c
theorem ShDict.up {X : List Addr} {h h' : Heap} {c : List (Shape × Int)} (x : ShDict prog w h d c) (k : KpB X h h') (hd : d ∉ X) (hX : ∀ i ∈ X, NT h i) : ShDict prog w h' d c := by
  obtain ⟨xs, ⟨o, es, ep, ho, hc, hdat, he, his, hn⟩, hk⟩ := x
  exact ⟨xs, ⟨o, es, ep, k d o hd ho, hc, hdat, he, fun x hx => KeyIs.tp (his x hx) (k.tp hX), hn⟩, hk⟩
theorem ShDict.keeps {h h' : Heap} {c : List (Shape × Int)} (x : ShDict prog w h d c) (k : Kp h h') : ShDict prog w h' d c := x.up (X := []) k.but (fun h => nomatch h) (fun _ h => nomatch h)
theorem ShDict.nt {h : Heap} {c : List (Shape × Int)} (x : ShDict prog w h d c) : NT h d := by
  obtain ⟨xs, ⟨o, es, ep, ho, hc, hdat, _⟩, _⟩ := x
  intro o' ho' q
  rw [ho] at ho'; cases ho'
  obtain ⟨_, vs, n, q⟩ := q
  rw [hdat] at q; cases q
theorem ShDict.there {h : Heap} {c : List (Shape × Int)} (x : ShDict prog w h d c) : ∃ o, h.get? d = some o := by
  obtain ⟨xs, ⟨o, es, ep, ho, _⟩, _⟩ := x
  exact ⟨o, ho⟩
theorem ShDict.raw {h : Heap} {c : List (Shape × Int)} (x : ShDict prog w h d c) : ∃ es ep, RawAt h d es ep ∧ es.size = c.length ∧ ∀ (i : Nat) (e : DictEntry), es[i]? = some e → ∃ (p : Shape × Int) (a : Addr) (t : Tok), c[i]? = some p ∧ e.key = .ref a ∧ e.val = .int p.2 t ∧ KeyIs h p.1 a := by
  obtain ⟨xs, hD, hp⟩ := x
  have his : ∀ x ∈ xs, KeyIs h x.1 x.2.1 := let ⟨_, _, _, _, _, _, _, his, _⟩ := hD; his
  obtain ⟨es, ep, hr, he⟩ := raw_of hD
  have hl := Paired.length hp
  refine ⟨es, ep, hr, by rw [← Array.length_toList, he, List.length_map, hl], fun i e hi => ?_⟩
  rw [entry_at he] at hi
  obtain ⟨x, hx, rfl⟩ := Option.map_eq_some_iff.mp hi
  have key : ∀ {xs : List (Shape × Addr × Value)} {c : List (Shape × Int)} (_ : Paired (fun x p => x.1 = p.1 ∧ ∃ t, x.2.2 = .int p.2 t) xs c) {i : Nat}, xs[i]? = some x → ∃ p, c[i]? = some p ∧ x.1 = p.1 ∧ ∃ t, x.2.2 = .int p.2 t := by
    intro xs c hp
    induction hp with
    | nil => intro i h; simp at h
    | cons a r ih =>
      intro i h
      cases i with
      | zero => simp at h; subst h; exact ⟨_, rfl, a⟩
      | succ i => exact ih (by simpa using h)
  obtain ⟨p, hc, e1, t, e2⟩ := key hp hx
  exact ⟨p, x.2.1, t, hc, rfl, e2, by rw [← e1]; exact his x (List.mem_of_getElem? hx)⟩

theorem loop_items {Q : Flow → Shared → Prop} {elts : List Expr} {kk : Nat} {tpos : Pos} {body : List Stmt} {c : List (Shape × Int)} {v : Addr} (hh : A.handled = none) (hd : ShDict prog w s.heap d c) (hview : s.heap.IsItemsView v d)
    (X : List Addr) (hX : ∀ b ∈ X, (∃ o, s.heap.get? b = some o) ∧ b ≠ d ∧ NT s.heap b)
    (Inv : Nat → Shared → Prop) (hInv : ∀ I i s' s'', s.heap.get? I = none → Inv i s' → IsFld s'.heap I → UpB [I] s' s'' → Inv i s'')
    (turn : ∀ i p T a t s', c[i]? = some p → s'.heap.IsTuple T #[.ref a, .int p.2 t] → KeyIs s'.heap p.1 a → UpB X s s' → Inv i s' → Wp prog w A (assign (.Tuple elts kk tpos) env (.ref T)) (fun _ s₂ => Wp prog w A (execs body env) (fun f s₃ => (f = .next ∧ UpB X s' s₃ ∧ Inv (i + 1) s₃) ∨ ∃ r, f = .ret r ∧ Q (.ret r) s₃) s₂) s')
    (fin : ∀ s', UpB X s s' → Inv c.length s' → Q .next s') (h0 : ∀ s', Up s s' → Inv 0 s') :
    Wp prog w A (pyIter (.ref v)) (fun it s₂ => codeAny (model prog w) A (.forLoop (.Tuple elts kk tpos) it body [] env) (fun r s' => ∃ f, r = .ok f ∧ Q f s') s₂) s := by
  obtain ⟨es, ep, hr, hsz, hes⟩ := hd.raw
  have hdl := hr.lt
  refine raw_iter_items hview hr ?_
  generalize hI : s.heap.objs.size = I
  generalize hh' : s.heap.push { cls := .type "dict_itemiterator", data := .fields #[.none, .bool false, .ref d, .int 0 0, .int es.size 0, .int ep 0, .none, .none] } = h'
  have kp : Kp s.heap h' := by rw [← hh']; exact Kp.push _ _
  have hne : d ≠ I := by rw [← hI]; exact Nat.ne_of_lt hdl
  have hIn : s.heap.get? I = none := by rw [← hI]; exact Heap.get?_none_of_le (Nat.le_refl _)
  have hit : IsItemIter h' I d 0 es.size ep .none .none := by rw [← hh', ← hI]; exact Heap.get?_push_size _ rfl
  have up : ∀ {Y}, UpB Y s { s with heap := h' } := UpB.of_k (tk := s.toks) kp
  have W := raw_walkT_items (prog := prog) (w := w) (A := A) (es := es) (ep := ep) hh I hne
  have hXI : ∀ b ∈ X, b ≠ I := fun b hb e => by
    obtain ⟨⟨o, h1⟩, _⟩ := hX b hb
    rw [e, hIn] at h1; cases h1
  have fld : ∀ i h, ((∃ ok ov, IsItemIter h I d i es.size ep ok ov) ∧ RawAt h d es ep) → IsFld h I := fun i h st => let ⟨⟨ok, ov, he⟩, _⟩ := st; ⟨_, _, he, rfl⟩
  have ntX : ∀ b ∈ I :: X, NT h' b := fun b hb => by
    rcases List.mem_cons.mp hb with rfl | hb
    · exact IsFld.nt ⟨_, _, hit, rfl⟩
    · intro o e q
      obtain ⟨⟨o0, e0⟩, _, h3⟩ := hX b hb
      rw [kp _ _ e0] at e; cases e
      exact h3 _ e0 q
  refine for_loopT W (fun i s' => UpB (I :: X) { s with heap := h' } s' ∧ ((∃ ok ov, IsItemIter s'.heap I d i es.size ep ok ov) ∧ RawAt s'.heap d es ep) ∧ Inv i s') (fun _ _ h => h.2.1) ?_ ?_ ⟨UpB.refl _, ⟨⟨_, _, hit⟩, hr.at fun o e => kp _ o e⟩, h0 _ up⟩
  · rintro i s₁ T vals h₁ tk hi ⟨u, st, iv⟩ ⟨e, hei, rfl⟩ st₁ hT kp₁
    have up₁ : UpB [I] s₁ { s₁ with heap := h₁, toks := tk } := UpB.step kp₁
    have u2 := u.trans (up₁.mono (Y := I :: X) fun i h => by rw [List.mem_singleton.mp h]; exact .head _)
    obtain ⟨p, a, t, hc, hk, hv, hkey⟩ := hes i e hei
    rw [hk, hv] at hT
    have hkey₁ : KeyIs h₁ p.1 a := (hkey.tp kp.tp).tp (u2.tp ntX)
    refine wp_mono (turn i p T a t _ hc hT hkey₁ ((up.trans u2).drop hIn) (hInv I _ _ _ hIn iv (fld _ _ st) up₁)) fun _ s₂ h₂ => ?_
    refine wp_mono h₂ fun f s₃ h₃ => ?_
    rcases h₃ with ⟨rfl, u₃, iv₃⟩ | ⟨r, rfl, hq⟩
    · refine ⟨u2.trans (u₃.mono fun i h => .tail _ h), W.stays _ _ _ st₁ fun b hb o e => u₃.kp b o (fun q => ?_) e, iv₃⟩
      simp only [List.mem_cons, List.not_mem_nil, or_false] at hb
      rcases hb with rfl | rfl
      · exact hXI _ q rfl
      · exact (hX _ q).2.1 rfl
    · exact ⟨_, rfl, hq⟩
  · rintro s₁ h₁ tk ⟨u, st, iv⟩ kp₁
    have up₁ : UpB [I] s₁ { s₁ with heap := h₁, toks := tk } := UpB.step kp₁
    have u2 := u.trans (up₁.mono (Y := I :: X) fun i h => by rw [List.mem_singleton.mp h]; exact .head _)
    exact ⟨_, rfl, fin _ ((up.trans u2).drop hIn) (by rw [← hsz]; exact hInv I _ _ _ hIn iv (fld _ _ st) up₁)⟩

theorem loop_values {Q : Flow → Shared → Prop} {target : Expr} {body : List Stmt} {c : List (Shape × Int)} {v : Addr} (hh : A.handled = none) (hd : ShDict prog w s.heap d c) (hview : s.heap.IsValuesView v d)
    (X : List Addr) (hX : ∀ b ∈ X, (∃ o, s.heap.get? b = some o) ∧ b ≠ d ∧ NT s.heap b)
    (Inv : Nat → Shared → Prop) (hInv : ∀ I i s' s'', s.heap.get? I = none → Inv i s' → IsFld s'.heap I → UpB [I] s' s'' → Inv i s'')
    (turn : ∀ i p t s', c[i]? = some p → UpB X s s' → Inv i s' → Wp prog w A (assign target env (.int p.2 t)) (fun _ s₂ => Wp prog w A (execs body env) (fun f s₃ => (f = .next ∧ UpB X s' s₃ ∧ Inv (i + 1) s₃) ∨ ∃ r, f = .ret r ∧ Q (.ret r) s₃) s₂) s')
    (fin : ∀ s', UpB X s s' → Inv c.length s' → Q .next s') (h0 : ∀ s', Up s s' → Inv 0 s') :
    Wp prog w A (pyIter (.ref v)) (fun it s₂ => codeAny (model prog w) A (.forLoop target it body [] env) (fun r s' => ∃ f, r = .ok f ∧ Q f s') s₂) s := by
  obtain ⟨es, ep, hr, hsz, hes⟩ := hd.raw
  have hdl := hr.lt
  refine raw_iter_values hview hr ?_
  have hne : d ≠ s.heap.objs.size := Nat.ne_of_lt hdl
  have hIn : s.heap.get? s.heap.objs.size = none := Heap.get?_none_of_le (Nat.le_refl _)
  have kp : Kp s.heap (s.heap.push { cls := .type "dict_valueiterator", data := .fields #[.ref d, .int 0 0, .int es.size 0, .int ep 0] }) := Kp.push _ _
  have up : ∀ {Y}, UpB Y s { s with heap := s.heap.push { cls := .type "dict_valueiterator", data := .fields #[.ref d, .int 0 0, .int es.size 0, .int ep 0] } } := UpB.of_k (tk := s.toks) kp
  refine loop_walk (raw_walk_values (es := es) (ep := ep) hh s.heap.objs.size hne) (fun i v s' R hp st r => ?_) (fun i h st => ?_) X (fun b hb hf => ?_) Inv (fun i s' s'' => hInv _ i s' s'' hIn) (fun i v s' hi hp u iv => ?_) (fun s' u iv => fin s' ((up.trans u).drop hIn) (by rw [← hsz]; exact iv)) ⟨⟨_, Heap.get?_push_size _ rfl, rfl, rfl⟩, hr.at fun o e => kp _ o e⟩ (h0 _ up)
  · obtain ⟨e, hei, rfl⟩ := hp
    obtain ⟨p, a, t, hc, hk, hv, hkey⟩ := hes i e hei
    rw [hv]
    unfold letOwnedTupleGo
    cases target <;> exact wpAny_pure r
  · obtain ⟨⟨o, e, _, hd⟩, _⟩ := st
    exact ⟨o, _, e, hd⟩
  · obtain ⟨⟨o, h1⟩, h2, _⟩ := hX b hb
    simp only [List.mem_cons, List.not_mem_nil, or_false] at hf
    rcases hf with rfl | rfl
    · rw [hIn] at h1; cases h1
    · exact h2 rfl
  · obtain ⟨e, hei, rfl⟩ := hp
    obtain ⟨p, a, t, hc, hk, hv, hkey⟩ := hes i e hei
    rw [hv]
    exact turn i p t s' hc ((up.trans u).drop hIn) iv

theorem items_call {o : Expr} {apos pos : Pos} {c : List (Shape × Int)} {Q : Value → Shared → Prop} (lo : (d == sysModules) = false) (hd : ShDict prog w s.heap d c)
    (hbase : attributeBase o "items" env (eval o env) = eval o env) (hline : (apos.endLine == pos.line) = true) (ho : ∀ Q' : Value → Shared → Prop, Q' (.ref d) s → Wp prog w A (eval o env) Q' s)
    (hQ : ∀ v s', Up s s' → s.heap.get? v = none → s'.heap.IsItemsView v d → Q (.ref v) s') : Wp prog w A (eval (.Call (.Attribute o "items" apos) [] [] pos) env) Q s := by
  obtain ⟨es, ep, hr, _⟩ := hd.raw
  refine Call_method0 hbase hline (ho _ ⟨"dict", "dict.items", PySem.F.plainAttrs_dict, PySem.F.slot_dict_items, PySem.F.type_dict_items, hr.typeIs, hr.noDict, ?_⟩)
  exact method_meetsIn PySem.F.slot_dict_items PySem.F.entry_dict_items rfl (PySem.evalArgs_none ⟨rfl, hr.typeIs, PySem.F.args_dict_items_1 _, _, raw_meets_view (id := "items") (T := "dict_items") rfl lo, ⟨es, ep, hr⟩, hQ _ _ (UpB.of_k (tk := s.toks) (Kp.push _ _)) (Heap.get?_none_of_le (Nat.le_refl _)) ⟨_, Heap.get?_push_size _ rfl, rfl, rfl⟩⟩)
theorem values_call {o : Expr} {apos pos : Pos} {c : List (Shape × Int)} {Q : Value → Shared → Prop} (lo : (d == sysModules) = false) (hd : ShDict prog w s.heap d c)
    (hbase : attributeBase o "values" env (eval o env) = eval o env) (hline : (apos.endLine == pos.line) = true) (ho : ∀ Q' : Value → Shared → Prop, Q' (.ref d) s → Wp prog w A (eval o env) Q' s)
    (hQ : ∀ v s', Up s s' → s.heap.get? v = none → s'.heap.IsValuesView v d → Q (.ref v) s') : Wp prog w A (eval (.Call (.Attribute o "values" apos) [] [] pos) env) Q s := by
  obtain ⟨es, ep, hr, _⟩ := hd.raw
  refine Call_method0 hbase hline (ho _ ⟨"dict", "dict.values", PySem.F.plainAttrs_dict, PySem.F.slot_dict_values, PySem.F.type_dict_values, hr.typeIs, hr.noDict, ?_⟩)
  exact method_meetsIn PySem.F.slot_dict_values PySem.F.entry_dict_values rfl (PySem.evalArgs_none ⟨rfl, hr.typeIs, PySem.F.args_dict_values_1 _, _, raw_meets_view (id := "values") (T := "dict_values") rfl lo, ⟨es, ep, hr⟩, hQ _ _ (UpB.of_k (tk := s.toks) (Kp.push _ _)) (Heap.get?_none_of_le (Nat.le_refl _)) ⟨_, Heap.get?_push_size _ rfl, rfl, rfl⟩⟩)
end
end Mine

-- part MAdd
namespace Mine
open PySem PySem.W PySem.Calls PyProof.Rows PySem.SeqAt

local macro_rules | `(tactic| walk_at "env") => do
  let he := Lean.mkIdent `he
  `(tactic| (rw [$he:ident]; rfl))
local macro_rules | `(tactic| walk_at "same") => `(tactic| exact if_pos rfl)
local macro_rules | `(tactic| walk_at "other") => `(tactic| (refine (if_neg (by decide)).trans ?_; first | assumption | exact if_pos rfl | walk_at "other"))

abbrev Tab := List (Shape × Int)
def hasF (c : Tab) (k : Shape) : Bool := c.any fun p => decide (p.1 = k)
def getF (c : Tab) (k : Shape) : Int := ((c.find? fun p => decide (p.1 = k)).map (·.2)).getD 0
def setF (c : Tab) (k : Shape) (v : Int) : Tab := if hasF c k then c.map fun p => if p.1 = k then (p.1, v) else p else c ++ [(k, v)]
def addS (c : Tab) (k : Shape) (v : Int) : Tab := if hasF c k then setF c k (getF c k + v) else setF c k v
def addCallersF (c src : Tab) : Tab := src.foldl (fun d p => addS d p.1 p.2) (c.foldl (fun d p => setF d p.1 p.2) [])
theorem setF_len (c : Tab) (k : Shape) (v : Int) : (setF c k v).length ≤ c.length + 1 := by
  unfold setF
  split <;> simp
theorem addS_len (c : Tab) (k : Shape) (v : Int) : (addS c k v).length ≤ c.length + 1 := by
  unfold addS
  split <;> exact setF_len _ _ _

section
variable {prog : Program} {w : World} {A : Around} {s s₀ : Shared} {d : Addr} {c : Tab} {env : Env}

abbrev TabR : Shape × Addr × Value → Shape × Int → Prop := fun x p => x.1 = p.1 ∧ ∃ t, x.2.2 = .int p.2 t
theorem tab_at {k : Shape} : ∀ {xs : List (Shape × Addr × Value)} {c : Tab}, Paired TabR xs c → (atKey xs k).isSome = hasF c k ∧ ∀ p, atKey xs k = some p → ∃ t, p.2 = .int (getF c k) t
  | _, _, .nil => ⟨rfl, fun p h => by simp [atKey] at h⟩
  | x :: xs, q :: c, .cons a r => by
    obtain ⟨i1, i2⟩ := tab_at (k := k) r
    obtain ⟨e, t, ev⟩ := a
    by_cases h : q.1 = k
    · have e1 : atKey (x :: xs) k = some x.2 := by simp [atKey, e, h]
      refine ⟨by rw [e1]; simp [hasF, h], fun p hp => ?_⟩
      rw [e1] at hp; cases hp
      exact ⟨t, by rw [ev]; simp [getF, h]⟩
    · have e1 : atKey (x :: xs) k = atKey xs k := by simp [atKey, e, h]
      refine ⟨by rw [e1, i1]; simp [hasF, h], fun p hp => ?_⟩
      rw [e1] at hp
      obtain ⟨t, ht⟩ := i2 p hp
      exact ⟨t, by rw [ht]; simp [getF, h]⟩
theorem tab_put {k : Shape} {v : Int} {t : Tok} : ∀ {xs : List (Shape × Addr × Value)} {c : Tab}, Paired TabR xs c → Paired TabR (xs.map (putAt k (.int v t))) (c.map fun p => if p.1 = k then (p.1, v) else p)
  | _, _, .nil => .nil
  | x :: xs, q :: c, .cons a r => by
    refine .cons ?_ (tab_put r)
    obtain ⟨e, t', ev⟩ := a
    show TabR (putAt k (.int v t) x) (if q.1 = k then (q.1, v) else q)
    unfold putAt
    by_cases h : x.1 = k
    · rw [if_pos h, if_pos (e ▸ h)]; exact ⟨e, t, rfl⟩
    · rw [if_neg h, if_neg (e ▸ h)]; exact ⟨e, t', ev⟩
theorem paired_append {α β : Type} {R : α → β → Prop} : ∀ {xs xs' : List α} {ys ys' : List β}, Paired R xs ys → Paired R xs' ys' → Paired R (xs ++ xs') (ys ++ ys')
  | _, _, _, _, .nil, y => y
  | _, _, _, _, .cons a r, y => .cons a (paired_append r y)
theorem tab_stored {k : Shape} {a : Addr} {v : Int} {t : Tok} {xs : List (Shape × Addr × Value)} (hp : Paired TabR xs c) : Paired TabR (storedH xs k a (.int v t)) (setF c k v) := by
  obtain ⟨e, _⟩ := tab_at (k := k) hp
  unfold storedH setF
  rw [e]
  split
  · exact tab_put hp
  · exact paired_append hp (.cons ⟨rfl, t, rfl⟩ .nil)

theorem shdict_set {a : Addr} {sh : Shape} {v : Int} {t : Tok} {Q : Unit → Shared → Prop} (hu : A.units + 6 < cLine) (hk : KeyIs s.heap sh a) (hd : ShDict prog w s.heap d c) (hz : c.length ≤ 100000)
    (h : ∀ s', UpB [d] s s' → ShDict prog w s'.heap d (setF c sh v) → Q () s') : Wp prog w A (setItem (.ref d) (.ref a) (.int v t)) Q s := by
  obtain ⟨xs, hD, hp⟩ := hd
  have hl := Paired.length hp
  refine wpAny_setItem_heap (knd := keyKind prog w) (hsz := by rw [sizeLine_eq]; omega) (by show A.units + 1 + 4 < _; omega) hk hD fun h' hD' hs => h _ (UpB.one hs.extBut) ⟨_, hD', tab_stored hp⟩
theorem shdict_in {a : Addr} {sh : Shape} {Q : Value → Shared → Prop} (hu : A.units + 6 < cLine) (lo : (d == sysModules) = false) (hk : KeyIs s.heap sh a) (hd : ShDict prog w s.heap d c)
    (h : ∀ tk, Q (.bool (hasF c sh)) { s with toks := tk }) : Wp prog w A (compareOp .In (.ref a) (.ref d)) Q s := by
  obtain ⟨xs, hD, hp⟩ := hd
  refine wpAny_in_heap (knd := keyKind prog w) (by show A.units + 1 + 4 < _; omega) hk lo hD ?_
  rw [(tab_at hp).1]
  exact h _
theorem shdict_get {a : Addr} {sh : Shape} {Q : Value → Shared → Prop} (hu : A.units + 6 < cLine) (hk : KeyIs s.heap sh a) (hd : ShDict prog w s.heap d c) (hin : hasF c sh = true)
    (h : ∀ t tk, Q (.int (getF c sh) t) { s with toks := tk }) : Wp prog w A (getItem (.ref d) (.ref a)) Q s := by
  obtain ⟨xs, hD, hp⟩ := hd
  obtain ⟨e, e2⟩ := tab_at (k := sh) hp
  rw [hin] at e
  obtain ⟨p, hpk⟩ := Option.isSome_iff_exists.mp e
  obtain ⟨t, ht⟩ := e2 p hpk
  refine wpAny_getItem_heap (knd := keyKind prog w) (by show A.units + 1 + 4 < _; omega) hk hD hpk ?_
  rw [ht]; exact h _ _

theorem assign_pairU {x y : Str} {px py tp : Pos} {kk : Nat} {m cm : Str → Option Value} {T : Addr} {a b : Value} {Q : Unit → Shared → Prop} (hh : A.handled = none) (ic : InCallC s₀ env.locals m env.cells cm s) (hk : env.scope.kind = .function)
    (kx : env.kindOf x = some .local) (ky : env.kindOf y = some .local) (ht : s.heap.IsTuple T #[a, b])
    (h : ∀ s', UpB [env.locals] s s' → InCallC s₀ env.locals (fun z => if z = y then some b else if z = x then some a else m z) env.cells cm s' → Q () s') : Wp prog w A (assign (.Tuple [.Name x px, .Name y py] kk tp) env (.ref T)) Q s := by
  refine wpAny_assign_Tuple hh ht rfl rfl fun h₁ he₁ => ?_
  have k₁ : Kp s.heap h₁ := fun b o e => he₁ b o (Nat.ne_of_lt (Heap.lt_size e)) e
  show wpAny _ _ (assignInOrder [assign (.Name x px) env, assign (.Name y py) env] [a, b]) _ _ _
  rw [assignInOrder]
  refine wpAny_bind (wpAny_holding (wpAny_assign_Name (stU (ic_up ic (UpB.of_k (tk := s.toks) k₁)) hk kx fun s₂ u₂ x₂ => ?_)))
  rw [assignInOrder]
  refine wpAny_bind (wpAny_holding (wpAny_assign_Name (stU x₂ hk ky fun s₃ u₃ x₃ => wpAny_pure (h s₃ ?_ x₃))))
  exact (UpB.of_k (tk := s.toks) k₁).trans (u₂.trans u₃)

theorem IsFld.ne_dict {h : Heap} {I : Addr} (x : IsFld h I) (y : ShDict prog w h d c) : d ≠ I := fun e => by
  subst e
  obtain ⟨o, vs, ho, hdat⟩ := x
  obtain ⟨xs, ⟨o', es, ep, ho', hc', hd', _⟩, _⟩ := y
  rw [ho] at ho'; cases ho'
  rw [hdat] at hd'; cases hd'
theorem dict_ne_ns {h : Heap} {L : Addr} {m : Str → Option Value} (y : ShDict prog w h d c) (f : ∃ b, h.get? b = none ∧ b = d) : False := by
  obtain ⟨b, hb, rfl⟩ := f
  obtain ⟨o, ho⟩ := y.there
  rw [hb] at ho; cases ho

theorem call_b2 {x : Str} {np pos : Pos} {e1 e2 : Expr} {id : String} {Q : Value → Shared → Prop} (hs : starEach [e1, e2] env = [(false, eval e1 env), (false, eval e2 env)]) (hn : ∀ {R : Value → Shared → Prop}, R (.builtin id) s → Wp prog w A (eval (.Name x np) env) R s)
    (h : Wp prog w A (spliced [(false, eval e1 env), (false, eval e2 env)]) (fun vs s₁ => Wp prog w A (call (.builtin id) vs) Q s₁) s) : Wp prog w A (eval (.Call (.Name x np) [e1, e2] [] pos) env) Q s := by
  show wpAny _ A (do callWith pos (← eval (.Name x np) env) [] (backTo pos (starEach [e1, e2] env)) (backToKw pos (keywordEach [] env))) Q _ s
  rw [hs]
  refine wpAny_bind (hn ?_)
  exact Calls.callWith_builtin rfl (evalArgs_plain (wp_mono h fun vs s₁ h₁ => h₁))
end

section
variable {prog : Program} {w : World} {A : Around} {s : Shared} {mg mb : Str → Option Value}

theorem add_call {k : Nat} {f d1 d2 : Addr} {c src : Tab} {Q : Value → Shared → Prop} (C : Cx mg mb (k + 1) A s.heap) (hf : IsDef s.heap f (stAt 1) .none .none) (h1 : ShDict prog w s.heap d1 c) (h2 : ShDict prog w s.heap d2 src)
    (lo1 : (d1 == sysModules) = false) (lo2 : (d2 == sysModules) = false) (hc1 : c.length ≤ 1000) (hc2 : src.length ≤ 1000)
    (h : ∀ D s', Up s s' → s.heap.get? D = none → (D == sysModules) = false → ShDict prog w s'.heap D (addCallersF c src) → Q (.ref D) s') : Wp prog w A (call (.ref f) [.ref d1, .ref d2]) Q s := by
  generalize hst : stAt 1 = st at hf
  cases hf with
  | mk ho hd hc =>
    cases hst
    refine fn_cells (by have := C.dp; omega) ho hd C.gl.lim hc rfl (binds := [("target", .ref d1), ("source", .ref d2)]) rfl rfl (kindsX rfl _) fun L s₁ env he hL x => ?_
    have C₁ := (C.keeps (ic_kp x)).deeper (env := env)
    have hk : env.scope.kind = .function := by walk_at "env"
    have hloc : env.locals = L := by walk_at "env"
    have hgl : env.globals = mainGlobals := by walk_at "env"
    have hbl : env.builtins = builtinsNs := by walk_at "env"
    have hcl : env.cells = [] := by walk_at "env"
    have kT : env.kindOf "target" = some .local := by walk_at "env"
    have kS : env.kindOf "source" = some .local := by walk_at "env"
    have kN : env.kindOf "new_callers" = some .local := by walk_at "env"
    have kF : env.kindOf "func" = some .local := by walk_at "env"
    have kC : env.kindOf "caller" = some .local := by walk_at "env"
    have kI : env.kindOf "isinstance" = some .globalImplicit := by walk_at "env"
    have kU : env.kindOf "tuple" = some .globalImplicit := by walk_at "env"
    rw [← hloc] at x
    obtain ⟨m, x, hm1, hm2⟩ : ∃ m, InCallC s env.locals m env.cells (bindC env.kindOf [("target", .ref d1), ("source", .ref d2)] fun _ => none) s₁ ∧ m "target" = some (.ref d1) ∧ m "source" = some (.ref d2) := ⟨_, x, by walk_at "env", by walk_at "env"⟩
    generalize hcme : (bindC env.kindOf [("target", .ref d1), ("source", .ref d2)] fun _ => none) = cm at *
    have hcm : ∀ n c, env.cells.lookup n = some c → False := fun n c e => by rw [hcl] at e; cases e
    clear ho hd hc he
    have hle' : (A.deeper env).units + 60 < cLine := by have := C₁.un; omega
    have hhd : (A.deeper env).handled = none := C₁.hh
    have hLn : s.heap.get? env.locals = none := by rw [hloc, hL]; exact Heap.get?_none_of_le (Nat.le_refl _)
    refine wpAny_execs_cons (wpAny_Assign_Name (wpAny_Dict_empty ?_))
    have hlo : (s₁.heap.objs.size == sysModules) = false := by
      obtain ⟨o, _, _, ho, _⟩ := C₁.gl.g
      have h1 := Heap.lt_size ho
      exact beq_eq_false_iff_ne.mpr (Nat.ne_of_gt (Nat.lt_of_le_of_lt (by decide) h1))
    have hnew : ShDict prog w (s₁.heap.push { cls := .type "dict", data := .dict #[] }) s₁.heap.objs.size [] := ⟨[], Heap.DictOfH.new _, .nil⟩
    generalize hDe : s₁.heap.objs.size = D at *
    have hD0 : s₁.heap.get? D = none := by rw [← hDe]; exact Heap.get?_none_of_le (Nat.le_refl _)
    have hDs : s.heap.get? D = none := Up.none (ic_up0 x) hD0
    have hDL : D ≠ env.locals := fun e => by
      obtain ⟨o, es, ep, ho, _⟩ := x.toInCall.ns
      rw [← e, hD0] at ho; cases ho
    refine stU (ic_up x (UpB.of_k (tk := s₁.toks) (Kp.push _ _))) hk kN fun s₂ u₂ x₂ => ?_
    have nt0 : ∀ i ∈ [env.locals], NT (s₁.heap.push { cls := .type "dict", data := .dict #[] }) i := fun i hi => by rw [List.mem_singleton.mp hi]; exact .ns (x.toInCall.ns.keeps (Kp.push _ _))
    have hd₂ : ShDict prog w s₂.heap D [] := hnew.up u₂.kp (by simpa using hDL) nt0
    have h1₂ := h1.keeps (ic_kp x₂)
    have h2₂ := h2.keeps (ic_kp x₂)
    have ned : ∀ {e : Tab} {b : Addr}, ShDict prog w s.heap b e → b ≠ D ∧ b ≠ env.locals := fun {e b} y => by
      obtain ⟨o, ho⟩ := y.there
      constructor
      · intro q; rw [q, hDs] at ho; cases ho
      · intro q; rw [q, hLn] at ho; cases ho
    obtain ⟨n1D, n1L⟩ := ned h1
    obtain ⟨n2D, n2L⟩ := ned h2
    -- for func, caller in target.items(): new_callers[func] = caller
    refine wpAny_execs_cons (for_stmt (items_call lo1 h1₂ rfl rfl (fun Q' q => name_local kT hk rfl x₂.toInCall.ns (by walk_at "other") q) fun v s₃ u₃ hv₃ hview => ?_))
    have x₃ := ic_up x₂ u₃
    have hd₃ := hd₂.keeps u₃.k
    refine loop_items hhd (h1₂.keeps u₃.k) hview [env.locals, D] (fun b hb => ?_)
      (fun i s' => ∃ m, InCallC s env.locals m env.cells cm s' ∧ m "new_callers" = some (.ref D) ∧ m "source" = some (.ref d2) ∧ ShDict prog w s'.heap D ((c.take i).foldl (fun d p => setF d p.1 p.2) []) ∧ ((c.take i).foldl (fun d p => setF d p.1 p.2) []).length ≤ i)
      (fun I i s' s'' hI hi hnt u => ?_) (fun i p T a t s' hcp hT hkey u iv => ?_) (fun s' u iv => ?_) (fun s' u => ?_)
    · rcases List.mem_cons.mp hb with rfl | hb
      · obtain ⟨o, _, _, ho, _⟩ := x₃.toInCall.ns
        exact ⟨⟨o, ho⟩, Ne.symm n1L, NT.ns x₃.toInCall.ns⟩
      · rw [List.mem_singleton.mp hb]
        exact ⟨hd₃.there, Ne.symm n1D, hd₃.nt⟩
    · obtain ⟨m, x', m1, m2, hD', hl⟩ := hi
      have nt : ∀ b ∈ [I], NT s'.heap b := fun b hb => by rw [List.mem_singleton.mp hb]; exact hnt.nt
      have hLI : env.locals ≠ I := fun e => by
        obtain ⟨o, _, _, ho, _⟩ := x₃.toInCall.ns
        rw [e, hI] at ho; cases ho
      exact ⟨m, ic_upB x' u (by simpa using hLI) (fun i hi => by rw [List.mem_singleton.mp hi]; exact Up.none (ic_up0 x₃) hI) (fun n c e => (hcm n c e).elim), m1, m2, hD'.up u.kp (by simpa using hnt.ne_dict hD') nt, hl⟩
    · obtain ⟨m, x', m1, m2, hD', hl⟩ := iv
      have hi : i < c.length := (List.getElem?_eq_some_iff.mp hcp).1
      refine assign_pairU hhd x' hk kF kC hT fun s₄ u₄ x₄ => ?_
      have n₄ := x₄.toInCall.ns
      have nt : ∀ b ∈ [env.locals], NT s'.heap b := fun b hb => by rw [List.mem_singleton.mp hb]; exact .ns x'.toInCall.ns
      have hD₄ := hD'.up u₄.kp (by simpa using hDL) nt
      have hkey₄ := hkey.tp (u₄.tp nt)
      refine wpAny_execs_cons (wpAny_Assign_Subscript (name_local kC hk rfl n₄ (by walk_at "same") (name_local kN hk rfl n₄ (by walk_at "other") (name_local kF hk rfl n₄ (by walk_at "other") ?_))))
      refine shdict_set (by omega) hkey₄ hD₄ (Nat.le_trans hl (by omega)) fun s₅ u₅ hD₅ => wpAny_execs_nil (.inl ⟨rfl, u₄.two1.trans u₅.two2, ?_⟩)
      refine ⟨_, ic_upB x₄ u₅ (by simpa using Ne.symm hDL) (fun i hi => by rw [List.mem_singleton.mp hi]; exact hDs) (fun n c e => (hcm n c e).elim), by walk_at "other", by walk_at "other", ?_, ?_⟩
      · rw [List.take_add_one, hcp]; simpa using hD₅
      · have q := setF_len ((c.take i).foldl (fun d p => setF d p.1 p.2) []) p.1 p.2
        rw [List.take_add_one, hcp]
        simp only [Option.toList_some, List.foldl_append, List.foldl_cons, List.foldl_nil]
        omega
    · obtain ⟨m, x', m1, m2, hD', hl⟩ := iv
      rw [List.take_of_length_le (Nat.le_refl _)] at hD' hl
      -- for func, caller in source.items()
      have h2' := h2.keeps (ic_kp x')
      refine wpAny_execs_cons (for_stmt (items_call lo2 h2' rfl rfl (fun Q' q => name_local kS hk rfl x'.toInCall.ns m2 q) fun v s₆ u₆ hv₆ hview₆ => ?_))
      have x₆ := ic_up x' u₆
      have hd₆ := hD'.keeps u₆.k
      refine loop_items hhd (h2'.keeps u₆.k) hview₆ [env.locals, D] (fun b hb => ?_)
        (fun i s' => ∃ m, InCallC s env.locals m env.cells cm s' ∧ m "new_callers" = some (.ref D) ∧ ShDict prog w s'.heap D ((src.take i).foldl (fun d p => addS d p.1 p.2) (c.foldl (fun d p => setF d p.1 p.2) [])) ∧ ((src.take i).foldl (fun d p => addS d p.1 p.2) (c.foldl (fun d p => setF d p.1 p.2) [])).length ≤ c.length + i)
        (fun I i s' s'' hI hi hnt u => ?_) (fun i p T a t s₇ hcp hT hkey u iv => ?_) (fun s₇ u iv => ?_) (fun s₇ u => ?_)
      · rcases List.mem_cons.mp hb with rfl | hb
        · obtain ⟨o, _, _, ho, _⟩ := x₆.toInCall.ns
          exact ⟨⟨o, ho⟩, Ne.symm n2L, NT.ns x₆.toInCall.ns⟩
        · rw [List.mem_singleton.mp hb]
          exact ⟨hd₆.there, Ne.symm n2D, hd₆.nt⟩
      · obtain ⟨m, x', m1, hD', hl⟩ := hi
        have nt : ∀ b ∈ [I], NT s'.heap b := fun b hb => by rw [List.mem_singleton.mp hb]; exact hnt.nt
        have hLI : env.locals ≠ I := fun e => by
          obtain ⟨o, _, _, ho, _⟩ := x₆.toInCall.ns
          rw [e, hI] at ho; cases ho
        exact ⟨m, ic_upB x' u (by simpa using hLI) (fun i hi => by rw [List.mem_singleton.mp hi]; exact Up.none (ic_up0 x₆) hI) (fun n c e => (hcm n c e).elim), m1, hD'.up u.kp (by simpa using hnt.ne_dict hD') nt, hl⟩
      · obtain ⟨m, x₇, m1, hD₇, hl₇⟩ := iv
        have hi : i < src.length := (List.getElem?_eq_some_iff.mp hcp).1
        have hstep : (src.take (i + 1)).foldl (fun d p => addS d p.1 p.2) (c.foldl (fun d p => setF d p.1 p.2) []) = addS ((src.take i).foldl (fun d p => addS d p.1 p.2) (c.foldl (fun d p => setF d p.1 p.2) [])) p.1 p.2 := by
          rw [List.take_add_one, hcp]; simp
        rw [hstep]
        generalize (src.take i).foldl (fun d p => addS d p.1 p.2) (c.foldl (fun d p => setF d p.1 p.2) []) = e at *
        have elen := addS_len e p.1 p.2
        refine assign_pairU hhd x₇ hk kF kC hT fun s₈ u₈ x₈ => ?_
        have n₈ := x₈.toInCall.ns
        have nt : ∀ b ∈ [env.locals], NT s₇.heap b := fun b hb => by rw [List.mem_singleton.mp hb]; exact .ns x₇.toInCall.ns
        have hD₈ := hD₇.up u₈.kp (by simpa using hDL) nt
        have hkey₈ := hkey.tp (u₈.tp nt)
        have C₈ : Cx mg mb k (A.deeper env) s₈.heap := (C.keeps (ic_kp x₈)).deeper
        refine wpAny_execs_cons (wpAny_If (wpAny_isTrue_Compare1 (name_local kF hk rfl n₈ (by walk_at "other") (name_local kN hk rfl n₈ (by walk_at "other") (shdict_in (by omega) hlo hkey₈ hD₈ fun tk => wpAny_truthy_bool ?_)))))
        have fin : ∀ s₉ s₁₀, Up s₈ s₉ → UpB [D] s₉ s₁₀ → ShDict prog w s₁₀.heap D (addS e p.1 p.2) → UpB [env.locals, D] s₇ s₁₀ ∧ ∃ m, InCallC s env.locals m env.cells cm s₁₀ ∧ m "new_callers" = some (.ref D) ∧ ShDict prog w s₁₀.heap D (addS e p.1 p.2) ∧ (addS e p.1 p.2).length ≤ c.length + (i + 1) := fun s₉ s₁₀ u₉ u₁₀ hD₁₀ => by
          refine ⟨u₈.two1.trans (u₉.up.trans u₁₀.two2), _, ic_upB (ic_up x₈ u₉) u₁₀ (by simpa using Ne.symm hDL) (fun i hi => by rw [List.mem_singleton.mp hi]; exact hDs) (fun n c e => (hcm n c e).elim), by walk_at "other", hD₁₀, by omega⟩
        by_cases hin : hasF e p.1 = true
        · rw [if_pos hin]
          have hadd : addS e p.1 p.2 = setF e p.1 (getF e p.1 + p.2) := if_pos hin
          refine wpAny_execs_cons (wpAny_If (isTrue_plain (call_b2 rfl (fun hq => name_builtin (s := { s₈ with toks := tk }) (h₀ := s.heap) C₈.gl.g C₈.gl.b C₈.gl.nisi hq hk kI hgl hbl) (spliced_cons (name_local (s := { s₈ with toks := tk }) kC hk rfl n₈ (by walk_at "same") (spliced_cons (name_builtin (s := { s₈ with toks := tk }) (h₀ := s.heap) C₈.gl.g C₈.gl.b C₈.gl.ntuple (spliced_nil (IsiPair.int_tuple (wpAny_truthy_bool ?_))) hk kU hgl hbl)))))))
          simp only [Bool.false_eq_true, if_false]
          refine wpAny_execs_cons (wpAny_AugAssign_Subscript (name_local kN hk rfl n₈ (by walk_at "other") (name_local kF hk rfl n₈ (by walk_at "other") (shdict_get (by omega) hkey₈ hD₈ hin fun t' tk' => ?_))))
          refine name_local (s := { s₈ with toks := tk' }) kC hk rfl n₈ (by walk_at "same") (P.iadd_int ?_)
          refine shdict_set (s := { s₈ with toks := tk' + 1 }) (by omega) hkey₈ hD₈ (by omega) fun s₁₀ u₁₀ hD₁₀ => wpAny_execs_nil (wpAny_execs_nil (wpAny_execs_nil (.inl ⟨rfl, ?_⟩)))
          rw [← hadd] at hD₁₀
          exact fin { s₈ with toks := tk' + 1 } s₁₀ (UpB.of_k (Kp.refl _)) u₁₀ hD₁₀
        · rw [if_neg hin]
          have hadd : addS e p.1 p.2 = setF e p.1 p.2 := if_neg hin
          refine wpAny_execs_cons (wpAny_Assign_Subscript (name_local (s := { s₈ with toks := tk }) kC hk rfl n₈ (by walk_at "same") (name_local (s := { s₈ with toks := tk }) kN hk rfl n₈ (by walk_at "other") (name_local (s := { s₈ with toks := tk }) kF hk rfl n₈ (by walk_at "other") ?_))))
          refine shdict_set (s := { s₈ with toks := tk }) (by omega) hkey₈ hD₈ (by omega) fun s₁₀ u₁₀ hD₁₀ => wpAny_execs_nil (wpAny_execs_nil (.inl ⟨rfl, ?_⟩))
          rw [← hadd] at hD₁₀
          exact fin { s₈ with toks := tk } s₁₀ (UpB.of_k (Kp.refl _)) u₁₀ hD₁₀
      · obtain ⟨m, x₇, m1, hD₇, hl₇⟩ := iv
        rw [List.take_of_length_le (Nat.le_refl _)] at hD₇
        exact wpAny_execs_cons (wpAny_Return_some (name_local kN hk rfl x₇.toInCall.ns m1 ⟨_, rfl, h D s₇ (ic_up0 x₇) hDs hlo hD₇⟩))
      · refine ⟨m, ic_up x₆ u, m1, hd₆.keeps u.k, ?_⟩
        have : ∀ (l acc : Tab), (l.foldl (fun d p => setF d p.1 p.2) acc).length ≤ acc.length + l.length := by
          intro l
          induction l with
          | nil => intro acc; simp
          | cons q r ih =>
            intro acc
            have h1 := ih (setF acc q.1 q.2)
            have h2 := setF_len acc q.1 q.2
            rw [List.foldl_cons, List.length_cons]; omega
        have := this c []
        simpa using this
    · exact ⟨_, ic_up x₃ u, by walk_at "same", by walk_at "other", hd₃.keeps u.k, Nat.le_refl _⟩
end
end Mine

-- part MCount
namespace Mine
open PySem PySem.W PySem.Calls PyProof.Rows PySem.SeqAt

local macro_rules | `(tactic| walk_at "env") => do
  let he := Lean.mkIdent `he
  `(tactic| (rw [$he:ident]; rfl))
local macro_rules | `(tactic| walk_at "same") => `(tactic| exact if_pos rfl)
local macro_rules | `(tactic| walk_at "other") => `(tactic| (refine (if_neg (by decide)).trans ?_; first | assumption | exact if_pos rfl | walk_at "other"))

section
variable {prog : Program} {w : World} {A : Around} {s : Shared} {mg mb : Str → Option Value}

theorem count_call {k : Nat} {f d : Addr} {c : Tab} {Q : Value → Shared → Prop} (C : Cx mg mb (k + 1) A s.heap) (hf : IsDef s.heap f (stAt 2) .none .none) (h1 : ShDict prog w s.heap d c)
    (lo : (d == sysModules) = false) (h : ∀ t s', Up s s' → Q (.int (c.map fun p => p.2).sum t) s') : Wp prog w A (call (.ref f) [.ref d]) Q s := by
  generalize hst : stAt 2 = st at hf
  cases hf with
  | mk ho hd hc =>
    cases hst
    refine fn_cells (by have := C.dp; omega) ho hd C.gl.lim hc rfl (binds := [("callers", .ref d)]) rfl rfl (kindsX rfl _) fun L s₁ env he hL x => ?_
    have C₁ := (C.keeps (ic_kp x)).deeper (env := env)
    have hk : env.scope.kind = .function := by walk_at "env"
    have hloc : env.locals = L := by walk_at "env"
    have hcl : env.cells = [] := by walk_at "env"
    have kT : env.kindOf "callers" = some .local := by walk_at "env"
    have kN : env.kindOf "nc" = some .local := by walk_at "env"
    have kC : env.kindOf "calls" = some .local := by walk_at "env"
    rw [← hloc] at x
    obtain ⟨m, x, hm1⟩ : ∃ m, InCallC s env.locals m env.cells (bindC env.kindOf [("callers", .ref d)] fun _ => none) s₁ ∧ m "callers" = some (.ref d) := ⟨_, x, by walk_at "env"⟩
    generalize hcme : (bindC env.kindOf [("callers", .ref d)] fun _ => none) = cm at *
    have hcm : ∀ n c, env.cells.lookup n = some c → False := fun n c e => by rw [hcl] at e; cases e
    clear ho hd hc he
    have hhd : (A.deeper env).handled = none := C₁.hh
    have hLn : s.heap.get? env.locals = none := by rw [hloc, hL]; exact Heap.get?_none_of_le (Nat.le_refl _)
    refine wpAny_execs_cons (wpAny_Assign_Name (wpAny_Constant_int (stU (ic_up x (UpB.of_k (tk := s₁.toks + 1) (Kp.refl _))) hk kN fun s₂ u₂ x₂ => ?_)))
    have h1₂ := h1.keeps (ic_kp x₂)
    have n1L : d ≠ env.locals := fun q => by
      obtain ⟨o, ho⟩ := h1.there
      rw [q, hLn] at ho; cases ho
    refine wpAny_execs_cons (for_stmt (values_call lo h1₂ rfl rfl (fun Q' q => name_local kT hk rfl x₂.toInCall.ns (by walk_at "other") q) fun v s₃ u₃ hv₃ hview => ?_))
    have x₃ := ic_up x₂ u₃
    refine loop_values hhd (h1₂.keeps u₃.k) hview [env.locals] (fun b hb => ?_)
      (fun i s' => ∃ m t, InCallC s env.locals m env.cells cm s' ∧ m "nc" = some (.int ((c.take i).map fun p => p.2).sum t))
      (fun I i s' s'' hI hi hnt u => ?_) (fun i p t s' hcp u iv => ?_) (fun s' u iv => ?_) (fun s' u => ?_)
    · rw [List.mem_singleton.mp hb]
      obtain ⟨o, _, _, ho, _⟩ := x₃.toInCall.ns
      exact ⟨⟨o, ho⟩, Ne.symm n1L, NT.ns x₃.toInCall.ns⟩
    · obtain ⟨m, t, x', m1⟩ := hi
      have hLI : env.locals ≠ I := fun e => by
        obtain ⟨o, _, _, ho, _⟩ := x₃.toInCall.ns
        rw [e, hI] at ho; cases ho
      exact ⟨m, t, ic_upB x' u (by simpa using hLI) (fun i hi => by rw [List.mem_singleton.mp hi]; exact Up.none (ic_up0 x₃) hI) (fun n c e => (hcm n c e).elim), m1⟩
    · obtain ⟨m, t', x', m1⟩ := iv
      refine wpAny_assign_Name (stU x' hk kC fun s₄ u₄ x₄ => ?_)
      have n₄ := x₄.toInCall.ns
      refine wpAny_execs_cons (wpAny_AugAssign_Name (wpAny_loadName_local hk kN n₄ (by walk_at "other") (name_local kC hk rfl n₄ (by walk_at "same") (P.iadd_int ?_))))
      refine stU (ic_up (s' := { s₄ with toks := s₄.toks + 1 }) x₄ (UpB.of_k (Kp.refl _))) hk kN fun s₅ u₅ x₅ => wpAny_execs_nil (.inl ⟨rfl, u₄.trans ((UpB.of_k (tk := s₄.toks + 1) (Kp.refl _)).trans u₅), _, s₄.toks, x₅, ?_⟩)
      have e : ((c.take (i + 1)).map fun p => p.2).sum = ((c.take i).map fun p => p.2).sum + p.2 := by
        rw [List.take_add_one, hcp]; simp
      rw [e]
      exact if_pos rfl
    · obtain ⟨m, t, x', m1⟩ := iv
      rw [List.take_of_length_le (Nat.le_refl _)] at m1
      exact wpAny_execs_cons (wpAny_Return_some (name_local kN hk rfl x'.toInCall.ns m1 ⟨_, rfl, h _ _ (ic_up0 x')⟩))
    · exact ⟨_, _, ic_up x₃ u, by walk_at "same"⟩
end
end Mine

-- part MLawA
namespace Mine
open PySem PySem.W PySem.Calls PyProof.Rows PySem.SeqAt

section
variable {prog : Program} {w : World} {A : Around} {s s₀ : Shared} {d l : Addr} {c : Tab} {env : Env}

theorem vals_ints {h : Heap} : ∀ {vs : List Value} {ns : List Int}, Vals Kd.int h vs ns → IntsAre vs ns
  | _, _, .nil => .nil
  | _, _, .cons (b := n) ⟨t, e⟩ r => by subst e; exact .cons n t (vals_ints r)
theorem ints_vals {h : Heap} : ∀ {vs : List Value} {ns : List Int}, IntsAre vs ns → Vals Kd.int h vs ns
  | _, _, .nil => .nil
  | _, _, .cons n t r => .cons ⟨t, rfl⟩ (ints_vals r)

theorem sum_vals {vs : Array Value} {ns : List Int} {Q : Value → Shared → Prop} (hh : A.handled = none) (hl : s.heap.IsList l vs) (hv : Vals Kd.int s.heap vs.toList ns)
    (h : ∀ t s', Up s s' → Q (.int ns.sum t) s') : Wp prog w A (call (.builtin "sum") [.ref l]) Q s := by
  have hi := vals_ints hv
  obtain ⟨xs, e⟩ := hi.allInts.items
  have e' : vs = intItems xs := by rw [← e]
  have hn := hi.numsOf
  rw [e', nums_intItems] at hn
  rw [e'] at hl
  refine sum_intListG hh hl fun h' tk t' hk => ?_
  have := h t' { s with heap := h', toks := tk } (UpB.of_k hk)
  rw [preSum_eq, List.take_of_length_le (by simp), hn]; exact this

theorem raw_len {Q : Value → Shared → Prop} (lo : (d == sysModules) = false) (hd : ShDict prog w s.heap d c) (hz : c.length ≤ 1000) (h : ∀ t tk, Q (.int c.length t) { s with toks := tk }) : Wp prog w A (call (.builtin "len") [.ref d]) Q s := by
  obtain ⟨es, ep, hr, hsz, _⟩ := hd.raw
  obtain ⟨o, ho, hc, hdat⟩ := id hr
  refine call_len_slot (n := c.length) hr.typeIs PySem.F.slot_dict_len (fun Q' hq => ?_) (by omega) (by omega) (h _ _)
  refine wpAny_call_entry PySem.F.slot_dict_len hr.typeIs PySem.F.entry_dict_len ?_ (PySem.F.args_dict_len_1 _)
  show wpAny _ _ (dictSize d >>= _) _ _ s
  unfold dictSize
  refine wpAny_bind (wpAny_bind (wpAny_dictEntries ho hdat (wpAny_pure ?_)))
  show wpAny _ _ (Builtin.Dict.pendingCount d >>= _) _ _ s
  refine wpAny_bind (wpAny_pendingCount_other lo ?_)
  refine wpAny_ret_mkInt ?_
  rw [Nat.add_zero, hsz]
  exact hq

/-- an item of a list, at a place reckoned -/
theorem list_item {α : Type} [DecidableEq α] {K : Kd α} {value slice : Expr} {vs : Array Value} {xs : List α} {i : Nat} {t : Tok} {x : α} {Q : Value → Shared → Prop} (hl : s.heap.IsList l vs) (hv : Vals K s.heap vs.toList xs) (hx : xs[i]? = some x) (hi : i < 100000)
    (h : ∀ v, K.is s.heap v x → Q v s) (hs : subscripted slice false (.ref l) (.int (i : Int) t) = operate [.ref l, .int (i : Int) t] (getItem (.ref l) (.int (i : Int) t))) : Wp prog w A (subscriptTail value slice (.ref l) (.int (i : Int) t)) Q s := by
  obtain ⟨v, ev, iv⟩ := Vals.get hv hx
  exact tail_any hl.typeIs slot_list_getitem.lookup (wpAny_getItem_list hl (by omega) (by omega) (x := v) (by rw [Int.toNat_natCast, ← Array.getElem?_toList]; exact ev) (h v iv)) hs

theorem key_item {pos : Pos} {value : Expr} {sh : Shape} {a : Addr} {k : Nat} {p : Pos} {Q : Value → Shared → Prop} (hk : KeyIs s.heap sh a) (h : ∀ v, Kd.shape.is s.heap v sh → Q v { s with toks := s.toks + 1 })
    (he : Wp prog w A (eval value env) (fun v s' => v = .ref a ∧ s' = s) s) : Wp prog w A (eval (.Subscript value (.Constant (.int 1) k p) pos) env) Q s := by
  obtain ⟨t1, t2, v, ht, hv⟩ := hk
  refine Subscript_ (wp_mono he fun v' s' hq => ?_)
  obtain ⟨rfl, rfl⟩ := hq
  refine wpAny_Constant_int ?_
  have hT : Shared.TypeIs { s' with toks := s'.toks + 1 } (.ref a) "tuple" := let ⟨o, ho, hc, _⟩ := ht; ⟨o, ho, hc⟩
  have ht' : PyProof.Rows.IsTup s'.heap a #[.str "like" t1, v, .str "first" t2] := ht
  exact tail_any hT slot_tuple_getitem.lookup (getItem_tuple (s := { s' with toks := s'.toks + 1 }) ht' (by decide) (by decide) (j := 1) rfl rfl (h v hv)) rfl
end
end Mine

-- part MLawP
namespace Mine
open PySem PySem.W
def ordL : Nat → List Shape
  | 0 => [[(0, 0)]]
  | 1 => [[(0, 0), (0, 1)], [(0, 0), (1, 0)]]
  | 2 => [[(0, 0), (0, 1), (0, 2)], [(0, 0), (0, 1), (1, 0)], [(0, 0), (0, 1), (1, 1)], [(0, 0), (1, 0), (1, 1)], [(0, 0), (1, 0), (2, 0)], [(0, 1), (1, 0), (1, 1)]]
  | _ => [[(0, 0), (0, 1), (0, 2), (0, 3)], [(0, 0), (0, 1), (0, 2), (1, 0)], [(0, 0), (0, 1), (0, 2), (1, 1)], [(0, 0), (0, 1), (0, 2), (1, 2)], [(0, 0), (0, 1), (1, 0), (1, 1)], [(0, 0), (0, 1), (1, 0), (2, 0)], [(0, 0), (0, 1), (1, 1), (1, 2)], [(0, 0), (0, 1), (1, 1), (2, 1)], [(0, 0), (1, 0), (1, 1), (1, 2)], [(0, 0), (1, 0), (1, 1), (2, 0)], [(0, 0), (1, 0), (1, 1), (2, 1)], [(0, 0), (1, 0), (2, 0), (2, 1)], [(0, 0), (1, 0), (2, 0), (3, 0)], [(0, 1), (0, 2), (1, 0), (1, 1)], [(0, 1), (1, 0), (1, 1), (1, 2)], [(0, 1), (1, 0), (1, 1), (2, 0)], [(0, 1), (1, 0), (1, 1), (2, 1)], [(0, 1), (1, 1), (2, 0), (2, 1)], [(0, 2), (1, 0), (1, 1), (1, 2)]]
def callL : Nat → Tab
  | 0 => [([(0, 0)], 1)]
  | 1 => [([(0, 0), (0, 1)], 2)]
  | 2 => [([(0, 0), (0, 1), (0, 2)], 2), ([(0, 0), (0, 1), (1, 0)], 4)]
  | _ => [([(0, 0), (0, 1), (0, 2), (0, 3)], 2), ([(0, 0), (0, 1), (0, 2), (1, 0)], 8), ([(0, 0), (0, 1), (0, 2), (1, 1)], 4), ([(0, 0), (0, 1), (1, 0), (1, 1)], 1), ([(0, 0), (0, 1), (1, 1), (1, 2)], 4)]

def callsS (order : List Shape) : Tab := order.foldl (fun c sh => addCallersF c [(minBy shLt [] (eightF sh), 1)]) []
theorem ord_grown : ∀ k, k < 3 → grownF (ordL k) = ordL (k + 1) := by decide +kernel
theorem ord_ok : ∀ k, k < 4 → ∀ sh ∈ ordL k, sh ≠ [] ∧ sh.length ≤ 14 := by decide +kernel
theorem ord_few : ∀ k, k < 3 → (ordL k).length ≤ 10 := by decide +kernel
theorem ord_len : ∀ k, k < 4 → (ordL k).length ≤ 19 ∧ ([1, 2, 6, 19] : List Int)[k]? = some ((ordL k).length : Int) := by decide +kernel
theorem ord_sorted : ∀ k, k < 4 → sortBy shLt [] (ordL k) = ordL k := by decide +kernel
theorem call_ord : ∀ k, k < 4 → callsS (ordL k) = callL k := by decide +kernel
theorem call_len : ∀ k, k < 4 → (callL k).length ≤ 5 ∧ ([1, 1, 2, 5] : List Int)[k]? = some ((callL k).length : Int) := by decide +kernel
theorem call_sum : ∀ k, k < 4 → ((callL k).map fun p => p.2).sum = ((ordL k).length : Int) := by decide +kernel
theorem call_eight : ∀ k, k < 4 → ∀ p ∈ callL k, p.2 * ((eightF p.1).count p.1 : Int) = 8 ∧ p.1 ≠ [] ∧ p.1.length ≤ 14 ∧ (eightF p.1).count p.1 ≤ 8 := by decide +kernel
theorem draw_step : ∀ k, k < 3 → ∀ d ∈ ordL k, besideF d ≠ [] ∧ ∀ q ∈ besideF d, movedF (d ++ [q]) ∈ ordL (k + 1) := by decide +kernel
theorem draw_place : ∀ k, k < 4 → ∀ d ∈ ordL k, bisF (ordL k) d < (ordL k).length ∧ (ordL k)[bisF (ordL k) d]? = some d := by decide +kernel
theorem draw_eight : ∀ k, k < 4 → ∀ d ∈ ordL k, ((eightF d).filter fun s => decide (s ∉ ordL k)) = [] := by decide +kernel
theorem draw_sides : ∀ k, k < 4 → ∀ d ∈ ordL k, ((openL d).length : Int) = 4 * ((k : Int) + 1) - 2 * (nearL d).length ∧ k ≤ (nearL d).length := by decide +kernel
end Mine

-- part MLawB
namespace Mine
open PySem PySem.W PySem.Calls PyProof.Rows PySem.SeqAt

local macro_rules | `(tactic| walk_at "same") => `(tactic| exact if_pos rfl)
local macro_rules | `(tactic| walk_at "other") => `(tactic| (refine (if_neg (by decide)).trans ?_; first | assumption | exact if_pos rfl | walk_at "other"))

structure LEnv (env : Env) (cO cD : Addr) : Prop where
  hk : env.scope.kind = .function
  hgl : env.globals = mainGlobals
  hbl : env.builtins = builtinsNs
  hin : interactive env = false
  hcl : env.cells = ([("drawn", cD), ("order", cO)] : List (Str × Addr))
  kO : env.kindOf "order" = some .cell
  kD : env.kindOf "drawn" = some .cell
  kScript : env.kindOf "script" = some .local
  kMany : env.kindOf "many" = some .local
  kCalls : env.kindOf "calls" = some .local
  kTurn : env.kindOf "turn" = some .local
  kShape : env.kindOf "shape" = some .local
  kWord : env.kindOf "word" = some .local
  kOften : env.kindOf "often" = some .local
  kNumber : env.kindOf "number" = some .local
  kBeside : env.kindOf "beside" = some .local
  kPlace : env.kindOf "place" = some .local
  kNear : env.kindOf "near" = some .local
  kOpen : env.kindOf "open_sides" = some .local
  gSum : env.kindOf "sum" = some .globalImplicit
  gRange : env.kindOf "range" = some .globalImplicit
  gLen : env.kindOf "len" = some .globalImplicit
  gSorted : env.kindOf "sorted" = some .globalImplicit
  gMin : env.kindOf "min" = some .globalImplicit
  gGrown : env.kindOf "_law_grown" = some .globalImplicit
  gAdd : env.kindOf "add_callers" = some .globalImplicit
  gEight : env.kindOf "_law_eight" = some .globalImplicit
  gCount : env.kindOf "count_calls" = some .globalImplicit
  gBeside : env.kindOf "_law_beside" = some .globalImplicit
  gMoved : env.kindOf "_law_moved" = some .globalImplicit
  gBis : env.kindOf "bisect_left" = some .globalImplicit

abbrev X0 (env : Env) (cO cD : Addr) : List Addr := [env.locals, cO, cD]
def OrdAt (h : Heap) (v : Value) (ord : List Shape) : Prop := ∃ D ys, v = .ref D ∧ h.PlainList D ys ∧ Vals Kd.shape h ys.toList ord

theorem NT.fldcell {h : Heap} {a : Addr} {v : Option Value} (x : h.IsCell a v) : ¬ IsFld h a := fun y => by
  obtain ⟨o, ho, hd⟩ := x
  obtain ⟨o', vs, ho', hd'⟩ := y
  rw [ho] at ho'; cases ho'
  rw [hd] at hd'; cases hd'
theorem NT.fldns {h : Heap} {a : Addr} {m : Str → Option Value} (x : h.Ns a m) : ¬ IsFld h a := fun y => by
  obtain ⟨o, es, ep, ho, hd, _⟩ := x
  obtain ⟨o', vs, ho', hd'⟩ := y
  rw [ho] at ho'; cases ho'
  rw [hd] at hd'; cases hd'

section
variable {prog : Program} {w : World} {A B : Around} {s s' s'' : Shared} {mg mb : Str → Option Value} {env : Env} {cO cD : Addr} {m cm : Str → Option Value}

theorem LEnv.lO (E : LEnv env cO cD) : env.cells.lookup (Str.ofString "order") = some cO := by rw [E.hcl]; rfl
theorem LEnv.lD (E : LEnv env cO cD) : env.cells.lookup (Str.ofString "drawn") = some cD := by rw [E.hcl]; rfl
theorem LEnv.cell (E : LEnv env cO cD) {n : Str} {c : Addr} (h : env.cells.lookup n = some c) : c = cO ∨ c = cD := by
  rw [E.hcl] at h
  simp only [List.lookup_cons] at h
  split at h
  · exact .inr (Option.some.inj h).symm
  · split at h
    · exact .inl (Option.some.inj h).symm
    · cases h
variable (E : LEnv env cO cD) (x : InCallC s env.locals m env.cells cm s')
include E x
theorem x0_nt : ∀ b ∈ X0 env cO cD, NT s'.heap b := by
  intro b hb
  simp only [List.mem_cons, List.not_mem_nil, or_false] at hb
  rcases hb with rfl | rfl | rfl
  · exact .ns x.toInCall.ns
  · exact .cell (x.cell _ _ E.lO)
  · exact .cell (x.cell _ _ E.lD)
theorem x0_there : ∀ b ∈ X0 env cO cD, ∃ o, s'.heap.get? b = some o := by
  intro b hb
  simp only [List.mem_cons, List.not_mem_nil, or_false] at hb
  rcases hb with rfl | rfl | rfl
  · obtain ⟨o, _, _, ho, _⟩ := x.toInCall.ns; exact ⟨o, ho⟩
  · obtain ⟨o, ho, _⟩ := x.cell _ _ E.lO; exact ⟨o, ho⟩
  · obtain ⟨o, ho, _⟩ := x.cell _ _ E.lD; exact ⟨o, ho⟩
theorem x0_old : ∀ b ∈ X0 env cO cD, s.heap.get? b = none := by
  have h1 := x.above _ _ (mem_of_lookup E.lO)
  have h2 := x.above _ _ (mem_of_lookup E.lD)
  have h0 := x.toInCall.fresh
  intro b hb
  simp only [List.mem_cons, List.not_mem_nil, or_false] at hb
  rcases hb with rfl | rfl | rfl
  · exact Heap.get?_none_of_le h0
  · exact Heap.get?_none_of_le (Nat.le_of_lt (Nat.lt_of_le_of_lt h0 h1))
  · exact Heap.get?_none_of_le (Nat.le_of_lt (Nat.lt_of_le_of_lt h0 h2))
theorem x0_list {D : Addr} {ys : Array Value} (h : s'.heap.IsList D ys) : D ∉ X0 env cO cD := by
  obtain ⟨o, ho, hc, n, hd⟩ := h
  intro hb
  simp only [List.mem_cons, List.not_mem_nil, or_false] at hb
  rcases hb with rfl | rfl | rfl
  · obtain ⟨o', es, ep, ho', hd', _⟩ := x.toInCall.ns
    rw [ho] at ho'; cases ho'; rw [hd] at hd'; cases hd'
  · obtain ⟨o', ho', hd'⟩ := x.cell _ _ E.lO
    rw [ho] at ho'; cases ho'; rw [hd] at hd'; cases hd'
  · obtain ⟨o', ho', hd'⟩ := x.cell _ _ E.lD
    rw [ho] at ho'; cases ho'; rw [hd] at hd'; cases hd'
theorem ord_up {v : Value} {ord : List Shape} (h : OrdAt s'.heap v ord) (u : UpB (X0 env cO cD) s' s'') : OrdAt s''.heap v ord := by
  obtain ⟨D, ys, rfl, hl, hv⟩ := h
  exact ⟨D, ys, rfl, hl.at fun o e => u.kp _ o (x0_list E x hl.isList) e, hv.tp (u.tp (x0_nt E x))⟩
theorem ic_I {I : Addr} (u : UpB [I] s' s'') (hI : IsFld s'.heap I) (hs : s.heap.get? I = none) : InCallC s env.locals m env.cells cm s'' := by
  refine ic_upB x u (fun h => ?_) (fun i hi => by rw [List.mem_singleton.mp hi]; exact hs) (fun n c e h => ?_)
  · rw [List.mem_singleton.mp h] at x
    exact NT.fldns x.toInCall.ns hI
  · rw [List.mem_singleton.mp h] at e
    exact NT.fldcell (x.cell _ _ e) hI
omit E x

theorem OrdAt.I {h h' : Heap} {v : Value} {ord : List Shape} {I : Addr} (x : OrdAt h v ord) (k : KpB [I] h h') (hI : IsFld h I) : OrdAt h' v ord := by
  obtain ⟨D, ys, rfl, hl, hv⟩ := x
  exact ⟨D, ys, rfl, hl.at fun o e => k _ o (by simpa using hI.ne_list hl.isList) e, hv.tp (k.tp fun i hi => by rw [List.mem_singleton.mp hi]; exact hI.nt)⟩
theorem OrdAt.keeps {h h' : Heap} {v : Value} {ord : List Shape} (x : OrdAt h v ord) (k : Kp h h') : OrdAt h' v ord := by
  obtain ⟨D, ys, rfl, hl, hv⟩ := x
  exact ⟨D, ys, rfl, hl.at fun o e => k _ o e, hv.tp k.tp⟩
theorem OrdAt.seq {h : Heap} {v : Value} {ord : List Shape} (x : OrdAt h v ord) : SeqIs Kd.shape h v ord := by
  obtain ⟨D, ys, rfl, hl, hv⟩ := x
  exact ⟨D, ys, rfl, .inr hl.isList, hv⟩
theorem u_loc (u : UpB [env.locals] s s') : UpB (X0 env cO cD) s s' := u.mono fun i h => by rw [List.mem_singleton.mp h]; exact .head _
theorem u_cO (u : UpB [cO] s s') : UpB (X0 env cO cD) s s' := u.mono fun i h => by rw [List.mem_singleton.mp h]; exact .tail _ (.head _)
theorem u_cD (u : UpB [cD] s s') : UpB (X0 env cO cD) s s' := u.mono fun i h => by rw [List.mem_singleton.mp h]; exact .tail _ (.tail _ (.head _))

/-- for turn in range(many - 1): order = _law_grown(order) -/
theorem s2 {k : Nat} {t : Tok} {v0 : Value} {rest : List Stmt} {Q : Flow → Shared → Prop} {p1 p2 p3 p4 p5 p6 p7 p8 p9 p10 p11 p12 : Pos} {k4 : Nat} (E : LEnv env cO cD) (C : Cx mg mb 4 B s.heap) (hk3 : k ≤ 3)
    (x : InCallC s env.locals m env.cells cm s') (mM : m "many" = some (.int ((k : Int) + 1) t)) (mO : cm "order" = some v0) (oO : OrdAt s'.heap v0 (ordL 0))
    (next : ∀ s'' m' cm' v, InCallC s env.locals m' env.cells cm' s'' → (∀ z : Str, z ≠ "turn" → m' z = m z) → (∀ z : Str, z ≠ "order" → cm' z = cm z) → UpB (X0 env cO cD) s' s'' → cm' "order" = some v → OrdAt s''.heap v (ordL k) → Wp prog w B (execs rest env) Q s'') :
    Wp prog w B (execs (.For (.Name "turn" p1) (.Call (.Name "range" p2) [.BinOp (.Name "many" p3) .Sub (.Constant (.int 1) k4 p4) p5] [] p6) [.Assign [.Name "order" p7] (.Call (.Name "_law_grown" p8) [.Name "order" p9] [] p10) p11] [] p12 :: rest) env) Q s' := by
  have C' := C.keeps (ic_kp x)
  have hh := C'.hh
  refine wpAny_execs_cons (for_stmt (call_t1 rfl (fun hq => name_builtin (h₀ := s.heap) C'.gl.g C'.gl.b C'.gl.nrange hq E.hk E.gRange E.hgl E.hbl) (wpAny_BinOp (name_local E.kMany E.hk rfl x.toInCall.ns mM (wpAny_Constant_int (P.sub_int ?_))))))
  have e : ((k : Int) + 1) - 1 = (k : Nat) := by omega
  rw [e]
  have ux : Up s' { s' with toks := s'.toks + 1 + 1 } := UpB.of_k (Kp.refl _)
  refine loop_range (s := { s' with toks := s'.toks + 1 + 1 }) (n := k) hh (by omega) (X0 env cO cD) (x0_there E (ic_up x ux))
    (fun i s'' => ∃ m' cm' v, InCallC s env.locals m' env.cells cm' s'' ∧ (∀ z : Str, z ≠ "turn" → m' z = m z) ∧ (∀ z : Str, z ≠ "order" → cm' z = cm z) ∧ cm' "order" = some v ∧ OrdAt s''.heap v (ordL i))
    (fun I i s₁ s₂ hI hi hnt u => ?_) (fun i t s₁ hi u iv => ?_) (fun s₁ u iv => ?_) (fun s₁ u => ?_)
  · obtain ⟨m', cm', v, x', h1, h2, h3, h4⟩ := hi
    exact ⟨m', cm', v, ic_I E x' u hnt (Up.none (ic_up0 x) hI), h1, h2, h3, h4.I u.kp hnt⟩
  · obtain ⟨m', cm', v, x₁, h1, h2, h3, h4⟩ := iv
    refine wpAny_assign_Name (stU x₁ E.hk E.kTurn fun s₂ u₂ x₂ => ?_)
    have h4₂ := ord_up E x₁ h4 (u_loc u₂)
    have C₂ := C.keeps (ic_kp x₂)
    obtain ⟨f, ef, hf⟩ := C₂.gl.fgrown
    have c₂ := x₂.cell _ _ E.lO
    rw [h3] at c₂
    refine wpAny_execs_cons (wpAny_Assign_Name (call_f1 rfl (fun hq => name_global C₂.gl.g ef hq E.hk E.gGrown E.hgl) (name_cell E.kO E.hk E.lO c₂ ⟨⟨_, _, _, hf⟩, ?_⟩)))
    refine grown_call (k := 1) C₂ hf h4₂.seq (ord_few i (by omega)) (ord_ok i (by omega)) fun D ys s₃ u₃ hD hl hv => ?_
    rw [ord_grown i (by omega)] at hv
    refine stCU (ic_up x₂ u₃) E.hk E.kO E.lO fun s₄ u₄ x₄ => wpAny_execs_nil (.inl ⟨rfl, (u_loc u₂).trans (u₃.up.trans (u_cO u₄)), _, _, .ref D, x₄, fun z hz => (if_neg hz).trans (h1 z hz), fun z hz => (if_neg hz).trans (h2 z hz), by walk_at "same", ?_⟩)
    exact ⟨D, ys, rfl, hl.at fun o e => u₄.kp _ o (fun q => x0_list E (ic_up x₂ u₃) hl.isList (by rw [List.mem_singleton.mp q]; exact .tail _ (.head _))) e, hv.tp ((u_cO (env := env) (cD := cD) u₄).tp (x0_nt E (ic_up x₂ u₃)))⟩
  · obtain ⟨m', cm', v, x₁, h1, h2, h3, h4⟩ := iv
    exact next _ _ _ _ x₁ h1 h2 (ux.up.trans u) h3 h4
  · exact ⟨m, cm, v0, ic_up x (ux.trans u), fun _ _ => rfl, fun _ _ => rfl, mO, oO.keeps (Up.k (ux.trans u))⟩
end
end Mine

-- part MLawC
namespace Mine
open PySem PySem.W PySem.Calls PyProof.Rows PySem.SeqAt

local macro_rules | `(tactic| walk_at "same") => `(tactic| exact if_pos rfl)
local macro_rules | `(tactic| walk_at "other") => `(tactic| (refine (if_neg (by decide)).trans ?_; first | assumption | exact if_pos rfl | walk_at "other"))

section
variable {prog : Program} {w : World} {A B : Around} {s s' s'' : Shared} {mg mb : Str → Option Value} {env : Env} {cO cD : Addr} {m cm : Str → Option Value}

/-- a written menu of four ints at many - 1 -/
theorem menu_ev {k : Nat} {t : Tok} {a b c d y : Int} {q1 q2 q3 q4 q5 q6 q7 q8 q9 : Pos} {j1 j2 j3 j4 j5 : Nat} {Q : Value → Shared → Prop} (E : LEnv env cO cD) (hk3 : k ≤ 3) (x : InCallC s env.locals m env.cells cm s') (mM : m "many" = some (.int ((k : Int) + 1) t))
    (hy : ([a, b, c, d] : List Int)[k]? = some y) (h : ∀ t s'', Up s' s'' → Q (.int y t) s'') :
    Wp prog w B (eval (.Subscript (.List [.Constant (.int a) j1 q1, .Constant (.int b) j2 q2, .Constant (.int c) j3 q3, .Constant (.int d) j4 q4] q5) (.BinOp (.Name "many" q6) .Sub (.Constant (.int 1) j5 q7) q8) q9) env) Q s' := by
  refine Subscript_ (ev_list (K := Kd.int) (xs := [a, b, c, d]) (s₀ := s') (.cons ev_int (.cons ev_int (.cons ev_int (.cons ev_int .nil)))) (by show 4 ≤ 1000; omega) (UpB.refl _) fun D ys s₁ u₁ hD hl hv => ?_)
  have x₁ := ic_up x u₁
  refine wpAny_BinOp (name_local E.kMany E.hk rfl x₁.toInCall.ns mM (wpAny_Constant_int (P.sub_int ?_)))
  have e : ((k : Int) + 1) - 1 = (k : Nat) := by omega
  rw [e]
  refine list_item (s := { s₁ with toks := s₁.toks + 1 + 1 }) (K := Kd.int) hl.isList hv hy (by omega) (fun v hv => ?_) rfl
  obtain ⟨t, rfl⟩ := hv
  exact h _ _ (u₁.trans (UpB.of_k (Kp.refl _)))

theorem len_ord {v : Value} {ord : List Shape} {Q : Value → Shared → Prop} {p1 p2 p3 : Pos} (E : LEnv env cO cD) (C : Cx mg mb 4 B s.heap) (x : InCallC s env.locals m env.cells cm s') (mO : cm "order" = some v) (oO : OrdAt s'.heap v ord) (hz : ord.length ≤ 1000)
    (h : ∀ t s'', Up s' s'' → Q (.int ord.length t) s'') : Wp prog w B (eval (.Call (.Name "len" p1) [.Name "order" p2] [] p3) env) Q s' := by
  have C' := C.keeps (ic_kp x)
  have c₁ := x.cell _ _ E.lO
  rw [mO] at c₁
  obtain ⟨D, ys, rfl, hl, hv⟩ := oO
  have hyl : ys.size = ord.length := by rw [← hv.length]; simp
  refine call_b1 rfl (fun hq => name_builtin (h₀ := s.heap) C'.gl.g C'.gl.b C'.gl.nlen hq E.hk E.gLen E.hgl E.hbl) (name_cell E.kO E.hk E.lO c₁ (call_len_list hl.isList (by omega) ?_))
  rw [hyl]
  exact h _ _ (UpB.of_k (Kp.refl _))

theorem s3 {k : Nat} {t : Tok} {v : Value} {rest bad : List Stmt} {Q : Flow → Shared → Prop} {p1 p2 p3 p4 p5 p6 p7 p8 p9 q1 q2 q3 q4 q5 q6 q7 q8 q9 p9x1 p1x1 : Pos} {j1 j2 j3 j4 j5 : Nat} (E : LEnv env cO cD) (C : Cx mg mb 4 B s.heap) (hk3 : k ≤ 3)
    (x : InCallC s env.locals m env.cells cm s') (mM : m "many" = some (.int ((k : Int) + 1) t)) (mO : cm "order" = some v) (oO : OrdAt s'.heap v (ordL k))
    (next : ∀ s'', Up s' s'' → Wp prog w B (execs rest env) Q s'') :
    Wp prog w B (execs (.If (.BoolOp .Or [.Compare (.Call (.Name "len" p1) [.Name "order" p2] [] p3) [.NotEq] [.Subscript (.List [.Constant (.int 1) j1 q1, .Constant (.int 2) j2 q2, .Constant (.int 6) j3 q3, .Constant (.int 19) j4 q4] q5) (.BinOp (.Name "many" q6) .Sub (.Constant (.int 1) j5 q7) q8) q9] p4,
      .Compare (.Name "order" p5) [.NotEq] [.Call (.Name "sorted" p6) [.Name "order" p7] [] p8] p9] p9x1) bad [] p1x1 :: rest) env) Q s' := by
  obtain ⟨hlen, hmenu⟩ := ord_len k (by omega)
  have C' := C.keeps (ic_kp x)
  have hun := C'.un
  refine wpAny_execs_cons (wpAny_If (isTrue_or (wpAny_isTrue_Compare1 (len_ord E C x mO oO (by omega) fun t₁ s₁ u₁ => menu_ev E hk3 (ic_up x u₁) mM hmenu fun t₂ s₂ u₂ => P.ne_int (wpAny_truthy_bool ?_)))))
  simp only [bne_self_eq_false, Bool.false_eq_true, if_false]
  have u₁₂ := u₁.trans u₂
  have x₂ := ic_up x u₁₂
  have c₂ := x₂.cell _ _ E.lO
  rw [mO] at c₂
  have oO₂ := oO.keeps (Up.k u₁₂)
  have C₂ := C.keeps (ic_kp x₂)
  obtain ⟨D, ys, rfl, hl, hv⟩ := oO₂
  have hyl : ys.size = (ordL k).length := by rw [← hv.length]; simp
  refine isTrue_or (wpAny_isTrue_Compare1 (name_cell E.kO E.hk E.lO c₂ (call_b1 rfl (fun hq => name_builtin (h₀ := s.heap) C₂.gl.g C₂.gl.b C₂.gl.nsorted hq E.hk E.gSorted E.hgl E.hbl) (name_cell E.kO E.hk E.lO c₂ ?_))))
  refine sorted_call (K := Kd.shape) (d := []) (xs := ordL k) (collect_l hl.isList hv (by rw [sizeLine_eq]; omega)) (sort_shape _ fun sh hsh => (ord_ok k (by omega) sh hsh).1) (by omega) (by omega) fun F s₃ zs u₃ hF hl₃ hv₃ => ?_
  rw [shape_lt, ord_sorted k (by omega)] at hv₃
  refine list_ne (K := Kd.shape) (hl.isList.at fun o e => u₃.k _ o e) hl₃ (hv.tp u₃.k.tp) hv₃ (by show _ + 1 + 2 < _; omega) (wpAny_truthy_bool ?_)
  simp only [ne_eq, not_true_eq_false, decide_false, Bool.false_eq_true, if_false]
  refine isTrue_or_nil ?_
  simp only [Bool.false_eq_true, if_false]
  exact wpAny_execs_nil (next _ (u₁₂.trans u₃))

theorem s5 {k : Nat} {t : Tok} {v : Value} {d : Addr} {rest bad : List Stmt} {Q : Flow → Shared → Prop} {p1 p2 p3 p4 p5 p6 p7 p8 p9 p10 q1 q2 q3 q4 q5 q6 q7 q8 q9 p4x1 p4x2 p1x1 : Pos} {j1 j2 j3 j4 j5 : Nat} (E : LEnv env cO cD) (C : Cx mg mb 4 B s.heap) (hk3 : k ≤ 3)
    (x : InCallC s env.locals m env.cells cm s') (mM : m "many" = some (.int ((k : Int) + 1) t)) (mO : cm "order" = some v) (oO : OrdAt s'.heap v (ordL k)) (mC : m "calls" = some (.ref d)) (lo : (d == sysModules) = false) (hd : ShDict prog w s'.heap d (callL k))
    (next : ∀ s'', Up s' s'' → Wp prog w B (execs rest env) Q s'') :
    Wp prog w B (execs (.If (.BoolOp .Or [.Compare (.Call (.Name "len" p1) [.Name "calls" p2] [] p3) [.NotEq] [.Subscript (.List [.Constant (.int 1) j1 q1, .Constant (.int 1) j2 q2, .Constant (.int 2) j3 q3, .Constant (.int 5) j4 q4] q5) (.BinOp (.Name "many" q6) .Sub (.Constant (.int 1) j5 q7) q8) q9] p4,
      .Compare (.Call (.Name "count_calls" p5) [.Name "calls" p6] [] p7) [.NotEq] [.Call (.Name "len" p8) [.Name "order" p9] [] p10] p4x1] p4x2) bad [] p1x1 :: rest) env) Q s' := by
  obtain ⟨hlen, hmenu⟩ := call_len k (by omega)
  obtain ⟨hlen2, _⟩ := ord_len k (by omega)
  have C' := C.keeps (ic_kp x)
  have hun := C'.un
  refine wpAny_execs_cons (wpAny_If (isTrue_or (wpAny_isTrue_Compare1 (call_b1 rfl (fun hq => name_builtin (h₀ := s.heap) C'.gl.g C'.gl.b C'.gl.nlen hq E.hk E.gLen E.hgl E.hbl) (name_local E.kCalls E.hk rfl x.toInCall.ns mC (raw_len lo hd (by omega) fun t₁ tk₁ => ?_))))))
  have u₁ : Up s' { s' with toks := tk₁ } := UpB.of_k (Kp.refl _)
  refine menu_ev E hk3 (ic_up x u₁) mM hmenu fun t₂ s₂ u₂ => P.ne_int (wpAny_truthy_bool ?_)
  simp only [bne_self_eq_false, Bool.false_eq_true, if_false]
  have u₁₂ := u₁.trans u₂
  have x₂ := ic_up x u₁₂
  have C₂ := C.keeps (ic_kp x₂)
  obtain ⟨f, ef, hf⟩ := C₂.gl.fcount
  refine isTrue_or (wpAny_isTrue_Compare1 (call_f1 rfl (fun hq => name_global C₂.gl.g ef hq E.hk E.gCount E.hgl) (name_local E.kCalls E.hk rfl x₂.toInCall.ns mC ⟨⟨_, _, _, hf⟩, ?_⟩)))
  refine count_call (k := 3) C₂ hf (hd.keeps (Up.k u₁₂)) lo fun t₃ s₃ u₃ => ?_
  have u₁₃ := u₁₂.trans u₃
  refine len_ord E C (ic_up x u₁₃) mO (oO.keeps (Up.k u₁₃)) (by omega) fun t₄ s₄ u₄ => P.ne_int (wpAny_truthy_bool ?_)
  rw [call_sum k (by omega)]
  simp only [bne_self_eq_false, Bool.false_eq_true, if_false]
  refine isTrue_or_nil ?_
  simp only [Bool.false_eq_true, if_false]
  exact wpAny_execs_nil (next _ (u₁₃.trans u₄))
end
end Mine

-- part MLawD
namespace Mine
open PySem PySem.W PySem.Calls PyProof.Rows PySem.SeqAt

local macro_rules | `(tactic| walk_at "same") => `(tactic| exact if_pos rfl)
local macro_rules | `(tactic| walk_at "other") => `(tactic| (refine (if_neg (by decide)).trans ?_; first | assumption | exact if_pos rfl | walk_at "other"))

theorem addCallersF_len (c src : Tab) : (addCallersF c src).length ≤ c.length + src.length := by
  have h1 : ∀ (l acc : Tab), (l.foldl (fun d p => setF d p.1 p.2) acc).length ≤ acc.length + l.length := by
    intro l
    induction l with
    | nil => intro acc; simp
    | cons q r ih =>
      intro acc
      have h1 := ih (setF acc q.1 q.2)
      have h2 := setF_len acc q.1 q.2
      rw [List.foldl_cons, List.length_cons]; omega
  have h2 : ∀ (l acc : Tab), (l.foldl (fun d p => addS d p.1 p.2) acc).length ≤ acc.length + l.length := by
    intro l
    induction l with
    | nil => intro acc; simp
    | cons q r ih =>
      intro acc
      have h1 := ih (addS acc q.1 q.2)
      have h2 := addS_len acc q.1 q.2
      rw [List.foldl_cons, List.length_cons]; omega
  have e1 := h1 c []
  have e2 := h2 src (c.foldl (fun d p => setF d p.1 p.2) [])
  unfold addCallersF
  simp only [List.length_nil, Nat.zero_add] at e1
  omega
theorem eightF_ne (sh : Shape) : eightF sh ≠ [] := by
  have : ∀ n sh f, f ≠ [] → eightGo n sh f ≠ [] := by
    intro n
    induction n with
    | zero => intro sh f h; exact h
    | succ n ih => intro sh f h; exact ih _ _ (by simp)
  exact this 3 _ _ (by simp)

section
variable {prog : Program} {w : World} {A B : Around} {s s' s'' : Shared} {mg mb : Str → Option Value} {env : Env} {cO cD : Addr} {m cm : Str → Option Value}

theorem key_disp {sv : Value} {sh : Shape} {Q : Value → Shared → Prop} {p1 p2 p3 p4 p5 p6 p7 p8 p9 p10 : Pos} {j1 j2 j3 j4 : Nat} (E : LEnv env cO cD) (C : Cx mg mb 4 B s.heap)
    (x : InCallC s env.locals m env.cells cm s') (mS : m "shape" = some sv) (hs : Kd.shape.is s'.heap sv sh) (hne : sh ≠ []) (hl : sh.length ≤ 14)
    (h : ∀ d s'', Up s' s'' → s'.heap.get? d = none → (d == sysModules) = false → ShDict prog w s''.heap d [(minBy shLt [] (eightF sh), 1)] → Q (.ref d) s'') :
    Wp prog w B (eval (.Dict [some (.Tuple [.Constant (.str "like") j1 p1, .Call (.Name "min" p2) [.Call (.Name "_law_eight" p3) [.Name "shape" p4] [] p5] [] p6, .Constant (.str "first") j2 p7] j3 p8)] [.Constant (.int 1) j4 p9] p10) env) Q s' := by
  have C' := C.keeps (ic_kp x)
  have hun := C'.un
  refine wpAny_Dict_any rfl rfl (by simp) (by show 1 ≤ 15; omega) ?_
  have lo : (s'.heap.objs.size == sysModules) = false := by
    obtain ⟨o, _, _, ho, _⟩ := C'.gl.g
    exact beq_eq_false_iff_ne.mpr (Nat.ne_of_gt (Nat.lt_of_le_of_lt (by decide) (Heap.lt_size ho)))
  have hnew : ShDict prog w (s'.heap.push { cls := .type "dict", data := .dict #[] }) s'.heap.objs.size [] := ⟨[], Heap.DictOfH.new _, .nil⟩
  have u₁ : Up s' { s' with heap := s'.heap.push { cls := .type "dict", data := .dict #[] } } := UpB.of_k (tk := s'.toks) (Kp.push _ _)
  have hd0 : s'.heap.get? s'.heap.objs.size = none := Heap.get?_none_of_le (Nat.le_refl _)
  generalize hs1 : ({ s' with heap := s'.heap.push { cls := .type "dict", data := .dict #[] } } : Shared) = s₁ at u₁ ⊢
  have hnew : ShDict prog w s₁.heap s'.heap.objs.size [] := by rw [← hs1]; exact hnew
  generalize s'.heap.objs.size = d at *
  have x₁ := ic_up x u₁
  refine pairTrees_cons_walk ?_
  refine wpAny_Tuple (wpAny_items_cons (wpAny_Constant_str (wpAny_items_cons ?_)))
  have u₂ : Up s₁ { s₁ with toks := s₁.toks + 1 } := UpB.of_k (Kp.refl _)
  have x₂ := ic_up x₁ u₂
  have C₂ := C.keeps (ic_kp x₂)
  obtain ⟨f, ef, hf⟩ := C₂.gl.feight
  have hs₂ := Kd.shape.tp (Up.k (u₁.trans u₂)).tp hs
  refine call_b1 rfl (fun hq => name_builtin (s := { s₁ with toks := s₁.toks + 1 }) (h₀ := s.heap) C₂.gl.g C₂.gl.b C₂.gl.nmin hq E.hk E.gMin E.hgl E.hbl) (call_f1 rfl (fun hq => name_global C₂.gl.g ef hq E.hk E.gEight E.hgl) (name_local E.kShape E.hk rfl x₂.toInCall.ns mS ⟨⟨_, _, _, hf⟩, ?_⟩))
  refine eight_call (k := 2) C₂ hf hs₂ hne (by omega) fun D ys s₃ u₃ hl₃ hv₃ => ?_
  refine min_call (K := Kd.shape) (d := []) C'.hh ⟨D, ys, rfl, .inr hl₃.isList, hv₃⟩ (eightF_ne sh) (by show _ + 2 + 2 < _; omega) fun r s₄ u₄ hr => ?_
  rw [shape_lt] at hr
  refine wpAny_items_cons (wpAny_Constant_str (wpAny_items_nil ⟨by rw [sizeLine_eq]; show 3 ≤ _; omega, ?_⟩))
  refine wpAny_Constant_int (pairTrees_nil_walk ?_)
  unfold storeAll
  rw [List.forIn_cons]
  generalize ht5 : ({ s₄ with toks := s₄.toks + 1 } : Shared).heap.push { cls := .type "tuple", data := .seq [.str "like" s₁.toks, r, .str "first" s₄.toks].toArray } = h₅
  have kp5 : Kp s₄.heap h₅ := by rw [← ht5]; exact Kp.push _ _
  have u₄₅ : Up s₄ { s₄ with heap := h₅, toks := s₄.toks + 1 + 1 } := UpB.of_k kp5
  have u₁₅ : Up s₁ { s₄ with heap := h₅, toks := s₄.toks + 1 + 1 } := u₂.trans (u₃.trans (u₄.trans u₄₅))
  have hkey : KeyIs h₅ (minBy shLt [] (eightF sh)) s₄.heap.objs.size := ⟨_, _, r, by rw [← ht5]; exact ⟨_, Heap.get?_push_size _ rfl, rfl, 0, rfl⟩, Kd.shape.tp kp5.tp hr⟩
  obtain ⟨xs, hD, hp⟩ := hnew.keeps (Up.k u₁₅)
  cases hp
  refine wpAny_bind (wpAny_bind (wpAny_dictSet_heap (knd := keyKind prog w) (hsz := Nat.zero_le _) (by show _ + 4 < _; omega) hkey hD fun h' hD' hs => wpAny_pure ?_))
  dsimp only
  rw [List.forIn_nil]
  refine wpAny_pure ?_
  have u₅ : UpB [d] { s₄ with heap := h₅, toks := s₄.toks + 1 + 1 } { s₄ with heap := h', toks := s₄.toks + 1 + 1 + (keyKind prog w).draws (minBy shLt [] (eightF sh)) } := ⟨.of_ext hs.extBut, rfl, rfl, rfl⟩
  refine h d _ (UpB.fresh (X := [d]) ((u₁.trans u₁₅).up.trans u₅) fun i hi => by rw [List.mem_singleton.mp hi]; exact hd0) hd0 lo ⟨_, hD', ?_⟩
  exact .cons ⟨rfl, _, rfl⟩ .nil

theorem s4 {k : Nat} {v : Value} {d0 : Addr} {rest : List Stmt} {Q : Flow → Shared → Prop} {p1 p2 p3 p4 p5 p6 p7 p8 p9 p10 q1 q2 q3 q4 q5 q6 q7 q8 : Pos} {j1 j2 j3 j4 : Nat} (E : LEnv env cO cD) (C : Cx mg mb 4 B s.heap) (hk3 : k ≤ 3)
    (x : InCallC s env.locals m env.cells cm s') (mO : cm "order" = some v) (oO : OrdAt s'.heap v (ordL k)) (mC : m "calls" = some (.ref d0)) (lo0 : (d0 == sysModules) = false) (hd0 : ShDict prog w s'.heap d0 []) (hdX : d0 ≠ env.locals)
    (next : ∀ s'' m' d, InCallC s env.locals m' env.cells cm s'' → (∀ z : Str, z ≠ "shape" → z ≠ "calls" → m' z = m z) → UpB (X0 env cO cD) s' s'' → m' "calls" = some (.ref d) → d ≠ env.locals → (d == sysModules) = false → ShDict prog w s''.heap d (callL k) → OrdAt s''.heap v (ordL k) → Wp prog w B (execs rest env) Q s'') :
    Wp prog w B (execs (.For (.Name "shape" q1) (.Name "order" q2) [.Assign [.Name "calls" q3] (.Call (.Name "add_callers" q4) [.Name "calls" q5, .Dict [some (.Tuple [.Constant (.str "like") j1 p1, .Call (.Name "min" p2) [.Call (.Name "_law_eight" p3) [.Name "shape" p4] [] p5] [] p6, .Constant (.str "first") j2 p7] j3 p8)] [.Constant (.int 1) j4 p9] p10] [] q6) q7] [] q8 :: rest) env) Q s' := by
  have C' := C.keeps (ic_kp x)
  have hh := C'.hh
  have c₁ := x.cell _ _ E.lO
  rw [mO] at c₁
  have hcall : (callsS (ordL k)) = callL k := call_ord k (by omega)
  obtain ⟨hlen, _⟩ := ord_len k (by omega)
  obtain ⟨D, ys, rfl, hl, hv⟩ := id oO
  have hDX := x0_list E x hl.isList
  refine wpAny_execs_cons (for_stmt (name_cell E.kO E.hk E.lO c₁ ?_))
  refine loop_seq (K := Kd.shape) hh oO.seq (X0 env cO cD) (fun b hb => ⟨x0_there E x b hb, fun e => by injection e with e; exact hDX (e ▸ hb), x0_nt E x b hb⟩)
    (fun i s'' => ∃ m' d, InCallC s env.locals m' env.cells cm s'' ∧ (∀ z : Str, z ≠ "shape" → z ≠ "calls" → m' z = m z) ∧ m' "calls" = some (.ref d) ∧ d ≠ env.locals ∧ (d == sysModules) = false ∧ ShDict prog w s''.heap d (callsS ((ordL k).take i)) ∧ (callsS ((ordL k).take i)).length ≤ i ∧ OrdAt s''.heap (.ref D) (ordL k))
    (fun I i s₁ s₂ hI hi hnt u => ?_) (fun i sh sv s₁ hsi hsv u iv => ?_) (fun s₁ u iv => ?_) (fun s₁ u => ?_)
  · obtain ⟨m', d, x', h1, h2, h3, h4, h5, h6, h7⟩ := hi
    have nt : ∀ b ∈ [I], NT s₁.heap b := fun b hb => by rw [List.mem_singleton.mp hb]; exact hnt.nt
    exact ⟨m', d, ic_I E x' u hnt (Up.none (ic_up0 x) hI), h1, h2, h3, h4, h5.up u.kp (by simpa using hnt.ne_dict h5) nt, h6, h7.I u.kp hnt⟩
  · obtain ⟨m', d, x₁, h1, h2, h3, h4, h5, h6, h7⟩ := iv
    have hi : i < (ordL k).length := (List.getElem?_eq_some_iff.mp hsi).1
    obtain ⟨hne, hsl⟩ := ord_ok k (by omega) sh (List.mem_of_getElem? hsi)
    have hstep : callsS ((ordL k).take (i + 1)) = addCallersF (callsS ((ordL k).take i)) [(minBy shLt [] (eightF sh), 1)] := by
      unfold callsS
      rw [List.take_add_one, hsi]; simp
    rw [hstep]
    generalize callsS ((ordL k).take i) = c at *
    have hcl := addCallersF_len c [(minBy shLt [] (eightF sh), 1)]
    refine wpAny_assign_Name (stU x₁ E.hk E.kShape fun s₂ u₂ x₂ => ?_)
    have nt1 : ∀ b ∈ [env.locals], NT s₁.heap b := fun b hb => x0_nt E x₁ b (by rw [List.mem_singleton.mp hb]; exact .head _)
    have hd₂ := h5.up u₂.kp (by simpa using h3) nt1
    have hs₂ := Kd.shape.tp (u₂.tp nt1) hsv
    have o₂ := ord_up E x₁ h7 (u_loc u₂)
    have C₂ := C.keeps (ic_kp x₂)
    obtain ⟨f, ef, hf⟩ := C₂.gl.fadd
    refine wpAny_execs_cons (wpAny_Assign_Name (call_f2 rfl (fun hq => name_global C₂.gl.g ef hq E.hk E.gAdd E.hgl) (spliced_cons (name_local E.kCalls E.hk rfl x₂.toInCall.ns (by walk_at "other") (spliced_cons (key_disp E C x₂ (by walk_at "same") hs₂ hne hsl fun d2 s₃ u₃ hd2n lo2 hd2 => spliced_nil ?_))))))
    have x₃ := ic_up x₂ u₃
    have C₃ := C.keeps (ic_kp x₃)
    refine ⟨⟨_, _, _, hf.keeps (Up.k u₃)⟩, ?_⟩
    refine add_call (k := 3) C₃ (hf.keeps (Up.k u₃)) (hd₂.keeps (Up.k u₃)) hd2 h4 lo2 (by omega) (by show 1 ≤ 1000; omega) fun d3 s₄ u₄ hd3n lo3 hd3 => ?_
    have x₄ := ic_up x₃ u₄
    have d3L : d3 ≠ env.locals := fun e => by
      obtain ⟨o, _, _, ho, _⟩ := x₃.toInCall.ns
      rw [← e, hd3n] at ho; cases ho
    have nt4 : ∀ b ∈ [env.locals], NT s₄.heap b := fun b hb => x0_nt E x₄ b (by rw [List.mem_singleton.mp hb]; exact .head _)
    refine stU x₄ E.hk E.kCalls fun s₅ u₅ x₅ => wpAny_execs_nil (.inl ⟨rfl, (u_loc u₂).trans ((u₃.trans u₄).up.trans (u_loc u₅)), _, d3, x₅, fun z hz1 hz2 => ?_, by walk_at "same", d3L, lo3, hd3.up u₅.kp (by simpa using d3L) nt4, by simp only [List.length_cons, List.length_nil] at hcl; omega, ord_up E x₄ ((o₂.keeps (Up.k u₃)).keeps (Up.k u₄)) (u_loc u₅)⟩)
    exact (if_neg hz2).trans ((if_neg hz1).trans (h1 z hz1 hz2))
  · obtain ⟨m', d, x₁, h1, h2, h3, h4, h5, h6, h7⟩ := iv
    rw [List.take_of_length_le (Nat.le_refl _), hcall] at h5
    exact next _ _ _ x₁ h1 u h2 h3 h4 h5 h7
  · exact ⟨m, d0, ic_up x u, fun _ _ _ => rfl, mC, hdX, lo0, hd0.keeps (Up.k u), Nat.le_refl _, oO.keeps (Up.k u)⟩
end
end Mine

-- part MLawE
namespace Mine
open PySem PySem.W PySem.Calls PyProof.Rows PySem.SeqAt

local macro_rules | `(tactic| walk_at "same") => `(tactic| exact if_pos rfl)
local macro_rules | `(tactic| walk_at "other") => `(tactic| (refine (if_neg (by decide)).trans ?_; first | assumption | exact if_pos rfl | walk_at "other"))

theorem beq_one {α : Type} (i1 i2 : BEq α) (l1 : @LawfulBEq α i1) (l2 : @LawfulBEq α i2) : i1 = i2 := by
  obtain ⟨f⟩ := i1
  obtain ⟨g⟩ := i2
  have : f = g := by
    funext a b
    rw [Bool.eq_iff_iff]
    constructor
    · intro h
      have e : a = b := l1.eq_of_beq h
      subst e; exact l2.rfl
    · intro h
      have e : a = b := l2.eq_of_beq h
      subst e; exact l1.rfl
  rw [this]
theorem count_bridge (sh : Shape) (xs : List Shape) : @List.count Shape instBEqOfDecidableEq sh xs = xs.count sh := by
  rw [beq_one instBEqOfDecidableEq List.instBEq inferInstance inferInstance]
section
variable {prog : Program} {w : World} {A B : Around} {s s' s'' : Shared} {mg mb : Str → Option Value} {env : Env} {cO cD : Addr} {m cm : Str → Option Value}

theorem shape_count {D : Addr} {ys : Array Value} {xs : List Shape} {sh : Shape} {pos : Pos} {e : Expr} {Q : Value → Shared → Prop} (hl : s.heap.PlainList D ys) (hv : Vals Kd.shape s.heap ys.toList xs) (hu : B.units + 10 < cLine)
    (he : ∀ R : Value → Shared → Prop, (∀ v s₁, Up s s₁ → Kd.shape.is s₁.heap v sh → R v s₁) → Wp prog w B (eval e env) R s)
    (h : ∀ t s', Up s s' → Q (.int (xs.count sh : Nat) t) s') : Wp prog w B (callWith pos (.builtin "list.count") [.ref D] [(false, eval e env)] []) Q s := by
  refine method1_meetsIn PySem.F.slot_list_count PySem.F.entry_list_count (he _ fun v s₁ u₁ hvs => ?_)
  have hl₁ := hl.at fun o e => Up.k u₁ _ o e
  have hv₁ := hv.tp (Up.k u₁).tp
  obtain ⟨n, ho⟩ := id hl₁
  refine ⟨hl₁.isList.typeIs, PySem.F.args_list_count_2 _ _, _, (list_countAt D ys n none #[] v (isB Kd.shape s₁.heap sh)).inModel _ _, ho, fun y hy => vals_eqAt (A := B.in1) hv₁ hvs (by show B.units + 1 + 2 < _; omega) y (Array.mem_toList_iff.mpr hy), ?_⟩
  rw [vals_count hv₁, count_bridge]
  exact (show Q _ _ from h _ _ (u₁.trans (UpB.of_k (tk := s₁.toks + 1) (Kp.refl _))))

theorem s6 {k : Nat} {v : Value} {d : Addr} {rest bad : List Stmt} {Q : Flow → Shared → Prop} {p1 p2 p3 p4 p5 p6 p7 p8 p9 p10 p11 p12 q1 q2 q3 q4 q5 q6 q7 p4x1 p5x1 p7x1 : Pos} {j1 j2 j3 j4 : Nat} (E : LEnv env cO cD) (C : Cx mg mb 4 B s.heap) (hk3 : k ≤ 3)
    (x : InCallC s env.locals m env.cells cm s') (oO : OrdAt s'.heap v (ordL k)) (mC : m "calls" = some (.ref d)) (hdL : d ≠ env.locals) (lo : (d == sysModules) = false) (hd : ShDict prog w s'.heap d (callL k))
    (hline : (q5.endLine == q6.line) = true) (hline2 : (p5x1.endLine == p8.line) = true)
    (next : ∀ s'' m', InCallC s env.locals m' env.cells cm s'' → (∀ z : Str, z ≠ "word" → z ≠ "often" → m' z = m z) → UpB (X0 env cO cD) s' s'' → OrdAt s''.heap v (ordL k) → Wp prog w B (execs rest env) Q s'') :
    Wp prog w B (execs (.For (.Tuple [.Name "word" q1, .Name "often" q2] j1 q3) (.Call (.Attribute (.Name "calls" q4) "items" q5) [] [] q6)
      [.If (.Compare (.BinOp (.Name "often" p1) .Mult (.Call (.Attribute (.Call (.Name "_law_eight" p2) [.Subscript (.Name "word" p3) (.Constant (.int 1) j2 p4) p4x1] [] p5) "count" p5x1) [.Subscript (.Name "word" p6) (.Constant (.int 1) j3 p7) p7x1] [] p8) p9) [.NotEq] [.Constant (.int 8) j4 p10] p11) bad [] p12] [] q7 :: rest) env) Q s' := by
  have C' := C.keeps (ic_kp x)
  have hh := C'.hh
  have hun := C'.un
  have hdX : d ∉ X0 env cO cD := by
    intro hb
    simp only [List.mem_cons, List.not_mem_nil, or_false] at hb
    obtain ⟨xs, ⟨o, es, ep, ho, hc, hdt, _⟩, _⟩ := hd
    rcases hb with rfl | rfl | rfl
    · exact hdL rfl
    · obtain ⟨o', ho', hd'⟩ := x.cell _ _ E.lO
      rw [ho] at ho'; cases ho'; rw [hdt] at hd'; cases hd'
    · obtain ⟨o', ho', hd'⟩ := x.cell _ _ E.lD
      rw [ho] at ho'; cases ho'; rw [hdt] at hd'; cases hd'
  refine wpAny_execs_cons (for_stmt (items_call lo hd rfl hline (fun Q' q => name_local E.kCalls E.hk rfl x.toInCall.ns mC q) fun vw s₁ u₁ hvw hview => ?_))
  have x₁ := ic_up x u₁
  refine loop_items hh (hd.keeps (Up.k u₁)) hview (X0 env cO cD) (fun b hb => ⟨x0_there E x₁ b hb, fun e => hdX (e ▸ hb), x0_nt E x₁ b hb⟩)
    (fun i s'' => ∃ m', InCallC s env.locals m' env.cells cm s'' ∧ (∀ z : Str, z ≠ "word" → z ≠ "often" → m' z = m z) ∧ OrdAt s''.heap v (ordL k))
    (fun I i s₁ s₂ hI hi hnt u => ?_) (fun i p T a t s₂ hcp hT hkey u iv => ?_) (fun s₂ u iv => ?_) (fun s₂ u => ?_)
  · obtain ⟨m', x', h1, h2⟩ := hi
    exact ⟨m', ic_I E x' u hnt (Up.none (ic_up0 x₁) hI), h1, h2.I u.kp hnt⟩
  · obtain ⟨m', x₂, h1, h2⟩ := iv
    obtain ⟨hmul, hne, hsl, hcnt⟩ := call_eight k (by omega) p (List.mem_of_getElem? hcp)
    refine assign_pairU hh x₂ E.hk E.kWord E.kOften hT fun s₃ u₃ x₃ => ?_
    have nt2 : ∀ b ∈ [env.locals], NT s₂.heap b := fun b hb => x0_nt E x₂ b (by rw [List.mem_singleton.mp hb]; exact .head _)
    have hkey₃ := hkey.tp (u₃.tp nt2)
    have n₃ := x₃.toInCall.ns
    have C₃ := C.keeps (ic_kp x₃)
    obtain ⟨f, ef, hf⟩ := C₃.gl.feight
    refine wpAny_execs_cons (wpAny_If (wpAny_isTrue_Compare1 (wpAny_BinOp (name_local E.kOften E.hk rfl n₃ (by walk_at "same") (Call_method1 rfl rfl hline2 (call_f1 rfl (fun hq => name_global C₃.gl.g ef hq E.hk E.gEight E.hgl) (key_item hkey₃ (fun wv hwv => ?_) (name_local E.kWord E.hk rfl n₃ (by walk_at "other") ⟨rfl, rfl⟩))))))))
    have u₄ : Up s₃ { s₃ with toks := s₃.toks + 1 } := UpB.of_k (Kp.refl _)
    have C₄ := C₃.keeps (Up.k u₄)
    refine ⟨⟨_, _, _, hf⟩, ?_⟩
    refine eight_call (k := 2) (s := { s₃ with toks := s₃.toks + 1 }) C₄ hf hwv hne (by omega) fun D ys s₅ u₅ hl₅ hv₅ => ?_
    have x₅ := ic_up x₃ (u₄.trans u₅)
    refine ⟨"list", "list.count", PySem.F.plainAttrs_list, PySem.F.slot_list_count, PySem.F.type_list_count, hl₅.isList.typeIs, (fun a e => by cases e; obtain ⟨n, ho⟩ := hl₅; exact ⟨_, ho, rfl⟩), ?_⟩
    refine shape_count (sh := p.1) hl₅ hv₅ (by omega) (fun R hR => key_item (hkey₃.tp (Up.k (u₄.trans u₅)).tp) (fun wv hwv => hR _ _ (UpB.of_k (Kp.refl _)) hwv) (name_local E.kWord E.hk rfl x₅.toInCall.ns (by walk_at "other") ⟨rfl, rfl⟩)) fun t₆ s₆ u₆ => ?_
    refine P.mul_int (hm := IntMulOk.of_right (intBits_le_64 (by omega) (by omega))) (wpAny_Constant_int (P.ne_int (wpAny_truthy_bool ?_)))
    rw [hmul]
    simp only [bne_self_eq_false, Bool.false_eq_true, if_false]
    have ux : Up s₃ { s₆ with toks := s₆.toks + 1 + 1 } := (u₄.trans u₅).trans (u₆.trans (UpB.of_k (Kp.refl _)))
    refine wpAny_execs_nil (wpAny_execs_nil (.inl ⟨rfl, (u_loc u₃).trans ux.up, _, ic_up x₃ ux, fun z hz1 hz2 => ?_, (ord_up E x₂ h2 (u_loc u₃)).keeps (Up.k ux)⟩))
    exact (if_neg hz2).trans ((if_neg hz1).trans (h1 z hz1 hz2))
  · obtain ⟨m', x₂, h1, h2⟩ := iv
    exact next _ _ x₂ h1 (u₁.up.trans u) h2
  · exact ⟨m, ic_up x₁ u, fun _ _ _ => rfl, (oO.keeps (Up.k u₁)).keeps (Up.k u)⟩
end
end Mine

-- part MLawF
namespace Mine
open PySem PySem.W PySem.Calls PyProof.Rows PySem.SeqAt

local macro_rules | `(tactic| walk_at "same") => `(tactic| exact if_pos rfl)
local macro_rules | `(tactic| walk_at "other") => `(tactic| (refine (if_neg (by decide)).trans ?_; first | assumption | exact if_pos rfl | walk_at "other"))

section
variable {prog : Program} {w : World} {A B : Around} {s s' s'' : Shared} {mg mb : Str → Option Value} {env : Env} {cO cD : Addr} {m cm : Str → Option Value}

theorem s7 {v : Value} {ord : List Shape} {rest : List Stmt} {Q : Flow → Shared → Prop} {p1 p2 p3 p4 p5 p6 : Pos} {j1 j2 j3 j4 : Nat} (E : LEnv env cO cD) (x : InCallC s env.locals m env.cells cm s') (oO : OrdAt s'.heap v ord)
    (next : ∀ s'' cm' dv, InCallC s env.locals m env.cells cm' s'' → (∀ z : Str, z ≠ "drawn" → cm' z = cm z) → UpB (X0 env cO cD) s' s'' → OrdAt s''.heap v ord → cm' "drawn" = some dv → Kd.shape.is s''.heap dv [(0, 0)] → Wp prog w B (execs rest env) Q s'') :
    Wp prog w B (execs (.Assign [.Name "drawn" p1] (.Tuple [.Tuple [.Constant (.int 0) j1 p2, .Constant (.int 0) j2 p3] j3 p4] j4 p5) p6 :: rest) env) Q s' := by
  refine wpAny_execs_cons (wpAny_Assign_Name ((ev_tuple (K := Kd.sq) (xs := [(0, 0)]) (.cons (ev_sq ev_int ev_int) .nil) (by show 1 ≤ 1000; omega)).ev s' _ (UpB.refl _) fun dv s₁ u₁ hdv => ?_))
  have x₁ := ic_up x u₁
  refine stCU x₁ E.hk E.kD E.lD fun s₂ u₂ x₂ => ?_
  have u := u_cD (env := env) (cO := cO) u₂
  exact next _ _ dv x₂ (fun z hz => if_neg hz) (u₁.up.trans u) (ord_up E x₁ (oO.keeps (Up.k u₁)) u) (by walk_at "same") (Kd.shape.tp (u.tp (x0_nt E x₁)) hdv)

/-- the script and three noughts, the first k -/
theorem draws_ev {k : Nat} {t : Tok} {l : Addr} {vs : Array Value} {ns : List Int} {Q : Value → Shared → Prop} {p1 p2 p3 p4 p5 p6 p7 p8 p9 p10 p11 : Pos} {j1 j2 j3 j4 : Nat} (E : LEnv env cO cD) (hk3 : k ≤ 3) (x : InCallC s env.locals m env.cells cm s') (mM : m "many" = some (.int ((k : Int) + 1) t))
    (mS : m "script" = some (.ref l)) (hl : s.heap.IsList l vs) (hi : IntsAre vs.toList ns) (hn : ns.length ≤ 1000)
    (h : ∀ D ys ds s'', Up s' s'' → s'.heap.get? D = none → s''.heap.IsList D ys → Vals Kd.int s''.heap ys.toList ds → ds.length = k → Q (.ref D) s'') :
    Wp prog w B (eval (.Subscript (.BinOp (.Name "script" p1) .Add (.List [.Constant (.int 0) j1 p2, .Constant (.int 0) j2 p3, .Constant (.int 0) j3 p4] p5) p6) (.Slice none (some (.BinOp (.Name "many" p7) .Sub (.Constant (.int 1) j4 p8) p9)) none p10) p11) env) Q s' := by
  have hl' : s'.heap.IsList l vs := hl.at fun o e => ic_kp x _ o e
  have hvl : vs.size = ns.length := by rw [← Array.length_toList, hi.length]
  refine Subscript_ (wpAny_BinOp (name_local E.kScript E.hk rfl x.toInCall.ns mS (ev_list (K := Kd.int) (xs := [0, 0, 0]) (s₀ := s') (.cons ev_int (.cons ev_int (.cons ev_int .nil))) (by show 3 ≤ 1000; omega) (UpB.refl _) fun D1 zs s₁ u₁ hD1 hl₁ hv₁ => ?_)))
  have zl : zs.size = 3 := by rw [← Array.length_toList, hv₁.length]; rfl
  refine list_cat (hl'.at fun o e => Up.k u₁ _ o e) hl₁.isList (by rw [sizeLine_eq, hvl, zl]; omega) fun D2 s₂ u₂ hD2 hl₂ => ?_
  have u₁₂ := u₁.trans u₂
  have x₂ := ic_up x u₁₂
  refine wpAny_Slice (wpAny_pure ?_)
  rw [evalPart_some]
  refine wpAny_BinOp (name_local E.kMany E.hk rfl x₂.toInCall.ns mM (wpAny_Constant_int (P.sub_int (wpAny_pure ?_))))
  have e : ((k : Int) + 1) - 1 = (k : Nat) := by omega
  rw [e]
  have hall : IntsAre (vs ++ zs).toList (ns ++ [0, 0, 0]) := by
    rw [Array.toList_append]
    exact vals_ints (h := s'.heap) ((ints_vals hi).append (ints_vals (vals_ints hv₁)))
  have hpick := slice_ints_upto hall (y := (k : Nat)) (by omega) (by simp; omega)
  have kp : Kp s₂.heap (s₂.heap.push { cls := .type "slice", data := .fields #[.none, .int (k : Nat) (s₂.toks + 1), .none] }) := Kp.push _ _
  refine tail_any (hl₂.isList.push _).typeIs slot_list_getitem.lookup (wpAny_getItem_list_slice (hl₂.isList.push _) (Heap.IsSliceOf.new ..) .none (.int _ _) .none (by simp) ?_ (by rw [sizeLine_eq, Array.size_append, hvl, zl]; omega)) rfl
  refine h _ (slicePick (vs ++ zs) none (some ((k : Nat) : Int)) none) ((ns ++ [0, 0, 0]).take k) _ (u₁₂.trans (UpB.of_k (kp.trans (Kp.push _ _)))) ?_ ⟨_, Heap.get?_push_size _ rfl, rfl, 0, rfl⟩ ?_ ?_
  · refine Up.none u₁₂ (Heap.get?_none_of_le ?_)
    show s₂.heap.objs.size ≤ (s₂.heap.push _).objs.size
    rw [Heap.size_push]; exact Nat.le_succ _
  · have := ints_vals (h := s'.heap) hpick
    have e1 : ((vs ++ zs).toList.toArray) = vs ++ zs := by simp
    rw [e1] at this
    rw [Int.toNat_natCast] at this
    exact ints_vals (vals_ints this)
  · rw [List.length_take, List.length_append]; show min k (_ + 3) = k; omega

theorem s8 {k : Nat} {t : Tok} {l : Addr} {vs : Array Value} {ns : List Int} {v dv : Value} {rest : List Stmt} {Q : Flow → Shared → Prop} {p1 p2 p3 p4 p5 p6 p7 p8 p9 p10 p11 q1 q2 q3 q4 q5 q6 q7 q8 q9 q10 q11 q12 q13 q14 q15 q16 q17 q18 q19 q20 q1x1 : Pos} {j1 j2 j3 j4 j5 : Nat} (E : LEnv env cO cD) (C : Cx mg mb 4 B s.heap) (hk3 : k ≤ 3)
    (x : InCallC s env.locals m env.cells cm s') (mM : m "many" = some (.int ((k : Int) + 1) t)) (mS : m "script" = some (.ref l)) (hl : s.heap.IsList l vs) (hi : IntsAre vs.toList ns) (hn : ns.length ≤ 1000)
    (oO : OrdAt s'.heap v (ordL k)) (mD : cm "drawn" = some dv) (hdv : Kd.shape.is s'.heap dv [(0, 0)])
    (next : ∀ s'' m' cm' dv' dr, InCallC s env.locals m' env.cells cm' s'' → (∀ z : Str, z ≠ "number" → z ≠ "beside" → m' z = m z) → (∀ z : Str, z ≠ "drawn" → cm' z = cm z) → UpB (X0 env cO cD) s' s'' → OrdAt s''.heap v (ordL k) → cm' "drawn" = some dv' → Kd.shape.is s''.heap dv' dr → dr ∈ ordL k → Wp prog w B (execs rest env) Q s'') :
    Wp prog w B (execs (.For (.Name "number" q1) (.Subscript (.BinOp (.Name "script" p1) .Add (.List [.Constant (.int 0) j1 p2, .Constant (.int 0) j2 p3, .Constant (.int 0) j3 p4] p5) p6) (.Slice none (some (.BinOp (.Name "many" p7) .Sub (.Constant (.int 1) j4 p8) p9)) none p10) p11)
      [.Assign [.Name "beside" q2] (.Call (.Name "_law_beside" q3) [.Name "drawn" q4] [] q5) q6,
       .Assign [.Name "drawn" q7] (.Call (.Name "_law_moved" q8) [.BinOp (.Name "drawn" q9) .Add (.Tuple [.Subscript (.Name "beside" q10) (.BinOp (.Name "number" q11) .Mod (.Call (.Name "len" q12) [.Name "beside" q13] [] q14) q15) q16] j5 q17) q18] [] q19) q20] [] q1x1 :: rest) env) Q s' := by
  have C' := C.keeps (ic_kp x)
  have hh := C'.hh
  refine wpAny_execs_cons (for_stmt (draws_ev E hk3 x mM mS hl hi hn fun D ys ds s₁ u₁ hD hl₁ hv₁ hds => ?_))
  have x₁ := ic_up x u₁
  have hDX := x0_list E x₁ hl₁
  refine loop_seq (K := Kd.int) hh ⟨D, ys, rfl, .inr hl₁, hv₁⟩ (X0 env cO cD) (fun b hb => ⟨x0_there E x₁ b hb, fun e => by injection e with e; exact hDX (e ▸ hb), x0_nt E x₁ b hb⟩)
    (fun i s'' => ∃ m' cm' dv' dr, InCallC s env.locals m' env.cells cm' s'' ∧ (∀ z : Str, z ≠ "number" → z ≠ "beside" → m' z = m z) ∧ (∀ z : Str, z ≠ "drawn" → cm' z = cm z) ∧ OrdAt s''.heap v (ordL k) ∧ cm' "drawn" = some dv' ∧ Kd.shape.is s''.heap dv' dr ∧ dr ∈ ordL i)
    (fun I i s₁ s₂ hI hi hnt u => ?_) (fun i n nv s₂ hsi hnv u iv => ?_) (fun s₂ u iv => ?_) (fun s₂ u => ?_)
  · obtain ⟨m', cm', dv', dr, x', h1, h2, h3, h4, h5, h6⟩ := hi
    exact ⟨m', cm', dv', dr, ic_I E x' u hnt (Up.none (ic_up0 x₁) hI), h1, h2, h3.I u.kp hnt, h4, Kd.shape.tp (u.tp fun i hi => by rw [List.mem_singleton.mp hi]; exact hnt.nt) h5, h6⟩
  · obtain ⟨m', cm', dv', dr, x₂, h1, h2, h3, h4, h5, h6⟩ := iv
    have hik : i < k := by rw [← hds]; exact (List.getElem?_eq_some_iff.mp hsi).1
    obtain ⟨hbne, hbst⟩ := draw_step i (by omega) dr h6
    obtain ⟨hne, hsl⟩ := ord_ok i (by omega) dr h6
    obtain ⟨tn, rfl⟩ := hnv
    refine wpAny_assign_Name (stU x₂ E.hk E.kNumber fun s₃ u₃ x₃ => ?_)
    have o₃ := ord_up E x₂ h3 (u_loc u₃)
    have d₃ := Kd.shape.tp ((u_loc (cO := cO) (cD := cD) u₃).tp (x0_nt E x₂)) h5
    have C₃ := C.keeps (ic_kp x₃)
    have c₃ := x₃.cell _ _ E.lD
    rw [h4] at c₃
    -- beside = _law_beside(drawn)
    obtain ⟨fb, eb, hfb⟩ := C₃.gl.fbeside
    refine wpAny_execs_cons (wpAny_Assign_Name (call_f1 rfl (fun hq => name_global C₃.gl.g eb hq E.hk E.gBeside E.hgl) (name_cell E.kD E.hk E.lD c₃ ⟨⟨_, _, _, hfb⟩, ?_⟩)))
    refine beside_call (k := 3) C₃ hfb d₃ (by omega) fun F zs s₄ u₄ hF hl₄ hv₄ => ?_
    have x₄ := ic_up x₃ u₄
    refine stU x₄ E.hk E.kBeside fun s₅ u₅ x₅ => ?_
    have uL := u_loc (cO := cO) (cD := cD) u₅
    have o₅ := ord_up E x₄ (o₃.keeps (Up.k u₄)) uL
    have d₅ := Kd.shape.tp (uL.tp (x0_nt E x₄)) (Kd.shape.tp (Up.k u₄).tp d₃)
    have hl₅ : s₅.heap.IsList F zs := hl₄.at fun o e => uL.kp _ o (x0_list E x₄ hl₄) e
    have hv₅ := hv₄.tp (uL.tp (x0_nt E x₄))
    have zl : zs.size = (besideF dr).length := by rw [← Array.length_toList, hv₅.length]
    have hbl := besideF_len dr
    have hb0 : 0 < (besideF dr).length := List.length_pos_iff.mpr hbne
    have C₅ := C.keeps (ic_kp x₅)
    have n₅ := x₅.toInCall.ns
    have c₅ := x₅.cell _ _ E.lD
    rw [h4] at c₅
    -- drawn = _law_moved(drawn + (beside[number % len(beside)],))
    obtain ⟨fm, em, hfm⟩ := C₅.gl.fmoved
    obtain ⟨ta, tvs, rfl, hta, htv⟩ := d₅
    have tvl : tvs.size = dr.length := by rw [← htv.length]; simp
    obtain ⟨jj, hj⟩ : ∃ jj : Nat, n.fmod ((besideF dr).length : Int) = (jj : Int) := ⟨(n.fmod ((besideF dr).length : Int)).toNat, by
      have := Int.fmod_nonneg_of_pos n (b := ((besideF dr).length : Int)) (by omega)
      omega⟩
    have hjl : jj < (besideF dr).length := by
      have := Int.fmod_lt_of_pos n (b := ((besideF dr).length : Int)) (by omega)
      omega
    refine wpAny_execs_cons (wpAny_Assign_Name (call_f1 rfl (fun hq => name_global C₅.gl.g em hq E.hk E.gMoved E.hgl) (wpAny_BinOp (name_cell E.kD E.hk E.lD c₅ (wpAny_Tuple (wpAny_items_cons (Subscript_ (name_local E.kBeside E.hk rfl n₅ (by walk_at "same") (wpAny_BinOp (name_local E.kNumber E.hk rfl n₅ (by walk_at "other") (call_b1 rfl (fun hq => name_builtin (h₀ := s.heap) C₅.gl.g C₅.gl.b C₅.gl.nlen hq E.hk E.gLen E.hgl E.hbl) (name_local E.kBeside E.hk rfl n₅ (by walk_at "same") (call_len_list hl₅ (by omega) ?_)))))))))))))
    rw [zl]
    refine mod_int' (by omega) ?_
    rw [hj]
    refine list_item (K := Kd.sq) (x := (besideF dr)[jj]) hl₅ hv₅ (by simp [hjl]) (by omega) (fun qv hqv => ?_) rfl
    refine wpAny_items_nil ⟨by rw [sizeLine_eq]; show 1 ≤ _; omega, ?_⟩
    have kp0 : Kp s₅.heap (s₅.heap.push { cls := .type "tuple", data := .seq [qv].toArray }) := Kp.push _ _
    refine tuple_cat (vs := tvs) (ws := #[qv]) (hta.push _) ⟨_, Heap.get?_push_size _ rfl, rfl, 0, rfl⟩ (by
      rw [Array.isEmpty_eq_false_iff]; intro e; rw [e] at tvl; simp at tvl; exact hne (List.length_eq_zero_iff.mp tvl.symm)) rfl (by rw [sizeLine_eq, tvl]; show dr.length + 1 ≤ _; omega) fun T s₇ u₇ hT htT => ?_
    have u₅₇ : Up s₅ s₇ := (UpB.of_k (tk := _) kp0).trans u₇
    have C₇ := C₅.keeps (Up.k u₅₇)
    refine ⟨⟨_, _, _, hfm.keeps (Up.k u₅₇)⟩, ?_⟩
    refine moved_call (k := 3) C₇ (hfm.keeps (Up.k u₅₇)) (sh := dr ++ [(besideF dr)[jj]]) ⟨T, _, rfl, .inl htT, shape_append (htv.tp (Up.k u₅₇).tp) (Kd.sq.tp (Up.k u₅₇).tp hqv)⟩ (by simp) (by rw [List.length_append]; show _ + 1 ≤ _; omega) fun r s₈ u₈ hr => ?_
    have u₅₈ := u₅₇.trans u₈
    have x₈ := ic_up x₅ u₅₈
    refine stCU x₈ E.hk E.kD E.lD fun s₉ u₉ x₉ => wpAny_execs_nil (.inl ⟨rfl, ?_, ?_⟩)
    · exact (u_loc u₃).trans (u₄.up.trans (uL.trans (u₅₈.up.trans (u_cD u₉))))
    · have uD := u_cD (env := env) (cO := cO) u₉
      refine ⟨_, _, r, _, x₉, fun z hz1 hz2 => (if_neg hz2).trans ((if_neg hz1).trans (h1 z hz1 hz2)), fun z hz => (if_neg hz).trans (h2 z hz), ord_up E x₈ (o₅.keeps (Up.k u₅₈)) uD, by walk_at "same", Kd.shape.tp (uD.tp (x0_nt E x₈)) hr, hbst _ (List.getElem_mem hjl)⟩
  · obtain ⟨m', cm', dv', dr, x₂, h1, h2, h3, h4, h5, h6⟩ := iv
    rw [hds] at h6
    exact next _ _ _ _ _ x₂ h1 h2 (u₁.up.trans u) h3 h4 h5 h6
  · exact ⟨m, cm, dv, [(0, 0)], ic_up x₁ u, fun _ _ _ => rfl, fun _ _ => rfl, (oO.keeps (Up.k u₁)).keeps (Up.k u), mD, Kd.shape.tp (Up.k u).tp (Kd.shape.tp (Up.k u₁).tp hdv), by decide⟩
end
end Mine

-- part MLawG
namespace Mine
open PySem PySem.W PySem.Calls PyProof.Rows PySem.SeqAt

local macro_rules | `(tactic| walk_at "same") => `(tactic| exact if_pos rfl)
local macro_rules | `(tactic| walk_at "other") => `(tactic| (refine (if_neg (by decide)).trans ?_; first | assumption | exact if_pos rfl | walk_at "other"))

theorem dec_true {p : Prop} {i : Decidable p} (h : p) : @decide p i = true := by simp [h]
theorem dec_false {p : Prop} {i : Decidable p} (h : ¬ p) : @decide p i = false := by simp [h]
theorem lookup_relabel_free {env : Env} {x : Str} (hk : env.scope.kind = .function) (hx : env.kindOf x = some .cell) : ∀ {names : List (Str × NameKind)}, names.lookup x = some .free →
    (names.map fun (n, k) => if (k == NameKind.free && env.scope.kind == .function && env.kindOf n == some .cell) then (n, NameKind.cell) else (n, k)).lookup x = some .cell
  | [], h => by simp at h
  | (n, k) :: r, h => by
    have ih := @lookup_relabel_free env x hk hx r
    rw [List.map_cons]
    rw [List.lookup_cons] at h
    by_cases e : x = n
    · subst e
      rw [beq_self_eq_true] at h
      obtain rfl : k = NameKind.free := Option.some.inj h
      simp [hk, hx]
    · have en : (x == n) = false := by simpa using e
      rw [en] at h
      show List.lookup x ((if (k == NameKind.free && env.scope.kind == .function && env.kindOf n == some .cell) = true then (n, NameKind.cell) else (n, k)) :: _) = _
      by_cases hc : (k == NameKind.free && env.scope.kind == .function && env.kindOf n == some .cell) = true
      · rw [if_pos hc, List.lookup_cons, en]; exact ih h
      · rw [if_neg hc, List.lookup_cons, en]; exact ih h

abbrev scA : Scope := { kind := .function, names := [(".0", .local), ("shape", .local), ("order", .free)], isGenerator := false, isCoroutine := false, more := [] }
abbrev scB : Scope := { kind := .function, names := [(".0", .local), ("row", .local), ("column", .local), ("other", .local), ("drawn", .free)], isGenerator := false, isCoroutine := false, more := [] }
section
variable {env : Env} {cO cD : Addr}
theorem closA (E : LEnv env cO cD) : closureFor scA env = pure ([("order", cO)] : List (Str × Addr)) := by
  have h := E.lO
  simp [closureFor, cellOf, h]
theorem closB (E : LEnv env cO cD) : closureFor scB env = pure ([("drawn", cD)] : List (Str × Addr)) := by
  have h := E.lD
  simp [closureFor, cellOf, h]
end
section
variable {prog : Program} {w : World} {A B : Around} {s s' s'' : Shared} {mg mb : Str → Option Value} {env : Env} {cO cD : Addr} {m cm : Str → Option Value}

/-- place = bisect_left(order, drawn) -/
theorem s9 {k : Nat} {v dv : Value} {dr : Shape} {rest : List Stmt} {Q : Flow → Shared → Prop} {p1 p2 p3 p4 p5 p6 : Pos} (E : LEnv env cO cD) (C : Cx mg mb 4 B s.heap) (hk3 : k ≤ 3)
    (x : InCallC s env.locals m env.cells cm s') (mO : cm "order" = some v) (oO : OrdAt s'.heap v (ordL k)) (mD : cm "drawn" = some dv) (hdv : Kd.shape.is s'.heap dv dr)
    (next : ∀ s'' m' t, InCallC s env.locals m' env.cells cm s'' → (∀ z : Str, z ≠ "place" → m' z = m z) → UpB (X0 env cO cD) s' s'' → m' "place" = some (.int (bisF (ordL k) dr : Int) t) → Wp prog w B (execs rest env) Q s'') :
    Wp prog w B (execs (.Assign [.Name "place" p1] (.Call (.Name "bisect_left" p2) [.Name "order" p3, .Name "drawn" p4] [] p5) p6 :: rest) env) Q s' := by
  have C' := C.keeps (ic_kp x)
  have c₁ := x.cell _ _ E.lO
  have c₂ := x.cell _ _ E.lD
  rw [mO] at c₁
  rw [mD] at c₂
  obtain ⟨D, ys, rfl, hl, hv⟩ := oO
  obtain ⟨hlen, _⟩ := ord_len k (by omega)
  obtain ⟨f, ef, hf⟩ := C'.gl.fbis
  obtain ⟨dV, kV, hf'⟩ := hf.isDef
  refine wpAny_execs_cons (wpAny_Assign_Name (call_f2 rfl (fun hq => name_global C'.gl.g ef hq E.hk E.gBis E.hgl) (spliced_cons (name_cell E.kO E.hk E.lO c₁ (spliced_cons (name_cell E.kD E.hk E.lD c₂ (spliced_nil ⟨⟨_, _, _, hf'⟩, ?_⟩)))))))
  refine bisect_call (k := 3) C' hf (.inl rfl) hl.isList hv hdv (by omega) fun t s₁ u₁ => ?_
  refine stU (ic_up x u₁) E.hk E.kPlace fun s₂ u₂ x₂ => ?_
  exact next _ _ t x₂ (fun z hz => if_neg hz) (u₁.up.trans (u_loc u₂)) (by walk_at "same")

theorem flat_filter (p : Shape → Bool) : ∀ l : List Shape, (l.flatMap fun y => if p y then [y] else []) = l.filter p := fun l => by
  have := flat_ifs p (fun x : Shape => x) l
  simpa using this

/-- [shape for shape in _law_eight(drawn) if shape not in order] -/
theorem odd_ones {ord : List Shape} {v dv : Value} {dr : Shape} {Q : Value → Shared → Prop} {p1 p2 p3 p4 p5 p6 p7 p8 p9 : Pos} (E : LEnv env cO cD) (C : Cx mg mb 4 B s.heap)
    (x : InCallC s env.locals m env.cells cm s') (mO : cm "order" = some v) (oO : OrdAt s'.heap v ord) (mD : cm "drawn" = some dv) (hdv : Kd.shape.is s'.heap dv dr) (hne : dr ≠ []) (hl : dr.length ≤ 14) (hlen : (eightF dr).length ≤ 1000)
    (h : ∀ D ys s'', Up s' s'' → s''.heap.PlainList D ys → Vals Kd.shape s''.heap ys.toList ((eightF dr).filter fun s => decide (s ∉ ord)) → Q (.ref D) s'') :
    Wp prog w B (eval (.ListComp (.Name "shape" p1) [⟨.Name "shape" p2, .Call (.Name "_law_eight" p3) [.Name "drawn" p4] [] p5, [.Compare (.Name "shape" p6) [.NotIn] [.Name "order" p7] p8], 0⟩] scA p9) env) Q s' := by
  have C' := C.keeps (ic_kp x)
  have hun := C'.un
  have c₂ := x.cell _ _ E.lD
  rw [mD] at c₂
  have c₁ := x.cell _ _ E.lO
  rw [mO] at c₁
  obtain ⟨f, ef, hf⟩ := C'.gl.feight
  have ef2 := flat_filter (fun s => decide (s ∉ ord)) (eightF dr)
  refine comp1 (K := Kd.shape) (K2 := Kd.shape) (xs := eightF dr) (g := fun sh => if decide (sh ∉ ord) then [sh] else []) C'.hh (closA E) rfl (by decide) (by decide) (by rw [ef2]; exact Nat.le_trans (List.length_filter_le _ _) (by omega)) ?_ (fun F sh sv s₃ m₃ hsh hsv hn u hF => ?_) fun D ys s₂ u₂ hD hl₂ hv₂ => ?_
  · refine call_f1 rfl (fun hq => name_global C'.gl.g ef hq E.hk E.gEight E.hgl) (name_cell E.kD E.hk E.lD c₂ ⟨⟨_, _, _, hf⟩, ?_⟩)
    exact eight_call (k := 2) C' hf hdv hne (by omega) fun D ys s₁ u₁ hl₁ hv₁ => ⟨u₁, D, ys, rfl, .inr hl₁.isList, hv₁⟩
  · refine assign_name (lookup_relabel_local rfl) rfl rfl hn fun s₄ u₄ n₄ => ?_
    have n4' : s₄.heap.Ns F (fun z => if z = "shape" then some sv else m₃ z) := n₄
    have uF : UpB [F] s' s₄ := u.up.trans u₄
    have ntF : ∀ i ∈ [F], NT s'.heap i := fun i hi => by rw [List.mem_singleton.mp hi]; exact NT.none hF
    have ntF3 : ∀ i ∈ [F], NT s₃.heap i := fun i hi => by rw [List.mem_singleton.mp hi]; exact NT.ns hn
    have hsv₄ := Kd.shape.tp (u₄.tp ntF3) hsv
    obtain ⟨D, ys, rfl, hl, hv⟩ := id oO
    have hl₄ : s₄.heap.IsList D ys := hl.isList.at fun o e => uF.kp _ o (fun q => by
      obtain ⟨n, e2⟩ := hl
      rw [List.mem_singleton.mp q, hF] at e2; cases e2) e
    have c₄ : s₄.heap.IsCell cO (some (.ref D)) := by
      obtain ⟨o, ho, hd⟩ := c₁
      exact ⟨o, uF.kp _ o (fun q => by rw [List.mem_singleton.mp q, hF] at ho; cases ho) ho, hd⟩
    refine wpAny_tests_one (wpAny_isTrue_Compare1 (name_local (lookup_relabel_local rfl) rfl rfl n4' (by walk_at "same") (name_cell (c := cO) (lookup_relabel_free E.hk E.kO rfl) rfl rfl c₄ ?_)))
    refine seq_notin (K := Kd.shape) ⟨D, ys, rfl, .inr hl₄, hv.tp (uF.tp ntF)⟩ hsv₄ (by show _ + 1 + 2 < _; omega) (wpAny_truthy_bool ?_)
    by_cases hin : sh ∉ ord
    · refine .inl ⟨dec_true hin, name_local (lookup_relabel_local rfl) rfl rfl n4' (by walk_at "same") ⟨u₄, ⟨_, n4'⟩, sh, if_pos (decide_eq_true hin), hsv₄⟩⟩
    · exact .inr ⟨dec_false hin, if_neg (by simpa using hin), u₄, _, n4'⟩
  · rw [ef2] at hv₂
    exact h D ys s₂ u₂ hl₂ hv₂
end
end Mine

-- part MLawH
namespace Mine
open PySem PySem.W PySem.Calls PyProof.Rows PySem.SeqAt

local macro_rules | `(tactic| walk_at "same") => `(tactic| exact if_pos rfl)
local macro_rules | `(tactic| walk_at "other") => `(tactic| (refine (if_neg (by decide)).trans ?_; first | assumption | exact if_pos rfl | walk_at "other"))

theorem eight_len (sh : Shape) : (eightF sh).length = 8 := rfl

section
variable {prog : Program} {w : World} {A B : Around} {s s' s'' : Shared} {mg mb : Str → Option Value} {env : Env} {cO cD : Addr} {m cm : Str → Option Value}

theorem s10 {k : Nat} {t : Tok} {v dv : Value} {dr : Shape} {rest bad : List Stmt} {Q : Flow → Shared → Prop} {p1 p2 p3 p4 p5 p6 p7 p8 p9 q1 q2 q3 q4 q5 q6 q7 q8 q9 q10 q11 q12 q13 q1x1 : Pos} (E : LEnv env cO cD) (C : Cx mg mb 4 B s.heap) (hk3 : k ≤ 3)
    (x : InCallC s env.locals m env.cells cm s') (mO : cm "order" = some v) (oO : OrdAt s'.heap v (ordL k)) (mD : cm "drawn" = some dv) (hdv : Kd.shape.is s'.heap dv dr) (hdr : dr ∈ ordL k) (mP : m "place" = some (.int (bisF (ordL k) dr : Int) t))
    (next : ∀ s'', Up s' s'' → Wp prog w B (execs rest env) Q s'') :
    Wp prog w B (execs (.If (.BoolOp .Or [.Compare (.Name "place" q1) [.Eq] [.Call (.Name "len" q2) [.Name "order" q3] [] q4] q5,
      .Compare (.Subscript (.Name "order" q6) (.Name "place" q7) q8) [.NotEq] [.Name "drawn" q9] q10,
      .Compare (.ListComp (.Name "shape" p1) [⟨.Name "shape" p2, .Call (.Name "_law_eight" p3) [.Name "drawn" p4] [] p5, [.Compare (.Name "shape" p6) [.NotIn] [.Name "order" p7] p8], 0⟩] scA p9) [.NotEq] [.List [] q11] q12] q13) bad [] q1x1 :: rest) env) Q s' := by
  obtain ⟨hlen, _⟩ := ord_len k (by omega)
  obtain ⟨hne, hsl⟩ := ord_ok k (by omega) dr hdr
  obtain ⟨hpl, hat⟩ := draw_place k (by omega) dr hdr
  have hodd := draw_eight k (by omega) dr hdr
  have C' := C.keeps (ic_kp x)
  have hun := C'.un
  refine wpAny_execs_cons (wpAny_If (isTrue_or (wpAny_isTrue_Compare1 (name_local E.kPlace E.hk rfl x.toInCall.ns mP (len_ord E C x mO oO (by omega) fun t₁ s₁ u₁ => P.eq_int (wpAny_truthy_bool ?_))))))
  have e0 : ((bisF (ordL k) dr : Int) == ((ordL k).length : Int)) = false := beq_eq_false_iff_ne.mpr (by omega)
  rw [e0]
  simp only [Bool.false_eq_true, if_false]
  have x₁ := ic_up x u₁
  have oO₁ := oO.keeps (Up.k u₁)
  have hdv₁ := Kd.shape.tp (Up.k u₁).tp hdv
  have c₁ := x₁.cell _ _ E.lO
  rw [mO] at c₁
  have c₂ := x₁.cell _ _ E.lD
  rw [mD] at c₂
  obtain ⟨D, ys, rfl, hl, hv⟩ := id oO₁
  refine isTrue_or (wpAny_isTrue_Compare1 (Subscript_ (name_cell E.kO E.hk E.lO c₁ (name_local E.kPlace E.hk rfl x₁.toInCall.ns mP (list_item (K := Kd.shape) hl.isList hv hat (by omega) (fun pv hpv => name_cell E.kD E.hk E.lD c₂ ?_) rfl)))))
  refine tup_ne (K := Kd.sq) hpv hdv₁ (by show _ + 1 + 1 < _; omega) (wpAny_truthy_bool ?_)
  simp only [ne_eq, not_true_eq_false, decide_false, Bool.false_eq_true, if_false]
  refine isTrue_or (wpAny_isTrue_Compare1 (odd_ones E C x₁ mO oO₁ mD hdv₁ hne hsl (by rw [eight_len]; omega) fun F zs s₂ u₂ hl₂ hv₂ => ?_))
  rw [hodd] at hv₂
  refine wpAny_List (wpAny_items_nil ⟨Nat.zero_le _, ?_⟩)
  have kp : Kp s₂.heap (s₂.heap.push { cls := .type "list", data := .seq ([] : List Value).toArray }) := Kp.push _ _
  refine list_ne (K := Kd.shape) (xs := []) (ys := []) (hl₂.isList.at fun o e => kp _ o e) ⟨_, Heap.get?_push_size _ rfl, rfl, 0, rfl⟩ (hv₂.tp kp.tp) .nil (by show _ + 1 + 2 < _; omega) (wpAny_truthy_bool ?_)
  simp only [ne_eq, not_true_eq_false, decide_false, Bool.false_eq_true, if_false]
  refine isTrue_or_nil ?_
  simp only [Bool.false_eq_true, if_false]
  exact wpAny_execs_nil (next _ (u₁.trans (u₂.trans (UpB.of_k (tk := s₂.toks) kp))))
end
end Mine

-- part MLawI
namespace Mine
open PySem PySem.W PySem.Calls PyProof.Rows PySem.SeqAt

local macro_rules | `(tactic| walk_at "same") => `(tactic| exact if_pos rfl)
local macro_rules | `(tactic| walk_at "other") => `(tactic| (refine (if_neg (by decide)).trans ?_; first | assumption | exact if_pos rfl | walk_at "other"))

theorem ones_len {α : Type} (c : α → Bool) : ∀ l : List α, (l.flatMap fun q => if c q then [(1 : Int)] else []).length = (l.filter c).length
  | [] => rfl
  | a :: r => by
    rw [List.flatMap_cons, List.length_append, ones_len c r, List.filter_cons]
    by_cases h : c a = true
    · simp [h]; omega
    · simp [h]
theorem ones_flat {α β : Type} (ws : β → List α) (c : α → Bool) : ∀ l : List β, (l.flatMap fun p => (ws p).flatMap fun q => if c q then [(1 : Int)] else []).length = (l.flatMap fun p => (ws p).filter c).length
  | [] => rfl
  | a :: r => by
    rw [List.flatMap_cons, List.flatMap_cons, List.length_append, List.length_append, ones_flat ws c r, ones_len]

section
variable {prog : Program} {w : World} {A B : Around} {s s' s'' : Shared} {mg mb : Str → Option Value} {env : Env} {cO cD : Addr} {m cm : Str → Option Value}

theorem ones_comp {es : List Expr} {ws : Sq → List Sq} {op : CmpOp} {c : Sq → Bool} {dv : Value} {dr : Shape} {Q : Value → Shared → Prop} {p1 p2 p3 p4 p5 p6 p7 p8 p9 p10 p11 p12 p13 : Pos} {j1 j2 : Nat} (E : LEnv env cO cD) (C : Cx mg mb 4 B s.heap)
    (x : InCallC s env.locals m env.cells cm s') (mD : cm "drawn" = some dv) (hdv : Kd.shape.is s'.heap dv dr) (hl : dr.length ≤ 14) (hws : ∀ p, (ws p).length ≤ 4)
    (hes : ∀ p F m s₄ t1 t2, s₄.heap.Ns F m → m "row" = some (.int p.1 t1) → m "column" = some (.int p.2 t2) → EvAll prog w B (compEnvC scB [("drawn", cD)] F env) Kd.sq s₄ es (ws p))
    (hop : ∀ s₅ xv q v (R : Value → Shared → Prop), Kd.sq.is s₅.heap xv q → Kd.shape.is s₅.heap v dr → R (.bool (c q)) s₅ → Wp prog w B (compareOp op xv v) R s₅) (hm : behindInMarks op (.Name "drawn" p10) = false)
    (h : ∀ t s'', Up s' s'' → Q (.int ((dr.flatMap fun p => (ws p).filter c).length : Nat) t) s'') :
    Wp prog w B (eval (.Call (.Name "len" p1) [.ListComp (.Constant (.int 1) j1 p2) [⟨.Tuple [.Name "row" p3, .Name "column" p4] j2 p5, .Name "drawn" p6, [], 0⟩, ⟨.Name "other" p7, .List es p8, [.Compare (.Name "other" p9) [op] [.Name "drawn" p10] p11], 0⟩] scB p12] [] p13) env) Q s' := by
  have C' := C.keeps (ic_kp x)
  have hun := C'.un
  have c₂ := x.cell _ _ E.lD
  rw [mD] at c₂
  have hle := ones_flat ws c dr
  have hbound : (dr.flatMap fun p => (ws p).filter c).length ≤ 4 * dr.length := flat_len 4 _ (fun p => Nat.le_trans (List.length_filter_le _ _) (hws p)) dr
  refine call_b1 rfl (fun hq => name_builtin (h₀ := s.heap) C'.gl.g C'.gl.b C'.gl.nlen hq E.hk E.gLen E.hgl E.hbl) ?_
  refine comp2 (K := Kd.sq) (K2 := Kd.int) (K3 := Kd.sq) (xs := dr) (ws := ws) (g := fun p q => if c q then [(1 : Int)] else []) (M := fun p m => ∃ t1 t2, m "row" = some (.int p.1 t1) ∧ m "column" = some (.int p.2 t2)) C'.hh (closB E) rfl (by decide) (by decide) (by rw [hle]; omega)
    (name_cell E.kD E.hk E.lD c₂ ⟨UpB.refl _, shape_seq hdv⟩) (fun F p u s₃ m₃ hp hu hn us hF => ?_) (fun F p q u s₃ m₃ hp hq hu hn hM us hF => ?_) fun D ys s₂ u₂ hD hl₂ hv₂ => ?_
  · obtain ⟨t, t1, t2, rfl, ht⟩ := sq_open hu
    refine assign_pair C'.hh (lookup_relabel_local rfl) (lookup_relabel_local rfl) rfl rfl hn ht (by decide) fun s₄ m' u₄ n₄ m1 m2 _ => ?_
    replace n₄ : s₄.heap.Ns F m' := n₄
    replace u₄ : UpB [F] s₃ s₄ := u₄
    refine ev_list (K := Kd.sq) (xs := ws p) (s₀ := s₄) (hes p F m' s₄ t1 t2 n₄ m1 m2) (Nat.le_trans (hws p) (by omega)) (UpB.refl _) fun G zs s₅ u₅ hG hl₅ hv₅ => ?_
    refine ⟨u₄.trans u₅.up, ⟨m', n₄.keeps (Up.k u₅), t1, t2, m1, m2⟩, ⟨G, zs, rfl, .inr hl₅.isList, hv₅⟩, fun a e => ?_⟩
    injection e with e
    subst e
    cases e : s₃.heap.get? G with
    | none => rfl
    | some o =>
      by_cases hGF : G = F
      · obtain ⟨o', _, _, ho', _⟩ := n₄
        rw [← hGF, hG] at ho'; cases ho'
      · have := u₄.kp G o (by simpa using hGF) e
        rw [hG] at this; cases this
  · obtain ⟨t1, t2, m1, m2⟩ := hM
    refine assign_name (lookup_relabel_local rfl) rfl rfl hn fun s₄ u₄ n₄ => ?_
    replace n₄ : s₄.heap.Ns F (fun z => if z = "other" then some u else m₃ z) := n₄
    replace u₄ : UpB [F] s₃ s₄ := u₄
    have ntF3 : ∀ i ∈ [F], NT s₃.heap i := fun i hi => by rw [List.mem_singleton.mp hi]; exact NT.ns hn
    have ntF : ∀ i ∈ [F], NT s'.heap i := fun i hi => by rw [List.mem_singleton.mp hi]; exact NT.none hF
    have uF : UpB [F] s' s₄ := us.up.trans u₄
    have c₄ : s₄.heap.IsCell cD (some dv) := by
      obtain ⟨o, ho, hd⟩ := c₂
      exact ⟨o, uF.kp _ o (fun q => by rw [List.mem_singleton.mp q, hF] at ho; cases ho) ho, hd⟩
    refine wpAny_tests_one (wpAny_isTrue_Compare1 (hm := hm) (name_local (lookup_relabel_local rfl) rfl rfl n₄ (by walk_at "same") (name_cell (c := cD) (lookup_relabel_free E.hk E.kD rfl) rfl rfl c₄ ?_)))
    refine hop _ _ q _ _ (Kd.sq.tp (u₄.tp ntF3) hu) (Kd.shape.tp (uF.tp ntF) hdv) (wpAny_truthy_bool ?_)
    have hM4 : ∃ m, s₄.heap.Ns F m ∧ ∃ t1 t2, m "row" = some (.int p.1 t1) ∧ m "column" = some (.int p.2 t2) := ⟨_, n₄, t1, t2, by walk_at "other", by walk_at "other"⟩
    by_cases hc : c q = true
    · rw [hc]
      obtain ⟨m4, n4, r4⟩ := hM4
      exact .inl ⟨rfl, wpAny_Constant_int ⟨u₄.trans (UpB.of_k (Kp.refl _)), ⟨m4, n4, r4⟩, 1, if_pos rfl, _, rfl⟩⟩
    · have hc' : c q = false := by simpa using hc
      rw [hc']
      exact .inr ⟨rfl, if_neg (by decide), u₄, hM4⟩
  · have hyl : ys.size = (dr.flatMap fun p => (ws p).filter c).length := by rw [← Array.length_toList, hv₂.length, hle]
    refine call_len_list hl₂.isList (by omega) ?_
    rw [hyl]
    exact h _ _ (u₂.trans (UpB.of_k (Kp.refl _)))
end
end Mine

-- part MLawJ
namespace Mine
open PySem PySem.W PySem.Calls PyProof.Rows PySem.SeqAt

local macro_rules | `(tactic| walk_at "same") => `(tactic| exact if_pos rfl)
local macro_rules | `(tactic| walk_at "other") => `(tactic| (refine (if_neg (by decide)).trans ?_; first | assumption | exact if_pos rfl | walk_at "other"))

theorem dec_eq {p : Prop} (i j : Decidable p) : @decide p i = @decide p j := by
  by_cases h : p <;> simp [h]

section
variable {prog : Program} {w : World} {A B : Around} {s s' s'' : Shared} {mg mb : Str → Option Value} {env : Env} {cO cD : Addr} {m cm : Str → Option Value}

/-- near = len([1 for row, column in drawn for other in .. if other in drawn]) -/
theorem s11 {dv : Value} {dr : Shape} {rest : List Stmt} {Q : Flow → Shared → Prop} {p1 p2 p3 p4 p5 p6 p7 p8 p9 p10 p11 p12 q1 q2 q3 q4 q5 q6 q7 q8 q9 q10 q2x1 p12x1 q1x1 : Pos} {j1 j2 j3 j4 j5 j6 : Nat} (E : LEnv env cO cD) (C : Cx mg mb 4 B s.heap)
    (x : InCallC s env.locals m env.cells cm s') (mD : cm "drawn" = some dv) (hdv : Kd.shape.is s'.heap dv dr) (hl : dr.length ≤ 14)
    (next : ∀ s'' m' t, InCallC s env.locals m' env.cells cm s'' → (∀ z : Str, z ≠ "near" → m' z = m z) → UpB (X0 env cO cD) s' s'' → m' "near" = some (.int ((nearL dr).length : Nat) t) → Wp prog w B (execs rest env) Q s'') :
    Wp prog w B (execs (.Assign [.Name "near" q1] (.Call (.Name "len" p1) [.ListComp (.Constant (.int 1) j1 p2) [⟨.Tuple [.Name "row" p3, .Name "column" p4] j2 p5, .Name "drawn" p6, [], 0⟩,
      ⟨.Name "other" p7, .List [.Tuple [.Name "row" q2, .BinOp (.Name "column" q3) .Add (.Constant (.int 1) j3 q4) q5] j4 q6, .Tuple [.BinOp (.Name "row" q7) .Add (.Constant (.int 1) j5 q8) q9, .Name "column" q10] j6 q2x1] p8, [.Compare (.Name "other" p9) [.In] [.Name "drawn" p10] p11], 0⟩] scB p12] [] p12x1) q1x1 :: rest) env) Q s' := by
  have hun := (C.keeps (ic_kp x)).un
  refine wpAny_execs_cons (wpAny_Assign_Name (ones_comp (ws := fun p => [(p.1, p.2 + 1), (p.1 + 1, p.2)]) (c := fun q => decide (q ∈ dr)) E C x mD hdv hl (fun p => by show 2 ≤ 4; omega)
    (fun p F m₄ s₄ t1 t2 n₄ m1 m2 => .cons (ev_sq (ev_cname rfl rfl n₄ m1) (ev_add (ev_cname rfl rfl n₄ m2) ev_int)) (.cons (ev_sq (ev_add (ev_cname rfl rfl n₄ m1) ev_int) (ev_cname rfl rfl n₄ m2)) .nil))
    (fun s₅ xv q v R hq hs hR => seq_in (K := Kd.sq) (shape_seq hs) hq (by show _ + 1 + 1 < _; omega) (by rw [dec_eq _ _] at hR; exact hR)) rfl fun t s₁ u₁ => ?_))
  refine stU (ic_up x u₁) E.hk E.kNear fun s₂ u₂ x₂ => ?_
  exact next _ _ t x₂ (fun z hz => if_neg hz) (u₁.up.trans (u_loc u₂)) (by walk_at "same")

/-- open_sides -/
theorem s12 {dv : Value} {dr : Shape} {rest : List Stmt} {Q : Flow → Shared → Prop} {p1 p2 p3 p4 p5 p6 p7 p8 p9 p10 p11 p12 q1 q2 q3 q4 q5 q6 q7 q8 q9 q10 q11 q12 q13 q14 q15 q16 q17 q18 q2x1 q1x1 q2x2 p12x1 q1x2 : Pos} {j1 j2 j3 j4 j5 j6 j7 j8 j9 j10 : Nat} (E : LEnv env cO cD) (C : Cx mg mb 4 B s.heap)
    (x : InCallC s env.locals m env.cells cm s') (mD : cm "drawn" = some dv) (hdv : Kd.shape.is s'.heap dv dr) (hl : dr.length ≤ 14)
    (next : ∀ s'' m' t, InCallC s env.locals m' env.cells cm s'' → (∀ z : Str, z ≠ "open_sides" → m' z = m z) → UpB (X0 env cO cD) s' s'' → m' "open_sides" = some (.int ((openL dr).length : Nat) t) → Wp prog w B (execs rest env) Q s'') :
    Wp prog w B (execs (.Assign [.Name "open_sides" q1] (.Call (.Name "len" p1) [.ListComp (.Constant (.int 1) j1 p2) [⟨.Tuple [.Name "row" p3, .Name "column" p4] j2 p5, .Name "drawn" p6, [], 0⟩,
      ⟨.Name "other" p7, .List [.Tuple [.Name "row" q2, .BinOp (.Name "column" q3) .Add (.Constant (.int 1) j3 q4) q5] j4 q6, .Tuple [.BinOp (.Name "row" q7) .Add (.Constant (.int 1) j5 q8) q9, .Name "column" q10] j6 q2x1,
        .Tuple [.Name "row" q11, .BinOp (.Name "column" q12) .Sub (.Constant (.int 1) j7 q13) q14] j8 q15, .Tuple [.BinOp (.Name "row" q16) .Sub (.Constant (.int 1) j9 q17) q18, .Name "column" q1x1] j10 q2x2] p8, [.Compare (.Name "other" p9) [.NotIn] [.Name "drawn" p10] p11], 0⟩] scB p12] [] p12x1) q1x2 :: rest) env) Q s' := by
  have hun := (C.keeps (ic_kp x)).un
  refine wpAny_execs_cons (wpAny_Assign_Name (ones_comp (ws := fun p => [(p.1, p.2 + 1), (p.1 + 1, p.2), (p.1, p.2 - 1), (p.1 - 1, p.2)]) (c := fun q => decide (q ∉ dr)) E C x mD hdv hl (fun p => by show 4 ≤ 4; omega)
    (fun p F m₄ s₄ t1 t2 n₄ m1 m2 => .cons (ev_sq (ev_cname rfl rfl n₄ m1) (ev_add (ev_cname rfl rfl n₄ m2) ev_int)) (.cons (ev_sq (ev_add (ev_cname rfl rfl n₄ m1) ev_int) (ev_cname rfl rfl n₄ m2))
      (.cons (ev_sq (ev_cname rfl rfl n₄ m1) (ev_sub (ev_cname rfl rfl n₄ m2) ev_int)) (.cons (ev_sq (ev_sub (ev_cname rfl rfl n₄ m1) ev_int) (ev_cname rfl rfl n₄ m2)) .nil))))
    (fun s₅ xv q v R hq hs hR => seq_notin (K := Kd.sq) (shape_seq hs) hq (by show _ + 1 + 1 < _; omega) (by rw [dec_eq _ _] at hR; exact hR)) rfl fun t s₁ u₁ => ?_))
  refine stU (ic_up x u₁) E.hk E.kOpen fun s₂ u₂ x₂ => ?_
  exact next _ _ t x₂ (fun z hz => if_neg hz) (u₁.up.trans (u_loc u₂)) (by walk_at "same")

/-- return open_sides == 4 * many - 2 * near and near >= many - 1 -/
theorem s13 {k o n : Nat} {t t1 t2 : Tok} {Q : Value → Shared → Prop} {q1 q2 q3 q4 q5 q6 q7 q8 q9 q10 q11 q12 q13 q14 q15 : Pos} {j1 j2 j3 : Nat} (E : LEnv env cO cD) (hk3 : k ≤ 3)
    (x : InCallC s env.locals m env.cells cm s') (mM : m "many" = some (.int ((k : Int) + 1) t)) (mN : m "near" = some (.int (n : Int) t1)) (mS : m "open_sides" = some (.int (o : Int) t2))
    (hn : n ≤ 100) (h1 : (o : Int) = 4 * ((k : Int) + 1) - 2 * (n : Int)) (h2 : k ≤ n) (h : ∀ s'', Up s' s'' → Q (.bool true) s'') :
    Wp prog w B (eval (.BoolOp .And [.Compare (.Name "open_sides" q1) [.Eq] [.BinOp (.BinOp (.Constant (.int 4) j1 q2) .Mult (.Name "many" q3) q4) .Sub (.BinOp (.Constant (.int 2) j2 q5) .Mult (.Name "near" q6) q7) q8] q9,
      .Compare (.Name "near" q10) [.GtE] [.BinOp (.Name "many" q11) .Sub (.Constant (.int 1) j3 q12) q13] q14] q15) env) Q s' := by
  have hn' := x.toInCall.ns
  refine BoolOp_and (wpAny_Compare1 (name_local E.kOpen E.hk rfl hn' mS (wpAny_BinOp (wpAny_BinOp (wpAny_Constant_int (name_local E.kMany E.hk rfl hn' mM (P.mul_int (hm := IntMulOk.of_left (by decide)) (wpAny_BinOp (wpAny_Constant_int (name_local E.kNear E.hk rfl hn' mN (P.mul_int (hm := IntMulOk.of_left (by decide)) (P.sub_int (P.eq_int (wpAny_truthy_bool ?_))))))))))))))
  have e1 : ((o : Int) == 4 * ((k : Int) + 1) - 2 * (n : Int)) = true := beq_iff_eq.mpr h1
  rw [e1]
  simp only [if_true]
  refine BoolOp_one (wpAny_Compare1 (name_local E.kNear E.hk rfl hn' mN (wpAny_BinOp (name_local E.kMany E.hk rfl hn' mM (wpAny_Constant_int (P.sub_int (ge_int ?_)))))))
  have e2 : decide ((n : Int) ≥ (k : Int) + 1 - 1) = true := decide_eq_true (by omega)
  rw [e2]
  exact h _ (UpB.of_k (Kp.refl _))

/-- many = 1 + sum(script) % 4 -/
theorem s0 {l : Addr} {vs : Array Value} {ns : List Int} {rest : List Stmt} {Q : Flow → Shared → Prop} {q1 q2 q3 q4 q5 q6 q7 q8 q9 : Pos} {j1 j2 : Nat} (E : LEnv env cO cD) (C : Cx mg mb 4 B s.heap)
    (x : InCallC s env.locals m env.cells cm s') (mS : m "script" = some (.ref l)) (hl : s.heap.IsList l vs) (hi : IntsAre vs.toList ns)
    (next : ∀ s'' m' k t, InCallC s env.locals m' env.cells cm s'' → (∀ z : Str, z ≠ "many" → m' z = m z) → UpB (X0 env cO cD) s' s'' → k ≤ 3 → m' "many" = some (.int (((k : Nat) : Int) + 1) t) → Wp prog w B (execs rest env) Q s'') :
    Wp prog w B (execs (.Assign [.Name "many" q1] (.BinOp (.Constant (.int 1) j1 q2) .Add (.BinOp (.Call (.Name "sum" q3) [.Name "script" q4] [] q5) .Mod (.Constant (.int 4) j2 q6) q7) q8) q9 :: rest) env) Q s' := by
  have C' := C.keeps (ic_kp x)
  have hl' : s'.heap.IsList l vs := hl.at fun o e => ic_kp x _ o e
  refine wpAny_execs_cons (wpAny_Assign_Name (wpAny_BinOp (wpAny_Constant_int (wpAny_BinOp (call_b1 rfl (fun hq => name_builtin (s := { s' with toks := s'.toks + 1 }) (h₀ := s.heap) C'.gl.g C'.gl.b C'.gl.nsum hq E.hk E.gSum E.hgl E.hbl) (name_local (s := { s' with toks := s'.toks + 1 }) E.kScript E.hk rfl x.toInCall.ns mS (sum_vals (s := { s' with toks := s'.toks + 1 }) C'.hh hl' (ints_vals hi) fun t s₁ u₁ => wpAny_Constant_int (mod_int' (by decide) (P.add_int ?_)))))))))
  have h1 := Int.fmod_nonneg_of_pos ns.sum (b := 4) (by decide)
  have h2 := Int.fmod_lt_of_pos ns.sum (b := 4) (by decide)
  obtain ⟨k, hk⟩ : ∃ k : Nat, ns.sum.fmod 4 = (k : Int) := ⟨(ns.sum.fmod 4).toNat, by omega⟩
  rw [hk] at h2
  have e : 1 + ns.sum.fmod 4 = ((k : Nat) : Int) + 1 := by rw [hk]; omega
  rw [e]
  have u : Up s' { s₁ with toks := s₁.toks + 1 + 1 + 1 } := (UpB.of_k (tk := s'.toks + 1) (Kp.refl _)).trans (u₁.trans (UpB.of_k (Kp.refl _)))
  refine stU (ic_up x u) E.hk E.kMany fun s₂ u₂ x₂ => ?_
  exact next _ _ k _ x₂ (fun z hz => if_neg hz) (u.up.trans (u_loc u₂)) (by omega) (by walk_at "same")

/-- order, calls = ([((0, 0),)], {}) -/
theorem s1 {rest : List Stmt} {Q : Flow → Shared → Prop} {q1 q2 q3 q4 q5 q6 q7 q8 q9 q10 q11 : Pos} {j1 j2 j3 j4 j5 j6 : Nat} (E : LEnv env cO cD) (C : Cx mg mb 4 B s.heap)
    (x : InCallC s env.locals m env.cells cm s')
    (next : ∀ s'' m' cm' v d, InCallC s env.locals m' env.cells cm' s'' → (∀ z : Str, z ≠ "calls" → m' z = m z) → UpB (X0 env cO cD) s' s'' → cm' "order" = some v → OrdAt s''.heap v (ordL 0) → m' "calls" = some (.ref d) → (d == sysModules) = false → d ≠ env.locals → ShDict prog w s''.heap d [] → Wp prog w B (execs rest env) Q s'')
    (hs1 : swapsWithSole [.Tuple [.Name "order" q1, .Name "calls" q2] j1 q3] (.Tuple [.List [.Tuple [.Tuple [.Constant (.int 0) j2 q4, .Constant (.int 0) j3 q5] j4 q6] j5 q7] q8, .Dict [] [] q9] j6 q10) q11.line env = pure false)
    (hw1 : swappedStores [.Tuple [.Name "order" q1, .Name "calls" q2] j1 q3] (.Tuple [.List [.Tuple [.Tuple [.Constant (.int 0) j2 q4, .Constant (.int 0) j3 q5] j4 q6] j5 q7] q8, .Dict [] [] q9] j6 q10) env = pure none) :
    Wp prog w B (execs (.Assign [.Tuple [.Name "order" q1, .Name "calls" q2] j1 q3] (.Tuple [.List [.Tuple [.Tuple [.Constant (.int 0) j2 q4, .Constant (.int 0) j3 q5] j4 q6] j5 q7] q8, .Dict [] [] q9] j6 q10) q11 :: rest) env) Q s' := by
  have C' := C.keeps (ic_kp x)
  have he : Ev prog w B env Kd.shape s' (.Tuple [.Tuple [.Constant (.int 0) j2 q4, .Constant (.int 0) j3 q5] j4 q6] j5 q7) [(0, 0)] := by
    have := ev_tuple (prog := prog) (w := w) (A := B) (env := env) (s₀ := s') (K := Kd.sq) (es := [.Tuple [.Constant (.int 0) j2 q4, .Constant (.int 0) j3 q5] j4 q6]) (xs := [(0, 0)]) (k := j5) (pos := q7) (.cons (ev_sq ev_int ev_int) .nil) (by show 1 ≤ 1000; omega)
    exact ⟨this.star, this.ev⟩
  have hel : EvAll prog w B env Kd.shape s' [.Tuple [.Tuple [.Constant (.int 0) j2 q4, .Constant (.int 0) j3 q5] j4 q6] j5 q7] [[(0, 0)]] := .cons he .nil
  refine wpAny_execs_cons ?_
  refine Assign_Tuple (hs := ?h1) (hw := ?h2) ?h3
  case h1 => exact hs1
  case h2 => exact hw1
  refine wpAny_Tuple (wpAny_items_cons ?_)
  refine ev_list hel (by show 1 ≤ 1000; omega) (UpB.refl _) fun D ys s₁ u₁ hD hl₁ hv₁ => ?_
  refine wpAny_items_cons (wpAny_Dict_empty (wpAny_items_nil ⟨by rw [sizeLine_eq]; show 2 ≤ _; omega, ?_⟩))
  have x₁ := ic_up x u₁
  have kp1 : Kp s₁.heap (s₁.heap.push { cls := .type "dict", data := .dict #[] }) := Kp.push _ _
  have lo : (s₁.heap.objs.size == sysModules) = false := by
    obtain ⟨o, _, _, ho, _⟩ := (C'.keeps (Up.k u₁)).gl.g
    exact beq_eq_false_iff_ne.mpr (Nat.ne_of_gt (Nat.lt_of_le_of_lt (by decide) (Heap.lt_size ho)))
  have hnew : ShDict prog w (s₁.heap.push { cls := .type "dict", data := .dict #[] }) s₁.heap.objs.size [] := ⟨[], Heap.DictOfH.new _, .nil⟩
  have hdn : s₁.heap.get? s₁.heap.objs.size = none := Heap.get?_none_of_le (Nat.le_refl _)
  have hdL : s₁.heap.objs.size ≠ env.locals := fun e => by
    obtain ⟨o, _, _, ho, _⟩ := x₁.toInCall.ns
    rw [← e, hdn] at ho; cases ho
  generalize s₁.heap.objs.size = d at *
  generalize hh1 : s₁.heap.push { cls := .type "dict", data := .dict #[] } = h₂ at *
  have kp2 : Kp h₂ (h₂.push { cls := .type "tuple", data := .seq [.ref D, .ref d].toArray }) := Kp.push _ _
  refine wpAny_assign_Tuple C'.hh (items := #[.ref D, .ref d]) ⟨_, Heap.get?_push_size _ rfl, rfl, 0, rfl⟩ rfl rfl fun h₃ he₃ => ?_
  have kp3 : Kp h₂ h₃ := fun b o e => he₃ b o (Nat.ne_of_lt (Heap.lt_size (kp2 b o e))) (kp2 b o e)
  have u₂ : Up s₁ { s₁ with heap := h₃ } := UpB.of_k (tk := s₁.toks) (kp1.trans kp3)
  have x₂ := ic_up x₁ u₂
  show wpAny _ _ (assignInOrder [assign (.Name "order" _) env, assign (.Name "calls" _) env] [.ref D, .ref d]) _ _ _
  rw [assignInOrder]
  refine wpAny_bind (wpAny_holding (wpAny_assign_Name (stCU x₂ E.hk E.kO E.lO fun s₃ u₃ x₃ => ?_)))
  rw [assignInOrder]
  refine wpAny_bind (wpAny_holding (wpAny_assign_Name (stU x₃ E.hk E.kCalls fun s₄ u₄ x₄ => wpAny_pure ?_)))
  have uO := u_cO (env := env) (cD := cD) u₃
  have uL := u_loc (cO := cO) (cD := cD) u₄
  have o₂ : OrdAt h₃ (.ref D) (ordL 0) := ⟨D, ys, rfl, hl₁.at fun o e => Up.k u₂ _ o e, hv₁.tp (Up.k u₂).tp⟩
  have d₂ : ShDict prog w h₃ d [] := hnew.keeps kp3
  have dX := d₂.there
  have dnX : d ∉ X0 env cO cD := by
    intro hb
    obtain ⟨xs, ⟨o, es, ep, ho, hc, hdt, _⟩, _⟩ := d₂
    simp only [List.mem_cons, List.not_mem_nil, or_false] at hb
    rcases hb with rfl | rfl | rfl
    · exact hdL rfl
    · obtain ⟨o', ho', hd'⟩ := x₂.cell _ _ E.lO
      have ho' : h₃.get? _ = some o' := ho'
      rw [ho] at ho'; cases ho'; rw [hdt] at hd'; cases hd'
    · obtain ⟨o', ho', hd'⟩ := x₂.cell _ _ E.lD
      have ho' : h₃.get? _ = some o' := ho'
      rw [ho] at ho'; cases ho'; rw [hdt] at hd'; cases hd'
  refine next s₄ _ _ (.ref D) d x₄ (fun z hz => if_neg hz) (u₁.up.trans (u₂.up.trans (uO.trans uL))) (by walk_at "same") (ord_up E x₃ (ord_up E x₂ o₂ uO) uL) (by walk_at "same") lo hdL ?_
  exact (d₂.up uO.kp dnX (x0_nt E x₂)).up uL.kp dnX (x0_nt E x₃)
end
end Mine

-- part MLaw
namespace Mine
open PySem PySem.W PySem.Calls PyProof.Rows PySem.SeqAt

local macro_rules | `(tactic| walk_at "env") => do
  let he := Lean.mkIdent `he
  `(tactic| (rw [$he:ident]; rfl))

section
variable {prog : Program} {w : World} {A : Around} {s : Shared} {mg mb : Str → Option Value}

set_option maxHeartbeats 4000000 in
theorem law_call {f l : Addr} {vs : Array Value} {ns : List Int} {Q : Value → Shared → Prop} (C : Cx mg mb 5 A s.heap) (hf : IsDef s.heap f (stAt 11) .none .none) (hl : s.heap.IsList l vs) (hi : IntsAre vs.toList ns) (hn : ns.length ≤ 1000)
    (h : ∀ s', Up s s' → Q (.bool true) s') : Wp prog w A (call (.ref f) [.ref l]) Q s := by
  generalize hst : stAt 11 = st at hf
  cases hf with
  | mk ho hd hc =>
    cases hst
    refine fn_cells (by have := C.dp; omega) ho hd C.gl.lim hc rfl (binds := [("script", .ref l)]) rfl rfl (kindsX rfl _) fun L s₁ env he hL x => ?_
    have CB : Cx mg mb 4 (A.deeper env) s.heap := C.deeper
    have hloc : env.locals = L := by walk_at "env"
    have E : LEnv env (L + 1) (L + 1 + 1) := by constructor <;> walk_at "env"
    rw [← hloc] at x
    obtain ⟨m, x, mS⟩ : ∃ m, InCallC s env.locals m env.cells (bindC env.kindOf [("script", .ref l)] fun _ => none) s₁ ∧ m "script" = some (.ref l) := ⟨_, x, by walk_at "env"⟩
    generalize (bindC env.kindOf [("script", .ref l)] fun _ => none) = cm at *
    clear ho hd hc
    refine s0 E CB x mS hl hi fun s₂ m₂ k t x₂ hm₂ u₂ hk3 mM₂ => ?_
    have mS₂ := (hm₂ "script" (by decide)).trans mS
    have key := @s1 prog w (A.deeper env) s s₂ mg mb env (L + 1) (L + 1 + 1) m₂ cm
    have key2 := fun {rest} {Q} {q1 q2 q3 q4 q5 q6 q7 q8 q9 q10 q11} {j1 j2 j3 j4 j5 j6} => @key rest Q q1 q2 q3 q4 q5 q6 q7 q8 q9 q10 q11 j1 j2 j3 j4 j5 j6 E CB x₂
    clear key
    refine key2 ?n1 ?hs1 ?hw1
    clear key2
    case hs1 => walk_at "env"
    case hw1 => walk_at "env"
    intro s₃ m₃ cm₃ v d x₃ hm₃ u₃ mO₃ oO₃ mC₃ lo₃ dL₃ hd₃
    have mS₃ := (hm₃ "script" (by decide)).trans mS₂
    have mM₃ := (hm₃ "many" (by decide)).trans mM₂
    refine s2 E CB hk3 x₃ mM₃ mO₃ oO₃ ?n2
    intro s₄ m₄ cm₄ v₄ x₄ hm₄ hc₄ u₄ mO₄ oO₄
    have mS₄ := (hm₄ "script" (by decide)).trans mS₃
    have mM₄ := (hm₄ "many" (by decide)).trans mM₃
    have mC₄ := (hm₄ "calls" (by decide)).trans mC₃
    have dX : d ∉ X0 env (L + 1) (L + 1 + 1) := by
      intro hb
      obtain ⟨xs, ⟨o, es, ep, ho, hc, hdt, _⟩, _⟩ := hd₃
      simp only [List.mem_cons, List.not_mem_nil, or_false] at hb
      rcases hb with e | e | e
      · exact dL₃ e
      · obtain ⟨o', ho', hd'⟩ := x₃.cell _ _ E.lO
        rw [e, ho'] at ho; cases ho; rw [hdt] at hd'; cases hd'
      · obtain ⟨o', ho', hd'⟩ := x₃.cell _ _ E.lD
        rw [e, ho'] at ho; cases ho; rw [hdt] at hd'; cases hd'
    have hd₄ := hd₃.up u₄.kp dX (x0_nt E x₃)
    refine s3 E CB hk3 x₄ mM₄ mO₄ oO₄ ?n3
    intro s₅ u₅
    refine s4 E CB hk3 (ic_up x₄ u₅) mO₄ (oO₄.keeps (Up.k u₅)) mC₄ lo₃ (hd₄.keeps (Up.k u₅)) dL₃ ?n4
    intro s₆ m₆ d₆ x₆ hm₆ u₆ mC₆ dL₆ lo₆ hd₆ oO₆
    have mS₆ := (hm₆ "script" (by decide) (by decide)).trans mS₄
    have mM₆ := (hm₆ "many" (by decide) (by decide)).trans mM₄
    refine s5 E CB hk3 x₆ mM₆ mO₄ oO₆ mC₆ lo₆ hd₆ ?n5
    intro s₇ u₇
    refine s6 E CB hk3 (ic_up x₆ u₇) (oO₆.keeps (Up.k u₇)) mC₆ dL₆ lo₆ (hd₆.keeps (Up.k u₇)) rfl rfl ?n6
    intro s₈ m₈ x₈ hm₈ u₈ oO₈
    have mS₈ := (hm₈ "script" (by decide) (by decide)).trans mS₆
    have mM₈ := (hm₈ "many" (by decide) (by decide)).trans mM₆
    refine s7 E x₈ oO₈ ?n7
    intro s₉ cm₉ dv₉ x₉ hc₉ u₉ oO₉ mD₉ hdv₉
    refine s8 E CB hk3 x₉ mM₈ mS₈ hl hi hn oO₉ mD₉ hdv₉ ?n8
    intro s₁₀ m₁₀ cm₁₀ dv dr x₁₀ hm₁₀ hc₁₀ u₁₀ oO₁₀ mD₁₀ hdv₁₀ hdr
    have mM₁₀ := (hm₁₀ "many" (by decide) (by decide)).trans mM₈
    have mO₁₀ := (hc₁₀ "order" (by decide)).trans ((hc₉ "order" (by decide)).trans mO₄)
    have hsl := (ord_ok k (by omega) dr hdr).2
    refine s9 E CB hk3 x₁₀ mO₁₀ oO₁₀ mD₁₀ hdv₁₀ ?n9
    intro s₁₁ m₁₁ t₁₁ x₁₁ hm₁₁ u₁₁ mP₁₁
    have mM₁₁ := (hm₁₁ "many" (by decide)).trans mM₁₀
    have oO₁₁ := ord_up E x₁₀ oO₁₀ u₁₁
    have hdv₁₁ := Kd.shape.tp (u₁₁.tp (x0_nt E x₁₀)) hdv₁₀
    refine s10 E CB hk3 x₁₁ mO₁₀ oO₁₁ mD₁₀ hdv₁₁ hdr mP₁₁ ?n10
    intro s₁₂ u₁₂
    have x₁₂ := ic_up x₁₁ u₁₂
    have hdv₁₂ := Kd.shape.tp (Up.k u₁₂).tp hdv₁₁
    refine s11 E CB x₁₂ mD₁₀ hdv₁₂ hsl ?n11
    intro s₁₃ m₁₃ t₁₃ x₁₃ hm₁₃ u₁₃ mN₁₃
    have mM₁₃ := (hm₁₃ "many" (by decide)).trans mM₁₁
    have hdv₁₃ := Kd.shape.tp (u₁₃.tp (x0_nt E x₁₂)) hdv₁₂
    refine s12 E CB x₁₃ mD₁₀ hdv₁₃ hsl ?n12
    intro s₁₄ m₁₄ t₁₄ x₁₄ hm₁₄ u₁₄ mS₁₄
    have mM₁₄ := (hm₁₄ "many" (by decide)).trans mM₁₃
    have mN₁₄ := (hm₁₄ "near" (by decide)).trans mN₁₃
    obtain ⟨h1, h2⟩ := draw_sides k (by omega) dr hdr
    have hnear : (nearL dr).length ≤ 100 := by
      have : (nearL dr).length ≤ 2 * dr.length := flat_len 2 _ (fun p => Nat.le_trans (List.length_filter_le _ _) (by show 2 ≤ 2; omega)) dr
      omega
    refine wpAny_execs_cons (wpAny_Return_some (s13 E hk3 x₁₄ mM₁₄ mN₁₄ mS₁₄ hnear h1 h2 fun s₁₅ u₁₅ => ⟨_, rfl, h _ (ic_up0 (ic_up x₁₄ u₁₅))⟩))
end
end Mine
-- part: the head
namespace Mine
open PySem PySem.W PyProof.Rows
theorem fn_K {K : Frag} {h : Heap} {mg : Str → Option Value} {n : Str} {st : Stmt} {f : Addr} {nm q bn : Str} {params : Arguments} {body : List Stmt} {scope : Scope} {dV kV doc pm cdv ct oc : Value} {an od : Option Addr} {osl : Array (Option Value)} {pos : Pos}
    (X : K.In h) (G : h.Ns mainGlobals mg) (e1 : nsIn K mainGlobals n = some (some (.ref f))) (e2 : K.lookup f = some ⟨oc, od, .func (fnOf nm q params body scope dV kV doc pm an cdv ct), osl⟩) (e3 : codeIn K cdv q = true)
    (e4 : st = .FunctionDef nm params body [] none [] scope none bn pos) : ∃ f, mg n = some (.ref f) ∧ IsDef h f st dV kV := by
  subst e4
  exact ⟨f, mg_of X G e1, .mk (X _ _ e2) rfl (codeRec_of X e3)⟩
theorem dfl_K {K : Frag} {h : Heap} {mg : Str → Option Value} {n : Str} {st : Stmt} {f T : Addr} {t : Tok} {nm q bn : Str} {params : Arguments} {body : List Stmt} {scope : Scope} {kV doc pm cdv ct oc oc' : Value} {an od od' : Option Addr} {osl osl' : Array (Option Value)} {pos : Pos} {ep : Nat}
    (X : K.In h) (G : h.Ns mainGlobals mg) (e1 : nsIn K mainGlobals n = some (some (.ref f))) (e2 : K.lookup f = some ⟨oc, od, .func (fnOf nm q params body scope (.ref T) kV doc pm an cdv ct), osl⟩) (e3 : codeIn K cdv q = true)
    (e4 : st = .FunctionDef nm params body [] none [] scope none bn pos) (e5 : K.lookup T = some ⟨oc', od', .seq #[.int 0 t, .none] ep, osl'⟩)
    (b2 : ∀ (S : PySem.Setting) (a x : Value), peek K S (bindArgs (fnOf nm q params body scope (.ref T) kV doc pm an cdv ct) ⟨[a, x], []⟩) = some ([("a", a), ("x", x), ("lo", .int 0 t), ("hi", .none), ("key", .none)] : List (Str × Value)))
    (b4 : ∀ (S : PySem.Setting) (a x lo hi : Value), peek K S (bindArgs (fnOf nm q params body scope (.ref T) kV doc pm an cdv ct) ⟨[a, x, lo, hi], []⟩) = some ([("a", a), ("x", x), ("lo", lo), ("hi", hi), ("key", .none)] : List (Str × Value))) : ∃ f, mg n = some (.ref f) ∧ IsDfl h f st := by
  subst e4
  exact ⟨f, mg_of X G e1, .mk (X _ _ e2) rfl (codeRec_of X e3) (fun s k a x => ⟨t, kp_binds (X.keeps k) fun S => b2 S a x⟩) fun s k a x lo hi => kp_binds (X.keeps k) fun S => b4 S a x lo hi⟩
end Mine
open PySem PySem.W PyProof.Rows Mine
set_option maxRecDepth 100000 in
set_option maxHeartbeats 8000000 in
theorem PySem.Challenge.cw_gu0001_02_holds : PySem.Challenge.rw_gu0001_02.Holds := by
  w_on
  o_law
  k_head
  case hw => w_witness2
  w_strict (
    k_fill
    intro w s₀ s₁ mg mb G Y fa o pm cd doc dV kV ho hd hcd hD hmg hg args vals as hpre hlay hrd hwl hlo
    have KX := kIn_of Y
    refine Ground.open G ?_
    intro T B D TE TW
    have GL : Gl mg mb s₁.heap := by
      constructor
      case g => exact T.g
      case b => exact T.b
      case lim => exact T.nolimit
      case nmin => exact ⟨mg_none_of KX T.g (by k_is), (T.builtins _ (by decide)).trans (by decide +kernel)⟩
      case nsorted => exact ⟨mg_none_of KX T.g (by k_is), (T.builtins _ (by decide)).trans (by decide +kernel)⟩
      case nlen => exact ⟨mg_none_of KX T.g (by k_is), (T.builtins _ (by decide)).trans (by decide +kernel)⟩
      case nsum => exact ⟨mg_none_of KX T.g (by k_is), (T.builtins _ (by decide)).trans (by decide +kernel)⟩
      case nisi => exact ⟨mg_none_of KX T.g (by k_is), (T.builtins _ (by decide)).trans (by decide +kernel)⟩
      case ntuple => exact ⟨mg_none_of KX T.g (by k_is), (T.builtins _ (by decide)).trans (by decide +kernel)⟩
      case ndict => exact ⟨mg_none_of KX T.g (by k_is), (T.builtins _ (by decide)).trans (by decide +kernel)⟩
      case nrange => exact ⟨mg_none_of KX T.g (by k_is), (T.builtins _ (by decide)).trans (by decide +kernel)⟩
      case fins | fbis =>
        refine' dfl_K KX T.g ?e1 ?e2 ?e3 ?e4 ?e5 ?b2 ?b4
        case e1 => k_is
        case e2 => k_is
        case e3 => k_is
        case e4 => rfl
        case e5 => k_is
        case b2 => intro S a x; kernel_rfl
        case b4 => intro S a x lo hi; kernel_rfl
      all_goals
        refine' fn_K KX T.g ?e1 ?e2 ?e3 ?e4
        case e1 => k_is
        case e2 => k_is
        case e3 => k_is
        case e4 => rfl
    wrow_args hpre hlay hrd hwl hlo
    rename_i ns hs hl0 hL1 hr1 hl2 a1 a2 l vs as hL ra w1 r0 hI hr hc hc'
    obtain rfl : dV = .none := hD.none rfl
    obtain rfl : kV = .none := hD.kw.elim (·.2) (fun y => absurd rfl y.1)
    have hf : IsDef s₁.heap fa (stAt 11) .none .none := by
      have e : stAt 11 = .FunctionDef _ _ _ [] none [] _ none _ _ := rfl
      rw [e]
      exact .mk ho hd hcd
    have hC : Cx mg mb 5 callerA s₁.heap := ⟨GL, rfl, by decide, by decide⟩
    refine wpAny_mono (law_call hC hf hL (ns := ns) hI (by omega) (Q := fun v s' => v = .bool true ∧ Up s₁ s') fun s' u => ⟨rfl, u⟩) ?_ ?_
    · rintro v s' ⟨rfl, u⟩
      exact GoodW.toG ⟨.inl ⟨.bool true, .bool true, [], rfl, fun _ => rfl, .bool true, by wrow_post, unshared_nil⟩, Up.k u, u.os, u.gens.trans hg⟩
    · rintro e s' f
      exact f.elim)
