import PyProof.Rows.All
import Wide.All
import Open.Line
import OpenK.KWalk
import PyProof.AutoIntOps
import KE.KEqDict
import KE.KxPercentT
import PyProof.SetNew
import PyProof.EnumMake
import Lean
import PySem.Challenge.RW_te0071_02
set_option maxRecDepth 100000
set_option Elab.async false
set_option compiler.extract_closed false
set_option genSizeOf false
set_option genInjectivity false
namespace Mine
theorem om_pred {a b n : Nat} (h : a < n) (e : Nat.ble (b + 1) a = true) : b < n - 1 := by
  have := Nat.le_of_ble_eq_true e
  omega
theorem om_lit {a b c : Nat} (h : a ≤ b) (e : Nat.ble b c = true) : a ≤ c := Nat.le_trans h (Nat.le_of_ble_eq_true e)
theorem om_lit1 {a b c : Nat} (h : a < b) (e : Nat.ble b c = true) : a ≤ c := Nat.le_trans (Nat.le_of_lt h) (Nat.le_of_ble_eq_true e)
theorem om_add {a b c : Nat} (h : a ≤ b) (e : Nat.ble (b + 1) c = true) : a + 1 ≤ c := Nat.le_trans (Nat.succ_le_succ h) (Nat.le_of_ble_eq_true e)
theorem om_min {a b n c : Nat} (h : a ≤ n) (e : Nat.ble n c = true) : min a b ≤ c := Nat.le_trans (Nat.min_le_left a b) (om_lit h e)
theorem om_min1 {a b n c : Nat} (h : a < n) (e : Nat.ble n c = true) : min a b ≤ c := Nat.le_trans (Nat.min_le_left a b) (om_lit1 h e)
theorem om_lt {a b c : Nat} (h : a < b) (h2 : b ≤ c) : a < c := Nat.lt_of_lt_of_le h h2
local macro_rules | `(tactic| omega) => `(tactic| first
  | with_reducible assumption
  | exact Nat.le_antisymm (by with_reducible assumption) (by with_reducible assumption)
  | exact Nat.succ_le_of_lt (by with_reducible assumption)
  | exact Nat.le_of_lt (by with_reducible assumption)
  | exact om_lit (by with_reducible assumption) (by rfl)
  | exact om_lit1 (by with_reducible assumption) (by rfl)
  | exact om_add (by with_reducible assumption) (by rfl)
  | exact om_pred (by with_reducible assumption) (by rfl)
  | exact om_min (by with_reducible assumption) (by rfl)
  | exact om_min1 (by with_reducible assumption) (by rfl)
  | exact om_lt (by with_reducible assumption) (by with_reducible assumption)
  | lia)
section
open PySem PySem.W PySem.Calls PyProof.Rows

/-! canonical values -/
noncomputable def cn : Value → Value
  | .int i _ => .int i 0
  | .float x _ => .float x 0
  | .str s _ => .str s 0
  | .bytes b _ => .bytes b 0
  | v => v

theorem cn_ref {v : Value} {a : Addr} (h : cn v = .ref a) : v = .ref a := by cases v <;> simp_all [cn]
theorem cn_int {v : Value} {i : Int} {t : Tok} (h : cn v = .int i t) : ∃ u, v = .int i u := by
  cases v <;> simp_all [cn]
theorem cn_str {v : Value} {x : PySem.Str} {t : Tok} (h : cn v = .str x t) : ∃ u, v = .str x u := by
  cases v <;> simp_all [cn]
theorem cn_bool {v : Value} {b : Bool} (h : cn v = .bool b) : v = .bool b := by cases v <;> simp_all [cn]
theorem cn_none {v : Value} (h : cn v = .none) : v = .none := by cases v <;> simp_all [cn]
theorem cn_builtin {v : Value} {i : String} (h : cn v = .builtin i) : v = .builtin i := by cases v <;> simp_all [cn]
theorem cn_type {v : Value} {i : String} (h : cn v = .type i) : v = .type i := by cases v <;> simp_all [cn]
/-! scalar keys -/
noncomputable abbrev Key := PySem.Str ⊕ Int
noncomputable def keyIs : Key → Value → Bool
  | .inl x, v => Value.isStrOf x v
  | .inr i, v => Value.isInt i v
noncomputable def keyV : Key → Value
  | .inl x => .str x 0
  | .inr i => .int i 0
theorem keyIs_shape {k : Key} {v : Value} (h : keyIs k v = true) : (∃ x t, k = .inl x ∧ v = .str x t) ∨ ∃ i t, k = .inr i ∧ v = .int i t := by
  cases k with
  | inl x => obtain ⟨t, rfl⟩ := Value.isStrOf_shape h; exact .inl ⟨_, _, rfl, rfl⟩
  | inr i => obtain ⟨t, rfl⟩ := Value.isInt_shape h; exact .inr ⟨_, _, rfl, rfl⟩
theorem keyIs_of_cn {k : Key} {v : Value} (h : cn v = keyV k) : keyIs k v = true := by
  cases k with
  | inl x => obtain ⟨u, rfl⟩ := cn_str h; simp [keyIs, Value.isStrOf]
  | inr i => obtain ⟨u, rfl⟩ := cn_int h; simp [keyIs, Value.isInt]
section
variable {prog : Program} {w : World} {A : Around} {E : Value → Shared → Prop} {s : Shared}
theorem eqBool_str_int {x : PySem.Str} {y : Int} {t u : Tok} {Q : Bool → Shared → Prop} (h : Q false s) : wpAny (model prog w) A (eqBool (.str x t) (.int y u)) Q E s := by
  unfold eqBool
  refine wpAny_holding ?_
  rw [if_neg (by simp)]
  exact wpAny_bind (EqMixed.eq_str_int (wpAny_truthy_bool h))
theorem eqBool_int_str {x : PySem.Str} {y : Int} {t u : Tok} {Q : Bool → Shared → Prop} (h : Q false s) : wpAny (model prog w) A (eqBool (.int y u) (.str x t)) Q E s := by
  unfold eqBool
  refine wpAny_holding ?_
  rw [if_neg (by simp)]
  exact wpAny_bind (EqMixed.eq_int_str (wpAny_truthy_bool h))
end
noncomputable def keyKind (prog : Program) (w : World) : KeyKind prog w Key where
  is := keyIs
  hash := fun | .inl x => hashStr w x | .inr i => hashInt i
  inj := fun v a b ha hb => by
    rcases keyIs_shape ha with ⟨x, t, rfl, rfl⟩ | ⟨x, t, rfl, rfl⟩ <;> rcases keyIs_shape hb with ⟨y, u, rfl, h⟩ | ⟨y, u, rfl, h⟩ <;> cases h <;> rfl
  byValue := fun k v h => by rcases keyIs_shape h with ⟨x, t, rfl, rfl⟩ | ⟨x, t, rfl, rfl⟩ <;> rfl
  pyHash := fun hv h => by
    rcases keyIs_shape hv with ⟨x, t, rfl, rfl⟩ | ⟨x, t, rfl, rfl⟩
    · exact wpAny_pyHash_str h
    · exact wpAny_pyHash_int h
  eqBool := fun hu hv h => by
    rcases keyIs_shape hu with ⟨x, t, rfl, rfl⟩ | ⟨x, t, rfl, rfl⟩ <;> rcases keyIs_shape hv with ⟨y, u, rfl, rfl⟩ | ⟨y, u, rfl, rfl⟩
    · refine wpAny_eqBool_str ?_
      simpa using h
    · exact eqBool_str_int (by simpa using h)
    · exact eqBool_int_str (by simpa using h)
    · refine wpAny_eqBool_int ?_
      by_cases e : x = y
      · subst e; simpa using h
      · have : (x == y) = false := by simpa using e
        rw [this]; simpa [e] using h
  «strs» := fun k x t v h => by
    rcases keyIs_shape h with ⟨y, u, rfl, e⟩ | ⟨y, u, rfl, e⟩
    · cases e; cases v <;> rfl
    · cases e

/-! abstract objects -/
inductive MO where
  | list (xs : List Value)
  | tup (xs : List Value)
  | dict (kvs : List (PySem.Str × Value))
  | tdict (kvs : List (List Key × Value))
  | set (xs : List PySem.Str)
  | inst (C dx : Addr)
  | cell (v : Option Value)
  | raw (o : Obj)
  | fdict (kvs : List (PySem.Str × Value)) (ep : Nat)
  | range (a b c : Int)

noncomputable def AbsH (prog : Program) (w : World) (h : Heap) (a : Addr) : MO → Prop
  | .list xs => ∃ vs : List Value, h.PlainList a vs.toArray ∧ vs.map cn = xs
  | .tup xs => ∃ (vs : List Value) (n : Nat), h.get? a = some { cls := .type "tuple", data := .seq vs.toArray n } ∧ vs.map cn = xs
  | .dict kvs => ∃ kv' : List (PySem.Str × Value), h.DictOf (strKind prog w) a kv' ∧ kv'.map (fun p => (p.1, cn p.2)) = kvs
  | .tdict kvs => ∃ kv' : List (List Key × Addr × Value), h.DictOfH (tupleKind (keyKind prog w)) a kv' ∧ kv'.map (fun p => (p.1, cn p.2.2)) = kvs
  | .set xs => xs.Nodup ∧ h.SetOf (strKind prog w) a (fun x => decide (x ∈ xs)) xs.length
  | .inst C dx => h.get? a = some (instObj C dx)
  | .cell v => ∃ v', h.IsCell a v' ∧ v'.map cn = v
  | .raw o => h.get? a = some o
  | .fdict kvs ep => ∃ kv' : List (PySem.Str × Value), h.DictAt (strKind prog w) a kv' ep ∧ kv'.map (fun p => (p.1, cn p.2)) = kvs
  | .range x y z => ∃ t u v, IsRange h a x y z t u v

/-- all objects of h but the one at d stand in h' -/
noncomputable abbrev Kept (d : Addr) (h h' : Heap) : Prop := Heap.ExtBut d h h'
noncomputable def NotTup (o : Obj) : Prop := o.cls = .type "tuple" → ∀ vs n, o.data ≠ .seq vs n

theorem AbsH.kept {prog : Program} {w : World} {h h' : Heap} {a d : Addr} {mo : MO} (x : AbsH prog w h a mo) (k : Kept d h h') (hd : ∀ o, h.get? d = some o → NotTup o) (ne : a ≠ d) : AbsH prog w h' a mo := by
  cases mo with
  | list xs => obtain ⟨vs, ⟨n, e⟩, e2⟩ := x; exact ⟨vs, ⟨n, k _ _ ne e⟩, e2⟩
  | tup xs => obtain ⟨vs, n, e, e2⟩ := x; exact ⟨vs, n, k _ _ ne e, e2⟩
  | dict kvs => obtain ⟨kv', e, e2⟩ := x; exact ⟨kv', e.extBut k ne, e2⟩
  | tdict kvs =>
    obtain ⟨kv', ⟨o, es, ep, ho, hx, hd', he, hk, hn⟩, e2⟩ := x
    refine ⟨kv', ⟨o, es, ep, k _ _ ne ho, hx, hd', he, fun y hy => ?_, hn⟩, e2⟩
    obtain ⟨o', items, n, h1, h2, h3, h4⟩ := hk y hy
    refine ⟨o', items, n, k _ _ ?_ h1, h2, h3, h4⟩
    intro e
    exact hd o' (e ▸ h1) h2 _ _ h3
  | set xs =>
    obtain ⟨nd, o, es, ep, t, ho, r⟩ := x
    exact ⟨nd, o, es, ep, t, k _ _ ne ho, r⟩
  | inst C dx => exact k _ _ ne x
  | cell v => obtain ⟨v', ⟨o, e, e1⟩, e2⟩ := x; exact ⟨v', ⟨o, k _ _ ne e, e1⟩, e2⟩
  | raw o => exact k _ _ ne x
  | fdict kvs ep => obtain ⟨kv', ⟨o, es, ho, r⟩, e2⟩ := x; exact ⟨kv', ⟨o, es, k _ _ ne ho, r⟩, e2⟩
  | range x y z => obtain ⟨t, u, v, e⟩ := x; exact ⟨t, u, v, k _ _ ne e⟩
theorem AbsH.all {prog : Program} {w : World} {h h' : Heap} {a : Addr} {mo : MO} (x : AbsH prog w h a mo) (k : ∀ b o, h.get? b = some o → h'.get? b = some o) : AbsH prog w h' a mo := by
  cases mo with
  | list xs => obtain ⟨vs, ⟨n, e⟩, e2⟩ := x; exact ⟨vs, ⟨n, k _ _ e⟩, e2⟩
  | tup xs => obtain ⟨vs, n, e, e2⟩ := x; exact ⟨vs, n, k _ _ e, e2⟩
  | dict kvs => obtain ⟨kv', ⟨o, es, ep, ho, r⟩, e2⟩ := x; exact ⟨kv', ⟨o, es, ep, k _ _ ho, r⟩, e2⟩
  | tdict kvs =>
    obtain ⟨kv', ⟨o, es, ep, ho, hx, hd', he, hk, hn⟩, e2⟩ := x
    refine ⟨kv', ⟨o, es, ep, k _ _ ho, hx, hd', he, fun y hy => ?_, hn⟩, e2⟩
    obtain ⟨o', items, n, h1, h2⟩ := hk y hy
    exact ⟨o', items, n, k _ _ h1, h2⟩
  | set xs =>
    obtain ⟨nd, o, es, ep, t, ho, r⟩ := x
    exact ⟨nd, o, es, ep, t, k _ _ ho, r⟩
  | inst C dx => exact k _ _ x
  | cell v => obtain ⟨v', ⟨o, e, e1⟩, e2⟩ := x; exact ⟨v', ⟨o, k _ _ e, e1⟩, e2⟩
  | raw o => exact k _ _ x
  | fdict kvs ep => obtain ⟨kv', ⟨o, es, ho, r⟩, e2⟩ := x; exact ⟨kv', ⟨o, es, k _ _ ho, r⟩, e2⟩
  | range x y z => obtain ⟨t, u, v, e⟩ := x; exact ⟨t, u, v, k _ _ e⟩
theorem AbsH.there {prog : Program} {w : World} {h : Heap} {a : Addr} {mo : MO} (x : AbsH prog w h a mo) : ∃ o, h.get? a = some o := by
  cases mo with
  | list xs => obtain ⟨vs, ⟨n, e⟩, e2⟩ := x; exact ⟨_, e⟩
  | tup xs => obtain ⟨vs, n, e, e2⟩ := x; exact ⟨_, e⟩
  | dict kvs => obtain ⟨kv', ⟨o, es, ep, ho, r⟩, e2⟩ := x; exact ⟨_, ho⟩
  | tdict kvs => obtain ⟨kv', ⟨o, es, ep, ho, r⟩, e2⟩ := x; exact ⟨_, ho⟩
  | set xs => obtain ⟨nd, o, es, ep, t, ho, r⟩ := x; exact ⟨_, ho⟩
  | inst C dx => exact ⟨_, x⟩
  | cell v => obtain ⟨v', ⟨o, e, e1⟩, e2⟩ := x; exact ⟨_, e⟩
  | raw o => exact ⟨_, x⟩
  | fdict kvs ep => obtain ⟨kv', ⟨o, es, ho, r⟩, e2⟩ := x; exact ⟨_, ho⟩
  | range x y z => obtain ⟨t, u, v, e⟩ := x; exact ⟨_, e⟩

/-! the abstract heap, the locals -/
noncomputable abbrev MH := List (Addr × MO)
noncomputable abbrev Loc := List (PySem.Str × Option Value)
noncomputable abbrev FSt := List (Addr × Data)
noncomputable abbrev Xs := List (Addr × Obj)

structure Rel (prog : Program) (w : World) (base : Heap) (FS : FSt) (X : Xs) (L : Addr) (h : Heap) (m : Loc) (mh : MH) : Prop where
  keep : ∀ b o, base.get? b = some o → h.get? b = some o
  above : base.objs.size ≤ L
  ns : ∃ mr, h.Ns L mr ∧ ∀ x ov, (x, ov) ∈ m → (mr x).map cn = ov
  nd : (mh.map (·.1)).Nodup
  objs : ∀ a mo, (a, mo) ∈ mh → AbsH prog w h a mo ∧ base.objs.size ≤ a ∧ a ≠ L
  ex : ∀ a o, (a, o) ∈ X → h.get? a = some o ∧ base.objs.size ≤ a ∧ a ≠ L ∧ a ∉ mh.map (·.1)
  fs : ∀ a d, (a, d) ∈ FS → (∃ o, h.get? a = some o ∧ o.data = d ∧ ∃ es ep, d = .dict es ep) ∧ base.objs.size ≤ a ∧ a ≠ L ∧ a ∉ mh.map (·.1) ∧ a ∉ X.map (·.1)

section
variable {prog : Program} {w : World} {base : Heap} {FS : FSt} {X : Xs} {L : Addr} {h h' : Heap} {m : Loc} {mh mh' : MH}

theorem Rel.lt (R : Rel prog w base FS X L h m mh) : L < h.objs.size := let ⟨_, hn, _⟩ := R.ns; hn.lt
theorem Rel.mem_lt (R : Rel prog w base FS X L h m mh) {a : Addr} {mo : MO} (hm : (a, mo) ∈ mh) : a < h.objs.size := let ⟨_, e⟩ := (R.objs a mo hm).1.there; Heap.lt_size e

/-- all stands -/
theorem Rel.all (R : Rel prog w base FS X L h m mh) (k : ∀ b o, h.get? b = some o → h'.get? b = some o) : Rel prog w base FS X L h' m mh where
  keep b o e := k _ _ (R.keep b o e)
  above := R.above
  ns := let ⟨mr, hn, e⟩ := R.ns; ⟨mr, hn.keeps k, e⟩
  nd := R.nd
  objs a mo hm := let ⟨x, y⟩ := R.objs a mo hm; ⟨x.all k, y⟩
  ex a o hm := let ⟨x, y⟩ := R.ex a o hm; ⟨k _ _ x, y⟩
  fs a d hm := let ⟨⟨o, x, r⟩, y⟩ := R.fs a d hm; ⟨⟨o, k _ _ x, r⟩, y⟩

/-- a place beyond the heap is free -/
theorem Rel.fresh (R : Rel prog w base FS X L h m mh) {r : Addr} (hr : h.objs.size ≤ r) : base.objs.size ≤ r ∧ r ≠ L ∧ r ∉ mh.map (·.1) ∧ r ∉ X.map (·.1) ∧ r ∉ FS.map (·.1) := by
  refine ⟨?_, ?_, ?_, ?_, ?_⟩
  · exact Nat.le_trans R.above (Nat.le_trans (Nat.le_of_lt R.lt) hr)
  · intro e; subst e; exact absurd R.lt (Nat.not_lt.mpr hr)
  · intro hm
    obtain ⟨⟨a, mo⟩, hm', rfl⟩ := List.mem_map.mp hm
    exact absurd (R.mem_lt hm') (Nat.not_lt.mpr hr)
  · intro hm
    obtain ⟨⟨a, mo⟩, hm', rfl⟩ := List.mem_map.mp hm
    exact absurd (Heap.lt_size (R.ex _ _ hm').1) (Nat.not_lt.mpr hr)
  · intro hm
    obtain ⟨⟨a, mo⟩, hm', rfl⟩ := List.mem_map.mp hm
    obtain ⟨⟨o, x, _⟩, _⟩ := R.fs _ _ hm'
    exact absurd (Heap.lt_size x) (Nat.not_lt.mpr hr)
/-- a new object at a place beyond the heap, all else kept -/
theorem Rel.new (R : Rel prog w base FS X L h m mh) {r : Addr} {mo : MO} (hr : h.objs.size ≤ r) (k : ∀ b o, h.get? b = some o → h'.get? b = some o) (ha : AbsH prog w h' r mo) :
    Rel prog w base FS X L h' m ((r, mo) :: mh) := by
  obtain ⟨f1, f2, f3, f4, f5⟩ := R.fresh hr
  have R' := R.all k
  refine { R' with nd := ?_, objs := ?_, ex := ?_, fs := ?_ }
  · rw [List.map_cons, List.nodup_cons]; exact ⟨f3, R.nd⟩
  · intro a mo' hm
    rcases List.mem_cons.mp hm with e | hm
    · cases e; exact ⟨ha, f1, f2⟩
    · exact R'.objs a mo' hm
  · intro a o hm
    obtain ⟨x, y, z, t⟩ := R'.ex a o hm
    refine ⟨x, y, z, ?_⟩
    rw [List.map_cons, List.mem_cons, not_or]
    exact ⟨fun e => f4 ((show a = r from e) ▸ List.mem_map_of_mem (f := (·.1)) hm), t⟩
  · intro a d hm
    obtain ⟨x, y, z, t, u⟩ := R'.fs a d hm
    refine ⟨x, y, z, ?_, u⟩
    rw [List.map_cons, List.mem_cons, not_or]
    exact ⟨fun e => f5 ((show a = r from e) ▸ List.mem_map_of_mem (f := (·.1)) hm), t⟩
theorem Rel.push (R : Rel prog w base FS X L h m mh) {o : Obj} {mo : MO} (ha : AbsH prog w (h.push o) h.objs.size mo) : Rel prog w base FS X L (h.push o) m ((h.objs.size, mo) :: mh) :=
  R.new (Nat.le_refl _) (fun _ _ e => Heap.get?_push_of_some _ e) ha

/-- the entry at a, changed -/
inductive MPut : MH → Addr → MO → MO → MH → Prop
  | here {a o o' l} : MPut ((a, o) :: l) a o o' ((a, o') :: l)
  | there {a o o' p l l'} : MPut l a o o' l' → MPut (p :: l) a o o' (p :: l')
inductive MHas : MH → Addr → MO → Prop
  | here {a o l} : MHas ((a, o) :: l) a o
  | there {a o p l} : MHas l a o → MHas (p :: l) a o
theorem MHas.mem {l : MH} {a : Addr} {o : MO} (x : MHas l a o) : (a, o) ∈ l := by
  induction x with
  | here => exact .head _
  | there _ ih => exact .tail _ ih
theorem MHas.of_mem {a : Addr} {o : MO} : ∀ {l : MH}, (a, o) ∈ l → MHas l a o
  | _ :: _, .head _ => .here
  | _ :: _, .tail _ m => .there (of_mem m)
theorem MPut.has {l l' : MH} {a : Addr} {o o' : MO} (x : MPut l a o o' l') : (a, o) ∈ l := by
  induction x with
  | here => exact .head _
  | there _ ih => exact .tail _ ih
theorem MPut.keys {l l' : MH} {a : Addr} {o o' : MO} (x : MPut l a o o' l') : l'.map (·.1) = l.map (·.1) := by
  induction x with
  | here => rfl
  | there _ ih => simp [ih]
theorem MPut.mem {l l' : MH} {a : Addr} {o o' : MO} (x : MPut l a o o' l') (nd : (l.map (·.1)).Nodup) {b : Addr} {p : MO} (hm : (b, p) ∈ l') : (b = a ∧ p = o') ∨ (b ≠ a ∧ (b, p) ∈ l) := by
  induction x with
  | here =>
    rw [List.map_cons, List.nodup_cons] at nd
    rcases List.mem_cons.mp hm with e | hm'
    · cases e; exact .inl ⟨rfl, rfl⟩
    · refine .inr ⟨fun e => nd.1 ?_, .tail _ hm'⟩
      subst e; exact List.mem_map_of_mem (f := (·.1)) hm'
  | there t ih =>
    rw [List.map_cons, List.nodup_cons] at nd
    rcases List.mem_cons.mp hm with e | hm
    · subst e
      refine .inr ⟨fun e => nd.1 ?_, .head _⟩
      subst e; exact List.mem_map_of_mem (f := (·.1)) t.has
    · rcases ih nd.2 hm with r | ⟨r1, r2⟩
      · exact .inl r
      · exact .inr ⟨r1, .tail _ r2⟩
theorem MPut.left {l l' r : MH} {a : Addr} {o o' : MO} (x : MPut l a o o' l') : MPut (l ++ r) a o o' (l' ++ r) := by
  induction x with
  | here => exact .here
  | there _ ih => exact .there ih
theorem MPut.right {l l' r : MH} {a : Addr} {o o' : MO} (x : MPut l a o o' l') : MPut (r ++ l) a o o' (r ++ l') := by
  induction r with
  | nil => exact x
  | cons p r ih => exact .there ih
theorem MPut.split {l l' : MH} {a : Addr} {o o' : MO} (x : MPut l a o o' l') : ∃ l1 l2, l = l1 ++ (a, o) :: l2 ∧ l' = l1 ++ (a, o') :: l2 := by
  induction x with
  | here => exact ⟨[], _, rfl, rfl⟩
  | there _ ih => obtain ⟨l1, l2, rfl, rfl⟩ := ih; exact ⟨_ :: l1, l2, rfl, rfl⟩

/-- an object changed in place (or grown around), all else kept -/
theorem Rel.set (R : Rel prog w base FS X L h m mh) {a : Addr} {o o' : MO} (p : MPut mh a o o' mh') (k : Kept a h h') (nt : ∀ ob, h.get? a = some ob → NotTup ob) (ha : AbsH prog w h' a o') : Rel prog w base FS X L h' m mh' := by
  obtain ⟨x, hb, hL⟩ := R.objs a o p.has
  have ky := p.keys
  refine ⟨fun b ob e => k _ _ (fun q => by subst q; exact absurd (Heap.lt_size e) (Nat.not_lt.mpr hb)) (R.keep b ob e), R.above, ?_, by rw [ky]; exact R.nd, ?_, ?_, ?_⟩
  · obtain ⟨mr, ⟨oL, es, ep, h1, h2⟩, e⟩ := R.ns
    exact ⟨mr, ⟨oL, es, ep, k _ _ (Ne.symm hL) h1, h2⟩, e⟩
  · intro b mo hm
    rcases p.mem R.nd hm with ⟨rfl, rfl⟩ | ⟨ne, hm⟩
    · exact ⟨ha, hb, hL⟩
    · obtain ⟨y, z⟩ := R.objs b mo hm
      exact ⟨y.kept k nt ne, z⟩
  · intro b ob hm
    obtain ⟨y, z, t, u⟩ := R.ex b ob hm
    have ne : b ≠ a := fun e => u (by rw [e]; exact List.mem_map_of_mem (f := (·.1)) p.has)
    exact ⟨k _ _ ne y, z, t, by rw [ky]; exact u⟩
  · intro b d hm
    obtain ⟨⟨ob, y, y2⟩, z, t, u, v⟩ := R.fs b d hm
    have ne : b ≠ a := fun e => u (by rw [e]; exact List.mem_map_of_mem (f := (·.1)) p.has)
    exact ⟨⟨ob, k _ _ ne y, y2⟩, z, t, by rw [ky]; exact u, v⟩
theorem notTup_of_dict {o : Obj} {es ep} (h : o.data = .dict es ep) : NotTup o := fun _ vs n e => by rw [h] at e; cases e

/-- the locals changed, all else kept -/
theorem Rel.setL (R : Rel prog w base FS X L h m mh) {mr : PySem.Str → Option Value} {m' : Loc} (k : Kept L h h') (hn : h'.Ns L mr) (hm : ∀ x ov, (x, ov) ∈ m' → (mr x).map cn = ov) : Rel prog w base FS X L h' m' mh := by
  have nt : ∀ ob, h.get? L = some ob → NotTup ob := by
    obtain ⟨mr, ⟨oL, es, ep, h1, h2, _⟩, e⟩ := R.ns
    intro ob q
    rw [h1] at q; cases q
    exact notTup_of_dict h2
  refine ⟨fun b ob e => k _ _ (fun q => ?_) (R.keep b ob e), R.above, ⟨mr, hn, hm⟩, R.nd, ?_, ?_, ?_⟩
  · subst q; exact absurd (Heap.lt_size e) (Nat.not_lt.mpr R.above)
  · intro b mo hm
    obtain ⟨y, z, t⟩ := R.objs b mo hm
    exact ⟨y.kept k nt t, z, t⟩
  · intro b ob hm
    obtain ⟨y, z, t, u⟩ := R.ex b ob hm
    exact ⟨k _ _ t y, z, t, u⟩
  · intro b d hm
    obtain ⟨⟨ob, y, y2⟩, z, t, u⟩ := R.fs b d hm
    exact ⟨⟨ob, k _ _ t y, y2⟩, z, t, u⟩

/-- fewer facts -/
theorem Rel.weak (R : Rel prog w base FS X L h m mh) {m' : Loc} (hm : ∀ p ∈ m', p ∈ m) (hh : ∀ p ∈ mh', p ∈ mh) (nd : (mh'.map (·.1)).Nodup) : Rel prog w base FS X L h m' mh' := by
  have ks : ∀ b, b ∉ mh.map (·.1) → b ∉ mh'.map (·.1) := fun b hb hb' => by
    obtain ⟨p, hp, rfl⟩ := List.mem_map.mp hb'
    exact hb (List.mem_map_of_mem (f := (·.1)) (hh p hp))
  refine { R with ns := ?_, nd := nd, objs := fun a mo q => R.objs a mo (hh _ q), ex := fun a o q => ?_, fs := fun a d q => ?_ }
  · obtain ⟨mr, a, b⟩ := R.ns; exact ⟨mr, a, fun x ov q => b x ov (hm _ q)⟩
  · obtain ⟨x, y, z, t⟩ := R.ex a o q; exact ⟨x, y, z, ks _ t⟩
  · obtain ⟨x, y, z, t, u⟩ := R.fs a d q; exact ⟨x, y, z, ks _ t, u⟩
theorem Rel.perm (R : Rel prog w base FS X L h m mh) (p : mh.Perm mh') : Rel prog w base FS X L h m mh' :=
  R.weak (fun _ q => q) (fun _ q => p.mem_iff.mpr q) ((p.map _).nodup_iff.mp R.nd)
end
end
section
open PySem PySem.W PySem.Calls PyProof.Rows

/-- where we stand: the program, the world, the written part, the block's env, what is left of the room -/
structure Sit where
  prog : Program
  w : World
  K : Frag
  env : Env
  n : Nat
  top : Bool
  cells : List (PySem.Str × Addr) := []
  globs : List (PySem.Str × Value) := []
  ro : List (Addr × List Value) := []

structure Good (c : Sit) (base : Heap) (FS : FSt) (A : Around) : Prop where
  kin : c.K.In base
  ro : ∀ p ∈ c.ro, ∃ vs : List Value, base.PlainList p.1 vs.toArray ∧ vs.map cn = p.2
  lim : base.NoLimit
  hd : A.handled = none
  depth : A.depth + 4 * c.n ≤ 960
  units : A.units + 20 * c.n ≤ 9000
  frames : ∃ fl, A.frames = some fl ∧ (c.top = true → ∃ o, fl = c.env :: o) ∧ ∀ e ∈ fl, e.scope.kind ≠ .module ∧ ∃ L', e.frame = some L' ∧ (L' = c.env.locals ∨ L' ∈ FS.map (·.1))
  guards : A.guards = some []

/-- the names of the block -/
structure NamesOk (c : Sit) (m : Loc) : Prop where
  kind : c.env.scope.kind = .function
  nd : (m.map (·.1)).Nodup
  loc : ∀ p ∈ m, c.env.kindOf p.1 = some .local ∧ (p.1 == ("__debug__" : PySem.Str)) = false
structure TabOk (c : Sit) : Prop where
  cell : ∀ p ∈ c.cells, (c.env.kindOf p.1 = some .cell ∨ c.env.kindOf p.1 = some .free) ∧ c.env.cells.lookup p.1 = some p.2 ∧ (p.1 == ("__debug__" : PySem.Str)) = false ∧ (p.1 == ("__classdict__" : PySem.Str)) = false
  envg : c.env.globals = mainGlobals ∧ c.env.builtins = builtinsNs
  glob : ∀ p ∈ c.globs, ∃ v', cn v' = p.2 ∧ ∀ env : Env, env.scope.kind = .function → env.kindOf p.1 = some .globalImplicit → env.globals = mainGlobals → env.builtins = builtinsNs → ∀ h, c.K.In h → Looks (model c.prog c.w) h (loadName env p.1) v'

noncomputable abbrev Goes {α : Type} (c : Sit) (base : Heap) (FS : FSt) (X : Xs) (s : Shared) (Q : α → Loc → MH → Prop) (a : α) (s' : Shared) : Prop :=
  s'.gens = #[] ∧ s'.os = s.os ∧ ∃ m' mh', Rel c.prog c.w base FS X c.env.locals s'.heap m' mh' ∧ NamesOk c m' ∧ Q a m' mh'
noncomputable def TT (c : Sit) (m : Loc) (mh : MH) {α : Type} (t : Sem α) (Q : α → Loc → MH → Prop) : Prop :=
  ∀ (base : Heap) (FS : FSt) (X : Xs) (A : Around) (E : Value → Shared → Prop) (s : Shared), Good c base FS A → NamesOk c m → TabOk c → Rel c.prog c.w base FS X c.env.locals s.heap m mh → s.gens = #[] →
    wpAny (model c.prog c.w) A t (Goes c base FS X s Q) E s

theorem Goes.after {α : Type} {c : Sit} {base : Heap} {FS : FSt} {X : Xs} {s s1 s' : Shared} {Q : α → Loc → MH → Prop} {a : α} (h : Goes c base FS X s1 Q a s') (o : s1.os = s.os) : Goes c base FS X s Q a s' := ⟨h.1, h.2.1.trans o, h.2.2⟩
theorem Goes.el {α : Type} {c : Sit} {base : Heap} {FS : FSt} {X : Xs} {s s' : Shared} {Q : α → Loc → MH → Prop} {a : α} {P : Prop} (h : Goes c base FS X s Q a s') (k : ∀ m' mh', s'.gens = #[] → s'.os = s.os → Rel c.prog c.w base FS X c.env.locals s'.heap m' mh' → NamesOk c m' → Q a m' mh' → P) : P :=
  let ⟨g, o, m', mh', r, n, q⟩ := h; k m' mh' g o r n q
section
variable {c : Sit} {m m' : Loc} {mh mh' : MH} {α β : Type}

theorem TT.mono {t : Sem α} {Q Q' : α → Loc → MH → Prop} (h : TT c m mh t Q) (k : ∀ a m' mh', Q a m' mh' → Q' a m' mh') : TT c m mh t Q' :=
  fun base FS X A E s G N T R g => wpAny_mono (h base FS X A E s G N T R g) (fun _ _ hx => Goes.el hx fun m' mh' a b r n q => ⟨a, b, m', mh', r, n, k _ _ _ q⟩) (fun _ _ e => e)
theorem TT.pure {a : α} {Q : α → Loc → MH → Prop} (h : Q a m mh) : TT c m mh (Pure.pure a) Q :=
  fun _ _ _ _ _ _ _ N _ R g => wpAny_pure ⟨g, rfl, m, mh, R, N, h⟩
theorem TT.bind {t : Sem α} {f : α → Sem β} {Q : β → Loc → MH → Prop} (h : TT c m mh t (fun a m' mh' => TT c m' mh' (f a) Q)) : TT c m mh (t >>= f) Q :=
  fun base FS X A E s G N T R g => wpAny_bind (wpAny_mono (h base FS X A E s G N T R g)
    (fun _ s' hx => Goes.el hx fun _ _ g' o' r n q => wpAny_mono (q base FS X A E s' G n T r g') (fun _ _ z => Goes.after z o') (fun _ _ e => e)) (fun _ _ e => e))
theorem TT.holding {vs : List Value} {t : Sem α} {Q : α → Loc → MH → Prop} (h : TT c m mh t Q) : TT c m mh (PySem.holding vs t) Q :=
  fun base FS X A E s G N T R g => wpAny_holding (h base FS X A E s G N T R g)
theorem TT.operate {vs : List Value} {t : Sem Value} {Q : Value → Loc → MH → Prop} (h : TT c m mh t Q) : TT c m mh (PySem.operate vs t) Q :=
  fun base FS X A E s G N T R g => wpAny_operateT (h base FS X A E s G N T R g)
theorem TT.standAt {p : Pos} {Q : Unit → Loc → MH → Prop} (h : Q () m mh) : TT c m mh (PySem.standAt p) Q :=
  fun _ _ _ _ _ _ _ N _ R g => wpAny_standAt ⟨g, rfl, m, mh, R, N, h⟩
theorem TT.point {Q : Unit → Loc → MH → Prop} (h : Q () m mh) : TT c m mh PySem.point Q :=
  fun _ _ _ _ _ _ _ N _ R g => wpAny_point ⟨g, rfl, m, mh, R, N, h⟩
theorem TT.at_ {p : Pos} {t : Sem α} {Q : α → Loc → MH → Prop} (h : TT c m mh t Q) : TT c m mh (do PySem.standAt p; t) Q := TT.bind (TT.standAt h)
theorem TT.release {vs ks : List Value} {Q : Unit → Loc → MH → Prop} (h : Q () m mh) : TT c m mh (PySem.release vs ks) Q :=
  fun _ _ _ _ _ _ _ N _ R g => fun Γ p _ => by rw [Sem.wp_release]; exact ⟨g, rfl, m, mh, R, N, h⟩
/-- the heap's facts in another order, or fewer -/
theorem TT.perm {t : Sem α} {Q : α → Loc → MH → Prop} (p : mh.Perm mh') (h : TT c m mh' t Q) : TT c m mh t Q :=
  fun base FS X A E s G N T R g => h base FS X A E s G N T (R.perm p) g
/-! names -/
inductive LHas : Loc → PySem.Str → Value → Prop
  | here {x v l} : LHas ((x, some v) :: l) x v
  | there {x v p l} : LHas l x v → LHas (p :: l) x v
inductive LPut : Loc → PySem.Str → Value → Loc → Prop
  | here {x v o l} : LPut ((x, o) :: l) x v ((x, some v) :: l)
  | there {x v p l l'} : LPut l x v l' → LPut (p :: l) x v (p :: l')
theorem LHas.mem {l : Loc} {x : PySem.Str} {v : Value} (h : LHas l x v) : (x, some v) ∈ l := by
  induction h with
  | here => exact .head _
  | there _ ih => exact .tail _ ih
theorem LPut.keys {l l' : Loc} {x : PySem.Str} {v : Value} (h : LPut l x v l') : l'.map (·.1) = l.map (·.1) := by
  induction h with
  | here => rfl
  | there _ ih => simp [ih]
theorem LPut.key {l l' : Loc} {x : PySem.Str} {v : Value} (h : LPut l x v l') : x ∈ l.map (·.1) := by
  induction h with
  | here => simp
  | there _ ih => exact .tail _ ih
theorem LPut.mem {l l' : Loc} {x : PySem.Str} {v : Value} (h : LPut l x v l') (nd : (l.map (·.1)).Nodup) {y : PySem.Str} {ov : Option Value} (hm : (y, ov) ∈ l') : (y = x ∧ ov = some v) ∨ (y ≠ x ∧ (y, ov) ∈ l) := by
  induction h with
  | here =>
    rw [List.map_cons, List.nodup_cons] at nd
    rcases List.mem_cons.mp hm with e | hm'
    · cases e; exact .inl ⟨rfl, rfl⟩
    · refine .inr ⟨fun e => nd.1 ?_, .tail _ hm'⟩
      subst e; exact List.mem_map_of_mem (f := (·.1)) hm'
  | there t ih =>
    rw [List.map_cons, List.nodup_cons] at nd
    rcases List.mem_cons.mp hm with e | hm'
    · subst e
      refine .inr ⟨fun e => nd.1 ?_, .head _⟩
      subst e; exact t.key
    · rcases ih nd.2 hm' with r | ⟨r1, r2⟩
      · exact .inl r
      · exact .inr ⟨r1, .tail _ r2⟩
theorem NamesOk.put {l l' : Loc} {x : PySem.Str} {v : Value} (N : NamesOk c l) (h : LPut l x v l') : NamesOk c l' := by
  refine ⟨N.kind, by rw [h.keys]; exact N.nd, fun p hp => ?_⟩
  have : p.1 ∈ l.map (·.1) := by rw [← h.keys]; exact List.mem_map_of_mem (f := (·.1)) hp
  obtain ⟨q, hq, e⟩ := List.mem_map.mp this
  rw [← e]; exact N.loc q hq

theorem TT.loadL {x : PySem.Str} {v : Value} {Q : Value → Loc → MH → Prop} (hx : LHas m x v) (h : ∀ v', cn v' = v → Q v' m mh) : TT c m mh (loadName c.env x) Q := by
  intro base FS X A E s G N T R g
  obtain ⟨mr, hn, e⟩ := R.ns
  have := e x _ hx.mem
  obtain ⟨v', h1, h2⟩ := Option.map_eq_some_iff.mp this
  exact wpAny_loadName_local N.kind (N.loc _ hx.mem).1 hn h1 ⟨g, rfl, m, mh, R, N, h v' h2⟩
theorem TT.storeL {x : PySem.Str} {v v' : Value} {Q : Unit → Loc → MH → Prop} (hv : cn v' = v) (hx : LPut m x v m') (h : Q () m' mh) : TT c m mh (storeName c.env x v') Q := by
  intro base FS X A E s G N T R g
  obtain ⟨mr, hn, e⟩ := R.ns
  have hk : c.env.kindOf x = some .local := by
    obtain ⟨q, hq, e⟩ := List.mem_map.mp hx.key
    rw [← e]; exact (N.loc q hq).1
  refine wpAny_storeName_local hk hn (fun h' hn' hs => ⟨g, rfl, m', mh, R.setL hs.extBut hn' ?_, N.put hx, h⟩) (by rw [N.kind]; rfl)
  intro y ov hy
  rcases hx.mem N.nd hy with ⟨rfl, rfl⟩ | ⟨ne, hy'⟩
  · simp [hv]
  · simp only [ne, if_false]; exact e y ov hy'
inductive CHas : List (PySem.Str × Addr) → PySem.Str → Addr → Prop
  | here {x a l} : CHas ((x, a) :: l) x a
  | there {x a p l} : CHas l x a → CHas (p :: l) x a
theorem CHas.mem {l : List (PySem.Str × Addr)} {x : PySem.Str} {v : Addr} (h : CHas l x v) : (x, v) ∈ l := by
  induction h with
  | here => exact .head _
  | there _ ih => exact .tail _ ih
theorem TT.loadC {x : PySem.Str} {a : Addr} {v : Value} {Q : Value → Loc → MH → Prop} (hx : CHas c.cells x a) (ha : MHas mh a (.cell (some v))) (h : ∀ v', cn v' = v → Q v' m mh) : TT c m mh (loadName c.env x) Q := by
  intro base FS X A E s G N T R g
  obtain ⟨⟨v0, e1, e2⟩, _⟩ := R.objs _ _ ha.mem
  obtain ⟨v', rfl, h2⟩ := Option.map_eq_some_iff.mp e2
  obtain ⟨k, l, _, d⟩ := T.cell _ hx.mem
  rcases k with k | k
  · exact wpAny_loadName_cell N.kind k l e1 ⟨g, rfl, m, mh, R, N, h v' h2⟩
  · exact wpAny_loadName_free N.kind k l e1 ⟨g, rfl, m, mh, R, N, h v' h2⟩ d
theorem TT.storeC {x : PySem.Str} {a : Addr} {ov : Option Value} {v v' : Value} {Q : Unit → Loc → MH → Prop} (hv : cn v' = v) (hx : CHas c.cells x a) (hk : c.env.kindOf x = some .cell) (ha : MPut mh a (.cell ov) (.cell (some v)) mh') (h : Q () m mh') : TT c m mh (storeName c.env x v') Q := by
  intro base FS X A E s G N T R g
  obtain ⟨⟨v0, e1, e2⟩, _⟩ := R.objs _ _ ha.has
  obtain ⟨_, l, _, d⟩ := T.cell _ hx.mem
  obtain ⟨o, ho, hd⟩ := e1
  refine wpAny_storeName_cell N.kind hk l ⟨o, ho, hd⟩ fun h' hc hs => ⟨g, rfl, m, mh', R.set ha hs.extBut ?_ ⟨_, hc, by rw [Option.map_some, hv]⟩, N, h⟩
  intro ob q
  rw [ho] at q; cases q
  intro _ vs n e; rw [hd] at e; cases e
inductive GHas : List (PySem.Str × Value) → PySem.Str → Value → Prop
  | here {x a l} : GHas ((x, a) :: l) x a
  | there {x a p l} : GHas l x a → GHas (p :: l) x a
theorem GHas.mem {l : List (PySem.Str × Value)} {x : PySem.Str} {v : Value} (h : GHas l x v) : (x, v) ∈ l := by
  induction h with
  | here => exact .head _
  | there _ ih => exact .tail _ ih
theorem TT.loadG {x : PySem.Str} {v : Value} {Q : Value → Loc → MH → Prop} (hx : GHas c.globs x v) (hk : c.env.kindOf x = some .globalImplicit) (h : ∀ v', cn v' = v → Q v' m mh) : TT c m mh (loadName c.env x) Q :=
  fun _ _ _ _ _ _ G N T R g => let ⟨_, e, t⟩ := T.glob _ hx.mem; (t _ N.kind hk T.envg.1 T.envg.2 _ (G.kin.keeps R.keep)).here ⟨g, rfl, m, mh, R, N, h _ e⟩

/-! expressions: Q is told the canonical value -/
noncomputable def TE (c : Sit) (m : Loc) (mh : MH) (e : Expr) (Q : Value → Loc → MH → Prop) : Prop := TT c m mh (eval e c.env) (fun v m' mh' => Q (cn v) m' mh')
noncomputable def TB (c : Sit) (m : Loc) (mh : MH) (e : Expr) (Q : Bool → Loc → MH → Prop) : Prop := TT c m mh (isTrue e c.env (eval e c.env)) Q
/-- a value is stored into a target -/
noncomputable def TA (c : Sit) (m : Loc) (mh : MH) (e : Expr) (v : Value) (Q : Loc → MH → Prop) : Prop := ∀ v', cn v' = v → TT c m mh (assign e c.env v') (fun _ m' mh' => Q m' mh')
noncomputable def cnF : Flow → Flow
  | .ret v => .ret (cn v)
  | f => f
noncomputable def TS (c : Sit) (m : Loc) (mh : MH) (ss : List Stmt) (Q : Flow → Loc → MH → Prop) : Prop := TT c m mh (execs ss c.env) (fun f m' mh' => Q (cnF f) m' mh')
noncomputable def TS1 (c : Sit) (m : Loc) (mh : MH) (st : Stmt) (Q : Flow → Loc → MH → Prop) : Prop := TT c m mh (exec st c.env) (fun f m' mh' => Q (cnF f) m' mh')
/-- one value tried for truth; two values in an operation; etc. -/
noncomputable def TV (c : Sit) (m : Loc) (mh : MH) (v : Value) (Q : Bool → Loc → MH → Prop) : Prop := ∀ v', cn v' = v → TT c m mh (truthy v') Q
noncomputable def TBin (c : Sit) (m : Loc) (mh : MH) (op : Operator) (a b : Value) (Q : Value → Loc → MH → Prop) : Prop := ∀ a' b', cn a' = a → cn b' = b → TT c m mh (binaryOp op a' b') (fun v m' mh' => Q (cn v) m' mh')
noncomputable def TCmp (c : Sit) (m : Loc) (mh : MH) (op : CmpOp) (a b : Value) (Q : Value → Loc → MH → Prop) : Prop := ∀ a' b', cn a' = a → cn b' = b → TT c m mh (compareOp op a' b') (fun v m' mh' => Q (cn v) m' mh')
noncomputable def TCall (c : Sit) (m : Loc) (mh : MH) (f : Value) (as : List Value) (kw : List (PySem.Str × Value)) (Q : Value → Loc → MH → Prop) : Prop :=
  ∀ f' as' kw', cn f' = f → as'.map cn = as → kw'.map (fun p => (p.1, cn p.2)) = kw → TT c m mh (call f' as' kw') (fun v m' mh' => Q (cn v) m' mh')

variable {Q : Value → Loc → MH → Prop} {QB : Bool → Loc → MH → Prop} {QF : Flow → Loc → MH → Prop} {QL : Loc → MH → Prop}

theorem TE.int {i k p} (h : Q (.int i 0) m mh) : TE c m mh (.Constant (.int i) k p) Q :=
  fun _ _ _ _ _ _ _ N _ R g => wpAny_Constant_int ⟨g, rfl, m, mh, R, N, h⟩
theorem TE.str {x k p} (h : Q (.str x 0) m mh) : TE c m mh (.Constant (.str x) k p) Q :=
  fun _ _ _ _ _ _ _ N _ R g => wpAny_Constant_str ⟨g, rfl, m, mh, R, N, h⟩
theorem TE.bool {b k p} (h : Q (.bool b) m mh) : TE c m mh (.Constant (.bool b) k p) Q :=
  fun _ _ _ _ _ _ _ N _ R g => wpAny_Constant_bool ⟨g, rfl, m, mh, R, N, h⟩
theorem TE.none {k p} (h : Q .none m mh) : TE c m mh (.Constant .none k p) Q :=
  fun _ _ _ _ _ _ _ N _ R g => wpAny_Constant_none ⟨g, rfl, m, mh, R, N, h⟩
theorem TE.local {x v p} (hx : LHas m x v) (h : Q v m mh) : TE c m mh (.Name x p) Q := by
  intro base FS X A E s G N T R g
  refine wpAny_Name (TT.loadL (Q := fun v m' mh' => Q (cn v) m' mh') hx (fun v' e => by rw [e]; exact h) base FS X A E s G N T R g) (N.loc _ hx.mem).2
theorem TE.cell {x a v p} (hx : CHas c.cells x a) (ha : MHas mh a (.cell (some v))) (h : Q v m mh) : TE c m mh (.Name x p) Q := by
  intro base FS X A E s G N T R g
  refine wpAny_Name (TT.loadC (Q := fun v m' mh' => Q (cn v) m' mh') hx ha (fun v' e => by rw [e]; exact h) base FS X A E s G N T R g) (T.cell _ hx.mem).2.2.1
theorem TE.glob {x v p} (hx : GHas c.globs x v) (hk : c.env.kindOf x = some .globalImplicit) (hd : (x == ("__debug__" : PySem.Str)) = false) (h : Q v m mh) : TE c m mh (.Name x p) Q := by
  intro base FS X A E s G N T R g
  refine wpAny_Name (TT.loadG (Q := fun v m' mh' => Q (cn v) m' mh') hx hk (fun v' e => by rw [e]; exact h) base FS X A E s G N T R g) hd
theorem TE.bin {l op r p} (h : TE c m mh l fun a m1 h1 => TE c m1 h1 r fun b m2 h2 => TBin c m2 h2 op a b Q) : TE c m mh (.BinOp l op r p) Q := by
  show TT c m mh (eval (.BinOp l op r p) c.env) _
  rw [eval_BinOp]
  exact TT.bind (TT.mono h fun a m1 h1 k => TT.bind (TT.holding (TT.mono k fun b m2 h2 k2 => TT.at_ (TT.operate (k2 a b rfl rfl)))))
theorem TE.cmp {l op r p} (h : TE c m mh l fun a m1 h1 => TE c m1 h1 r fun b m2 h2 => TCmp c m2 h2 op a b Q) (hm : behindInMarks op r = false := by with_unfolding_all rfl) : TE c m mh (.Compare l [op] [r] p) Q := by
  show TT c m mh (eval (.Compare l [op] [r] p) c.env) _
  rw [eval_Compare1]
  refine TT.bind (TT.mono h fun a m1 h1 k => TT.bind (TT.holding ?_))
  rw [markedBehindIn_of_false hm]
  exact TT.mono k fun b m2 h2 k2 => TT.at_ (TT.operate (k2 a b rfl rfl))
theorem TB.cmp {l op r p} (h : TE c m mh l fun a m1 h1 => TE c m1 h1 r fun b m2 h2 => TCmp c m2 h2 op a b fun v m3 h3 => TV c m3 h3 v QB) (hm : behindInMarks op r = false := by with_unfolding_all rfl) : TB c m mh (.Compare l [op] [r] p) QB := by
  show TT c m mh (isTrue (.Compare l [op] [r] p) c.env _) _
  rw [isTrue_Compare1]
  refine TT.bind (TT.mono h fun a m1 h1 k => TT.bind (TT.holding ?_))
  rw [markedBehindIn_of_false hm]
  refine TT.mono k fun b m2 h2 k2 => TT.at_ (TT.bind (TT.operate (TT.mono (k2 a b rfl rfl) fun v m3 h3 k3 => TT.holding (k3 v rfl))))
theorem TB.value {e : Expr} (h : TE c m mh e fun v m1 h1 => TV c m1 h1 v QB) (he : ∀ whole, isTrue e c.env whole = (do let v ← whole; PySem.standAt e.pos; PySem.holding [v] (truthy v)) := by intro _; rfl) : TB c m mh e QB := by
  show TT c m mh (isTrue e c.env _) _
  rw [he]
  exact TT.bind (TT.mono h fun v m1 h1 k => TT.at_ (TT.holding (k v rfl)))
theorem TB.not {x : Expr} {p : Pos} (h : TB c m mh x fun b m1 h1 => QB (!b) m1 h1) : TB c m mh (.UnaryOp .Not x p) QB := by
  show TT c m mh (do return !(← isTrue x c.env (eval x c.env))) _
  exact TT.bind (TT.mono h fun b m1 h1 k => TT.pure k)
noncomputable def TAnd (c : Sit) (m : Loc) (mh : MH) (op : BoolOp) (es : List Expr) (Q : Bool → Loc → MH → Prop) : Prop := TT c m mh (allTrue op es c.env) Q
theorem TB.bop {op : BoolOp} {es : List Expr} {p : Pos} (h : TAnd c m mh op es QB) : TB c m mh (.BoolOp op es p) QB := h
theorem TAnd.nil {op : BoolOp} (h : QB (op == .And) m mh) : TAnd c m mh op [] QB := by cases op <;> exact TT.pure h
theorem TAnd.and {e : Expr} {es : List Expr} (h : TB c m mh e fun b m1 h1 => (b = true → TAnd c m1 h1 .And es QB) ∧ (b = false → QB false m1 h1)) : TAnd c m mh .And (e :: es) QB := by
  intro base FS X A E s G N T R g
  refine wpAny_allTrue_And_cons (wpAny_mono (h base FS X A E s G N T R g) (fun b s' => ?_) fun _ _ e => e)
  rintro ⟨g1, o1, m1, h1, r1, n1, k⟩
  cases b with
  | true =>
    rw [if_pos rfl]
    exact wpAny_mono (k.1 rfl base FS X A E s' G n1 T r1 g1) (fun _ _ z => Goes.after z o1) (fun _ _ e => e)
  | false => rw [if_neg (by decide)]; exact ⟨g1, o1, m1, h1, r1, n1, k.2 rfl⟩
theorem TAnd.or {e : Expr} {es : List Expr} (h : TB c m mh e fun b m1 h1 => (b = true → QB true m1 h1) ∧ (b = false → TAnd c m1 h1 .Or es QB)) : TAnd c m mh .Or (e :: es) QB := by
  intro base FS X A E s G N T R g
  refine wpAny_allTrue_Or_cons (wpAny_mono (h base FS X A E s G N T R g) (fun b s' => ?_) fun _ _ e => e)
  rintro ⟨g1, o1, m1, h1, r1, n1, k⟩
  cases b with
  | true => rw [if_pos rfl]; exact ⟨g1, o1, m1, h1, r1, n1, k.1 rfl⟩
  | false =>
    rw [if_neg (by decide)]
    exact wpAny_mono (k.2 rfl base FS X A E s' G n1 T r1 g1) (fun _ _ z => Goes.after z o1) (fun _ _ e => e)
theorem TE.ifExp {t b o : Expr} {p : Pos} (h : TB c m mh t fun r m1 h1 => (r = true → TE c m1 h1 b Q) ∧ (r = false → TE c m1 h1 o Q)) : TE c m mh (.IfExp t b o p) Q := by
  show TT c m mh (do if ← isTrue t c.env (eval t c.env) then eval b c.env else eval o c.env) _
  refine TT.bind (TT.mono h fun r m1 h1 k => ?_)
  cases r with
  | true => exact k.1 rfl
  | false => exact k.2 rfl

/-! statements -/
theorem TS.nil (h : QF .next m mh) : TS c m mh [] QF := TT.pure h
/-- what is to hold behind a statement; behind a turn of a loop -/
noncomputable def Aft (c : Sit) (ss : List Stmt) (QF : Flow → Loc → MH → Prop) : Flow → Loc → MH → Prop := fun f m1 h1 => match f with | .next => TS c m1 h1 ss QF | f => QF f m1 h1
noncomputable def Turn (J : Loc → MH → Prop) (QF : Flow → Loc → MH → Prop) : Flow → Loc → MH → Prop := fun f m' mh' => match f with | .next | .cont => J m' mh' | .brk => QF .next m' mh' | .ret v => QF (.ret v) m' mh'
theorem Aft.next {ss : List Stmt} (h : TS c m mh ss QF) : Aft c ss QF .next m mh := h
theorem Aft.brk {ss : List Stmt} (h : QF .brk m mh) : Aft c ss QF .brk m mh := h
theorem Aft.cont {ss : List Stmt} (h : QF .cont m mh) : Aft c ss QF .cont m mh := h
theorem Aft.ret {ss : List Stmt} {v : Value} (h : QF (.ret v) m mh) : Aft c ss QF (.ret v) m mh := h
theorem Turn.next {J : Loc → MH → Prop} (h : J m mh) : Turn J QF .next m mh := h
theorem Turn.cont {J : Loc → MH → Prop} (h : J m mh) : Turn J QF .cont m mh := h
theorem Turn.brk {J : Loc → MH → Prop} (h : QF .next m mh) : Turn J QF .brk m mh := h
theorem Turn.ret {J : Loc → MH → Prop} {v : Value} (h : QF (.ret v) m mh) : Turn J QF (.ret v) m mh := h
/-- what is to hold ahead of a loop's turns, under a name -/
noncomputable def HidI (I J : Nat → Loc → MH → Prop) : Prop := ∀ k m' h', I k m' h' → J k m' h'
theorem HidI.use {I J : Nat → Loc → MH → Prop} {k : Nat} (h : HidI I J) (q : I k m mh) : J k m mh := h k m mh q
theorem TS.cons {st : Stmt} {ss : List Stmt} (h : TS1 c m mh st (Aft c ss QF)) : TS c m mh (st :: ss) QF := by
  show TT c m mh (execs (st :: ss) c.env) _
  rw [execs_cons]
  refine TT.bind (TT.mono h fun f m1 h1 k => ?_)
  cases f with
  | next => exact k
  | brk => exact TT.pure k
  | cont => exact TT.pure k
  | ret v => exact TT.pure k
theorem TS1.expr {e : Expr} {p : Pos} (h : TE c m mh e fun _ m1 h1 => QF .next m1 h1) (hi : interactive c.env = false := by rfl) (hs : swapsWith e none p.line c.env = Pure.pure false := by rfl) : TS1 c m mh (.Expr e p) QF := by
  intro base FS X A E s G N T R g
  exact wpAny_Expr_any (wpAny_mono (h base FS X A E s G N T R g) (fun v s' k => k) fun _ _ e => e) hi hs
theorem TS1.assign {e t : Expr} {p : Pos} (h : TE c m mh e fun v m1 h1 => TA c m1 h1 t v fun m2 h2 => QF .next m2 h2) (hs : swapsWith e (some t) p.line c.env = Pure.pure false := by rfl) (hw : swappedStores [t] e c.env = Pure.pure Option.none := by rfl)
    (he : assignEach [t] c.env = [(false, PySem.assign t c.env)] := by rfl) : TS1 c m mh (.Assign [t] e p) QF := by
  show TT c m mh (exec (.Assign [t] e p) c.env) _
  rw [exec_Assign_arm]
  refine TT.bind (TT.standAt ?_)
  show TT c m mh (swapsWith e (some t) p.line c.env >>= _) _
  rw [hs]
  refine TT.bind (TT.pure ?_)
  rw [if_neg (by decide)]
  refine TT.bind (TT.mono h fun v m1 h1 k => ?_)
  rw [hw]
  refine TT.bind (TT.pure ?_)
  show TT c m1 h1 (do PySem.assignAll v ((assignEach [t] c.env).map (·.2)); Pure.pure Flow.next) _
  rw [he]
  exact TT.bind (TT.mono (k v rfl) fun _ m2 h2 k2 => TT.pure k2)
theorem TA.name {x : PySem.Str} {p : Pos} {v : Value} (hx : LPut m x v m') (h : QL m' mh) : TA c m mh (.Name x p) v QL := by
  intro v' hv base FS X A E s G N T R g
  exact wpAny_assign_Name (TT.storeL (Q := fun _ m' mh' => QL m' mh') hv hx h base FS X A E s G N T R g)
theorem TS1.ret {e : Expr} {p : Pos} (h : TE c m mh e fun v m1 h1 => QF (.ret v) m1 h1) : TS1 c m mh (.Return (some e) p) QF := by
  show TT c m mh (exec (.Return (some e) p) c.env) _
  rw [exec_Return_some]
  exact TT.at_ (TT.bind (TT.mono h fun v m1 h1 k => TT.pure k))
theorem TS1.ret0 {p : Pos} (h : QF (.ret .none) m mh) : TS1 c m mh (.Return Option.none p) QF := by
  show TT c m mh (exec (.Return Option.none p) c.env) _
  rw [exec_Return_none]
  exact TT.at_ (TT.pure h)
theorem TS1.pass {p : Pos} (h : QF .next m mh) : TS1 c m mh (.Pass p) QF := by
  show TT c m mh (exec (.Pass p) c.env) _
  rw [exec_Pass]
  exact TT.at_ (TT.pure h)
theorem TS1.brk {p : Pos} (h : QF .brk m mh) : TS1 c m mh (.Break p) QF :=
  fun _ _ _ _ _ _ _ N _ R g => wpAny_Break ⟨g, rfl, m, mh, R, N, h⟩
theorem TS1.cont {p : Pos} (h : QF .cont m mh) : TS1 c m mh (.Continue p) QF :=
  fun _ _ _ _ _ _ _ N _ R g => wpAny_Continue ⟨g, rfl, m, mh, R, N, h⟩
theorem TS1.ite {t : Expr} {b o : List Stmt} {p : Pos} (h : TB c m mh t fun r m1 h1 => (r = true → TS c m1 h1 b QF) ∧ (r = false → TS c m1 h1 o QF)) : TS1 c m mh (.If t b o p) QF := by
  show TT c m mh (exec (.If t b o p) c.env) _
  rw [exec_If]
  refine TT.at_ (TT.bind (TT.mono h fun r m1 h1 k => ?_))
  cases r with
  | true => exact k.1 rfl
  | false => exact k.2 rfl
end
end
section
open PySem PySem.W PySem.Calls PyProof.Rows
section
variable {c : Sit} {m m' : Loc} {mh mh' : MH} {α β : Type}
variable {Q : Value → Loc → MH → Prop} {QB : Bool → Loc → MH → Prop} {QF : Flow → Loc → MH → Prop} {QL : Loc → MH → Prop}

/-! lists of expressions, calls -/
noncomputable def TEs (c : Sit) (m : Loc) (mh : MH) (es : List Expr) (Q : List Value → Loc → MH → Prop) : Prop := ∀ p, TT c m mh (spliced (backTo p (starEach es c.env))) (fun vs m' h' => Q (vs.map cn) m' h')
theorem TEs.nil {QV : List Value → Loc → MH → Prop} (h : QV [] m mh) : TEs c m mh [] QV := fun _ => TT.pure h
theorem TEs.cons {e : Expr} {es : List Expr} {QV : List Value → Loc → MH → Prop} (h : TE c m mh e fun v m1 h1 => TEs c m1 h1 es fun vs m2 h2 => QV (v :: vs) m2 h2) (he : starEach (e :: es) c.env = (false, eval e c.env) :: starEach es c.env := by rfl) : TEs c m mh (e :: es) QV := by
  intro p base FS X A E s G N T R g
  refine wpAny_items_cons (wpAny_mono (h base FS X A E s G N T R g) (fun v s' => ?_) fun _ _ e => e) he
  refine fun hx => Goes.el hx fun m1 h1 g1 o1 r1 n1 k => ?_
  exact wpAny_mono (k p base FS X A E s' G n1 T r1 g1) (fun _ _ z => Goes.after z o1) (fun _ _ e => e)
/-- the keeper of a callee is looked at; nothing hangs on it -/
noncomputable def TKeep (c : Sit) (m : Loc) (mh : MH) (f : Value) (Q : Loc → MH → Prop) : Prop := ∀ f', cn f' = f → TT c m mh (keeperOf f') (fun _ m' h' => Q m' h')
theorem TKeep.builtin {i : String} (h : QL m mh) : TKeep c m mh (.builtin i) QL := fun _ e => by rw [cn_builtin e]; exact TT.pure h
theorem TKeep.type {i : String} (h : QL m mh) : TKeep c m mh (.type i) QL := fun _ e => by rw [cn_type e]; exact TT.pure h
theorem TKeep.known {a : Addr} (hk : keepIn c.K (.ref a) = true) (h : QL m mh) : TKeep c m mh (.ref a) QL := by
  intro f' e
  rw [cn_ref e]
  intro base FS X A E s G N T R g
  obtain ⟨k, _, l⟩ := keeps_K hk _ (G.kin.keeps R.keep)
  exact l.here ⟨g, rfl, m, mh, R, N, h⟩
/-- callee and first arguments known: the rest evaluated, the keeper looked at, the call -/
noncomputable def TCallW (c : Sit) (m : Loc) (mh : MH) (f : Value) (first : List Value) (es : List Expr) (Q : Value → Loc → MH → Prop) : Prop :=
  TEs c m mh es fun vs m1 h1 => TKeep c m1 h1 f fun m2 h2 => TCall c m2 h2 f (first ++ vs) [] Q
theorem TT.keep {t : Sem α} {vs : List Value} {QT : α → Loc → MH → Prop} (h : TT c m mh t QT) : TT c m mh (t.keep vs) QT :=
  fun base FS X A E s G N T R g => Calls.wpAny_keep (h base FS X A E s G N T R g)
theorem TT.evalArgs {f : Value} {trees : List (Bool × Sem Value)} {QA : Args → Loc → MH → Prop} (hp : trees.any (·.1) = false) (h : TT c m mh (spliced trees) (fun vs m1 h1 => QA ⟨vs, []⟩ m1 h1)) : TT c m mh (evalArgs f true trees []) QA := by
  cases trees with
  | nil =>
    unfold PySem.evalArgs
    show TT c m mh (spliced [] >>= _) QA
    refine TT.bind (TT.mono h fun vs m1 h1 k => TT.bind (TT.pure ?_))
    exact TT.holding (TT.bind (TT.pure (TT.bind (TT.pure (TT.pure k)))))
  | cons p r =>
    obtain ⟨st, x⟩ := p
    simp only [List.any_cons, Bool.or_eq_false_iff] at hp
    obtain ⟨rfl, hp⟩ := hp
    unfold PySem.evalArgs
    show TT c m mh (spliced ((false, x) :: r) >>= _) QA
    refine TT.bind (TT.mono h fun vs m1 h1 k => ?_)
    exact TT.holding (TT.bind (TT.pure (TT.bind (TT.pure (TT.pure k)))))
theorem TT.callWith {pos : Pos} {f f' : Value} {first first' : List Value} {es : List Expr} (hf : cn f' = f) (h1 : first'.map cn = first) (h : TCallW c m mh f first es Q) (hp : (backTo pos (starEach es c.env)).any (·.1) = false := by rfl) :
    TT c m mh (callWith pos f' first' (backTo pos (starEach es c.env)) (backToKw pos (keywordEach [] c.env))) (fun v m' h' => Q (cn v) m' h') := by
  have e0 : (backToKw pos (keywordEach [] c.env)) = [] := rfl
  rw [e0]
  unfold PySem.callWith
  refine TT.bind (TT.holding (TT.evalArgs hp (TT.mono (h pos) fun vs m1 mh1 k => TT.at_ ?_)))
  have tail : ∀ {m2 h2} {t : Sem Value}, TT c m2 h2 t (fun v m' h' => Q (cn v) m' h') → TT c m2 h2 (t >>= fun r => PySem.holding [r] PySem.point >>= fun _ => Pure.pure r) (fun v m' h' => Q (cn v) m' h') :=
    fun ht => TT.bind (TT.mono ht fun v m3 h3 k3 => TT.bind (TT.holding (TT.point (TT.pure k3))))
  rw [hp]
  simp only [List.any_nil, Bool.or_false]
  refine TT.bind (t := keeperOf f') (TT.mono (k f' hf) fun kp m2 h2 k2 => ?_)
  have kc : TT c m2 h2 (call f' (first' ++ vs) []) (fun v m' h' => Q (cn v) m' h') := k2 _ _ [] hf (by rw [List.map_append, h1]) rfl
  cases kp with
  | frame =>
    dsimp only
    split
    · exact tail kc
    · exact tail (TT.keep kc)
  | boundFrame =>
    dsimp only
    split
    · exact tail kc
    · exact tail (TT.keep kc)
  | machine => exact tail kc
  | caller => exact tail (TT.operate kc)

theorem TCallW.of {f : Value} {first : List Value} {es : List Expr} (h : TEs c m mh es fun vs m1 h1 => TKeep c m1 h1 f fun m2 h2 => TCall c m2 h2 f (first ++ vs) [] Q) : TCallW c m mh f first es Q := h
theorem TE.call {id : PySem.Str} {p pos : Pos} {es : List Expr} (h : TE c m mh (.Name id p) fun f m1 h1 => TCallW c m1 h1 f [] es Q) (hp : ∀ pos, (backTo pos (starEach es c.env)).any (·.1) = false := by intro _; rfl) : TE c m mh (.Call (.Name id p) es [] pos) Q := by
  show TT c m mh (eval (.Call (.Name id p) es [] pos) c.env) _
  rw [arm_eval_Call_Name']
  exact TT.bind (TT.mono h fun f m1 h1 k => TT.callWith rfl rfl k (hp pos))
/-- the method is looked up -/
noncomputable def TGet (c : Sit) (m : Loc) (mh : MH) (ov : Value) (name : PySem.Str) (Q : Value → List Value → Loc → MH → Prop) : Prop :=
  ∀ ov' pl, cn ov' = ov → TT c m mh (getMethod ov' name pl) (fun r m' h' => Q (cn r.1) (r.2.map cn) m' h')
theorem TE.meth {o : Expr} {name : PySem.Str} {apos pos : Pos} {es : List Expr} (h : TE c m mh o fun ov m1 h1 => TGet c m1 h1 ov name fun f first m2 h2 => TCallW c m2 h2 f first es Q)
    (hbase : attributeBase o name c.env (eval o c.env) = eval o c.env := by rfl)
    (hfew : methodCallForm es.length (backTo pos (starEach es c.env)) [] = true := by rfl)
    (hline : (apos.endLine == pos.line) = true := by rfl) (hp : ∀ pos, (backTo pos (starEach es c.env)).any (·.1) = false := by intro _; rfl) :
    TE c m mh (.Call (.Attribute o name apos) es [] pos) Q := by
  show TT c m mh (do
    let ov ← attributeBase o name c.env (eval o c.env)
    PySem.standAt apos.atName
    methodCall o name apos pos c.env ov (es.length + 0) (backTo pos (starEach es c.env)) (backToKw pos (keywordEach [] c.env))) _
  rw [hbase]
  refine TT.bind (TT.mono h fun ov m1 h1 k => TT.at_ ?_)
  unfold methodCall
  have e0 : (backToKw pos (keywordEach [] c.env)) = [] := rfl
  rw [e0, Nat.add_zero, hfew]
  refine TT.bind (TT.holding ?_)
  show TT c m1 h1 (getMethod ov name _) _
  refine TT.mono (k ov _ rfl) fun r m2 h2 k2 => ?_
  unfold methodCallPos
  rw [hline]
  exact TT.bind (TT.pure (TT.callWith rfl rfl k2 (hp pos)))
end
end
section
open PySem PySem.W PySem.Calls PyProof.Rows
section
variable {c : Sit} {m m' : Loc} {mh mh' : MH} {α β : Type}
variable {Q : Value → Loc → MH → Prop} {QB : Bool → Loc → MH → Prop} {QF : Flow → Loc → MH → Prop} {QL : Loc → MH → Prop}
variable {prog : Program} {w : World} {base : Heap} {FS : FSt} {X : Xs} {L : Addr} {h h' : Heap}

theorem Rel.list {a : Addr} {xs : List Value} (R : Rel prog w base FS X L h m mh) (ha : MHas mh a (.list xs)) : ∃ vs : List Value, h.PlainList a vs.toArray ∧ vs.map cn = xs := (R.objs _ _ ha.mem).1
/-- a list that may be read: an own one, or one of the written part -/
inductive LAt (c : Sit) (mh : MH) (a : Addr) (xs : List Value) : Prop
  | own (h : MHas mh a (.list xs))
  | ro (h : (a, xs) ∈ c.ro)
theorem Rel.lat {a : Addr} {xs : List Value} {A : Around} (R : Rel c.prog c.w base FS X L h m mh) (G : Good c base FS A) (ha : LAt c mh a xs) : ∃ vs : List Value, h.PlainList a vs.toArray ∧ vs.map cn = xs := by
  cases ha with
  | own ha => exact R.list ha
  | ro hr => obtain ⟨vs, ⟨n, e⟩, e2⟩ := G.ro _ hr; exact ⟨vs, ⟨n, R.keep _ _ e⟩, e2⟩
theorem Rel.tup {a : Addr} {xs : List Value} (R : Rel prog w base FS X L h m mh) (ha : MHas mh a (.tup xs)) : ∃ (vs : List Value) (n : Nat), h.get? a = some { cls := .type "tuple", data := .seq vs.toArray n } ∧ vs.map cn = xs := (R.objs _ _ ha.mem).1
theorem Rel.dict {a : Addr} {kvs : List (PySem.Str × Value)} (R : Rel prog w base FS X L h m mh) (ha : MHas mh a (.dict kvs)) : ∃ kv' : List (PySem.Str × Value), h.DictOf (strKind prog w) a kv' ∧ kv'.map (fun p => (p.1, cn p.2)) = kvs := (R.objs _ _ ha.mem).1
noncomputable def IsD (mo : MO) (kvs : List (PySem.Str × Value)) : Prop := mo = .dict kvs ∨ ∃ ep, mo = .fdict kvs ep
theorem Rel.dictD {a : Addr} {mo : MO} {kvs : List (PySem.Str × Value)} (R : Rel prog w base FS X L h m mh) (ha : MHas mh a mo) (hd : IsD mo kvs) : ∃ kv' : List (PySem.Str × Value), h.DictOf (strKind prog w) a kv' ∧ kv'.map (fun p => (p.1, cn p.2)) = kvs := by
  rcases hd with rfl | ⟨ep, rfl⟩
  · exact R.dict ha
  · obtain ⟨kv', x, y⟩ := (R.objs _ _ ha.mem).1
    exact ⟨kv', x.dictOf, y⟩
theorem Rel.notSys {a : Addr} {mo : MO} (R : Rel prog w base FS X L h m mh) (hl : base.NoLimit) (ha : MHas mh a mo) : (a == sysModules) = false := by
  obtain ⟨_, hb, _⟩ := R.objs _ _ ha.mem
  obtain ⟨mc, hn, _⟩ := hl
  have := hn.lt
  have h2 : cStatics < a := Nat.lt_of_lt_of_le this hb
  have h3 : sysModules < a := Nat.lt_trans (by decide) h2
  exact beq_eq_false_iff_ne.mpr (Nat.ne_of_gt h3)
theorem notTup_list {o : Obj} {vs : Array Value} {n : Nat} (e : o = { cls := .type "list", data := .seq vs n }) : NotTup o := by
  subst e; intro q; simp at q
theorem plain_notTup {a : Addr} {vs : Array Value} (pl : h.PlainList a vs) : ∀ ob, h.get? a = some ob → NotTup ob := by
  obtain ⟨n, e⟩ := pl
  intro ob q
  rw [e] at q; cases q
  exact notTup_list rfl
theorem dict_notTup {a : Addr} {kv : List (PySem.Str × Value)} (d : h.DictOf (strKind prog w) a kv) : ∀ ob, h.get? a = some ob → NotTup ob := by
  obtain ⟨o, es, ep, ho, hx, hd, _⟩ := d
  intro ob q
  rw [ho] at q; cases q
  exact notTup_of_dict hd
noncomputable abbrev slim : Nat := 2 ^ 20
theorem slim_le : slim ≤ sizeLine := by decide
theorem slim_lt {n : Nat} (h : n ≤ slim) : (n : Int) < 2 ^ 63 := by
  have : (slim : Int) < 2 ^ 63 := by decide
  omega

/-! truth -/
theorem TV.bool {b : Bool} (h : QB b m mh) : TV c m mh (.bool b) QB := by
  intro v' e base FS X A E s G N T R g
  rw [cn_bool e]; exact wpAny_truthy_bool ⟨g, rfl, m, mh, R, N, h⟩
theorem TV.list {a : Addr} {xs : List Value} (ha : LAt c mh a xs) (hs : xs.length ≤ slim) (h : QB (!xs.isEmpty) m mh) : TV c m mh (.ref a) QB := by
  intro v' e base FS X A E s G N T R g
  rw [cn_ref e]
  obtain ⟨vs, pl, rfl⟩ := R.lat G ha
  rw [List.length_map] at hs
  refine wpAny_truthy_list pl.isList (by simpa using slim_lt hs) ⟨g, rfl, m, mh, R, N, ?_⟩
  cases vs <;> exact h
theorem TV.dict {a : Addr} {kvs : List (PySem.Str × Value)} (ha : MHas mh a (.dict kvs)) (hs : kvs.length ≤ slim) (h : QB (!kvs.isEmpty) m mh) : TV c m mh (.ref a) QB := by
  intro v' e base FS X A E s G N T R g
  rw [cn_ref e]
  obtain ⟨kv', d, rfl⟩ := R.dict ha
  rw [List.length_map] at hs
  refine wpAny_truthy_dict (R.notSys G.lim ha) d (slim_lt hs) ⟨g, rfl, m, mh, R, N, ?_⟩
  cases kv' <;> exact h

/-! arithmetic, comparisons of ints and strs -/
theorem TBin.mod {i j : Int} (hj : j ≠ 0) (h : Q (.int (i.fmod j) 0) m mh) : TBin c m mh .Mod (.int i 0) (.int j 0) Q := by
  intro a b ea eb base FS X A E s G N T R g
  obtain ⟨u, rfl⟩ := cn_int ea; obtain ⟨u', rfl⟩ := cn_int eb
  exact mod_int' hj ⟨g, rfl, m, mh, R, N, h⟩
theorem TBin.add {i j : Int} (h : Q (.int (i + j) 0) m mh) : TBin c m mh .Add (.int i 0) (.int j 0) Q := by
  intro a b ea eb base FS X A E s G N T R g
  obtain ⟨u, rfl⟩ := cn_int ea; obtain ⟨u', rfl⟩ := cn_int eb
  exact PyProof.Rows.add_int ⟨g, rfl, m, mh, R, N, h⟩
theorem TBin.sub {i j : Int} (h : Q (.int (i - j) 0) m mh) : TBin c m mh .Sub (.int i 0) (.int j 0) Q := by
  intro a b ea eb base FS X A E s G N T R g
  obtain ⟨u, rfl⟩ := cn_int ea; obtain ⟨u', rfl⟩ := cn_int eb
  exact PyProof.Rows.sub_int ⟨g, rfl, m, mh, R, N, h⟩
theorem TCmp.eqI {i j : Int} (h : Q (.bool (i == j)) m mh) : TCmp c m mh .Eq (.int i 0) (.int j 0) Q := by
  intro a b ea eb base FS X A E s G N T R g
  obtain ⟨u, rfl⟩ := cn_int ea; obtain ⟨u', rfl⟩ := cn_int eb
  exact PyProof.Rows.eq_int ⟨g, rfl, m, mh, R, N, h⟩
theorem TCmp.neI {i j : Int} (h : Q (.bool (i != j)) m mh) : TCmp c m mh .NotEq (.int i 0) (.int j 0) Q := by
  intro a b ea eb base FS X A E s G N T R g
  obtain ⟨u, rfl⟩ := cn_int ea; obtain ⟨u', rfl⟩ := cn_int eb
  exact PyProof.Rows.ne_int ⟨g, rfl, m, mh, R, N, h⟩
theorem TCmp.ltI {i j : Int} (h : Q (.bool (decide (i < j))) m mh) : TCmp c m mh .Lt (.int i 0) (.int j 0) Q := by
  intro a b ea eb base FS X A E s G N T R g
  obtain ⟨u, rfl⟩ := cn_int ea; obtain ⟨u', rfl⟩ := cn_int eb
  exact PyProof.Rows.lt_int ⟨g, rfl, m, mh, R, N, h⟩
theorem TCmp.leI {i j : Int} (h : Q (.bool (decide (i ≤ j))) m mh) : TCmp c m mh .LtE (.int i 0) (.int j 0) Q := by
  intro a b ea eb base FS X A E s G N T R g
  obtain ⟨u, rfl⟩ := cn_int ea; obtain ⟨u', rfl⟩ := cn_int eb
  exact PyProof.Rows.le_int ⟨g, rfl, m, mh, R, N, h⟩
theorem TCmp.gtI {i j : Int} (h : Q (.bool (decide (j < i))) m mh) : TCmp c m mh .Gt (.int i 0) (.int j 0) Q := by
  intro a b ea eb base FS X A E s G N T R g
  obtain ⟨u, rfl⟩ := cn_int ea; obtain ⟨u', rfl⟩ := cn_int eb
  exact PyProof.Rows.gt_int ⟨g, rfl, m, mh, R, N, h⟩
theorem TCmp.geI {i j : Int} (h : Q (.bool (decide (j ≤ i))) m mh) : TCmp c m mh .GtE (.int i 0) (.int j 0) Q := by
  intro a b ea eb base FS X A E s G N T R g
  obtain ⟨u, rfl⟩ := cn_int ea; obtain ⟨u', rfl⟩ := cn_int eb
  exact PyProof.Rows.ge_int ⟨g, rfl, m, mh, R, N, h⟩
theorem TCmp.eqS {x y : PySem.Str} (h : Q (.bool (decide (x = y))) m mh) : TCmp c m mh .Eq (.str x 0) (.str y 0) Q := by
  intro a b ea eb base FS X A E s G N T R g
  obtain ⟨u, rfl⟩ := cn_str ea; obtain ⟨u', rfl⟩ := cn_str eb
  refine PyProof.Rows.eq_str ⟨g, rfl, m, mh, R, N, ?_⟩
  have : (x == y) = decide (x = y) := by by_cases e : x = y <;> simp [e]
  rw [this]; exact h
theorem TCmp.neS {x y : PySem.Str} (h : Q (.bool (!decide (x = y))) m mh) : TCmp c m mh .NotEq (.str x 0) (.str y 0) Q := by
  intro a b ea eb base FS X A E s G N T R g
  obtain ⟨u, rfl⟩ := cn_str ea; obtain ⟨u', rfl⟩ := cn_str eb
  refine PyProof.Rows.ne_str ⟨g, rfl, m, mh, R, N, ?_⟩
  have : (x != y) = !decide (x = y) := by by_cases e : x = y <;> simp [e]
  rw [this]; exact h

/-! dicts with str keys -/
noncomputable def vAt (kvs : List (PySem.Str × Value)) (x : PySem.Str) : Option Value := (kvs.find? fun kv => decide (kv.1 = x)).map (·.2)
noncomputable def vPut (kvs : List (PySem.Str × Value)) (x : PySem.Str) (v : Value) : List (PySem.Str × Value) :=
  if kvs.any (fun kv => decide (kv.1 = x)) then kvs.map (fun kv => if kv.1 = x then (kv.1, v) else kv) else kvs ++ [(x, v)]
theorem vAt_map (kv : List (PySem.Str × Value)) (x : PySem.Str) : vAt (kv.map fun p => (p.1, cn p.2)) x = (valueAt kv x).map cn := by
  unfold vAt valueAt
  induction kv with
  | nil => rfl
  | cons p r ih =>
    rw [List.map_cons, List.find?_cons, List.find?_cons]
    by_cases e : p.1 = x
    · simp [e]
    · simp only [e, decide_false]; exact ih
theorem vPut_map (kv : List (PySem.Str × Value)) (x : PySem.Str) (v : Value) : (stored kv x v).map (fun p => (p.1, cn p.2)) = vPut (kv.map fun p => (p.1, cn p.2)) x (cn v) := by
  unfold vPut stored
  have e : ((kv.map fun p => (p.1, cn p.2)).any fun kv => decide (kv.1 = x)) = kv.any fun kv => decide (kv.1 = x) := by rw [List.any_map]; rfl
  rw [e]
  split
  · rw [List.map_map, List.map_map]
    refine List.map_congr_left fun p _ => ?_
    simp only [Function.comp]
    split <;> rfl
  · simp
noncomputable def TItem (c : Sit) (m : Loc) (mh : MH) (o i : Value) (Q : Value → Loc → MH → Prop) : Prop := ∀ o' i', cn o' = o → cn i' = i → TT c m mh (getItem o' i') (fun v m' mh' => Q (cn v) m' mh')
noncomputable def TSetItem (c : Sit) (m : Loc) (mh : MH) (o i v : Value) (Q : Loc → MH → Prop) : Prop := ∀ o' i' v', cn o' = o → cn i' = i → cn v' = v → TT c m mh (setItem o' i' v') (fun _ m' mh' => Q m' mh')
theorem TItem.dict {a : Addr} {mo : MO} {kvs : List (PySem.Str × Value)} {x : PySem.Str} {v : Value} (ha : MHas mh a mo) (hd : IsD mo kvs) (hv : vAt kvs x = some v) (h : Q v m mh) : TItem c m mh (.ref a) (.str x 0) Q := by
  intro o' i' eo ei base FS X A E s G N T R g
  rw [cn_ref eo]; obtain ⟨u, rfl⟩ := cn_str ei
  obtain ⟨kv', d, rfl⟩ := R.dictD ha hd
  rw [vAt_map] at hv
  obtain ⟨v0, h1, rfl⟩ := Option.map_eq_some_iff.mp hv
  exact wpAny_getItem_of (strKind_is _ _ x u) d.mapOf h1 ⟨g, rfl, m, mh, R, N, h⟩
theorem TSetItem.dict {a : Addr} {kvs : List (PySem.Str × Value)} {x : PySem.Str} {v : Value} (ha : MPut mh a (.dict kvs) (.dict (vPut kvs x v)) mh') (hs : kvs.length ≤ slim) (h : QL m mh') : TSetItem c m mh (.ref a) (.str x 0) v QL := by
  intro o' i' v' eo ei ev base FS X A E s G N T R g
  rw [cn_ref eo]; obtain ⟨u, rfl⟩ := cn_str ei
  obtain ⟨kv', d, e⟩ := R.dict (.of_mem ha.has)
  refine wpAny_setItem_pairs (strKind_is _ _ x u) d (fun h' d' hs' => ⟨g, rfl, m, mh', R.set ha hs'.extBut (dict_notTup d) ⟨_, d', ?_⟩, N, h⟩) ?_
  · rw [vPut_map, e, ev]
  · rw [← e, List.length_map] at hs; exact Nat.le_trans hs slim_le
theorem TCmp.inD {a : Addr} {mo : MO} {kvs : List (PySem.Str × Value)} {x : PySem.Str} (ha : MHas mh a mo) (hd : IsD mo kvs) (h : Q (.bool (vAt kvs x).isSome) m mh) : TCmp c m mh .In (.str x 0) (.ref a) Q := by
  intro i' o' ei eo base FS X A E s G N T R g
  rw [cn_ref eo]; obtain ⟨u, rfl⟩ := cn_str ei
  obtain ⟨kv', d, rfl⟩ := R.dictD ha hd
  refine wpAny_in_of (strKind_is _ _ x u) (R.notSys G.lim ha) d.mapOf ⟨g, rfl, m, mh, R, N, ?_⟩
  rw [vAt_map, Option.isSome_map] at h
  exact h
theorem TCmp.ninD {a : Addr} {mo : MO} {kvs : List (PySem.Str × Value)} {x : PySem.Str} (ha : MHas mh a mo) (hd : IsD mo kvs) (h : Q (.bool (!(vAt kvs x).isSome)) m mh) : TCmp c m mh .NotIn (.str x 0) (.ref a) Q := by
  intro i' o' ei eo base FS X A E s G N T R g
  rw [cn_ref eo]; obtain ⟨u, rfl⟩ := cn_str ei
  obtain ⟨kv', d, rfl⟩ := R.dictD ha hd
  refine wpAny_notIn_of (strKind_is _ _ x u) (R.notSys G.lim ha) d.mapOf ⟨g, rfl, m, mh, R, N, ?_⟩
  rw [vAt_map, Option.isSome_map] at h
  exact h

/-! lists -/
theorem TItem.list {a : Addr} {xs : List Value} {i : Int} {v : Value} (ha : LAt c mh a xs) (h0 : 0 ≤ i) (hi : i < 2 ^ 63) (hv : xs[i.toNat]? = some v) (h : Q v m mh) : TItem c m mh (.ref a) (.int i 0) Q := by
  intro o' i' eo ei base FS X A E s G N T R g
  rw [cn_ref eo]; obtain ⟨u, rfl⟩ := cn_int ei
  obtain ⟨vs, pl, rfl⟩ := R.lat G ha
  rw [List.getElem?_map] at hv
  obtain ⟨v0, h1, rfl⟩ := Option.map_eq_some_iff.mp hv
  exact wpAny_getItem_list pl.isList h0 hi (by simpa using h1) ⟨g, rfl, m, mh, R, N, h⟩
/-- two real values with these canonical ones -/
theorem one_arg {as' : List Value} {x : Value} (e : as'.map cn = [x]) : ∃ a, as' = [a] ∧ cn a = x := by
  obtain ⟨a, t, rfl, h1, h2⟩ := List.map_eq_cons_iff.mp e
  rw [List.map_eq_nil_iff.mp h2]; exact ⟨a, rfl, h1⟩
theorem two_args {as' : List Value} {x y : Value} (e : as'.map cn = [x, y]) : ∃ a b, as' = [a, b] ∧ cn a = x ∧ cn b = y := by
  obtain ⟨a, t, rfl, h1, h2⟩ := List.map_eq_cons_iff.mp e
  obtain ⟨b, rfl, h3⟩ := one_arg h2
  exact ⟨a, b, rfl, h1, h3⟩
theorem len_cons {α : Type} {l : List α} {n : Nat} (h : l.length = n + 1) : ∃ a t, l = a :: t ∧ t.length = n := by
  cases l with
  | nil => cases h
  | cons a t => exact ⟨a, t, rfl, Nat.succ.inj h⟩
theorem len_two {α : Type} {l : List α} (h : l.length = 2) : ∃ a b, l = [a, b] := by
  obtain ⟨a, t, rfl, h1⟩ := len_cons h
  obtain ⟨b, rfl⟩ := List.length_eq_one_iff.mp h1
  exact ⟨a, b, rfl⟩
theorem len_three {α : Type} {l : List α} (h : l.length = 3) : ∃ a b d, l = [a, b, d] := by
  obtain ⟨a, t, rfl, h1⟩ := len_cons h
  obtain ⟨b, d, rfl⟩ := len_two h1
  exact ⟨a, b, d, rfl⟩
theorem len_eight {α : Type} {l : List α} (h : l.length = 8) : ∃ a1 a2 a3 a4 a5 a6 a7 a8, l = [a1, a2, a3, a4, a5, a6, a7, a8] := by
  obtain ⟨a1, t1, e1, h1⟩ := len_cons h
  obtain ⟨a2, t2, e2, h2⟩ := len_cons h1
  obtain ⟨a3, t3, e3, h3⟩ := len_cons h2
  obtain ⟨a4, t4, e4, h4⟩ := len_cons h3
  obtain ⟨a5, t5, e5, h5⟩ := len_cons h4
  obtain ⟨a6, a7, a8, e6⟩ := len_three h5
  rw [e1, e2, e3, e4, e5, e6]
  exact ⟨a1, a2, a3, a4, a5, a6, a7, a8, rfl⟩
theorem no_kw {kw' : List (PySem.Str × Value)} (e : kw'.map (fun p => (p.1, cn p.2)) = []) : kw' = [] := by simpa using e
theorem TCall.len {a : Addr} {xs : List Value} (ha : LAt c mh a xs) (hs : xs.length ≤ slim) (h : Q (.int xs.length 0) m mh) : TCall c m mh (.builtin "len") [.ref a] [] Q := by
  intro f' as' kw' ef ea ek base FS X A E s G N T R g
  rw [cn_builtin ef]
  obtain ⟨v, rfl, ev⟩ := one_arg ea
  rw [cn_ref ev]; obtain rfl := no_kw ek
  obtain ⟨vs, pl, rfl⟩ := R.lat G ha
  rw [List.length_map] at hs h
  exact call_len_list pl.isList (by simpa using slim_lt hs) ⟨g, rfl, m, mh, R, N, by simpa [cn] using h⟩
theorem TCall.lenT {a : Addr} {xs : List Value} (ha : MHas mh a (.tup xs)) (hs : xs.length ≤ slim) (h : Q (.int xs.length 0) m mh) : TCall c m mh (.builtin "len") [.ref a] [] Q := by
  intro f' as' kw' ef ea ek base FS X A E s G N T R g
  rw [cn_builtin ef]
  obtain ⟨v, rfl, ev⟩ := one_arg ea
  rw [cn_ref ev]; obtain rfl := no_kw ek
  obtain ⟨vs, n, e1, rfl⟩ := R.tup ha
  rw [List.length_map] at hs h
  exact PyProof.Rows.len_tuple ⟨_, e1, rfl, n, rfl⟩ (by simpa using slim_lt hs) ⟨g, rfl, m, mh, R, N, by simpa [cn] using h⟩
theorem TCall.append {a : Addr} {xs : List Value} {v : Value} (ha : MPut mh a (.list xs) (.list (xs ++ [v])) mh') (hs : xs.length ≤ slim) (h : Q .none m mh') : TCall c m mh (.builtin "list.append") [.ref a, v] [] Q := by
  intro f' as' kw' ef ea ek base FS X A E s G N T R g
  rw [cn_builtin ef]
  obtain ⟨o, v', rfl, eo, ev⟩ := two_args ea
  rw [cn_ref eo]; obtain rfl := no_kw ek
  obtain ⟨vs, pl, e⟩ := R.list (.of_mem ha.has)
  refine wpAny_list_append_plain pl (fun h' pl' hs' => ⟨g, rfl, m, mh', R.set ha hs'.extBut (plain_notTup pl) ⟨vs ++ [v'], ?_, ?_⟩, N, h⟩) ?_
  · simpa using pl'
  · simp [e, ev]
  · rw [← e, List.length_map] at hs; exact Nat.le_trans (by simpa using hs) slim_le
theorem TCall.pop0 {a : Addr} {x : Value} {xs : List Value} (ha : MPut mh a (.list (x :: xs)) (.list xs) mh') (hs : (x :: xs).length ≤ slim) (h : Q x m mh') : TCall c m mh (.builtin "list.pop") [.ref a, .int 0 0] [] Q := by
  intro f' as' kw' ef ea ek base FS X A E s G N T R g
  rw [cn_builtin ef]
  obtain ⟨o, v', rfl, eo, ev⟩ := two_args ea
  rw [cn_ref eo]; obtain rfl := no_kw ek
  obtain ⟨u, rfl⟩ := cn_int ev
  obtain ⟨vs, ⟨n, pl⟩, e⟩ := R.list (.of_mem ha.has)
  obtain ⟨v0, vs', rfl⟩ : ∃ v0 vs', vs = v0 :: vs' := by cases vs with | nil => cases e | cons a b => exact ⟨a, b, rfl⟩
  rw [List.map_cons, List.cons.injEq] at e
  have hz : (v0 :: vs').toArray.size ≤ sizeLine := by
    have h1 : vs'.length = xs.length := by rw [← e.2, List.length_map]
    rw [List.length_cons] at hs
    refine Nat.le_trans ?_ slim_le
    simp only [List.size_toArray, List.length_cons]; omega
  refine call_meets PySem.F.slot_list_pop (self := .ref a) ⟨_, pl, rfl⟩ PySem.F.entry_list_pop (PySem.F.args_list_pop_2 _ _) (MeetsSeq.list_pop_at a _ n 0 u 0 v0 (by decide) (by simp [seqIndex?]) (by simp) hz) ⟨pl, ?_⟩
  have hu := Heap.SameBut.update s.heap a (Obj.mapSeq fun xs => xs.eraseIdxIfInBounds 0)
  refine ⟨g, rfl, m, mh', R.set ha hu.extBut (plain_notTup ⟨n, pl⟩) ⟨vs', ?_, e.2⟩, N, by show Q (cn v0) m mh'; rw [e.1]; exact h⟩
  refine ⟨n + 1, ?_⟩
  have := Heap.get?_update_self (Obj.mapSeq fun xs => xs.eraseIdxIfInBounds 0) pl (by simp [Obj.mapSeq, Obj.isFreed])
  rw [this]
  simp [Obj.mapSeq, Array.eraseIdxIfInBounds]
/-! methods of built-in containers -/
theorem TGet.list {a : Addr} {xs : List Value} {name : PySem.Str} {id : String} {QG : Value → List Value → Loc → MH → Prop} (ha : MHas mh a (.list xs)) (slot : Slot "list" name id) (hty : typeOf (.builtin id) = pure (.type "method_descriptor"))
    (h : QG (.builtin id) [.ref a] m mh) : TGet c m mh (.ref a) name QG := by
  intro ov' pl e base FS X A E s G N T R g
  rw [cn_ref e]
  obtain ⟨vs, ⟨n, p⟩, rfl⟩ := R.list ha
  exact getMethod_builtin ⟨_, p, rfl⟩ PySem.F.plainAttrs_list slot hty (fun b e => by cases e; exact ⟨_, p, rfl⟩) ⟨g, rfl, m, mh, R, N, h⟩
theorem TGet.append {a : Addr} {xs : List Value} {QG : Value → List Value → Loc → MH → Prop} (ha : MHas mh a (.list xs)) (h : QG (.builtin "list.append") [.ref a] m mh) : TGet c m mh (.ref a) (PySem.Str.ofString "append") QG :=
  TGet.list ha PySem.F.slot_list_append PySem.F.type_list_append h
theorem TGet.pop {a : Addr} {xs : List Value} {QG : Value → List Value → Loc → MH → Prop} (ha : MHas mh a (.list xs)) (h : QG (.builtin "list.pop") [.ref a] m mh) : TGet c m mh (.ref a) (PySem.Str.ofString "pop") QG :=
  TGet.list ha PySem.F.slot_list_pop PySem.F.type_list_pop h
end
end
section
open PySem PySem.W PySem.Calls PyProof.Rows
section
variable {c : Sit} {m m' : Loc} {mh mh' : MH} {α β : Type}
variable {Q : Value → Loc → MH → Prop} {QB : Bool → Loc → MH → Prop} {QF : Flow → Loc → MH → Prop} {QL : Loc → MH → Prop}
variable {prog : Program} {w : World} {base : Heap} {FS : FSt} {X : Xs} {L : Addr} {h h' : Heap}

/-! exact objects set aside -/
noncomputable def rawE (raws : Xs) : MH := raws.map fun p => (p.1, .raw p.2)
theorem rawE_keys (raws : Xs) : (rawE raws).map (·.1) = raws.map (·.1) := by unfold rawE; rw [List.map_map]; rfl
theorem mem_rawE {raws : Xs} {a : Addr} {o : Obj} (hm : (a, o) ∈ raws) : (a, MO.raw o) ∈ rawE raws := List.mem_map.mpr ⟨_, hm, rfl⟩
theorem of_mem_rawE {raws : Xs} {a : Addr} {mo : MO} (hm : (a, mo) ∈ rawE raws) : ∃ o, mo = .raw o ∧ (a, o) ∈ raws := by
  obtain ⟨⟨b, o⟩, h1, h2⟩ := List.mem_map.mp hm
  cases h2; exact ⟨o, rfl, h1⟩
theorem Rel.aside {raws : Xs} (R : Rel prog w base FS X L h m (rawE raws ++ mh)) : Rel prog w base FS (raws ++ X) L h m mh := by
  have nd := R.nd
  rw [List.map_append, rawE_keys, List.nodup_append] at nd
  refine { R with nd := nd.2.1, objs := fun a mo q => R.objs a mo (List.mem_append_right _ q), ex := fun a o q => ?_, fs := fun a d q => ?_ }
  · rcases List.mem_append.mp q with q | q
    · obtain ⟨x, y, z⟩ := R.objs a (.raw o) (List.mem_append_left _ (mem_rawE q))
      exact ⟨x, y, z, fun q' => nd.2.2 a (List.mem_map_of_mem (f := (·.1)) q) a q' rfl⟩
    · obtain ⟨x, y, z, t⟩ := R.ex a o q
      rw [List.map_append, List.mem_append, not_or] at t
      exact ⟨x, y, z, t.2⟩
  · obtain ⟨x, y, z, t, u⟩ := R.fs a d q
    rw [List.map_append, rawE_keys, List.mem_append, not_or] at t
    exact ⟨x, y, z, t.2, by rw [List.map_append, List.mem_append, not_or]; exact ⟨t.1, u⟩⟩
theorem Rel.back {raws : Xs} {m0 : Loc} {mh0 : MH} {h0 : Heap} (R0 : Rel prog w base FS X L h0 m0 (rawE raws ++ mh0)) (R : Rel prog w base FS (raws ++ X) L h m mh) : Rel prog w base FS X L h m (rawE raws ++ mh) := by
  have nd := R0.nd
  rw [List.map_append, rawE_keys, List.nodup_append] at nd
  refine { R with nd := ?_, objs := fun a mo q => ?_, ex := fun a o q => ?_, fs := fun a d q => ?_ }
  · rw [List.map_append, rawE_keys, List.nodup_append]
    refine ⟨nd.1, R.nd, fun a ha b hb e => ?_⟩
    subst e
    obtain ⟨⟨_, o⟩, hm, rfl⟩ := List.mem_map.mp ha
    exact (R.ex _ o (List.mem_append_left _ hm)).2.2.2 hb
  · rcases List.mem_append.mp q with q | q
    · obtain ⟨o, rfl, hm⟩ := of_mem_rawE q
      obtain ⟨x, y, z, _⟩ := R.ex a o (List.mem_append_left _ hm)
      exact ⟨x, y, z⟩
    · exact R.objs a mo q
  · obtain ⟨x, y, z, t⟩ := R.ex a o (List.mem_append_right _ q)
    refine ⟨x, y, z, ?_⟩
    rw [List.map_append, rawE_keys, List.mem_append, not_or]
    refine ⟨fun e => ?_, t⟩
    have := (R0.ex a o q).2.2.2
    rw [List.map_append, rawE_keys, List.mem_append, not_or] at this
    exact this.1 e
  · obtain ⟨x, y, z, t, u⟩ := R.fs a d q
    rw [List.map_append, List.mem_append, not_or] at u
    exact ⟨x, y, z, by rw [List.map_append, rawE_keys, List.mem_append, not_or]; exact ⟨u.1, t⟩, u.2⟩
theorem TT.frame {raws : Xs} {t : Sem α} {QT : α → Loc → MH → Prop} (h : TT c m mh t QT) : TT c m (rawE raws ++ mh) t (fun a m' mh' => ∃ mh0, mh' = rawE raws ++ mh0 ∧ QT a m' mh0) := by
  intro base FS X A E s G N T R g
  refine wpAny_mono (h base FS (raws ++ X) A E s G N T R.aside g) (fun a s' => ?_) (fun _ _ e => e)
  refine fun hx => Goes.el hx fun m' mh' g' o' r' n' k => ?_
  exact ⟨g', o', m', _, R.back r', n', mh', rfl, k⟩
/-- the exact objects are let go -/
theorem Rel.letGo {raws : Xs} (R : Rel prog w base FS X L h m (rawE raws ++ mh)) : Rel prog w base FS X L h m mh := by
  have nd := R.nd
  rw [List.map_append, List.nodup_append] at nd
  exact R.weak (fun _ q => q) (fun _ q => List.mem_append_right _ q) nd.2.1
theorem Rel.raw_set (R : Rel prog w base FS X L h m ((a, MO.raw o) :: mh)) {o' : Obj} (k : Kept a h h') (nt : NotTup o) (ho : h'.get? a = some o') : Rel prog w base FS X L h' m ((a, .raw o') :: mh) :=
  R.set .here k (fun ob q => by have e : h.get? a = some o := (R.objs a _ (.head _)).1; rw [e] at q; cases q; exact nt) ho
/-- the object at the head changed beyond knowledge -/
theorem Rel.lost {mo : MO} (R : Rel prog w base FS X L h m ((a, mo) :: mh)) (k : Kept a h h') (nt : ∀ ob, h.get? a = some ob → NotTup ob) : Rel prog w base FS X L h' m mh := by
  obtain ⟨_, hb, hL⟩ := R.objs a mo (.head _)
  have nd := R.nd
  rw [List.map_cons, List.nodup_cons] at nd
  refine ⟨fun b ob e => k _ _ (fun q => by subst q; exact absurd (Heap.lt_size e) (Nat.not_lt.mpr hb)) (R.keep b ob e), R.above, ?_, nd.2, ?_, ?_, ?_⟩
  · obtain ⟨mr, ⟨oL, es, ep, h1, h2⟩, e⟩ := R.ns
    exact ⟨mr, ⟨oL, es, ep, k _ _ (Ne.symm hL) h1, h2⟩, e⟩
  · intro b mo' hm
    obtain ⟨y, z⟩ := R.objs b mo' (.tail _ hm)
    exact ⟨y.kept k nt (fun e => nd.1 (by subst e; exact List.mem_map_of_mem (f := (·.1)) hm)), z⟩
  · intro b ob hm
    obtain ⟨y, z, t, u⟩ := R.ex b ob hm
    rw [List.map_cons, List.mem_cons, not_or] at u
    exact ⟨k _ _ u.1 y, z, t, u.2⟩
  · intro b d hm
    obtain ⟨⟨ob, y, y2⟩, z, t, u, v⟩ := R.fs b d hm
    rw [List.map_cons, List.mem_cons, not_or] at u
    exact ⟨⟨ob, k _ _ u.1 y, y2⟩, z, t, u.2, v⟩

theorem LAt.there {c : Sit} {mh : MH} {a : Addr} {xs : List Value} {p : Addr × MO} (x : LAt c mh a xs) : LAt c (p :: mh) a xs := by
  cases x with
  | own h => exact .own (.there h)
  | ro h => exact .ro h
/-! what is gone through -/
inductive Src where
  | list (l : Addr)
  | tup (l : Addr)
  | range (a n d : Int)
  | enumL (l : Addr)
  | enumT (l : Addr)
  | dict (d : Addr) (kvs : List (PySem.Str × Value)) (ep : Nat)
  | str (x : PySem.Str) (t : Tok)
noncomputable def LIt (T : String) (l : Addr) (k : Nat) (o : Obj) : Prop := o.cls = .type T ∧ o.data = .fields #[.ref l, .int k 0]
theorem LIt.nt {T : String} {l : Addr} {k : Nat} {o : Obj} (x : LIt T l k o) : NotTup o := fun _ vs n e => by rw [x.2] at e; cases e
noncomputable def enumObj (it : Addr) (k : Nat) (old : Value) : Obj := { cls := .type "enumerate", data := .fields #[.none, .bool false, .ref it, rawInt k, .none, old] }
noncomputable def Src.P : Src → Addr → Nat → Xs → Prop
  | .list l, it, k, raws => ∃ o, raws = [(it, o)] ∧ LIt "list_iterator" l k o
  | .tup l, it, k, raws => ∃ o, raws = [(it, o)] ∧ LIt "tuple_iterator" l k o
  | .range a n d, it, k, raws => raws = [(it, { cls := .type "range_iterator", data := .fields #[rawInt (a + k * d), rawInt (n - k), rawInt d] })]
  | .enumL l, it, k, raws => ∃ i o old, raws = [(it, enumObj i k old), (i, o)] ∧ LIt "list_iterator" l k o
  | .enumT l, it, k, raws => ∃ i o old, raws = [(it, enumObj i k old), (i, o)] ∧ LIt "tuple_iterator" l k o
  | .dict d kvs ep, it, k, raws => ∃ o, raws = [(it, o)] ∧ o.cls = .type "dict_keyiterator" ∧ o.data = .fields #[.ref d, .int k 0, .int kvs.length 0, .int ep 0]
  | .str x t, it, k, raws => ∃ o, raws = [(it, o)] ∧ o.cls = .type "str_ascii_iterator" ∧ o.data = .fields #[.str x t, .int k 0]

/-- the next item is taken and stored into the target: I ahead of it, J behind it, F where there is none -/
noncomputable def Nexts (c : Sit) (target : Expr) (it : Addr) (P : Nat → Xs → Prop) (I J F : Nat → Loc → MH → Prop) : Prop :=
  ∀ k raws m mh, P k raws → I k m mh → TT c m (rawE raws ++ mh) (pyNext (.ref it)) (fun r m1 mh1 => match r with
    | none => F k m1 mh1
    | some v => TT c m1 mh1 (letOwnedTupleGo target (.ref it) v) (fun _ m1' mh1' => TT c m1' mh1' (assign target c.env v) (fun _ m2 mh2 => ∃ raws' mh3, P (k + 1) raws' ∧ mh2 = rawE raws' ++ mh3 ∧ J k m2 mh3)))
theorem Nexts.of_list {l it : Addr} {target : Expr} {I J F : Nat → Loc → MH → Prop} (hl : ∀ k m mh, I k m mh → ∃ xs, LAt c mh l xs ∧ (xs[k]? = none → F k m mh) ∧ ∀ x, xs[k]? = some x → TA c m mh target x (J k))
    (ho : ∀ v s, s.heap.IsListIter it l v → ∀ x : Value, ∀ (M : Model) A E (Q : Unit → Shared → Prop), Q () s → wpAny M A (letOwnedTupleGo target (.ref it) x) Q E s) : Nexts c target it ((Src.list l).P it) I J F := by
  rintro k raws m mh ⟨o, rfl, ht⟩ hI base FS X A E s G N T R g
  obtain ⟨xs, hx, h1, h2⟩ := hl k m mh hI
  have hi : s.heap.IsListIter it l k := ⟨o, (R.objs it (.raw o) (.head _)).1, ht.1, ht.2⟩
  obtain ⟨vs, pl, e⟩ := R.lat G hx.there
  cases q : xs[k]? with
  | none =>
    refine wpAny_pyNext_list_end G.hd hi pl.isList (by rw [← e] at q; simpa using q) fun h' k' => ⟨g, rfl, m, mh, R.lost k' (fun ob q => by have e : s.heap.get? it = some o := (R.objs it (.raw o) (.head _)).1; rw [e] at q; cases q; exact ht.nt), N, h1 q⟩
  | some x =>
    have q2 := q
    rw [← e, List.getElem?_map] at q
    obtain ⟨v, q1, rfl⟩ := Option.map_eq_some_iff.mp q
    refine wpAny_pyNext_list_item hi pl.isList (by simpa using q1) fun h' hi' hs => ?_
    obtain ⟨o', ho', hc', hd'⟩ := hi'
    have R' := R.raw_set hs.extBut ht.nt ho'
    refine ⟨g, rfl, m, _, R', N, ?_⟩
    intro base FS X A E s G N T R g
    have hi2 : s.heap.IsListIter it l (k + 1) := ⟨o', (R.objs it (.raw o') (.head _)).1, hc', hd'⟩
    exact ho _ s hi2 v _ _ _ _ ⟨g, rfl, m, _, R, N, TT.mono (TT.frame (raws := [(it, o')]) (h2 _ q2 v rfl)) fun _ m' mh' ⟨mh0, e0, j⟩ => ⟨_, mh0, ⟨o', rfl, hc', hd'⟩, e0, j⟩⟩
theorem Nexts.of_tup {l it : Addr} {target : Expr} {I J F : Nat → Loc → MH → Prop} (hl : ∀ k m mh, I k m mh → ∃ xs, MHas mh l (.tup xs) ∧ (xs[k]? = none → F k m mh) ∧ ∀ x, xs[k]? = some x → TA c m mh target x (J k))
    (ho : ∀ v s, s.heap.IsTupleIter it l v → ∀ x : Value, ∀ (M : Model) A E (Q : Unit → Shared → Prop), Q () s → wpAny M A (letOwnedTupleGo target (.ref it) x) Q E s) : Nexts c target it ((Src.tup l).P it) I J F := by
  rintro k raws m mh ⟨o, rfl, ht⟩ hI base FS X A E s G N T R g
  obtain ⟨xs, hx, h1, h2⟩ := hl k m mh hI
  have hi : s.heap.IsTupleIter it l k := ⟨o, (R.objs it (.raw o) (.head _)).1, ht.1, ht.2⟩
  obtain ⟨vs, n, pl, e⟩ := R.tup (.there hx)
  have pt : s.heap.IsTuple l vs.toArray := ⟨_, pl, rfl, n, rfl⟩
  cases q : xs[k]? with
  | none =>
    refine wpAny_pyNext_tuple_end G.hd hi pt (by rw [← e] at q; simpa using q) fun h' k' => ⟨g, rfl, m, mh, R.lost k' (fun ob q => by have e : s.heap.get? it = some o := (R.objs it (.raw o) (.head _)).1; rw [e] at q; cases q; exact ht.nt), N, h1 q⟩
  | some x =>
    have q2 := q
    rw [← e, List.getElem?_map] at q
    obtain ⟨v, q1, rfl⟩ := Option.map_eq_some_iff.mp q
    refine wpAny_pyNext_tuple_item hi pt (by simpa using q1) fun h' hi' hs => ?_
    obtain ⟨o', ho', hc', hd'⟩ := hi'
    have R' := R.raw_set hs.extBut ht.nt ho'
    refine ⟨g, rfl, m, _, R', N, ?_⟩
    intro base FS X A E s G N T R g
    have hi2 : s.heap.IsTupleIter it l (k + 1) := ⟨o', (R.objs it (.raw o') (.head _)).1, hc', hd'⟩
    exact ho _ s hi2 v _ _ _ _ ⟨g, rfl, m, _, R, N, TT.mono (TT.frame (raws := [(it, o')]) (h2 _ q2 v rfl)) fun _ m' mh' ⟨mh0, e0, j⟩ => ⟨_, mh0, ⟨o', rfl, hc', hd'⟩, e0, j⟩⟩
theorem Nexts.of_range {a n d : Int} {it : Addr} {x : PySem.Str} {p : Pos} {I J F : Nat → Loc → MH → Prop}
    (hl : ∀ k m mh, I k m mh → (n ≤ k → F k m mh) ∧ ((k : Int) < n → TA c m mh (.Name x p) (.int (a + k * d) 0) (J k))) : Nexts c (.Name x p) it ((Src.range a n d).P it) I J F := by
  rintro k raws m mh rfl hI base FS X A E s G N T R g
  obtain ⟨h1, h2⟩ := hl k m mh hI
  have hi := (R.objs it _ (.head _)).1
  by_cases q : n ≤ k
  · refine wpAny_pyNext_range_end G.hd hi (by omega) fun h' k' => ⟨g, rfl, m, mh, R.lost k' (fun ob q => by have e := hi; change s.heap.get? it = some _ at e; rw [e] at q; cases q; intro _ vs n e; cases e), N, h1 q⟩
  · refine wpAny_pyNext_range_item hi (by omega) fun h' hi' hs => ?_
    have R' := R.raw_set hs.extBut (by intro _ vs n e; cases e) hi'
    refine ⟨g, rfl, m, _, R', N, ?_⟩
    intro base FS X A E s' G N T R g
    refine wpAny_pure ⟨g, rfl, m, _, R, N, TT.mono (TT.frame (raws := [(it, { cls := .type "range_iterator", data := .fields #[rawInt (a + k * d + d), rawInt (n - k - 1), rawInt d] })]) (h2 (by omega) (.int (a + k * d) s.toks) rfl)) fun _ m' mh' ⟨mh0, e0, j⟩ => ⟨_, mh0, ?_, e0, j⟩⟩
    show [_] = [_]
    have e1 : a + (k : Int) * d + d = a + ((k + 1 : Nat) : Int) * d := by rw [Int.natCast_add, Int.add_mul]; omega
    have e2 : n - (k : Int) - 1 = n - ((k + 1 : Nat) : Int) := by omega
    rw [e1, e2]
theorem Nexts.of_dict {d it : Addr} {kvs : List (PySem.Str × Value)} {ep : Nat} {x : PySem.Str} {p : Pos} {I J F : Nat → Loc → MH → Prop}
    (hl : ∀ k m mh, I k m mh → MHas mh d (.fdict kvs ep) ∧ (kvs[k]? = none → F k m mh) ∧ ∀ y v, kvs[k]? = some (y, v) → TA c m mh (.Name x p) (.str y 0) (J k)) : Nexts c (.Name x p) it ((Src.dict d kvs ep).P it) I J F := by
  rintro k raws m mh ⟨o, rfl, ht1, ht2⟩ hI base FS X A E s G N T R g
  obtain ⟨hx, h1, h2⟩ := hl k m mh hI
  obtain ⟨kv', da, e⟩ := (R.objs _ _ (MHas.there (p := (it, MO.raw o)) hx).mem).1
  have el : kv'.length = kvs.length := by rw [← e, List.length_map]
  have nt : NotTup o := fun _ vs n e => by rw [ht2] at e; cases e
  have hi : s.heap.IsKeyIter it d k kv'.length ep := ⟨o, (R.objs it (.raw o) (.head _)).1, ht1, by rw [el]; exact ht2⟩
  cases q : kvs[k]? with
  | none =>
    refine wpAny_pyNext_dict_end G.hd hi da (by rw [← e] at q; simpa using q) fun h' k' => ⟨g, rfl, m, mh, R.lost k' (fun ob q => by have e : s.heap.get? it = some o := (R.objs it (.raw o) (.head _)).1; rw [e] at q; cases q; exact nt), N, h1 q⟩
  | some yv =>
    have q2 := q
    rw [← e, List.getElem?_map] at q
    obtain ⟨⟨y, v⟩, q1, rfl⟩ := Option.map_eq_some_iff.mp q
    refine wpAny_pyNext_dict_item hi da q1 fun key h' hk hi' hs => ?_
    obtain ⟨o', ho', hc', hd'⟩ := hi'
    have R' := R.raw_set hs.extBut nt ho'
    obtain ⟨u, rfl⟩ := Value.isStrOf_shape hk
    refine ⟨g, rfl, m, _, R', N, ?_⟩
    intro base FS X A E s G N T R g
    exact wpAny_pure ⟨g, rfl, m, _, R, N, TT.mono (TT.frame (raws := [(it, o')]) (h2 y _ q2 (.str y u) rfl)) fun _ m' mh' ⟨mh0, e0, j⟩ => ⟨_, mh0, ⟨o', rfl, hc', by rw [hd', el]⟩, e0, j⟩⟩
theorem Nexts.of_str {y : PySem.Str} {t : Tok} {it : Addr} {x : PySem.Str} {p : Pos} {I J F : Nat → Loc → MH → Prop}
    (hl : ∀ k m mh, I k m mh → (y.cps[k]? = none → F k m mh) ∧ ∀ ch, y.cps[k]? = some ch → TA c m mh (.Name x p) (.str ⟨#[ch]⟩ 0) (J k)) : Nexts c (.Name x p) it ((Src.str y t).P it) I J F := by
  rintro k raws m mh ⟨o, rfl, ht1, ht2⟩ hI base FS X A E s G N T R g
  obtain ⟨h1, h2⟩ := hl k m mh hI
  have nt : NotTup o := fun _ vs n e => by rw [ht2] at e; cases e
  have hi : s.heap.IsStrIter it "str_ascii_iterator" y t k := ⟨o, (R.objs it (.raw o) (.head _)).1, ht1, ht2⟩
  cases q : y.cps[k]? with
  | none =>
    refine wpAny_pyNext_ascii_end G.hd hi q fun h' k' => ⟨g, rfl, m, mh, R.lost k' (fun ob q => by have e : s.heap.get? it = some o := (R.objs it (.raw o) (.head _)).1; rw [e] at q; cases q; exact nt), N, h1 q⟩
  | some ch =>
    refine wpAny_pyNext_ascii_item hi q fun h' hi' hs => ?_
    obtain ⟨o', ho', hc', hd'⟩ := hi'
    have R' := R.raw_set hs.extBut nt ho'
    refine ⟨g, rfl, m, _, R', N, ?_⟩
    intro base FS X A E s' G N T R g
    exact wpAny_pure ⟨g, rfl, m, _, R, N, TT.mono (TT.frame (raws := [(it, o')]) (h2 ch q (.str ⟨#[ch]⟩ s.toks) rfl)) fun _ m' mh' ⟨mh0, e0, j⟩ => ⟨_, mh0, ⟨o', rfl, hc', hd'⟩, e0, j⟩⟩

/-! the loop -/
/-- what holds ahead of a loop's turns -/
noncomputable def TInv (c : Sit) (base : Heap) (FS : FSt) (X : Xs) (os : OsState) (P : Nat → Xs → Prop) (I : Nat → Loc → MH → Prop) (B : Nat) (n : Nat) (s' : Shared) : Prop :=
  ∃ k raws m mh, n = B - k ∧ k ≤ B ∧ P k raws ∧ I k m mh ∧ Rel c.prog c.w base FS X c.env.locals s'.heap m (rawE raws ++ mh) ∧ NamesOk c m ∧ s'.gens = #[] ∧ s'.os = os
theorem TT.forLoop {target : Expr} {it : Addr} {body orelse : List Stmt} {P : Nat → Xs → Prop} {I J F : Nat → Loc → MH → Prop} (B : Nat) (hn : Nexts c target it P I J F)
    (hJ : ∀ k m mh, J k m mh → k < B ∧ TS c m mh body (Turn (I (k + 1)) QF))
    (hF : ∀ k m mh, F k m mh → TS c m mh orelse QF) {raws : Xs} (hP : P 0 raws) (hI : I 0 m mh) : TT c m (rawE raws ++ mh) (runOwn (.forLoop target (.ref it) body orelse c.env) c.env) (fun f m' mh' => QF (cnF f) m' mh') := by
  intro base FS X A E s G N T R g
  obtain ⟨QQ, hQ⟩ : ∃ QQ, QQ = Goes c base FS X s (fun f m' mh' => QF (cnF f) m' mh') := ⟨_, rfl⟩
  have fin : ∀ f s', Goes c base FS X s (fun f m' mh' => QF (cnF f) m' mh') f s' → QQ f s' := fun f s' q => by rw [hQ]; exact q
  rw [← hQ]
  clear hQ
  refine wpAny_runOwn ?_
  have eA : A.mark none = A := by cases A; rfl
  rw [eA]
  refine codeAny_forLoop_any (TInv c base FS X s.os P I B) ?_ B ⟨0, raws, m, mh, by omega, Nat.zero_le _, hP, hI, R, N, g, rfl⟩
  rintro n s1 ⟨k, raws, m, mh, rfl, hk, hP, hI, R, N, g, eo⟩
  refine wpAny_mono (hn k raws m mh hP hI base FS X A _ s1 G N T R g) (fun r s2 => ?_) (fun _ _ e => e)
  refine fun hx => Goes.el hx fun m2 mh2 g2 o2 R2 N2 h2 => ?_
  cases r with
  | none =>
    exact wpAny_mono (hF _ _ _ h2 base FS X A _ s2 G N2 T R2 g2) (fun f s3 hx => Goes.el hx fun m3 mh3 g3 o3 R3 N3 h3 => fin _ _ ⟨g3, o3.trans (o2.trans eo), m3, mh3, R3, N3, h3⟩) (fun _ _ e => e)
  | some v =>
    refine wpAny_mono (h2 base FS X A _ s2 G N2 T R2 g2) (fun _ s2' => ?_) (fun _ _ e => e)
    refine fun hx => Goes.el hx fun m3 mh3 g3 o3 R3 N3 h3 => ?_
    refine wpAny_mono (h3 base FS X A _ s2' G N3 T R3 g3) (fun _ s3 => ?_) (fun _ _ e => e)
    refine fun hx => Goes.el hx fun m4 mh4 g4 o4 R4 N4 hz => ?_
    obtain ⟨raws', mh5, hP', rfl, hj⟩ := hz
    obtain ⟨hkB, hb⟩ := hJ _ _ _ hj
    refine wpAny_mono (TT.frame hb base FS X A _ s3 G N4 T R4 g4) (fun f s4 => ?_) (fun _ _ e => e)
    refine fun hx => Goes.el hx fun m5 mh5 g5 o5 R5 N5 hz => ?_
    obtain ⟨mh6, rfl, h6⟩ := hz
    have eo5 : s4.os = s.os := o5.trans (o4.trans (o3.trans (o2.trans eo)))
    cases f with
    | next => exact ⟨B - (k + 1), by omega, k + 1, raws', m5, mh6, rfl, by omega, hP', h6, R5, N5, g5, eo5⟩
    | cont => exact ⟨B - (k + 1), by omega, k + 1, raws', m5, mh6, rfl, by omega, hP', h6, R5, N5, g5, eo5⟩
    | brk => exact fin _ _ ⟨g5, eo5, m5, mh6, R5.letGo, N5, h6⟩
    | ret v => exact fin _ _ ⟨g5, eo5, m5, mh6, R5.letGo, N5, h6⟩
end
end
section
open PySem PySem.W PySem.Calls PyProof.Rows
section
variable {c : Sit} {m m' : Loc} {mh mh' : MH} {α β : Type}
variable {Q : Value → Loc → MH → Prop} {QB : Bool → Loc → MH → Prop} {QF : Flow → Loc → MH → Prop} {QL : Loc → MH → Prop}
variable {prog : Program} {w : World} {base : Heap} {FS : FSt} {X : Xs} {L : Addr} {h h' : Heap}

/-! unpacking -/
noncomputable def TAs (c : Sit) (m : Loc) (mh : MH) (es : List Expr) (vs : List Value) (QL : Loc → MH → Prop) : Prop :=
  ∀ vs', vs'.map cn = vs → TT c m mh (assignInOrder ((assignEach es c.env).map (·.2)) vs') (fun _ m' mh' => QL m' mh')
theorem TAs.nil (h : QL m mh) : TAs c m mh [] [] QL := by
  intro vs' e
  obtain rfl : vs' = [] := by simpa using e
  exact TT.pure h
theorem TAs.cons {e : Expr} {es : List Expr} {v : Value} {vs : List Value} (h : TA c m mh e v fun m1 h1 => TAs c m1 h1 es vs QL) (he : assignEach (e :: es) c.env = (false, assign e c.env) :: assignEach es c.env := by rfl) : TAs c m mh (e :: es) (v :: vs) QL := by
  intro vs' q
  match vs', q with
  | v' :: vs', q =>
    rw [List.map_cons, List.cons.injEq] at q
    rw [he]
    exact TT.bind (TT.holding (TT.mono (h v' q.1) fun _ m1 h1 k => k vs' q.2))
theorem TA.tuple {elts : List Expr} {k : Nat} {p : Pos} {a : Addr} {xs : List Value} (ha : MHas mh a (.tup xs)) (h : TAs c m mh elts xs QL) (hn : (assignEach elts c.env).length = xs.length := by rfl) (hs : (assignEach elts c.env).findIdx? (·.1) = none := by rfl) :
    TA c m mh (.Tuple elts k p) (.ref a) QL := by
  intro v' e base FS X A E s G N T R g
  rw [cn_ref e]
  obtain ⟨vs, n, e1, e2⟩ := R.tup ha
  refine wpAny_assign_Tuple G.hd ⟨_, e1, rfl, n, rfl⟩ (by rw [hn, ← e2]; simp) hs fun h' hk => ?_
  have R' := R.all (h' := h') fun b o q => hk b o (Nat.ne_of_lt (Heap.lt_size q)) q
  exact h _ e2 base FS X A E { s with heap := h' } G N T R' g

/-! for -/
noncomputable def TLoop (c : Sit) (m : Loc) (mh : MH) (x : Value) (target : Expr) (body orelse : List Stmt) (QF : Flow → Loc → MH → Prop) : Prop :=
  ∀ x', cn x' = x → TT c m mh (pyIter x') (fun v m' mh' => ∃ (it : Addr) (src : Src) (raws : Xs) (mh0 : MH) (I J F : Nat → Loc → MH → Prop) (B : Nat), v = .ref it ∧ src.P it 0 raws ∧ mh' = rawE raws ++ mh0 ∧ I 0 m' mh0 ∧ Nexts c target it (src.P it) I J F ∧
    (∀ k m mh, J k m mh → k < B ∧ TS c m mh body (Turn (I (k + 1)) QF)) ∧ ∀ k m mh, F k m mh → TS c m mh orelse QF)
theorem TS1.for_ {target iter : Expr} {body orelse : List Stmt} {pos : Pos} (h : TE c m mh iter fun x m1 h1 => TLoop c m1 h1 x target body orelse QF) (hs : ∀ x, foldedSetIterable iter c.env x = Pure.pure x := by intro _; rfl) :
    TS1 c m mh (.For target iter body orelse pos) QF := by
  show TT c m mh (exec (.For target iter body orelse pos) c.env) _
  rw [exec_For]
  refine TT.at_ (TT.bind (TT.mono h fun x m1 h1 k => ?_))
  rw [hs]
  refine TT.bind (TT.pure (TT.at_ (TT.bind (TT.holding (TT.mono (k x rfl) fun v m2 h2 k2 => ?_)))))
  obtain ⟨it, src, raws, mh0, I, J, F, B, rfl, hP, rfl, h0, hn, hJ, hF⟩ := k2
  exact TT.forLoop B hn hJ hF hP h0
theorem letOwned_list {it l : Addr} {elts : List Expr} {k : Nat} {p : Pos} : ∀ v s, s.heap.IsListIter it l v → ∀ x : Value, ∀ (M : Model) A E (Q : Unit → Shared → Prop), Q () s → wpAny M A (letOwnedTupleGo (.Tuple elts k p) (.ref it) x) Q E s := by
  intro v s hi x M A E Q q
  cases x with
  | ref a =>
    obtain ⟨o, ho, hc, hd⟩ := hi
    unfold letOwnedTupleGo
    refine wpAny_bind (wpAny_load ho ?_)
    rw [hc, hd]
    exact wpAny_pure q
  | _ => exact wpAny_pure q
theorem letOwned_tup {it l : Addr} {elts : List Expr} {k : Nat} {p : Pos} : ∀ v s, s.heap.IsTupleIter it l v → ∀ x : Value, ∀ (M : Model) A E (Q : Unit → Shared → Prop), Q () s → wpAny M A (letOwnedTupleGo (.Tuple elts k p) (.ref it) x) Q E s := by
  intro v s hi x M A E Q q
  cases x with
  | ref a =>
    obtain ⟨o, ho, hc, hd⟩ := hi
    unfold letOwnedTupleGo
    refine wpAny_bind (wpAny_load ho ?_)
    rw [hc, hd]
    exact wpAny_pure q
  | _ => exact wpAny_pure q
/-- a target that a list's or tuple's items may be stored into without more ado -/
noncomputable def Plain : Expr → Bool
  | .Name .. => true
  | .Tuple .. => true
  | _ => false
theorem letOwnedL {target : Expr} (ht : Plain target = true) {it l : Addr} : ∀ v s, s.heap.IsListIter it l v → ∀ x : Value, ∀ (M : Model) A E (Q : Unit → Shared → Prop), Q () s → wpAny M A (letOwnedTupleGo target (.ref it) x) Q E s := by
  cases target with
  | Name x p => exact fun v s _ x M A E Q q => wpAny_pure q
  | Tuple elts k p => exact letOwned_list
  | _ => cases ht
theorem letOwnedT {target : Expr} (ht : Plain target = true) {it l : Addr} : ∀ v s, s.heap.IsTupleIter it l v → ∀ x : Value, ∀ (M : Model) A E (Q : Unit → Shared → Prop), Q () s → wpAny M A (letOwnedTupleGo target (.ref it) x) Q E s := by
  cases target with
  | Name x p => exact fun v s _ x M A E Q q => wpAny_pure q
  | Tuple elts k p => exact letOwned_tup
  | _ => cases ht
/-- one turn of a loop: over a list, a tuple, a range, a dict -/
noncomputable abbrev LTurn (c : Sit) (a : Addr) (target : Expr) (body orelse : List Stmt) (B : Nat) (QF : Flow → Loc → MH → Prop) (J : Nat → Loc → MH → Prop) (k : Nat) (m : Loc) (mh : MH) : Prop :=
  ∃ xs, LAt c mh a xs ∧ (xs[k]? = none → TS c m mh orelse QF) ∧ ∀ x, xs[k]? = some x → k < B ∧ TA c m mh target x fun m1 h1 => TS c m1 h1 body (Turn (J (k + 1)) QF)
noncomputable abbrev UTurn (c : Sit) (a : Addr) (target : Expr) (body orelse : List Stmt) (xs0 : List Value) (QF : Flow → Loc → MH → Prop) (J : Nat → Loc → MH → Prop) (k : Nat) (m : Loc) (mh : MH) : Prop :=
  MHas mh a (.tup xs0) ∧ (xs0[k]? = none → TS c m mh orelse QF) ∧ ∀ x, xs0[k]? = some x → TA c m mh target x fun m1 h1 => TS c m1 h1 body (Turn (J (k + 1)) QF)
noncomputable abbrev RTurn (c : Sit) (n : Nat) (x : PySem.Str) (p : Pos) (body orelse : List Stmt) (QF : Flow → Loc → MH → Prop) (J : Nat → Loc → MH → Prop) (k : Nat) (m : Loc) (mh : MH) : Prop :=
  (n ≤ k → TS c m mh orelse QF) ∧ (k < n → TA c m mh (.Name x p) (.int k 0) fun m1 h1 => TS c m1 h1 body (Turn (J (k + 1)) QF))
noncomputable abbrev DTurn (c : Sit) (d : Addr) (x : PySem.Str) (p : Pos) (body orelse : List Stmt) (kvs : List (PySem.Str × Value)) (ep : Nat) (QF : Flow → Loc → MH → Prop) (J : Nat → Loc → MH → Prop) (k : Nat) (m : Loc) (mh : MH) : Prop :=
  MHas mh d (.fdict kvs ep) ∧ (kvs[k]? = none → TS c m mh orelse QF) ∧ ∀ y v, kvs[k]? = some (y, v) → TA c m mh (.Name x p) (.str y 0) fun m1 h1 => TS c m1 h1 body (Turn (J (k + 1)) QF)
/-- a loop over a list, by what holds ahead of turn k -/
theorem TLoop.list0 {a : Addr} {xs0 : List Value} {target : Expr} {body orelse : List Stmt} (I : Nat → Loc → MH → Prop) (B : Nat) (ha : LAt c mh a xs0) (h0 : I 0 m mh)
    (hs : ∀ k m mh, I k m mh → ∃ xs, LAt c mh a xs ∧ (xs[k]? = none → TS c m mh orelse QF) ∧ ∀ x, xs[k]? = some x → k < B ∧ TA c m mh target x fun m1 h1 => TS c m1 h1 body (Turn (I (k + 1)) QF))
    (ht : Plain target = true := by rfl) : TLoop c m mh (.ref a) target body orelse QF := by
  intro x' e base FS X A E s G N T R g
  rw [cn_ref e]
  obtain ⟨vs, pl, _⟩ := R.lat G ha
  refine wpAny_pyIter_list pl.isList ⟨g, rfl, m, _, R.push (mo := .raw _) (Heap.get?_push_size _ rfl), N, _, .list a, [_], mh, I,
    fun k m mh => k < B ∧ TS c m mh body (Turn (I (k + 1)) QF), fun k m mh => TS c m mh orelse QF, B, rfl, ⟨_, rfl, rfl, rfl⟩, rfl, h0, ?_, fun _ _ _ j => j, fun _ _ _ f => f⟩
  refine Nexts.of_list (fun k m mh hi => ?_) (letOwnedL ht)
  obtain ⟨xs, h1, h2, h3⟩ := hs k m mh hi
  exact ⟨xs, h1, h2, fun x q v' e => TT.mono ((h3 x q).2 v' e) fun _ _ _ z => ⟨(h3 x q).1, z⟩⟩
theorem TLoop.list {a : Addr} {xs0 : List Value} {target : Expr} {body orelse : List Stmt} (I : Nat → Loc → MH → Prop) (B : Nat) (ha : LAt c mh a xs0) (h0 : I 0 m mh)
    (hs : ∀ J, HidI I J → ∀ k m mh, I k m mh → LTurn c a target body orelse B QF J k m mh)
    (ht : Plain target = true := by rfl) : TLoop c m mh (.ref a) target body orelse QF := TLoop.list0 I B ha h0 (hs I fun _ _ _ q => q) ht
theorem TLoop.tup0 {a : Addr} {xs0 : List Value} {target : Expr} {body orelse : List Stmt} (I : Nat → Loc → MH → Prop) (ha : MHas mh a (.tup xs0)) (h0 : I 0 m mh)
    (hs : ∀ k m mh, I k m mh → MHas mh a (.tup xs0) ∧ (xs0[k]? = none → TS c m mh orelse QF) ∧ ∀ x, xs0[k]? = some x → TA c m mh target x fun m1 h1 => TS c m1 h1 body (Turn (I (k + 1)) QF))
    (ht : Plain target = true := by rfl) : TLoop c m mh (.ref a) target body orelse QF := by
  intro x' e base FS X A E s G N T R g
  rw [cn_ref e]
  obtain ⟨vs, n, pl, _⟩ := R.tup ha
  refine wpAny_pyIter_tuple ⟨_, pl, rfl, n, rfl⟩ ⟨g, rfl, m, _, R.push (mo := .raw _) (Heap.get?_push_size _ rfl), N, _, .tup a, [_], mh, I,
    fun k m mh => k < xs0.length ∧ TS c m mh body (Turn (I (k + 1)) QF), fun k m mh => TS c m mh orelse QF, xs0.length, rfl, ⟨_, rfl, rfl, rfl⟩, rfl, h0, ?_, fun _ _ _ j => j, fun _ _ _ f => f⟩
  refine Nexts.of_tup (fun k m mh hi => ?_) (letOwnedT ht)
  obtain ⟨h1, h2, h3⟩ := hs k m mh hi
  exact ⟨xs0, h1, h2, fun x q v' e => TT.mono (h3 x q v' e) fun _ _ _ z => ⟨(List.getElem?_eq_some_iff.mp q).1, z⟩⟩
theorem TLoop.tup {a : Addr} {xs0 : List Value} {target : Expr} {body orelse : List Stmt} (I : Nat → Loc → MH → Prop) (ha : MHas mh a (.tup xs0)) (h0 : I 0 m mh)
    (hs : ∀ J, HidI I J → ∀ k m mh, I k m mh → UTurn c a target body orelse xs0 QF J k m mh)
    (ht : Plain target = true := by rfl) : TLoop c m mh (.ref a) target body orelse QF := TLoop.tup0 I ha h0 (hs I fun _ _ _ q => q) ht
theorem TLoop.range0 {a : Addr} {n : Nat} {x : PySem.Str} {p : Pos} {body orelse : List Stmt} (I : Nat → Loc → MH → Prop) (ha : MHas mh a (.range 0 n 1)) (hn : n ≤ slim) (h0 : I 0 m mh)
    (hs : ∀ k m mh, I k m mh → (n ≤ k → TS c m mh orelse QF) ∧ (k < n → TA c m mh (.Name x p) (.int k 0) fun m1 h1 => TS c m1 h1 body (Turn (I (k + 1)) QF))) :
    TLoop c m mh (.ref a) (.Name x p) body orelse QF := by
  intro x' e base FS X A E s G N T R g
  rw [cn_ref e]
  obtain ⟨t, u, v, hr⟩ := (R.objs _ _ ha.mem).1
  have hsl : (n : Int) ≤ 2 ^ 20 := by exact_mod_cast hn
  have hz : Builtin.Range.rangeSize 0 n 1 = n := by rw [PySem.rangeSize_one]; split <;> omega
  refine wpAny_pyIter_range hr (PySem.small_one (by omega) (by omega) (by omega) (by omega)) ⟨g, rfl, m, _, R.push (mo := .raw _) (Heap.get?_push_size _ rfl), N, _, .range 0 n 1, [(s.heap.objs.size, { cls := .type "range_iterator", data := .fields #[rawInt 0, rawInt (Builtin.Range.rangeSize 0 n 1), rawInt 1] })], mh, I,
    fun k m mh => k < n ∧ TS c m mh body (Turn (I (k + 1)) QF), fun k m mh => TS c m mh orelse QF, n, rfl, ?_, rfl, h0, ?_, fun _ _ _ j => j, fun _ _ _ f => f⟩
  · show [_] = [_]
    rw [hz]; simp
  · refine Nexts.of_range (fun k m mh hi => ?_)
    obtain ⟨h1, h2⟩ := hs k m mh hi
    refine ⟨fun q => h1 (by omega), fun q v' e => TT.mono (h2 (by omega) v' ?_) fun _ _ _ z => ⟨by omega, z⟩⟩
    rw [e]; simp
theorem TCall.range {n : Int} (h : ∀ r, Q (.ref r) m ((r, .range 0 n 1) :: mh)) : TCall c m mh (.type "range") [.int n 0] [] Q := by
  intro f' as' kw' ef ea ek base FS X A E s G N T R g
  rw [cn_type ef]
  obtain ⟨v, rfl, ev⟩ := one_arg ea
  obtain ⟨u, rfl⟩ := cn_int ev; obtain rfl := no_kw ek
  exact call_range_1 ⟨g, rfl, m, _, R.push (mo := .range 0 n 1) ⟨_, _, _, IsRange.new _ _ _ _ _ _ _⟩, N, h _⟩
/-- a loop over a dict's keys -/
theorem TLoop.dict0 {d : Addr} {kvs : List (PySem.Str × Value)} {x : PySem.Str} {p : Pos} {body orelse : List Stmt} (I : Nat → Nat → Loc → MH → Prop) (ha : MHas mh d (.dict kvs)) (h0 : ∀ ep, ∃ mh', MPut mh d (.dict kvs) (.fdict kvs ep) mh' ∧ I ep 0 m mh')
    (hs : ∀ ep k m mh, I ep k m mh → MHas mh d (.fdict kvs ep) ∧ (kvs[k]? = none → TS c m mh orelse QF) ∧ ∀ y v, kvs[k]? = some (y, v) → TA c m mh (.Name x p) (.str y 0) fun m1 h1 => TS c m1 h1 body (Turn (I ep (k + 1)) QF)) :
    TLoop c m mh (.ref d) (.Name x p) body orelse QF := by
  intro x' e base FS X A E s G N T R g
  rw [cn_ref e]
  obtain ⟨kv', da, e1⟩ := R.dict ha
  obtain ⟨ep, dt⟩ := da.dictAt
  obtain ⟨mh', hp, hi⟩ := h0 ep
  have R1 : Rel c.prog c.w base FS X c.env.locals s.heap m mh' := R.set hp (Heap.ExtBut.refl _ _) (dict_notTup da) ⟨kv', dt, e1⟩
  refine wpAny_pyIter_dict (R.notSys G.lim ha) dt ⟨g, rfl, m, _, R1.push (mo := .raw _) (Heap.get?_push_size _ rfl), N, _, .dict d kvs ep, [_], mh', I ep,
    fun k m mh => k < kvs.length ∧ TS c m mh body (Turn (I ep (k + 1)) QF), fun k m mh => TS c m mh orelse QF, kvs.length, rfl, ⟨_, rfl, rfl, by rw [← e1, List.length_map]; rfl⟩, rfl, hi, ?_, fun _ _ _ j => j, fun _ _ _ f => f⟩
  refine Nexts.of_dict (fun k m mh hi => ?_)
  obtain ⟨h1, h2, h3⟩ := hs ep k m mh hi
  exact ⟨h1, h2, fun y v q v' e => TT.mono (h3 y v q v' e) fun _ _ _ z => ⟨(List.getElem?_eq_some_iff.mp q).1, z⟩⟩
theorem TLoop.dict {d : Addr} {kvs : List (PySem.Str × Value)} {x : PySem.Str} {p : Pos} {body orelse : List Stmt} (I : Nat → Nat → Loc → MH → Prop) (ha : MHas mh d (.dict kvs)) (h0 : ∀ ep, ∃ mh', MPut mh d (.dict kvs) (.fdict kvs ep) mh' ∧ I ep 0 m mh')
    (hs : ∀ ep J, HidI (I ep) J → ∀ k m mh, I ep k m mh → DTurn c d x p body orelse kvs ep QF J k m mh) :
    TLoop c m mh (.ref d) (.Name x p) body orelse QF := TLoop.dict0 I ha h0 (fun ep => hs ep (I ep) fun _ _ _ q => q)
theorem TT.thaw {d : Addr} {kvs : List (PySem.Str × Value)} {ep : Nat} {t : Sem α} {QT : α → Loc → MH → Prop} (p : MPut mh d (.fdict kvs ep) (.dict kvs) mh') (h : TT c m mh' t QT) : TT c m mh t QT := by
  intro base FS X A E s G N T R g
  obtain ⟨⟨kv', da, e1⟩, _⟩ := R.objs _ _ p.has
  exact h base FS X A E s G N T (R.set p (Heap.ExtBut.refl _ _) (dict_notTup da.dictOf) ⟨kv', da.dictOf, e1⟩) g

/-! while -/
theorem TS1.while_ {test : Expr} {body orelse : List Stmt} {pos : Pos} (I : Nat → Loc → MH → Prop) (n : Nat) (h0 : I n m mh)
    (turn : ∀ n m mh, I n m mh → TB c m mh test fun b m1 h1 => (b = true → TS c m1 h1 body (Turn (fun m2 h2 => ∃ n', n' < n ∧ I n' m2 h2) QF)) ∧ (b = false → TS c m1 h1 orelse QF)) :
    TS1 c m mh (.While test body orelse pos) QF := by
  intro base FS X A E s G N T R g
  refine wpAny_While ?_
  refine codeAny_whileLoop (fun n s' => ∃ m mh, I n m mh ∧ Rel c.prog c.w base FS X c.env.locals s'.heap m mh ∧ NamesOk c m ∧ s'.gens = #[] ∧ s'.os = s.os) ?_ n ⟨m, mh, h0, R, N, g, rfl⟩
  rintro n s1 ⟨m, mh, hI, R, N, g, eo⟩
  refine wpAny_mono (turn n m mh hI base FS X A _ s1 G N T R g) (fun b s2 => ?_) (fun _ _ e => e)
  refine fun hx => Goes.el hx fun m2 mh2 g2 o2 R2 N2 h2 => ?_
  cases b with
  | false =>
    rw [if_neg (by decide)]
    exact wpAny_mono (h2.2 rfl base FS X A _ s2 G N2 T R2 g2) (fun f s3 hx => Goes.el hx fun m3 mh3 g3 o3 R3 N3 h3 => ⟨g3, o3.trans (o2.trans eo), m3, mh3, R3, N3, h3⟩) (fun _ _ e => e)
  | true =>
    rw [if_pos rfl]
    refine wpAny_mono (h2.1 rfl base FS X A _ s2 G N2 T R2 g2) (fun f s3 => ?_) (fun _ _ e => e)
    refine fun hx => Goes.el hx fun m3 mh3 g3 o3 R3 N3 h3 => ?_
    have eo3 : s3.os = s.os := o3.trans (o2.trans eo)
    cases f with
    | next => obtain ⟨n', h4, h5⟩ := h3; exact ⟨n', h4, m3, mh3, h5, R3, N3, g3, eo3⟩
    | cont => obtain ⟨n', h4, h5⟩ := h3; exact ⟨n', h4, m3, mh3, h5, R3, N3, g3, eo3⟩
    | brk => exact ⟨g3, eo3, m3, mh3, R3, N3, h3⟩
    | ret v => exact ⟨g3, eo3, m3, mh3, R3, N3, h3⟩
end
end
section
open PySem PySem.W PySem.Calls PyProof.Rows
section
variable {c : Sit} {m m' m0 : Loc} {mh mh' : MH} {α β : Type}
variable {Q : Value → Loc → MH → Prop} {QB : Bool → Loc → MH → Prop} {QF : Flow → Loc → MH → Prop} {QL : Loc → MH → Prop}
variable {prog : Program} {w : World} {base : Heap} {FS : FSt} {X : Xs} {L L' : Addr} {h h' : Heap}

/-! displays -/
theorem TE.list {es : List Expr} {p : Pos} (h : TEs c m mh es fun vs m1 h1 => vs.length ≤ slim ∧ ∀ r, Q (.ref r) m1 ((r, .list vs) :: h1)) : TE c m mh (.List es p) Q := by
  show TT c m mh (do PySem.standAt p; newList (← spliced (backTo p (starEach es c.env)))) _
  refine TT.at_ (TT.bind (TT.mono (h p) fun vs m1 h1 k => ?_))
  intro base FS X A E s G N T R g
  refine wpAny_newObj_type ⟨g, rfl, m1, _, R.push (mo := .list (vs.map cn)) ⟨vs, ⟨0, Heap.get?_push_size _ rfl⟩, rfl⟩, N, k.2 _⟩ ?_
  show vs.toArray.size ≤ sizeLine
  rw [List.size_toArray]; have := k.1; rw [List.length_map] at this; exact Nat.le_trans this slim_le
theorem TE.tuple {es : List Expr} {i : Nat} {p : Pos} (h : TEs c m mh es fun vs m1 h1 => vs.length ≤ slim ∧ ∀ r, Q (.ref r) m1 ((r, .tup vs) :: h1)) : TE c m mh (.Tuple es i p) Q := by
  show TT c m mh (do PySem.standAt p; newTuple (← spliced (backTo p (starEach es c.env)))) _
  refine TT.at_ (TT.bind (TT.mono (h p) fun vs m1 h1 k => ?_))
  intro base FS X A E s G N T R g
  refine wpAny_newObj_type ⟨g, rfl, m1, _, R.push (mo := .tup (vs.map cn)) ⟨vs, 0, Heap.get?_push_size _ rfl, rfl⟩, N, k.2 _⟩ ?_
  show vs.toArray.size ≤ sizeLine
  rw [List.size_toArray]; have := k.1; rw [List.length_map] at this; exact Nat.le_trans this slim_le
theorem TE.dict0 {p : Pos} (h : ∀ r, Q (.ref r) m ((r, .dict []) :: mh)) : TE c m mh (.Dict [] [] p) Q :=
  fun _ _ _ _ _ _ _ N _ R g => wpAny_Dict_empty ⟨g, rfl, m, _, R.push (mo := .dict []) ⟨[], Heap.DictOf.new _, rfl⟩, N, h _⟩

/-! attributes of instances -/
/-- a class of the text: how its instances' fields are read and stored; names that it does not bear itself -/
structure ClsOk (K : Frag) (C : Addr) (names : List PySem.Str) : Prop where
  ga : findIn K (.ref C) "__getattribute__" = some (some (.builtin "object.__getattribute__"))
  gt : findIn K (.ref C) "__getattr__" = some none
  sa : findIn K (.ref C) "__setattr__" = some (some (.builtin "object.__setattr__"))
  over : plainOver K C = true
  dict : ∃ cd, clsIn K C = some cd ∧ cd.hasDict = true
  free : ∀ x ∈ names, findIn K (.ref C) x = some none
inductive SHas : List PySem.Str → PySem.Str → Prop
  | here {x l} : SHas (x :: l) x
  | there {x y l} : SHas l x → SHas (y :: l) x
theorem SHas.mem {l : List PySem.Str} {x : PySem.Str} (h : SHas l x) : x ∈ l := by
  induction h with
  | here => exact .head _
  | there _ ih => exact .tail _ ih
theorem isStr_eq (x : PySem.Str) (v : Value) : v.isStr x = Value.isStrOf x v := by cases v <;> rfl
theorem lookIn_of {a : Addr} {kv : List (PySem.Str × Value)} {x : PySem.Str} (d : h.DictOf (strKind prog w) a kv) : ∃ o, h.get? a = some o ∧ lookIn x o = some (valueAt kv x) := by
  obtain ⟨o, es, ep, ho, hx, hd, hk, hp, hn⟩ := d
  refine ⟨o, ho, ?_⟩
  unfold lookIn
  rw [hd]
  dsimp only
  have e : (fun e : DictEntry => e.key.isStr x) = fun e => (strKind prog w).is x e.key := funext fun e => (isStr_eq x e.key)
  have f := hp.find x
  rw [← e] at f
  have nr : es.toList.any (·.refKey) = false := by
    rw [List.any_eq_false]
    intro y hy
    obtain ⟨k, h1, _⟩ := hk y (Array.mem_toList_iff.mp hy)
    obtain ⟨u, h2⟩ := Value.isStrOf_shape h1
    rw [DictEntry.refKey, h2]; simp
  cases q : es.toList.find? fun e => e.key.isStr x with
  | none => rw [q] at f; rw [← f, nr]; rfl
  | some en => rw [q] at f; rw [← f]; rfl
theorem Rel.instAt {C dx x : Addr} {as : List (PySem.Str × Value)} (R : Rel prog w base FS X L h m mh) (h1 : MHas mh x (.inst C dx)) (h2 : MHas mh dx (.dict as)) : ∃ od, h.get? dx = some od ∧ InstAt h x (instObj C dx) C (some od) := by
  obtain ⟨kv', d, _⟩ := R.dict h2
  obtain ⟨o, es, ep, ho, _⟩ := d
  exact ⟨o, ho, (R.objs _ _ h1.mem).1, rfl, rfl, ho⟩
noncomputable def notB : Value → Bool
  | .builtin _ => false
  | _ => true
noncomputable def TAttr (c : Sit) (m : Loc) (mh : MH) (o : Value) (name : PySem.Str) (Q : Value → Loc → MH → Prop) : Prop := ∀ o', cn o' = o → TT c m mh (getAttr o' name true) (fun v m' mh' => Q (cn v) m' mh')
theorem TE.attr {e : Expr} {name : PySem.Str} {p : Pos} (h : TE c m mh e fun o m1 h1 => TAttr c m1 h1 o name Q) (hb : attributeBase e name c.env (eval e c.env) = eval e c.env := by rfl) : TE c m mh (.Attribute e name p) Q := by
  show TT c m mh (do
    let o ← attributeBase e name c.env (eval e c.env)
    PySem.standAt p.atName
    let r ← PySem.holding [o] (getAttr o name true)
    letTemporaryGo e o r
    Pure.pure r) _
  rw [hb]
  refine TT.bind (TT.mono h fun o m1 h1 k => TT.at_ (TT.bind (TT.holding (TT.mono (k o rfl) fun v m2 h2 k2 => TT.bind ?_))))
  exact fun base FS X A E s G N T R g => wpAny_letTemporaryGo ⟨g, rfl, m2, h2, R, N, TT.pure k2⟩
theorem TAttr.field {C x dx : Addr} {as : List (PySem.Str × Value)} {names : List PySem.Str} {name : PySem.Str} {v : Value} (ok : ClsOk c.K C names) (hn : SHas names name) (h1 : MHas mh x (.inst C dx)) (h2 : MHas mh dx (.dict as)) (hv : vAt as name = some v)
    (hb : notB v = true) (h : Q v m mh) : TAttr c m mh (.ref x) name Q := by
  intro o' eo base FS X A E s G N T R g
  rw [cn_ref eo]
  obtain ⟨od, ho, I⟩ := R.instAt h1 h2
  obtain ⟨kv', d, rfl⟩ := R.dict h2
  obtain ⟨od', ho', hl⟩ := lookIn_of (x := name) d
  obtain rfl : od = od' := by rw [ho] at ho'; exact Option.some.inj ho'
  rw [vAt_map] at hv
  obtain ⟨v0, q1, q2⟩ := Option.map_eq_some_iff.mp hv
  obtain ⟨cd, hc, hd⟩ := ok.dict
  have hf : findObj c.K C (some od) name = some (.value v0) := by
    unfold findObj W.ownOf
    rw [hc, Option.bind_some, ok.free name hn.mem]
    simp [hd, hl, q1]
  have hh : handedIn v0 = true := by
    cases v0 with
    | builtin i => simp only [cn] at q2; subst q2; cases hb
    | _ => rfl
  exact get_value (G.kin.keeps R.keep) I ok.ga hf hh ⟨g, rfl, m, mh, R, N, by show Q (cn v0) m mh; rw [q2]; exact h⟩

/-! entering a def's block and leaving it -/
theorem Rel.enter {mr : PySem.Str → Option Value} (R : Rel prog w base FS X L h m mh) (hL : h.objs.size ≤ L') (k : ∀ b o, h.get? b = some o → h'.get? b = some o) (hn : h'.Ns L' mr) (hm : ∀ x ov, (x, ov) ∈ m0 → (mr x).map cn = ov) :
    ∃ d, (∃ o, h.get? L = some o ∧ o.data = d ∧ ∃ es ep, d = .dict es ep) ∧ Rel prog w base ((L, d) :: FS) X L' h' m0 mh := by
  obtain ⟨_, ⟨oL, es, ep, h1, h2, _⟩, _⟩ := R.ns
  have R' := R.all k
  obtain ⟨f1, f2, f3, f4, f5⟩ := R.fresh hL
  refine ⟨oL.data, ⟨oL, h1, rfl, es, ep, h2⟩, ?_⟩
  refine { R' with above := f1, ns := ⟨mr, hn, hm⟩, objs := fun a mo q => ?_, ex := fun a o q => ?_, fs := fun a d q => ?_ }
  · obtain ⟨x, y, z⟩ := R'.objs a mo q
    exact ⟨x, y, fun e => f3 (by rw [← e]; exact List.mem_map_of_mem (f := (·.1)) q)⟩
  · obtain ⟨x, y, z, t⟩ := R'.ex a o q
    exact ⟨x, y, fun e => f4 (by rw [← e]; exact List.mem_map_of_mem (f := (·.1)) q), t⟩
  · rcases List.mem_cons.mp q with e | q
    · cases e
      refine ⟨⟨oL, k _ _ h1, rfl, es, ep, h2⟩, R.above, Ne.symm f2, fun q => ?_, fun q => ?_⟩
      · obtain ⟨⟨a, mo⟩, hm', e⟩ := List.mem_map.mp q; exact (R.objs a mo hm').2.2 e
      · obtain ⟨⟨a, mo⟩, hm', e⟩ := List.mem_map.mp q; exact (R.ex a mo hm').2.2.1 e
    · obtain ⟨x, y, z, t⟩ := R'.fs a d q
      exact ⟨x, y, fun e => f5 (by rw [← e]; exact List.mem_map_of_mem (f := (·.1)) q), t⟩
theorem Rel.leave {d : Data} {m1 : Loc} {mh1 : MH} (R0 : Rel prog w base FS X L h m mh) (hd : ∃ o, h.get? L = some o ∧ o.data = d ∧ ∃ es ep, d = .dict es ep) (R1 : Rel prog w base ((L, d) :: FS) X L' h' m1 mh1) : Rel prog w base FS X L h' m mh1 := by
  obtain ⟨⟨o, ho, hod, _⟩, y, z, t, u⟩ := R1.fs L d (.head _)
  refine { R1 with above := R0.above, ns := ?_, objs := fun a mo q => ?_, ex := fun a ob q => ?_, fs := fun a d' q => ?_ }
  · obtain ⟨mr, ⟨oL, es, ep, h1, h2, h3⟩, e⟩ := R0.ns
    obtain ⟨o2, h4, h5, _⟩ := hd
    rw [h1] at h4; cases h4
    exact ⟨mr, ⟨o, es, ep, ho, by rw [hod, ← h5, h2], h3⟩, e⟩
  · obtain ⟨x, y, _⟩ := R1.objs a mo q
    exact ⟨x, y, fun e => t (by rw [← e]; exact List.mem_map_of_mem (f := (·.1)) q)⟩
  · obtain ⟨x, y, _, r⟩ := R1.ex a ob q
    exact ⟨x, y, fun e => u (by rw [← e]; exact List.mem_map_of_mem (f := (·.1)) q), r⟩
  · obtain ⟨x, y, _, r⟩ := R1.fs a d' (.tail _ q)
    exact ⟨x, y, (R0.fs a d' q).2.2.1, r⟩

/-! a def of the text -/
structure Fn where
  f : Addr
  name : PySem.Str
  qual : PySem.Str
  params : Arguments
  body : List Stmt
  scope : Scope
  dV : Value
  pm : Value
  cdv : Value
  ns : List PySem.Str
  rest : List PySem.Str
noncomputable def Fn.fd (F : Fn) : FuncData := fnOf F.name F.qual F.params F.body F.scope F.dV .none .none F.pm none F.cdv .none
/-- the locals at the start -/
noncomputable def Fn.loc (F : Fn) (vs : List Value) : Loc := F.ns.zip (vs.map some) ++ F.rest.map fun x => (x, none)
noncomputable def Fn.namesB (F : Fn) : Bool := decide (F.ns ++ F.rest).Nodup && (F.ns ++ F.rest).all (fun x => decide (F.scope.names.lookup x = some .local) && !(x == ("__debug__" : PySem.Str)))
structure FnOk (prog : Program) (w : World) (K : Frag) (F : Fn) : Prop where
  obj : ∃ oc od osl, K.lookup F.f = some ⟨oc, od, .func F.fd, osl⟩
  code : codeIn K F.cdv F.qual = true
  keep : keepIn K (.ref F.f) = true
  kind : F.scope.kind = .function
  gen : F.scope.isGenerator = false
  co : F.scope.isCoroutine = false
  names : F.namesB = true
theorem FnOk.nd {K : Frag} {F : Fn} (ok : FnOk prog w K F) : (F.ns ++ F.rest).Nodup := of_decide_eq_true (Bool.and_eq_true_iff.mp ok.names).1
theorem FnOk.local {K : Frag} {F : Fn} (ok : FnOk prog w K F) {x : PySem.Str} (hx : x ∈ F.ns ++ F.rest) : F.scope.names.lookup x = some .local ∧ (x == ("__debug__" : PySem.Str)) = false := by
  have := List.all_eq_true.mp (Bool.and_eq_true_iff.mp ok.names).2 x hx
  obtain ⟨a, b⟩ := Bool.and_eq_true_iff.mp this
  exact ⟨of_decide_eq_true a, by simpa using b⟩
/-- how k positional arguments are bound, the rest by defaults -/
noncomputable def BindsD (K : Frag) (F : Fn) (k : Nat) (dfl : List Value) : Prop := ∀ as' : List Value, as'.length = k → ∀ s : Shared, K.In s.heap → BindsTo s F.fd ⟨as', []⟩ (F.ns.zip (as' ++ dfl))
theorem lookup_zip {α : Type} : ∀ (ns : List PySem.Str) (vs : List α) (x : PySem.Str), ns.Nodup → ∀ i : Nat, ns[i]? = some x → (ns.zip vs).lookup x = vs[i]?
  | [], _, _, _, i, h => by simp at h
  | y :: ns, [], x, _, i, h => by simp
  | y :: ns, v :: vs, x, nd, 0, h => by
    simp only [List.getElem?_cons_zero, Option.some.injEq] at h
    subst h; simp [List.lookup]
  | y :: ns, v :: vs, x, nd, i + 1, h => by
    rw [List.nodup_cons] at nd
    have hx : x ∈ ns := List.mem_of_getElem? (by simpa using h)
    have ne : (x == y) = false := by
      rw [beq_eq_false_iff_ne]; rintro rfl; exact nd.1 hx
    simp only [List.zip_cons_cons, List.lookup, ne]
    simpa using lookup_zip ns vs x nd.2 i (by simpa using h)
theorem lookup_rev {α : Type} : ∀ (l : List (PySem.Str × α)) (x : PySem.Str), (l.map (·.1)).Nodup → l.reverse.lookup x = l.lookup x := by
  intro l x nd
  induction l with
  | nil => rfl
  | cons p l ih =>
    rw [List.map_cons, List.nodup_cons] at nd
    rw [List.reverse_cons, List.lookup_append, ih nd.2]
    obtain ⟨y, v⟩ := p
    by_cases e : x = y
    · subst e
      have : l.lookup x = none := by
        rw [List.lookup_eq_none_iff]
        intro q hq
        have ne : x ≠ q.1 := fun e => nd.1 (by rw [e]; exact List.mem_map_of_mem (f := (·.1)) hq)
        simpa using ne
      simp [this]
    · have : (x == y) = false := beq_eq_false_iff_ne.mpr e
      simp [List.lookup, this]
noncomputable def Sit.into (c : Sit) (F : Fn) (L : Addr) : Sit := { c with env := envOf F.qual F.scope L F.f F.cdv, n := c.n - 1, top := true, cells := [] }
theorem Good.into {F : Fn} {A : Around} {d : Data} (G : Good c base FS A) (hn : 0 < c.n) (hk : F.scope.kind = .function) : Good (c.into F L) base ((c.env.locals, d) :: FS) (A.deeper (envOf F.qual F.scope L F.f F.cdv)) := by
  refine ⟨G.kin, G.ro, G.lim, G.hd, ?_, ?_, ?_, G.guards⟩
  · have := G.depth
    show A.depth + 1 + 4 * (c.n - 1) ≤ 960
    omega
  · have := G.units
    show A.units + 3 + 20 * (c.n - 1) ≤ 9000
    omega
  · obtain ⟨fl, e, _, hf⟩ := G.frames
    refine ⟨envOf F.qual F.scope L F.f F.cdv :: fl, Around.frames_deeper e, fun _ => ⟨fl, rfl⟩, fun x hx => ?_⟩
    rcases List.mem_cons.mp hx with rfl | hx
    · refine ⟨?_, L, rfl, .inl rfl⟩
      show F.scope.kind ≠ .module
      rw [hk]; decide
    · obtain ⟨h1, L', h2, h3⟩ := hf x hx
      refine ⟨h1, L', h2, .inr ?_⟩
      rcases h3 with rfl | h3
      · exact .head _
      · exact .tail _ h3
theorem Fn.locNames {F : Fn} {vs : List Value} (hl : vs.length = F.ns.length) : ((F.loc vs).map (·.1)) = F.ns ++ F.rest := by
  unfold Fn.loc
  rw [List.map_append, List.map_map]
  have e1 : (F.ns.zip (vs.map some)).map (·.1) = F.ns := by
    rw [List.map_fst_zip]; simp [hl]
  rw [e1]
  congr 1
  exact List.map_id _
theorem FnOk.binds {K : Frag} {F : Fn} (ok : FnOk prog w K F) {vs' : List Value} (hl : vs'.length = F.ns.length) : ∀ x ov, (x, ov) ∈ F.loc (vs'.map cn) → ((F.ns.zip vs').reverse.lookup x).map cn = ov := by
  intro x ov hx
  have nd := ok.nd
  rw [List.nodup_append] at nd
  have e1 : (F.ns.zip vs').map (·.1) = F.ns := List.map_fst_zip (by omega)
  rw [lookup_rev _ _ (by rw [e1]; exact nd.1)]
  unfold Fn.loc at hx
  rcases List.mem_append.mp hx with hx | hx
  · obtain ⟨i, hi, e⟩ := List.mem_iff_getElem.mp hx
    rw [List.getElem_zip] at e
    simp only [Prod.mk.injEq, List.getElem_map] at e
    have hi' : i < F.ns.length := by simp at hi; omega
    have hi2 : i < vs'.length := by omega
    rw [lookup_zip F.ns vs' x nd.1 i (by rw [List.getElem?_eq_getElem hi', e.1]), List.getElem?_eq_getElem hi2, ← e.2]; rfl
  · obtain ⟨y, hy, e⟩ := List.mem_map.mp hx
    cases e
    have : (F.ns.zip vs').lookup x = none := by
      rw [List.lookup_eq_none_iff]
      intro q hq
      have : q.1 ∈ F.ns := by rw [← e1]; exact List.mem_map_of_mem (f := (·.1)) hq
      have ne : x ≠ q.1 := fun e => nd.2.2 q.1 this x hy e.symm
      simpa using ne
    rw [this]; rfl
theorem TCall.def_ {as : List Value} (F : Fn) (ok : FnOk c.prog c.w c.K F) (hn : 0 < c.n) (m0 : Loc) (dfl : List Value) (hb : BindsD c.K F as.length dfl) (hl : as.length + dfl.length = F.ns.length) (hm0 : m0 = F.loc (as ++ dfl.map cn)) (hcell : ∀ x ∈ F.scope.names, x.2 ≠ .cell)
    (h : ∀ L, TS (c.into F L) m0 mh F.body (fun fl _ mh' => Q (match fl with | .ret v => v | _ => .none) m mh')) : TCall c m mh (.ref F.f) as [] Q := by
  intro f' as' kw' ef ea ek base FS X A E s G N T R g
  rw [cn_ref ef]; obtain rfl := no_kw ek
  obtain ⟨oc, od, osl, ho⟩ := ok.obj
  have KI := G.kin.keeps R.keep
  have la : as'.length = as.length := by rw [← ea, List.length_map]
  have ll : (as' ++ dfl).length = F.ns.length := by rw [List.length_append, la, hl]
  have hd := G.depth
  have em : m0 = F.loc ((as' ++ dfl).map cn) := by rw [hm0, List.map_append, ea]
  have hloc : ∀ y ∈ F.ns.zip (as' ++ dfl), F.fd.scope.names.lookup y.1 = some .local := fun y hy => (ok.local (List.mem_append_left _ (List.of_mem_zip hy).1)).1
  refine wpAny_call (codeAny_call_def (fd := F.fd) (by unfold recursionLimit; omega) (KI _ _ ho) rfl (G.lim.keeps R.keep) (codeRec_of KI ok.code) rfl (hb as' la s KI) hcell hloc (fun h0 hns hk => ?_) ok.co ok.gen ok.kind)
  obtain ⟨d, hd', R'⟩ := R.enter (m0 := m0) (Nat.le_refl _) hk hns (fun x ov hx => ok.binds ll x ov (by rw [em] at hx; exact hx))
  have G' : Good (c.into F s.heap.objs.size) base ((c.env.locals, d) :: FS) (A.deeper (envOf F.qual F.scope s.heap.objs.size F.f F.cdv)) := G.into hn ok.kind
  have en := Fn.locNames (F := F) (vs := (as' ++ dfl).map cn) (by rw [List.length_map]; exact ll)
  rw [← em] at en
  have N' : NamesOk (c.into F s.heap.objs.size) m0 := ⟨ok.kind, by rw [en]; exact ok.nd, fun p hp => ok.local (by rw [← en]; exact List.mem_map_of_mem (f := (·.1)) hp)⟩
  have T' : TabOk (c.into F s.heap.objs.size) := ⟨fun p hp => (by cases hp), ⟨rfl, rfl⟩, T.glob⟩
  refine wpAny_mono (h s.heap.objs.size base _ X _ _ { s with heap := h0, toks := s.toks + (F.ns.zip (as' ++ dfl)).length } G' N' T' R' g) (fun fl s' => ?_) (fun _ _ e => e)
  refine fun hx => Goes.el hx fun m1 mh1 g' o' R1 _ q => ?_
  refine ⟨g', o', m, mh1, R.leave hd' R1, N, ?_⟩
  cases fl <;> exact q
end
end
section
open PySem PySem.W PySem.Calls PyProof.Rows
section
variable {c : Sit} {m m' m0 : Loc} {mh mh' : MH} {α β : Type}
variable {Q : Value → Loc → MH → Prop} {QB : Bool → Loc → MH → Prop} {QF : Flow → Loc → MH → Prop} {QL : Loc → MH → Prop}
variable {prog : Program} {w : World} {base : Heap} {FS : FSt} {X : Xs} {L L' : Addr} {h h' : Heap}

/-- an iterator is its own -/
theorem Src.self {src : Src} {it : Addr} {k : Nat} {raws : Xs} {QT : Value → Loc → MH → Prop} (hp : src.P it k raws) (h : QT (.ref it) m (rawE raws ++ mh)) : TT c m (rawE raws ++ mh) (pyIter (.ref it)) QT := by
  intro base FS X A E s G N T R g
  cases src with
  | list l =>
    obtain ⟨o, rfl, hc, hd⟩ := hp
    exact wpAny_pyIter_listiter ⟨o, (R.objs it (.raw o) (.head _)).1, hc, hd⟩ ⟨g, rfl, m, _, R, N, h⟩
  | tup l =>
    obtain ⟨o, rfl, hc, hd⟩ := hp
    exact wpAny_pyIter_tupleiter ⟨o, (R.objs it (.raw o) (.head _)).1, hc, hd⟩ ⟨g, rfl, m, _, R, N, h⟩
  | range a n d =>
    obtain rfl := hp
    exact wpAny_pyIter_rangeiter (R.objs it _ (.head _)).1 ⟨g, rfl, m, _, R, N, h⟩
  | enumL l =>
    obtain ⟨i, o, old, rfl, hc, hd⟩ := hp
    exact wpAny_pyIter_enum (R.objs it (.raw _) (.head _)).1 ⟨g, rfl, m, _, R, N, h⟩
  | enumT l =>
    obtain ⟨i, o, old, rfl, hc, hd⟩ := hp
    exact wpAny_pyIter_enum (R.objs it (.raw _) (.head _)).1 ⟨g, rfl, m, _, R, N, h⟩
  | dict d kvs ep =>
    obtain ⟨o, rfl, hc, hd⟩ := hp
    exact wpAny_pyIter_keyiter ⟨o, (R.objs it (.raw o) (.head _)).1, hc, hd⟩ ⟨g, rfl, m, _, R, N, h⟩
  | str x t =>
    obtain ⟨o, rfl, hc, hd⟩ := hp
    exact wpAny_pyIter_striter_ascii ⟨o, (R.objs it (.raw o) (.head _)).1, hc, hd⟩ ⟨g, rfl, m, _, R, N, h⟩

theorem compLoop_under {A : Around} {e : Expr} {d : Nat} {it acc : Value} {env : Env} (hf : (Code.compLoop e d it acc env).isFrame = false) : A.under (.compLoop e d it acc env) = A := by
  have h1 : (Code.compLoop e d it acc env).frames = 0 := by
    show (if (Code.compLoop e d it acc env).isFrame = true then 1 else 0) = 0
    rw [hf]; rfl
  refine Around.under_of_weight ?_ ?_
  · unfold Code.weight; rw [h1]; rfl
  · show 3 * (Code.compLoop e d it acc env).frames = 0
    rw [h1]
theorem compStart_under {A : Around} {e : Expr} {d : Nat} {it acc : Value} {env : Env} (hf : (Code.compStart e d it acc env).isFrame = false) : A.under (.compStart e d it acc env) = A := by
  have h1 : (Code.compStart e d it acc env).frames = 0 := by
    show (if (Code.compStart e d it acc env).isFrame = true then 1 else 0) = 0
    rw [hf]; rfl
  refine Around.under_of_weight ?_ ?_
  · unfold Code.weight; rw [h1]; rfl
  · show 3 * (Code.compStart e d it acc env).frames = 0
    rw [h1]
/-- a turn behind the target's store: the tests, the element or the next clause, and on -/
noncomputable def TurnRest (e : Expr) (d : Nat) (it acc : Value) (env : Env) (target : Expr) (rest : Sem Fin) : Prop :=
  ∃ p, compTurn e d it acc env = (PySem.standAt p >>= fun _ => pyNext it >>= fun r => match r with
    | none => Pure.pure (.done .next)
    | some v => letOwnedTupleGo target it v >>= fun _ => assign target env v >>= fun _ => rest)
structure PlainComp (e : Expr) (d : Nat) (it acc : Value) (env : Env) : Prop where
  fl : (Code.compLoop e d it acc env).isFrame = false
  fs : (Code.compStart e d it acc env).isFrame = false
  as : ((clausesOf e)[d]?).elim false (fun g => g.is_async != 0) = false
/-- a comprehension's end; what holds ahead of its turns -/
noncomputable def CDone (c : Sit) (base : Heap) (FS : FSt) (X : Xs) (os : OsState) (QL : Loc → MH → Prop) (RE : Value → Shared → Prop) : Result → Shared → Prop := fun r s' => match r with
  | .ok _ => s'.gens = #[] ∧ s'.os = os ∧ ∃ m' mh', Rel c.prog c.w base FS X c.env.locals s'.heap m' mh' ∧ NamesOk c m' ∧ QL m' mh'
  | .error x => RE x s'
theorem comp_code {e : Expr} {d : Nat} {it : Addr} {acc : Value} {target : Expr} {rest : Sem Fin} (hp : PlainComp e d (.ref it) acc c.env) (ht : TurnRest e d (.ref it) acc c.env target rest)
    {src : Src} {I J F : Nat → Loc → MH → Prop} (B : Nat) (hn : Nexts c target it (src.P it) I J F)
    (hJ : ∀ k m mh, J k m mh → k < B ∧ TT c m mh rest (fun fin m' mh' => fin = .again (.compLoop e d (.ref it) acc c.env) ∧ I (k + 1) m' mh'))
    (hF : ∀ k m mh, F k m mh → QL m mh) {raws : Xs} (hP : src.P it 0 raws) (hI : I 0 m mh)
    (A : Around) (RE : Value → Shared → Prop) (s : Shared) (G : Good c base FS A) (N : NamesOk c m) (T : TabOk c) (R : Rel c.prog c.w base FS X c.env.locals s.heap m (rawE raws ++ mh)) (g : s.gens = #[]) :
    codeAny (model c.prog c.w) A (.compStart e d (.ref it) acc c.env) (CDone c base FS X s.os QL RE) s := by
  have loop : ∀ s1 : Shared, s1.gens = #[] → s1.os = s.os → Rel c.prog c.w base FS X c.env.locals s1.heap m (rawE raws ++ mh) →
      codeAny (model c.prog c.w) A (.compLoop e d (.ref it) acc c.env) (CDone c base FS X s.os QL RE) s1 := by
    intro s1 g1 o1 R1
    refine codeAny_loop (by rfl) (TInv c base FS X s.os (src.P it) I B) ?_ B ⟨0, raws, m, mh, by omega, Nat.zero_le _, hP, hI, R1, N, g1, o1⟩
    rintro n s2 ⟨k, raws, m, mh, rfl, hk, hP, hI, R, N, g, eo⟩
    rw [compLoop_under hp.fl]
    show wpAny _ A (if (Code.compLoop e d (.ref it) acc c.env).isFrame = true then _ else _) _ _ s2
    rw [hp.fl, if_neg (by decide)]
    refine wpAny_noted ?_
    obtain ⟨p, et⟩ := ht
    rw [et]
    refine wpAny_bind (wpAny_standAt (wpAny_bind ?_))
    refine wpAny_mono (hn k raws m mh hP hI base FS X A _ s2 G N T R g) (fun r s2 => ?_) (fun _ _ e => e)
    refine fun hx => Goes.el hx fun m2 mh2 g2 o2 R2 N2 h2 => ?_
    cases r with
    | none => exact wpAny_pure ⟨g2, o2.trans eo, m2, mh2, R2, N2, hF _ _ _ h2⟩
    | some v =>
      refine wpAny_bind (wpAny_mono (h2 base FS X A _ s2 G N2 T R2 g2) (fun _ s2' => ?_) (fun _ _ e => e))
      refine fun hx => Goes.el hx fun m3 mh3 g3 o3 R3 N3 h3 => ?_
      refine wpAny_bind (wpAny_mono (h3 base FS X A _ s2' G N3 T R3 g3) (fun _ s3 => ?_) (fun _ _ e => e))
      refine fun hx => Goes.el hx fun m4 mh4 g4 o4 R4 N4 hz => ?_
      obtain ⟨raws', mh5, hP', rfl, hj⟩ := hz
      obtain ⟨hkB, hb⟩ := hJ _ _ _ hj
      refine wpAny_mono (TT.frame hb base FS X A _ s3 G N4 T R4 g4) (fun fin s4 => ?_) (fun _ _ e => e)
      refine fun hx => Goes.el hx fun m5 mh5 g5 o5 R5 N5 hz => ?_
      obtain ⟨mh6, rfl, rfl, h6⟩ := hz
      exact ⟨rfl, B - (k + 1), by omega, k + 1, raws', m5, mh6, rfl, by omega, hP', h6, R5, N5, g5, o5.trans (o4.trans (o3.trans (o2.trans eo)))⟩
  refine codeAny_of_tree ?_
  rw [compStart_under hp.fs]
  show wpAny _ A (if (Code.compStart e d (.ref it) acc c.env).isFrame = true then _ else _) _ _ s
  rw [hp.fs, if_neg (by decide)]
  refine wpAny_notedAt ?_
  unfold compStart
  rw [hp.as]
  simp only [Bool.false_eq_true, if_false]
  refine wpAny_bind (wpAny_askSetting ?_)
  split
  · exact wpAny_pure ⟨rfl, loop s g rfl R⟩
  · refine wpAny_bind (wpAny_rule ?_)
    have key : ∀ (E : Value → Shared → Prop), wpAny (model c.prog c.w) A (pyIter (.ref it)) (fun v s' => v = .ref it ∧ s'.gens = #[] ∧ s'.os = s.os ∧ Rel c.prog c.w base FS X c.env.locals s'.heap m (rawE raws ++ mh)) E s := fun E =>
      wpAny_mono (Src.self (QT := fun v m' mh' => v = .ref it ∧ m' = m ∧ mh' = rawE raws ++ mh) hP ⟨rfl, rfl, rfl⟩ base FS X A E s G N T R g) (fun v s' ⟨g', o', m', mh', R', _, e1, e2, e3⟩ => by subst e2 e3; exact ⟨e1, g', o', R'⟩) (fun _ _ e => e)
    split
    · exact wpAny_bind (wpAny_standAt (wpAny_bind (wpAny_mono (key _) (fun v s' ⟨e1, g', o', R'⟩ => by subst e1; exact wpAny_pure ⟨rfl, loop s' g' o' R'⟩) (fun _ _ e => e))))
    · exact wpAny_bind (wpAny_mono (key _) (fun v s' ⟨e1, g', o', R'⟩ => by subst e1; exact wpAny_pure ⟨rfl, loop s' g' o' R'⟩) (fun _ _ e => e))

/-! what a turn does -/
noncomputable def emitL (elt : Expr) (acc : Value) (env : Env) : Sem Unit := eval elt env >>= fun x => call (.builtin "list.append") [acc, x] >>= fun _ => Pure.pure ()
noncomputable def emitD (k v : Expr) (acc : Value) (env : Env) : Sem Unit := do
  let kv ← eval k env
  let vv ← PySem.holding [kv] (eval v env)
  match acc with
  | .ref d => do
    PySem.standAt { k.pos with endLine := v.pos.endLine, endCol := v.pos.endCol }
    PySem.holding [kv, vv] (dictSet d kv vv)
  | _ => unsupported "internal:dictcomp"
inductive Comp where
  | list (elt : Expr)
  | dict (k v : Expr)
noncomputable def Comp.expr : Comp → List Comprehension → Scope → Pos → Expr
  | .list elt, gens, scope, pos => .ListComp elt gens scope pos
  | .dict k v, gens, scope, pos => .DictComp k v gens scope pos
noncomputable def Comp.emit : Comp → Value → Env → Sem Unit
  | .list elt, acc, env => emitL elt acc env
  | .dict k v, acc, env => emitD k v acc env
noncomputable def Comp.new : Comp → Sem Value
  | .list _ => newList []
  | .dict _ _ => newDict
theorem Comp.plain {K : Comp} {gens : List Comprehension} {scope : Scope} {pos : Pos} {d : Nat} {it acc : Value} {env : Env} {target iter : Expr} {ifs : List Expr} (hg : gens[d]? = some ⟨target, iter, ifs, 0⟩) : PlainComp (K.expr gens scope pos) d it acc env := by
  cases K <;> exact ⟨rfl, rfl, by show (gens[d]?).elim false (fun g => g.is_async != 0) = false; rw [hg]; rfl⟩
theorem turn_last {K : Comp} {gens : List Comprehension} {scope : Scope} {pos : Pos} {d : Nat} {it acc : Value} {env : Env} {target iter : Expr} (hg : gens[d]? = some ⟨target, iter, [], 0⟩) (hl : gens[d + 1]? = none) :
    TurnRest (K.expr gens scope pos) d it acc env target (K.emit acc env >>= fun _ => again (.compLoop (K.expr gens scope pos) d it acc env)) := by
  cases K with
  | list elt =>
    refine ⟨iter.pos, ?_⟩
    unfold compTurn Comp.expr
    simp only [hg, hl]
    rfl
  | dict k v =>
    refine ⟨iter.pos, ?_⟩
    unfold compTurn Comp.expr
    simp only [hg, hl]
    rfl
noncomputable def testTree (cnd : Expr) (env : Env) : Sem Bool := forIn [cnd] true fun e r => if r = true then do let ok ← isTrue e env (eval e env); Pure.pure (ForInStep.yield ok) else Pure.pure (ForInStep.yield r)
theorem turn_test {K : Comp} {gens : List Comprehension} {scope : Scope} {pos : Pos} {d : Nat} {it acc : Value} {env : Env} {target iter cnd : Expr} (hg : gens[d]? = some ⟨target, iter, [cnd], 0⟩) (hl : gens[d + 1]? = none) :
    TurnRest (K.expr gens scope pos) d it acc env target (testTree cnd env >>= fun ok => if ok = true then K.emit acc env >>= fun _ => again (.compLoop (K.expr gens scope pos) d it acc env) else again (.compLoop (K.expr gens scope pos) d it acc env)) := by
  cases K with
  | list elt =>
    refine ⟨iter.pos, ?_⟩
    unfold compTurn Comp.expr testTree
    simp only [hg, hl]
    rfl
  | dict k v =>
    refine ⟨iter.pos, ?_⟩
    unfold compTurn Comp.expr testTree
    simp only [hg, hl]
    rfl
theorem turn_next {K : Comp} {gens : List Comprehension} {scope : Scope} {pos : Pos} {d : Nat} {it acc : Value} {env : Env} {target iter target' iter' : Expr} {ifs' : List Expr} (hg : gens[d]? = some ⟨target, iter, [], 0⟩) (hl : gens[d + 1]? = some ⟨target', iter', ifs', 0⟩) :
    TurnRest (K.expr gens scope pos) d it acc env target (eval iter' env >>= fun x => PySem.standAt iter'.pos >>= fun _ => foldedSetIterable iter' env x >>= fun x => PySem.holding [x] (pyIter x) >>= fun it' => runOwn (.compStart (K.expr gens scope pos) (d + 1) it' acc env) env >>= fun _ => again (.compLoop (K.expr gens scope pos) d it acc env)) := by
  cases K with
  | list elt =>
    refine ⟨iter.pos, ?_⟩
    unfold compTurn Comp.expr
    simp only [hg, hl]
    rfl
  | dict k v =>
    refine ⟨iter.pos, ?_⟩
    unfold compTurn Comp.expr
    simp only [hg, hl]
    rfl

theorem TT.test {cnd : Expr} (h : TB c m mh cnd QB) : TT c m mh (testTree cnd c.env) QB := by
  unfold testTree
  rw [List.forIn_cons]
  simp only [if_true]
  exact TT.bind (TT.bind (TT.mono h fun b m1 h1 k => TT.pure (TT.pure k)))

/-! the block of a comprehension -/
noncomputable def Sit.comp (c : Sit) (scope : Scope) (cl : List (PySem.Str × Addr)) (cells : List (PySem.Str × Addr)) (L : Addr) : Sit := { c with env := compEnvC scope cl L c.env, top := false, cells := cells }
noncomputable def Comp.acc0 : Comp → MO
  | .list _ => .list []
  | .dict _ _ => .dict []
theorem Good.comp {A : Around} {d : Data} {scope : Scope} {cl cells : List (PySem.Str × Addr)} (G : Good c base FS A) : Good (c.comp scope cl cells L) base ((c.env.locals, d) :: FS) A := by
  refine ⟨G.kin, G.ro, G.lim, G.hd, G.depth, G.units, ?_, G.guards⟩
  obtain ⟨fl, e, _, hf⟩ := G.frames
  refine ⟨fl, e, (fun h => nomatch (h : false = true)), fun x hx => ?_⟩
  obtain ⟨h1, L', h2, h3⟩ := hf x hx
  refine ⟨h1, L', h2, .inr ?_⟩
  rcases h3 with rfl | h3
  · exact .head _
  · exact .tail _ h3
/-- the inner block is left; its own names are let go -/
theorem Rel.leaveComp {d : Data} {m1 : Loc} {mh1 : MH} {h0 h'' : Heap} (R0 : Rel prog w base FS X L h0 m mh) (hd : ∃ o, h0.get? L = some o ∧ o.data = d ∧ ∃ es ep, d = .dict es ep) (R1 : Rel prog w base ((L, d) :: FS) X L' h' m1 mh1) (k : Kept L' h' h'') : Rel prog w base FS X L h'' m mh1 := by
  have R := R0.leave hd R1
  have nt : ∀ ob, h'.get? L' = some ob → NotTup ob := by
    obtain ⟨mr, ⟨oL, es, ep, h1, h2, _⟩, e⟩ := R1.ns
    intro ob q
    rw [h1] at q; cases q
    exact notTup_of_dict h2
  obtain ⟨_, _, hLL, _⟩ := R1.fs L d (.head _)
  refine { R with keep := fun b o e => k _ _ (fun q => by subst q; exact absurd (Heap.lt_size e) (Nat.not_lt.mpr R1.above)) (R.keep b o e), ns := ?_, objs := fun a mo q => ?_, ex := fun a o q => ?_, fs := fun a d' q => ?_ }
  · obtain ⟨mr, ⟨o, es, ep, h1, h2⟩, e⟩ := R.ns
    exact ⟨mr, ⟨o, es, ep, k _ _ hLL h1, h2⟩, e⟩
  · obtain ⟨x, y, z⟩ := R.objs a mo q
    exact ⟨x.kept k nt (R1.objs a mo q).2.2, y, z⟩
  · obtain ⟨x, y⟩ := R.ex a o q
    exact ⟨k _ _ (R1.ex a o q).2.2.1 x, y⟩
  · obtain ⟨⟨o, x, x2⟩, y⟩ := R.fs a d' q
    exact ⟨⟨o, k _ _ (R1.fs a d' (.tail _ q)).2.2.1 x, x2⟩, y⟩
noncomputable def CompNames (scope : Scope) (ns : List PySem.Str) : Prop := scope.kind = .function ∧ ns.Nodup ∧ (∀ x ∈ ns, scope.names.lookup x = some .local ∧ (x == ("__debug__" : PySem.Str)) = false) ∧ (∀ x ∈ scope.names, x.2 = .local → scope.names.lookup x.1 = some .local) ∧ ∀ x ∈ scope.names, x.2 ≠ .cell
noncomputable def CompCells (env : Env) (scope : Scope) (cl cells : List (PySem.Str × Addr)) : Prop := closureFor scope env = Pure.pure cl ∧ ∀ p ∈ cells, ((relabel scope env).names.lookup p.1 = some .cell ∨ (relabel scope env).names.lookup p.1 = some .free) ∧ cl.lookup p.1 = some p.2 ∧ (p.1 == ("__debug__" : PySem.Str)) = false ∧ (p.1 == ("__classdict__" : PySem.Str)) = false
/-- the turns of a comprehension's block -/
noncomputable def CompBlock (c : Sit) (K : Comp) (gens : List Comprehension) (scope : Scope) (pos : Pos) (target : Expr) (d : Nat) (it r : Addr) (src : Src) (m0 : Loc) (mh0 : MH) (QL : Loc → MH → Prop) : Prop :=
  ∃ (rest : Sem PySem.Fin) (I J F : Nat → Loc → MH → Prop) (B : Nat), TurnRest (K.expr gens scope pos) d (.ref it) (.ref r) c.env target rest ∧ I 0 m0 mh0 ∧ Nexts c target it (src.P it) I J F ∧
    (∀ k m mh, J k m mh → k < B ∧ TT c m mh rest (fun fin m' mh' => fin = .again (.compLoop (K.expr gens scope pos) d (.ref it) (.ref r) c.env) ∧ I (k + 1) m' mh')) ∧ ∀ k m mh, F k m mh → QL m mh
theorem TT.comprehension {K : Comp} {target iter : Expr} {ifs : List Expr} {gs : List Comprehension} {scope : Scope} {pos p : Pos} {use : Option (Value → Sem Unit)} {cl cells : List (PySem.Str × Addr)} {ns : List PySem.Str} {QC : Value → Loc → MH → Prop}
    (hn : CompNames scope ns) (hc : CompCells c.env scope cl cells) (hs : ∀ x, foldedSetIterable iter c.env x = Pure.pure x)
    (h : TE c m mh iter fun x m1 h1 => ∀ x', cn x' = x → TT c m1 h1 (pyIter x') fun v m2 h2 => ∃ (it : Addr) (src : Src) (raws : Xs) (mh0 : MH), v = .ref it ∧ src.P it 0 raws ∧ h2 = rawE raws ++ mh0 ∧
      ∀ r L', CompBlock (c.comp scope cl cells L') K (⟨target, iter, ifs, 0⟩ :: gs) scope pos target 0 it r src (ns.map fun x => (x, none)) ((r, K.acc0) :: mh0) (fun _ mh3 => match use with | none => QC (.ref r) m2 mh3 | some u => TT c m2 mh3 (u (.ref r)) (fun _ m4 mh4 => QC .none m4 mh4))) :
    TT c m mh (comprehension (K.expr (⟨target, iter, ifs, 0⟩ :: gs) scope pos) scope c.env p K.new false (eval iter c.env) use) QC := by
  intro base FS X A E s G N T R g
  refine wpAny_comprehension_free (g := ⟨target, iter, ifs, 0⟩) (gs := gs) (cl := cl) (by cases K <;> rfl) hs hc.1 hn.1 hn.2.2.2.1 ?_
  refine wpAny_mono (h base FS X A E s G N T R g) (fun x s1 => ?_) (fun _ _ e => e)
  refine fun hx => Goes.el hx fun m1 h1 g1 o1 R1 N1 k1 => ?_
  refine wpAny_mono (k1 x rfl base FS X A E s1 G N1 T R1 g1) (fun v s2 => ?_) (fun _ _ e => e)
  refine fun hx => Goes.el hx fun m2 h2 g2 o2 R2 N2 hz => ?_
  obtain ⟨it, src, raws, mh0, rfl, hP, rfl, hb⟩ := hz
  have hnew : wpAny (model c.prog c.w) A K.new (fun v s3 => ∃ r, v = .ref r ∧ s3.gens = #[] ∧ s3.os = s2.os ∧ Rel c.prog c.w base FS X c.env.locals s3.heap m2 ((r, K.acc0) :: (rawE raws ++ mh0))) E s2 := by
    cases K with
    | list elt =>
      show wpAny _ _ (newObj (.type "list") (.seq #[])) _ _ _
      exact wpAny_newObj_type ⟨_, rfl, g2, rfl, R2.push (mo := .list []) ⟨[], ⟨0, Heap.get?_push_size _ rfl⟩, rfl⟩⟩ (Nat.zero_le _)
    | dict k v =>
      show wpAny _ _ (newObj (.type "dict") (.dict #[])) _ _ _
      exact wpAny_newObj_type ⟨_, rfl, g2, rfl, R2.push (mo := .dict []) ⟨[], Heap.DictOf.new _, rfl⟩⟩ (Nat.zero_le _)
  refine wpAny_mono hnew (fun v s3 => ?_) (fun _ _ e => e)
  rintro ⟨r, rfl, g3, o3, R3⟩
  refine wpAny_newFunctionEnv hn.2.2.2.2 (fun x hx => by cases hx) (fun h4 hns hsb => ?_) hn.1
  have R4 := R3.perm (mh' := rawE raws ++ (r, K.acc0) :: mh0) List.perm_middle.symm
  have hk4 : ∀ b o, s3.heap.get? b = some o → h4.get? b = some o := fun b o e => hsb.extBut b o (Nat.ne_of_lt (Heap.lt_size e)) (Heap.get?_push_of_some _ e)
  obtain ⟨d, hd, R5⟩ := R4.enter (m0 := ns.map fun x => (x, none)) (Nat.le_refl _) hk4 hns (fun x ov hx => by
    obtain ⟨y, _, e⟩ := List.mem_map.mp hx
    cases e; rfl)
  obtain ⟨rest, I, J, F, B, ht, hI, hnx, hJ, hF⟩ := hb r s3.heap.objs.size
  have G5 : Good (c.comp scope cl cells s3.heap.objs.size) base ((c.env.locals, d) :: FS) A := G.comp
  have N5 : NamesOk (c.comp scope cl cells s3.heap.objs.size) (ns.map fun x => (x, none)) := by
    refine ⟨hn.1, ?_, fun p hp => ?_⟩
    · rw [List.map_map]; exact (List.map_id ns).symm ▸ hn.2.1
    · obtain ⟨y, hy, rfl⟩ := List.mem_map.mp hp
      obtain ⟨a, b⟩ := hn.2.2.1 y hy
      exact ⟨lookup_relabel_local a, b⟩
  have T5 : TabOk (c.comp scope cl cells s3.heap.objs.size) := ⟨fun p hp => (hc.2 p hp), T.envg, T.glob⟩
  have := comp_code (c := c.comp scope cl cells s3.heap.objs.size) (Comp.plain (K := K) (gens := ⟨target, iter, ifs, 0⟩ :: gs) (scope := scope) (pos := pos) (d := 0) (it := .ref it) (acc := .ref r) (env := compEnvC scope cl s3.heap.objs.size c.env) rfl) ht B hnx hJ hF hP hI A
    (fun x s' => compPost (model c.prog c.w) A E use (fun a s' => s'.gens = #[] ∧ s'.os = s.os ∧ ∃ m' mh', Rel c.prog c.w base FS X c.env.locals s'.heap m' mh' ∧ NamesOk c m' ∧ QC a m' mh') (.ref r) s3.heap.objs.size (.error x) s') { s3 with heap := h4, toks := s3.toks + 0 } G5 N5 T5 R5 g3
  refine codeAny_mono this fun rr s6 hr => ?_
  cases rr with
  | error x => exact hr
  | ok f =>
    obtain ⟨g6, o6, m6, mh6, R6, N6, q⟩ := hr
    obtain ⟨mr, hns6, _⟩ := R6.ns
    have eo : s6.os = s.os := o6.trans (o3.trans (o2.trans o1))
    cases use with
    | none => exact ⟨mr, hns6, fun h' hs' => ⟨g6, eo, m2, mh6, R4.leaveComp hd R6 hs'.extBut, N2, q⟩⟩
    | some u =>
      have R7 := R4.leave hd R6
      obtain ⟨o, es, ep, ho, hod, hk, hf⟩ := hns6
      have nt : NotTup o := notTup_of_dict hod
      have R8 : Rel c.prog c.w base FS X c.env.locals s6.heap m2 (rawE [(s3.heap.objs.size, o)] ++ mh6) := by
        refine { R7 with nd := ?_, objs := fun a mo q => ?_, ex := fun a ob q => ?_, fs := fun a d' q => ?_ }
        · refine List.nodup_cons.mpr ⟨fun q => ?_, R6.nd⟩
          obtain ⟨⟨a, mo⟩, hm, e⟩ := List.mem_map.mp q
          exact (R6.objs a mo hm).2.2 e
        · rcases List.mem_cons.mp q with e | q
          · cases e; exact ⟨ho, R6.above, Ne.symm (R6.fs _ d (.head _)).2.2.1⟩
          · exact R7.objs a mo q
        · obtain ⟨x, y, z, t⟩ := R7.ex a ob q
          refine ⟨x, y, z, fun q2 => ?_⟩
          rcases List.mem_cons.mp q2 with e | q2
          · exact (R6.ex a ob q).2.2.1 e
          · exact t q2
        · obtain ⟨x, y, z, t, u⟩ := R7.fs a d' q
          refine ⟨x, y, z, fun q2 => ?_, u⟩
          rcases List.mem_cons.mp q2 with e | q2
          · exact (R6.fs a d' (.tail _ q)).2.2.1 e
          · exact t q2
      refine wpAny_mono (TT.frame q base FS X A E s6 G N2 T R8 g6) (fun _ s7 => ?_) (fun _ _ e => e)
      refine fun hx => Goes.el hx fun m7 mh7 g7 o7 R9 N7 hz => ?_
      obtain ⟨mh8, rfl, q7⟩ := hz
      have hx : s7.heap.get? s3.heap.objs.size = some o := (R9.objs _ (.raw o) (.head _)).1
      refine ⟨mr, ⟨o, es, ep, hx, hod, hk, hf⟩, fun h' hs' => ⟨g7, o7.trans eo, m7, mh8, R9.lost hs'.extBut (fun ob q => by rw [hx] at q; cases q; exact nt), N7, q7⟩⟩
end
end
section
open PySem PySem.W PySem.Calls PyProof.Rows
section
variable {c : Sit} {m m' m0 : Loc} {mh mh' mh0 : MH} {α β : Type}
variable {Q : Value → Loc → MH → Prop} {QB : Bool → Loc → MH → Prop} {QF : Flow → Loc → MH → Prop} {QL : Loc → MH → Prop}

/-! what is gone through, at a value -/
noncomputable def TSrc (c : Sit) (m : Loc) (mh : MH) (x : Value) (QS : Addr → Src → Loc → MH → Prop) : Prop :=
  ∀ x', cn x' = x → TT c m mh (pyIter x') fun v m2 h2 => ∃ (it : Addr) (src : Src) (raws : Xs) (mh0 : MH), v = .ref it ∧ src.P it 0 raws ∧ h2 = rawE raws ++ mh0 ∧ QS it src m2 mh0
variable {QS : Addr → Src → Loc → MH → Prop}
theorem TSrc.list {a : Addr} {xs : List Value} (ha : LAt c mh a xs) (h : ∀ it, QS it (.list a) m mh) : TSrc c m mh (.ref a) QS := by
  intro x' e base FS X A E s G N T R g
  rw [cn_ref e]
  obtain ⟨vs, pl, _⟩ := R.lat G ha
  exact wpAny_pyIter_list pl.isList ⟨g, rfl, m, _, R.push (mo := .raw _) (Heap.get?_push_size _ rfl), N, _, .list a, [_], mh, rfl, ⟨_, rfl, rfl, rfl⟩, rfl, h _⟩
theorem TSrc.range {a : Addr} {n : Nat} (ha : MHas mh a (.range 0 n 1)) (hn : n ≤ slim) (h : ∀ it, QS it (.range 0 n 1) m mh) : TSrc c m mh (.ref a) QS := by
  intro x' e base FS X A E s G N T R g
  rw [cn_ref e]
  obtain ⟨t, u, v, hr⟩ := (R.objs _ _ ha.mem).1
  have hsl : (n : Int) ≤ 2 ^ 20 := by exact_mod_cast hn
  have hz : Builtin.Range.rangeSize 0 n 1 = n := by rw [PySem.rangeSize_one]; split <;> omega
  refine wpAny_pyIter_range hr (PySem.small_one (by omega) (by omega) (by omega) (by omega)) ⟨g, rfl, m, _, R.push (mo := .raw _) (Heap.get?_push_size _ rfl), N, _, .range 0 n 1, [(s.heap.objs.size, { cls := .type "range_iterator", data := .fields #[rawInt 0, rawInt (Builtin.Range.rangeSize 0 n 1), rawInt 1] })], mh, rfl, ?_, rfl, h _⟩
  show [_] = [_]
  rw [hz]; simp
theorem TSrc.dict {d : Addr} {kvs : List (PySem.Str × Value)} (ha : MHas mh d (.dict kvs)) (h : ∀ ep, ∃ mh', MPut mh d (.dict kvs) (.fdict kvs ep) mh' ∧ ∀ it, QS it (.dict d kvs ep) m mh') : TSrc c m mh (.ref d) QS := by
  intro x' e base FS X A E s G N T R g
  rw [cn_ref e]
  obtain ⟨kv', da, e1⟩ := R.dict ha
  obtain ⟨ep, dt⟩ := da.dictAt
  obtain ⟨mh', hp, hi⟩ := h ep
  have R1 : Rel c.prog c.w base FS X c.env.locals s.heap m mh' := R.set hp (Heap.ExtBut.refl _ _) (dict_notTup da) ⟨kv', dt, e1⟩
  exact wpAny_pyIter_dict (R.notSys G.lim ha) dt ⟨g, rfl, m, _, R1.push (mo := .raw _) (Heap.get?_push_size _ rfl), N, _, .dict d kvs ep, [_], mh', rfl, ⟨_, rfl, rfl, by rw [← e1, List.length_map]; rfl⟩, rfl, hi _⟩
theorem TSrc.str {x : PySem.Str} (ha : x.cps.all (· < 128) = true) (h : ∀ it t, QS it (.str x t) m mh) : TSrc c m mh (.str x 0) QS := by
  intro x' e base FS X A E s G N T R g
  obtain ⟨t, rfl⟩ := cn_str e
  exact wpAny_pyIter_ascii ha ⟨g, rfl, m, _, R.push (mo := .raw _) (Heap.get?_push_size _ rfl), N, _, .str x t, [_], mh, rfl, ⟨_, rfl, rfl, rfl⟩, rfl, h _ _⟩

/-! a turn's rest -/
/-- the tree of a turn's rest, by the clauses alone -/
noncomputable def restOf (K : Comp) (gens : List Comprehension) (scope : Scope) (pos : Pos) (d : Nat) (it r : Addr) (env : Env) : Sem PySem.Fin :=
  match gens[d]?, gens[d + 1]? with
  | some ⟨_, _, [], _⟩, none => K.emit (.ref r) env >>= fun _ => again (.compLoop (K.expr gens scope pos) d (.ref it) (.ref r) env)
  | some ⟨_, _, [cnd], _⟩, none => testTree cnd env >>= fun ok => if ok = true then K.emit (.ref r) env >>= fun _ => again (.compLoop (K.expr gens scope pos) d (.ref it) (.ref r) env) else again (.compLoop (K.expr gens scope pos) d (.ref it) (.ref r) env)
  | some ⟨_, _, [], _⟩, some ⟨_, iter', _, _⟩ => eval iter' env >>= fun x => PySem.standAt iter'.pos >>= fun _ => foldedSetIterable iter' env x >>= fun x => PySem.holding [x] (pyIter x) >>= fun it' => runOwn (.compStart (K.expr gens scope pos) (d + 1) it' (.ref r) env) env >>= fun _ => again (.compLoop (K.expr gens scope pos) d (.ref it) (.ref r) env)
  | _, _ => unsupported "none"
noncomputable def TRun (c : Sit) (m : Loc) (mh : MH) (K : Comp) (gens : List Comprehension) (scope : Scope) (pos : Pos) (d : Nat) (it r : Addr) (QI : Loc → MH → Prop) : Prop :=
  TT c m mh (restOf K gens scope pos d it r c.env) (fun fin m' mh' => fin = .again (.compLoop (K.expr gens scope pos) d (.ref it) (.ref r) c.env) ∧ QI m' mh')
/-- clauses that we know how to go through: at most one test, and that at the last alone -/
noncomputable def okAt (gens : List Comprehension) (d : Nat) (target : Expr) : Prop :=
  match gens[d]?, gens[d + 1]? with
  | some ⟨t, _, [], a⟩, none => t = target ∧ a = 0
  | some ⟨t, _, [_], a⟩, none => t = target ∧ a = 0
  | some ⟨t, _, [], a⟩, some ⟨_, _, _, a'⟩ => t = target ∧ a = 0 ∧ a' = 0
  | _, _ => False
theorem okAt.turn {K : Comp} {gens : List Comprehension} {scope : Scope} {pos : Pos} {d : Nat} {it r : Addr} {env : Env} {target : Expr} (h : okAt gens d target) : TurnRest (K.expr gens scope pos) d (.ref it) (.ref r) env target (restOf K gens scope pos d it r env) := by
  unfold okAt at h
  unfold restOf
  split at h
  · rename_i h1 h2
    obtain ⟨rfl, rfl⟩ := h
    exact turn_last h1 h2
  · rename_i h1 h2
    obtain ⟨rfl, rfl⟩ := h
    exact turn_test h1 h2
  · rename_i h1 h2
    obtain ⟨rfl, rfl, rfl⟩ := h
    exact turn_next h1 h2
  · cases h
noncomputable def TEm (c : Sit) (m : Loc) (mh : MH) (K : Comp) (r : Addr) (QI : Loc → MH → Prop) : Prop := TT c m mh (K.emit (.ref r) c.env) (fun _ => QI)
section
variable {K : Comp} {gens : List Comprehension} {scope : Scope} {pos : Pos} {d : Nat} {it r : Addr} {target iter : Expr} {QI : Loc → MH → Prop}
theorem TRun.last {a : Nat} (h : TEm c m mh K r QI) (h1 : gens[d]? = some ⟨target, iter, [], a⟩) (h2 : gens[d + 1]? = none) : TRun c m mh K gens scope pos d it r QI := by
  unfold TRun restOf
  rw [h1, h2]
  exact TT.bind (TT.mono h fun _ m1 mh1 k => TT.pure ⟨rfl, k⟩)
theorem TRun.test {a : Nat} {cnd : Expr} (h : TB c m mh cnd fun b m1 h1 => (b = true → TEm c m1 h1 K r QI) ∧ (b = false → QI m1 h1)) (h1 : gens[d]? = some ⟨target, iter, [cnd], a⟩) (h2 : gens[d + 1]? = none) : TRun c m mh K gens scope pos d it r QI := by
  unfold TRun restOf
  rw [h1, h2]
  refine TT.bind (TT.mono (TT.test h) fun b m1 mh1 k => ?_)
  cases b with
  | true => exact TT.bind (TT.mono (k.1 rfl) fun _ m1 mh1 k => TT.pure ⟨rfl, k⟩)
  | false => exact TT.pure ⟨rfl, k.2 rfl⟩
theorem TRun.next {a a' : Nat} {target' iter' : Expr} {ifs' : List Expr} (h1 : gens[d]? = some ⟨target, iter, [], a⟩) (h2 : gens[d + 1]? = some ⟨target', iter', ifs', a'⟩) (ha : a' = 0) (hs : ∀ x, foldedSetIterable iter' c.env x = Pure.pure x)
    (h : TE c m mh iter' fun x m1 h1 => TSrc c m1 h1 x fun it' src m2 mh2 => CompBlock c K gens scope pos target' (d + 1) it' r src m2 mh2 QI) : TRun c m mh K gens scope pos d it r QI := by
  unfold TRun restOf
  rw [h1, h2]
  subst ha
  refine TT.bind (TT.mono h fun x m1 mh1 k => TT.bind (TT.standAt ?_))
  rw [hs]
  refine TT.bind (TT.pure (TT.bind (TT.holding (TT.mono (k x rfl) fun v m2 mh2 k2 => TT.bind ?_))))
  obtain ⟨it', src, raws, mh0, rfl, hP, rfl, rest, I, J, F, B, ht, hI, hn, hJ, hF⟩ := k2
  intro base FS X A E s G N T R g
  refine wpAny_runOwn ?_
  have eA : A.mark none = A := by cases A; rfl
  rw [eA]
  have := comp_code (c := c) (Comp.plain (K := K) (gens := gens) (scope := scope) (pos := pos) (d := d + 1) (it := .ref it') (acc := .ref r) (env := c.env) h2) ht B hn hJ hF hP hI A (fun e s' => cameBackBy (model c.prog c.w) A c.env E e s') s G N T R g
  refine codeAny_mono this fun rr s6 hr => ?_
  cases rr with
  | error x => exact hr
  | ok f =>
    obtain ⟨g6, o6, m6, mh6, R6, N6, q⟩ := hr
    exact ⟨g6, o6, m6, mh6, R6, N6, TT.pure ⟨rfl, q⟩⟩
/-! the block by its source -/
theorem CompBlock.list {a : Addr} (I : Nat → Loc → MH → Prop) (B : Nat) (ok : okAt gens d target) (h0 : I 0 m0 mh0)
    (hs : ∀ k m mh, I k m mh → ∃ xs, LAt c mh a xs ∧ (xs[k]? = none → QL m mh) ∧ ∀ x, xs[k]? = some x → k < B ∧ TA c m mh target x fun m1 h1 => TRun c m1 h1 K gens scope pos d it r (I (k + 1)))
    (ht : Plain target = true := by rfl) : CompBlock c K gens scope pos target d it r (.list a) m0 mh0 QL :=
  ⟨_, I, fun k m mh => k < B ∧ TRun c m mh K gens scope pos d it r (I (k + 1)), fun _ => QL, B, ok.turn, h0,
    Nexts.of_list (fun k m mh hi => let ⟨xs, h1, h2, h3⟩ := hs k m mh hi; ⟨xs, h1, h2, fun x q v' e => TT.mono ((h3 x q).2 v' e) fun _ _ _ z => ⟨(h3 x q).1, z⟩⟩) (letOwnedL ht), fun _ _ _ j => j, fun _ _ _ f => f⟩
theorem CompBlock.range {n : Nat} {x : PySem.Str} {p : Pos} (I : Nat → Loc → MH → Prop) (ok : okAt gens d (.Name x p)) (h0 : I 0 m0 mh0)
    (hs : ∀ k m mh, I k m mh → (n ≤ k → QL m mh) ∧ (k < n → TA c m mh (.Name x p) (.int k 0) fun m1 h1 => TRun c m1 h1 K gens scope pos d it r (I (k + 1)))) :
    CompBlock c K gens scope pos (.Name x p) d it r (.range 0 n 1) m0 mh0 QL :=
  ⟨_, I, fun k m mh => k < n ∧ TRun c m mh K gens scope pos d it r (I (k + 1)), fun _ => QL, n, ok.turn, h0,
    Nexts.of_range (fun k m mh hi => let ⟨h1, h2⟩ := hs k m mh hi; ⟨fun q => h1 (by omega), fun q v' e => TT.mono (h2 (by omega) v' (by rw [e]; simp)) fun _ _ _ z => ⟨by omega, z⟩⟩), fun _ _ _ j => j, fun _ _ _ f => f⟩
theorem CompBlock.dict {dd : Addr} {kvs : List (PySem.Str × Value)} {ep : Nat} {x : PySem.Str} {p : Pos} (I : Nat → Loc → MH → Prop) (ok : okAt gens d (.Name x p)) (h0 : I 0 m0 mh0)
    (hs : ∀ k m mh, I k m mh → MHas mh dd (.fdict kvs ep) ∧ (kvs[k]? = none → QL m mh) ∧ ∀ y v, kvs[k]? = some (y, v) → TA c m mh (.Name x p) (.str y 0) fun m1 h1 => TRun c m1 h1 K gens scope pos d it r (I (k + 1))) :
    CompBlock c K gens scope pos (.Name x p) d it r (.dict dd kvs ep) m0 mh0 QL :=
  ⟨_, I, fun k m mh => k < kvs.length ∧ TRun c m mh K gens scope pos d it r (I (k + 1)), fun _ => QL, kvs.length, ok.turn, h0,
    Nexts.of_dict (fun k m mh hi => let ⟨h1, h2, h3⟩ := hs k m mh hi; ⟨h1, h2, fun y v q v' e => TT.mono (h3 y v q v' e) fun _ _ _ z => ⟨(List.getElem?_eq_some_iff.mp q).1, z⟩⟩), fun _ _ _ j => j, fun _ _ _ f => f⟩
theorem CompBlock.str {y : PySem.Str} {t : Tok} {x : PySem.Str} {p : Pos} (I : Nat → Loc → MH → Prop) (ok : okAt gens d (.Name x p)) (h0 : I 0 m0 mh0)
    (hs : ∀ k m mh, I k m mh → (y.cps[k]? = none → QL m mh) ∧ ∀ ch, y.cps[k]? = some ch → TA c m mh (.Name x p) (.str ⟨#[ch]⟩ 0) fun m1 h1 => TRun c m1 h1 K gens scope pos d it r (I (k + 1))) :
    CompBlock c K gens scope pos (.Name x p) d it r (.str y t) m0 mh0 QL :=
  ⟨_, I, fun k m mh => k < y.cps.size ∧ TRun c m mh K gens scope pos d it r (I (k + 1)), fun _ => QL, y.cps.size, ok.turn, h0,
    Nexts.of_str (fun k m mh hi => let ⟨h1, h2⟩ := hs k m mh hi; ⟨h1, fun ch q v' e => TT.mono (h2 ch q v' e) fun _ _ _ z => ⟨(Array.getElem?_eq_some_iff.mp q).1, z⟩⟩), fun _ _ _ j => j, fun _ _ _ f => f⟩
end
/-! an element is put in -/
noncomputable def TApp (c : Sit) (m : Loc) (mh : MH) (r : Addr) (v : Value) (QI : Loc → MH → Prop) : Prop := TCall c m mh (.builtin "list.append") [.ref r, v] [] fun _ m' mh' => QI m' mh'
theorem TApp.mk {r : Addr} {xs : List Value} {v : Value} (ha : MPut mh r (.list xs) (.list (xs ++ [v])) mh') (hs : xs.length ≤ slim) (h : QL m mh') : TApp c m mh r v QL := TCall.append ha hs h
theorem TEm.list {elt : Expr} {r : Addr} (h : TE c m mh elt fun v m1 h1 => TApp c m1 h1 r v QL) : TEm c m mh (.list elt) r QL := by
  show TT c m mh (emitL elt (.ref r) c.env) _
  unfold emitL
  exact TT.bind (TT.mono h fun v m1 h1 k => TT.bind (TT.mono (k (.builtin "list.append") [.ref r, v] [] rfl rfl rfl) fun _ m2 h2 k2 => TT.pure k2))
noncomputable def TDSet (c : Sit) (m : Loc) (mh : MH) (r : Addr) (k v : Value) (QI : Loc → MH → Prop) : Prop := ∀ k' v', cn k' = k → cn v' = v → TT c m mh (dictSet r k' v') fun _ => QI
theorem TEm.dict {k v : Expr} {r : Addr} (h : TE c m mh k fun kv m1 h1 => TE c m1 h1 v fun vv m2 h2 => TDSet c m2 h2 r kv vv QL) : TEm c m mh (.dict k v) r QL := by
  show TT c m mh (emitD k v (.ref r) c.env) _
  unfold emitD
  exact TT.bind (TT.mono h fun kv m1 h1 q => TT.bind (TT.holding (TT.mono q fun vv m2 h2 q2 => TT.at_ (TT.holding (q2 kv vv rfl rfl)))))
theorem TDSet.str {r : Addr} {kvs : List (PySem.Str × Value)} {x : PySem.Str} {v : Value} (ha : MPut mh r (.dict kvs) (.dict (vPut kvs x v)) mh') (hs : kvs.length ≤ slim) (h : QL m mh') : TDSet c m mh r (.str x 0) v QL := by
  intro k' v' ek ev base FS X A E s G N T R g
  obtain ⟨u, rfl⟩ := cn_str ek
  obtain ⟨kv', d, e⟩ := R.dict (.of_mem ha.has)
  refine wpAny_dictSet_pairs (strKind_is _ _ x u) d (fun h' d' hs' => ⟨g, rfl, m, mh', R.set ha hs'.extBut (dict_notTup d) ⟨_, d', ?_⟩, N, h⟩) ?_
  · rw [vPut_map, e, ev]
  · rw [← e, List.length_map] at hs; exact Nat.le_trans hs slim_le

/-! the whole comprehension -/
theorem TE.listComp {elt target iter : Expr} {ifs : List Expr} {gs : List Comprehension} {scope : Scope} {pos : Pos} (cl cells : List (PySem.Str × Addr)) (ns : List PySem.Str) (hn : CompNames scope ns) (hc : CompCells c.env scope cl cells) (hs : ∀ x, foldedSetIterable iter c.env x = Pure.pure x)
    (h : TE c m mh iter fun x m1 h1 => TSrc c m1 h1 x fun it src m2 mh2 => ∀ r L', CompBlock (c.comp scope cl cells L') (.list elt) (⟨target, iter, ifs, 0⟩ :: gs) scope pos target 0 it r src (ns.map fun x => (x, Option.none)) ((r, .list []) :: mh2) (fun _ mh3 => Q (.ref r) m2 mh3)) :
    TE c m mh (.ListComp elt (⟨target, iter, ifs, 0⟩ :: gs) scope pos) Q := by
  show TT c m mh (comprehension (Comp.expr (.list elt) (⟨target, iter, ifs, 0⟩ :: gs) scope pos) scope c.env _ (Comp.new (.list elt)) false (eval iter c.env) Option.none) _
  refine TT.comprehension hn hc hs (TT.mono h fun x m1 h1 k x' e => TT.mono (k x' e) fun v m2 h2 k2 => ?_)
  obtain ⟨it, src, raws, mh0, e1, hP, e2, q⟩ := k2
  exact ⟨it, src, raws, mh0, e1, hP, e2, q⟩
/-- the comprehension's value stored at once -/
theorem TS1.assignList {elt target iter t : Expr} {ifs : List Expr} {gs : List Comprehension} {scope : Scope} {pos p : Pos} (cl cells : List (PySem.Str × Addr)) (ns : List PySem.Str) (hw : swapsWith (.ListComp elt (⟨target, iter, ifs, 0⟩ :: gs) scope pos) (some t) p.line c.env = Pure.pure true)
    (he : assignEach [t] c.env = [(false, PySem.assign t c.env)]) (hn : CompNames scope ns) (hc : CompCells c.env scope cl cells) (hs : ∀ x, foldedSetIterable iter c.env x = Pure.pure x)
    (h : TE c m mh iter fun x m1 h1 => TSrc c m1 h1 x fun it src m2 mh2 => ∀ r L', CompBlock (c.comp scope cl cells L') (.list elt) (⟨target, iter, ifs, 0⟩ :: gs) scope pos target 0 it r src (ns.map fun x => (x, Option.none)) ((r, .list []) :: mh2) (fun _ mh3 => TA c m2 mh3 t (.ref r) fun m4 mh4 => QF .next m4 mh4)) :
    TS1 c m mh (.Assign [t] (.ListComp elt (⟨target, iter, ifs, 0⟩ :: gs) scope pos) p) QF := by
  show TT c m mh (exec (.Assign [t] (.ListComp elt (⟨target, iter, ifs, 0⟩ :: gs) scope pos) p) c.env) _
  rw [exec_Assign_arm]
  refine TT.bind (TT.standAt ?_)
  show TT c m mh (swapsWith (.ListComp elt (⟨target, iter, ifs, 0⟩ :: gs) scope pos) (some t) p.line c.env >>= _) _
  rw [hw]
  refine TT.bind (TT.pure ?_)
  rw [if_pos rfl, he]
  refine TT.bind ?_
  show TT c m mh (comprehension (Comp.expr (.list elt) (⟨target, iter, ifs, 0⟩ :: gs) scope pos) scope c.env _ (Comp.new (.list elt)) false (eval iter c.env) (some fun v => assignAll v [PySem.assign t c.env]) >>= fun _ => Pure.pure ()) _
  refine TT.bind (TT.comprehension hn hc hs (TT.mono h fun x m1 h1 k x' e => TT.mono (k x' e) fun v m2 h2 k2 => ?_))
  obtain ⟨it, src, raws, mh0, e1, hP, e2, q⟩ := k2
  refine ⟨it, src, raws, mh0, e1, hP, e2, fun r L' => ?_⟩
  obtain ⟨rest, I, J, F, B, ht, hI, hn, hJ, hF⟩ := q r L'
  exact ⟨rest, I, J, F, B, ht, hI, hn, hJ, fun k m mh f => TT.mono (hF k m mh f (.ref r) rfl) fun _ m4 mh4 z => TT.pure (TT.pure z)⟩
theorem TS1.assignDict {k v target iter t : Expr} {ifs : List Expr} {gs : List Comprehension} {scope : Scope} {pos p : Pos} (cl cells : List (PySem.Str × Addr)) (ns : List PySem.Str) (hw : swapsWith (.DictComp k v (⟨target, iter, ifs, 0⟩ :: gs) scope pos) (some t) p.line c.env = Pure.pure true)
    (he : assignEach [t] c.env = [(false, PySem.assign t c.env)]) (hn : CompNames scope ns) (hc : CompCells c.env scope cl cells) (hs : ∀ x, foldedSetIterable iter c.env x = Pure.pure x)
    (h : TE c m mh iter fun x m1 h1 => TSrc c m1 h1 x fun it src m2 mh2 => ∀ r L', CompBlock (c.comp scope cl cells L') (.dict k v) (⟨target, iter, ifs, 0⟩ :: gs) scope pos target 0 it r src (ns.map fun x => (x, Option.none)) ((r, .dict []) :: mh2) (fun _ mh3 => TA c m2 mh3 t (.ref r) fun m4 mh4 => QF .next m4 mh4)) :
    TS1 c m mh (.Assign [t] (.DictComp k v (⟨target, iter, ifs, 0⟩ :: gs) scope pos) p) QF := by
  show TT c m mh (exec (.Assign [t] (.DictComp k v (⟨target, iter, ifs, 0⟩ :: gs) scope pos) p) c.env) _
  rw [exec_Assign_arm]
  refine TT.bind (TT.standAt ?_)
  show TT c m mh (swapsWith (.DictComp k v (⟨target, iter, ifs, 0⟩ :: gs) scope pos) (some t) p.line c.env >>= _) _
  rw [hw]
  refine TT.bind (TT.pure ?_)
  rw [if_pos rfl, he]
  refine TT.bind ?_
  show TT c m mh (comprehension (Comp.expr (.dict k v) (⟨target, iter, ifs, 0⟩ :: gs) scope pos) scope c.env _ (Comp.new (.dict k v)) false (eval iter c.env) (some fun v => assignAll v [PySem.assign t c.env]) >>= fun _ => Pure.pure ()) _
  refine TT.bind (TT.comprehension hn hc hs (TT.mono h fun x m1 h1 k x' e => TT.mono (k x' e) fun v m2 h2 k2 => ?_))
  obtain ⟨it, src, raws, mh0, e1, hP, e2, q⟩ := k2
  refine ⟨it, src, raws, mh0, e1, hP, e2, fun r L' => ?_⟩
  obtain ⟨rest, I, J, F, B, ht, hI, hn, hJ, hF⟩ := q r L'
  exact ⟨rest, I, J, F, B, ht, hI, hn, hJ, fun k m mh f => TT.mono (hF k m mh f (.ref r) rfl) fun _ m4 mh4 z => TT.pure (TT.pure z)⟩
end
end
section
open PySem PySem.W PySem.Calls PyProof.Rows
section
variable {c : Sit} {m m' m0 : Loc} {mh mh' mh0 : MH} {α β : Type}
variable {Q : Value → Loc → MH → Prop} {QB : Bool → Loc → MH → Prop} {QF : Flow → Loc → MH → Prop} {QL : Loc → MH → Prop}
variable {prog : Program} {w : World} {base : Heap} {FS : FSt} {X : Xs} {L L' : Addr} {h h' : Heap}

/-! facts dropped or put in another order -/
noncomputable def Drop (mh : MH) (P : MH → Prop) : Prop := ∃ l mh', mh.Perm l ∧ mh'.Sublist l ∧ P mh'
theorem Drop.sub {P : MH → Prop} (h : P mh') (s : mh'.Sublist mh) : Drop mh P := ⟨mh, mh', .refl _, s, h⟩
theorem Drop.keep {P : MH → Prop} (h : P mh) : Drop mh P := ⟨mh, mh, .refl _, .refl _, h⟩
theorem Drop.rel {P : MH → Prop} {m : Loc} (d : Drop mh P) (R : Rel prog w base FS X L h m mh) : ∃ mh', Rel prog w base FS X L h m mh' ∧ P mh' := by
  obtain ⟨l, mh', p, s, q⟩ := d
  have R' := R.perm p
  exact ⟨mh', R'.weak (fun _ q => q) (fun _ q => s.subset q) (R'.nd.sublist (s.map _)), q⟩
theorem TT.drop {t : Sem α} {QT : α → Loc → MH → Prop} (h : TT c m mh t (fun a m' mh' => Drop mh' (QT a m'))) : TT c m mh t QT := by
  intro base FS X A E s G N T R g
  refine wpAny_mono (h base FS X A E s G N T R g) (fun a s' => ?_) (fun _ _ e => e)
  refine fun hx => Goes.el hx fun m1 mh1 g1 o1 R1 N1 d => ?_
  obtain ⟨mh2, R2, q⟩ := d.rel R1
  exact ⟨g1, o1, m1, mh2, R2, N1, q⟩
theorem TS.drop {ss : List Stmt} (h : TS c m mh ss (fun a m' mh' => Drop mh' (QF a m'))) : TS c m mh ss QF := TT.drop h
theorem TCall.drop {f : Value} {as : List Value} {kw : List (PySem.Str × Value)} (h : TCall c m mh f as kw (fun a m' mh' => Drop mh' (Q a m'))) : TCall c m mh f as kw Q :=
  fun f' as' kw' ef ea ek => TT.drop (h f' as' kw' ef ea ek)

/-! what type a value has -/
noncomputable def TyIs (c : Sit) (m : Loc) (mh : MH) (o : Value) (T : String) : Prop :=
  ∀ base FS X A (s : Shared), Good c base FS A → Rel c.prog c.w base FS X c.env.locals s.heap m mh → ∀ o', cn o' = o → s.TypeIs o' T
theorem TyIs.list {a : Addr} {xs : List Value} (ha : LAt c mh a xs) : TyIs c m mh (.ref a) "list" := by
  intro base FS X A s G R o' e
  rw [cn_ref e]
  obtain ⟨vs, pl, _⟩ := R.lat G ha
  exact pl.isList.typeIs
theorem TyIs.dict {a : Addr} {mo : MO} {kvs : List (PySem.Str × Value)} (ha : MHas mh a mo) (hd : IsD mo kvs) : TyIs c m mh (.ref a) "dict" := by
  intro base FS X A s G R o' e
  rw [cn_ref e]
  obtain ⟨vs, d, _⟩ := R.dictD ha hd
  exact d.typeIs
theorem Rel.tdict {a : Addr} {kvs : List (List Key × Value)} (R : Rel prog w base FS X L h m mh) (ha : MHas mh a (.tdict kvs)) : ∃ kv' : List (List Key × Addr × Value), h.DictOfH (tupleKind (keyKind prog w)) a kv' ∧ kv'.map (fun p => (p.1, cn p.2.2)) = kvs := (R.objs _ _ ha.mem).1
theorem TyIs.tdict {a : Addr} {kvs : List (List Key × Value)} (ha : MHas mh a (.tdict kvs)) : TyIs c m mh (.ref a) "dict" := by
  intro base FS X A s G R o' e
  rw [cn_ref e]
  obtain ⟨vs, d, _⟩ := R.tdict ha
  exact d.typeIs
theorem TyIs.str {x : PySem.Str} : TyIs c m mh (.str x 0) "str" := by
  intro base FS X A s G R o' e
  obtain ⟨u, rfl⟩ := cn_str e
  exact typeIs_str s x u

/-! subscripts -/
noncomputable def TSub (c : Sit) (m : Loc) (mh : MH) (o i : Value) (Q : Value → Loc → MH → Prop) : Prop :=
  ∃ T id, TyIs c m mh o T ∧ typeLookup (.type T) "__getitem__" = Pure.pure (some (.builtin id)) ∧ TItem c m mh o i Q
theorem TSub.list {a : Addr} {xs : List Value} {i : Value} (ha : LAt c mh a xs) (h : TItem c m mh (.ref a) i Q) : TSub c m mh (.ref a) i Q := ⟨_, _, .list ha, PySem.F.slot_list_getitem.lookup, h⟩
theorem TSub.dict {a : Addr} {mo : MO} {kvs : List (PySem.Str × Value)} {i : Value} (ha : MHas mh a mo) (hd : IsD mo kvs) (h : TItem c m mh (.ref a) i Q) : TSub c m mh (.ref a) i Q := ⟨_, _, .dict ha hd, PySem.F.slot_dict_getitem.lookup, h⟩
theorem TSub.tdict {a : Addr} {kvs : List (List Key × Value)} {i : Value} (ha : MHas mh a (.tdict kvs)) (h : TItem c m mh (.ref a) i Q) : TSub c m mh (.ref a) i Q := ⟨_, _, .tdict ha, PySem.F.slot_dict_getitem.lookup, h⟩
theorem TSub.str {x : PySem.Str} {i : Value} (h : TItem c m mh (.str x 0) i Q) : TSub c m mh (.str x 0) i Q := ⟨_, _, .str, PySem.F.slot_str_getitem.lookup, h⟩
theorem TE.sub {value slice : Expr} {pos : Pos} (h : TE c m mh value fun o m1 h1 => TE c m1 h1 slice fun i m2 h2 => TSub c m2 h2 o i Q) (hs : ∀ o i, subscripted slice false o i = PySem.operate [o, i] (getItem o i) := by intro _ _; rfl) : TE c m mh (.Subscript value slice pos) Q := by
  show TT c m mh (eval (.Subscript value slice pos) c.env) _
  rw [eval_Subscript]
  refine TT.bind (TT.mono h fun o m1 h1 k => TT.bind (TT.holding (TT.mono k fun i m2 h2 k2 => TT.at_ ?_)))
  obtain ⟨Ty, id, ht, hl, hi⟩ := k2
  intro base FS X A E s G N T R g
  have hT := ht base FS X A s G R o rfl
  rw [getitemInPython_of_ne hT.not_modules]
  refine wpAny_bind (wpAny_bind (wpAny_specialOf hT hl (wpAny_pure ?_)))
  rw [hs]
  refine TT.bind (t := PySem.operate [o, i] (getItem o i)) (TT.operate (TT.mono (hi o i rfl rfl) fun v m3 h3 k3 => TT.bind ?_)) base FS X A E s G N T R g
  exact fun base FS X A E s G N T R g => wpAny_letTemporaryGo ⟨g, rfl, m3, h3, R, N, TT.pure k3⟩
/-! slices -/
noncomputable def TPart (c : Sit) (m : Loc) (mh : MH) (e : Option Expr) (Q : Option Int → Loc → MH → Prop) : Prop := TT c m mh (evalPart e c.env) (fun v m' mh' => ∃ o, IsPart v o ∧ Q o m' mh')
theorem TPart.none {QP : Option Int → Loc → MH → Prop} (h : QP Option.none m mh) : TPart c m mh Option.none QP := TT.pure ⟨_, .none, h⟩
theorem TPart.some {e : Expr} {QP : Option Int → Loc → MH → Prop} (h : TE c m mh e fun v m1 h1 => ∃ i, v = .int i 0 ∧ QP (Option.some i) m1 h1) : TPart c m mh (Option.some e) QP := by
  show TT c m mh (eval e c.env) _
  refine TT.mono h fun v m1 h1 ⟨i, e, k⟩ => ?_
  obtain ⟨u, rfl⟩ := cn_int e
  exact ⟨_, .int _ _, k⟩
/-- the part of a list from a to b -/
noncomputable def cut (xs : List α) (lo hi : Option Int) : List α := (xs.drop (lo.elim 0 (clipAt xs.length))).take (hi.elim xs.length (clipAt xs.length) - lo.elim 0 (clipAt xs.length))
theorem cut_map {f : α → β} (xs : List α) (lo hi : Option Int) : cut (xs.map f) lo hi = (cut xs lo hi).map f := by
  unfold cut; rw [List.length_map, List.map_take, List.map_drop]
theorem cut_to (xs : List α) (b : Nat) : cut xs none (some (b : Int)) = xs.take b := by
  unfold cut
  simp only [Option.elim, clipAt_nat, List.drop_zero, Nat.sub_zero]
  rw [List.take_eq_take_iff]; omega
theorem cut_from (xs : List α) (a : Nat) : cut xs (some (a : Int)) none = xs.drop a := by
  unfold cut
  simp only [Option.elim, clipAt_nat]
  rcases Nat.le_total a xs.length with h | h
  · rw [Nat.min_eq_left h, List.take_of_length_le (by simp)]
  · rw [Nat.min_eq_right h, List.drop_of_length_le h, List.drop_of_length_le (Nat.le_refl _)]; simp
theorem TE.cutL {value : Expr} {lower upper : Option Expr} {p pos : Pos} (h : TE c m mh value fun o m1 h1 => TPart c m1 h1 lower fun lo m2 h2 => TPart c m2 h2 upper fun hi m3 h3 =>
      ∃ a xs, o = .ref a ∧ LAt c h3 a xs ∧ xs.length ≤ slim ∧ ∀ r, Q (.ref r) m3 ((r, .list (cut xs lo hi)) :: h3)) : TE c m mh (.Subscript value (.Slice lower upper Option.none p) pos) Q := by
  intro base FS X A E s G N T R g
  show wpAny _ A (eval _ _) _ E s
  rw [eval_Subscript]
  refine TT.bind (c := c) (m := m) (mh := mh) (t := eval value c.env) (TT.mono h fun o m1 h1 k => ?_) base FS X A E s G N T R g
  have sl : TT c m1 h1 (eval (.Slice lower upper Option.none p) c.env) (fun v m3 h3 => ∃ (d : Addr) (lo hi : Option Int), v = .ref d ∧ ∃ vl vu o' h0, IsPart vl lo ∧ IsPart vu hi ∧ h3 = (d, .raw { cls := .type "slice", data := .fields #[vl, vu, .none] }) :: h0 ∧ o' = cn o ∧ ∃ a xs, o' = .ref a ∧ LAt c h0 a xs ∧ xs.length ≤ slim ∧ ∀ r, Q (.ref r) m3 ((r, .list (cut xs lo hi)) :: h0)) := by
    rw [arm_eval_Slice]
    refine TT.bind (TT.mono k fun vl m2 h2 ⟨lo, pl, k2⟩ => TT.bind (TT.holding (TT.mono k2 fun vu m3 h3 ⟨hi, pu, k3⟩ => TT.bind (TT.holding ?_))))
    refine TT.pure (a := Value.none) (Q := fun vs m4 h4 => _) ?_
    intro base FS X A E s G N T R g
    exact wpAny_newObj_type ⟨g, rfl, m3, _, R.push (mo := .raw _) (Heap.get?_push_size _ rfl), N, _, lo, hi, rfl, vl, vu, _, _, pl, pu, rfl, rfl, k3⟩
  refine TT.bind (TT.holding (TT.mono sl fun i m3 h3 k3 => TT.at_ ?_))
  obtain ⟨d, lo, hi, rfl, vl, vu, o', h0, pl, pu, rfl, rfl, a, xs, e, ha, hs, hQ⟩ := k3
  have eo := cn_ref e; subst eo
  intro base FS X A E s G N T R g
  obtain ⟨vs, ls, rfl⟩ := R.lat G ha.there
  have hT := ls.isList.typeIs
  rw [getitemInPython_of_ne hT.not_modules]
  refine wpAny_bind (wpAny_bind (wpAny_specialOf hT PySem.F.slot_list_getitem.lookup (wpAny_pure ?_)))
  have hsl : s.heap.IsSliceOf d vl vu .none := ⟨_, (R.objs _ _ (.head _)).1, rfl, rfl⟩
  refine wpAny_bind (wpAny_operating (wpAny_getItem_list_slice ls.isList hsl pl pu .none (by simp) ?_ ?_))
  · refine wpAny_bind (wpAny_letTemporaryGo (wpAny_pure ⟨g, rfl, m3, (_, .list (cut (vs.map cn) lo hi)) :: h0, ?_, N, hQ _⟩))
    have R1 : Rel c.prog c.w base FS X c.env.locals s.heap m3 h0 := R.weak (fun _ q => q) (fun _ q => .tail _ q) (List.nodup_cons.mp R.nd).2
    refine R1.push (mo := .list _) ⟨cut vs lo hi, ⟨0, ?_⟩, by rw [cut_map]⟩
    rw [Heap.get?_push_size _ rfl, slicePick_plain]
    simp [cut]
  · rw [List.size_toArray]; rw [List.length_map] at hs; exact Nat.le_trans hs slim_le

/-! min, max of two ints -/
theorem TCall.max2 {i j : Int} (h : Q (.int (max i j) 0) m mh) : TCall c m mh (.builtin "max") [.int i 0, .int j 0] [] Q := by
  intro f' as' kw' ef ea ek base FS X A E s G N T R g
  rw [cn_builtin ef]; obtain rfl := no_kw ek
  obtain ⟨a, b, rfl, e1, e2⟩ := two_args ea
  obtain ⟨u, rfl⟩ := cn_int e1; obtain ⟨u', rfl⟩ := cn_int e2
  refine max_two_ints G.hd fun h' tk hk => ⟨g, rfl, m, mh, R.all hk, N, ?_⟩
  have : cn (if j > i then Value.int j u' else .int i u) = .int (max i j) 0 := by split <;> simp only [cn] <;> congr 1 <;> omega
  show Q (cn _) m mh
  rw [this]; exact h
theorem TCall.min2 {i j : Int} (h : Q (.int (min i j) 0) m mh) : TCall c m mh (.builtin "min") [.int i 0, .int j 0] [] Q := by
  intro f' as' kw' ef ea ek base FS X A E s G N T R g
  rw [cn_builtin ef]; obtain rfl := no_kw ek
  obtain ⟨a, b, rfl, e1, e2⟩ := two_args ea
  obtain ⟨u, rfl⟩ := cn_int e1; obtain ⟨u', rfl⟩ := cn_int e2
  refine min_two_ints G.hd fun h' tk hk => ⟨g, rfl, m, mh, R.all hk, N, ?_⟩
  have : cn (if j < i then Value.int j u' else .int i u) = .int (min i j) 0 := by split <;> simp only [cn] <;> congr 1 <;> omega
  show Q (cn _) m mh
  rw [this]; exact h

/-! lists of strs -/
noncomputable def sL (xs : List PySem.Str) : List Value := xs.map fun x => .str x 0
theorem sL_are : ∀ {vs : List Value} {xs : List PySem.Str}, vs.map cn = sL xs → StrsAre vs xs
  | [], [], _ => .nil
  | [], _ :: _, e => by simp [sL] at e
  | _ :: _, [], e => by simp [sL] at e
  | v :: vs, x :: xs, e => by
    simp only [sL, List.map_cons, List.cons.injEq] at e
    obtain ⟨u, rfl⟩ := cn_str e.1
    exact .cons _ _ (sL_are e.2)
theorem sL_len (xs : List PySem.Str) : (sL xs).length = xs.length := List.length_map _
theorem sL_get (xs : List PySem.Str) (k : Nat) : (sL xs)[k]? = xs[k]?.map fun x => .str x 0 := List.getElem?_map ..
theorem sL_app (xs ys : List PySem.Str) : sL (xs ++ ys) = sL xs ++ sL ys := List.map_append ..
theorem any_mem (xs : List PySem.Str) (x : PySem.Str) : xs.any (· == x) = decide (x ∈ xs) := by
  rw [Bool.eq_iff_iff]; simp
theorem TCmp.inL {a : Addr} {xs : List PySem.Str} {x : PySem.Str} (ha : LAt c mh a (sL xs)) (h : Q (.bool (decide (x ∈ xs))) m mh) : TCmp c m mh .In (.str x 0) (.ref a) Q := by
  intro i' o' ei eo base FS X A E s G N T R g
  rw [cn_ref eo]; obtain ⟨u, rfl⟩ := cn_str ei
  obtain ⟨vs, pl, e⟩ := R.lat G ha
  exact in_list_strs pl.isList (sL_are e) (by rw [any_mem]; exact ⟨g, rfl, m, mh, R, N, h⟩)
theorem TCmp.ninL {a : Addr} {xs : List PySem.Str} {x : PySem.Str} (ha : LAt c mh a (sL xs)) (h : Q (.bool (!decide (x ∈ xs))) m mh) : TCmp c m mh .NotIn (.str x 0) (.ref a) Q := by
  intro i' o' ei eo base FS X A E s G N T R g
  rw [cn_ref eo]; obtain ⟨u, rfl⟩ := cn_str ei
  obtain ⟨vs, pl, e⟩ := R.lat G ha
  exact notin_list_strs pl.isList (sL_are e) (by rw [any_mem]; exact ⟨g, rfl, m, mh, R, N, h⟩)
end
end
section
open PySem PySem.W PySem.Calls PyProof.Rows
section
variable {c : Sit} {m m' m0 : Loc} {mh mh' mh0 : MH} {α β : Type}
variable {Q : Value → Loc → MH → Prop} {QB : Bool → Loc → MH → Prop} {QF : Flow → Loc → MH → Prop} {QL : Loc → MH → Prop}
variable {prog : Program} {w : World} {base : Heap} {FS : FSt} {X : Xs} {L L' : Addr} {h h' : Heap}

noncomputable abbrev IsM (m l : Loc) : Prop := m = l
noncomputable abbrev IsH (m l : MH) : Prop := m = l
/-! a def of the text whose inner blocks read its names -/
theorem bindL_at (k : PySem.Str → Option NameKind) {x : PySem.Str} (hx : k x = some .local) : ∀ (b : List (PySem.Str × Value)) (f : PySem.Str → Option Value), bindL k b f x = (b.reverse.lookup x).or (f x)
  | [], f => by simp [bindL]
  | (n, v) :: r, f => by
    rw [bindL, bindL_at k hx r, List.reverse_cons, List.lookup_append, Option.or_assoc]
    congr 1
    by_cases e : x = n
    · subst e; simp [hx]
    · have : (x == n) = false := beq_eq_false_iff_ne.mpr e
      split <;> simp [List.lookup, this, e]
theorem bindC_at (k : PySem.Str → Option NameKind) {x : PySem.Str} (hx : k x = some .cell) : ∀ (b : List (PySem.Str × Value)) (f : PySem.Str → Option Value), bindC k b f x = (b.reverse.lookup x).or (f x)
  | [], f => by simp [bindC]
  | (n, v) :: r, f => by
    rw [bindC, bindC_at k hx r, List.reverse_cons, List.lookup_append, Option.or_assoc]
    congr 1
    by_cases e : x = n
    · subst e; simp [hx]
    · have : (x == n) = false := beq_eq_false_iff_ne.mpr e
      split <;> simp [List.lookup, this, e]
noncomputable def cellNames (names : List (PySem.Str × NameKind)) : List PySem.Str := (names.filter fun p => p.2 == .cell).map (·.1)
theorem cellsFrom_eq : ∀ (names : List (PySem.Str × NameKind)) (n : Nat) (acc : List (PySem.Str × Addr)), cellsFrom n names acc = ((cellNames names).zipIdx n).reverse ++ acc
  | [], _, _ => rfl
  | (x, k) :: r, n, acc => by
    unfold cellsFrom cellNames
    by_cases e : (k == NameKind.cell) = true
    · rw [if_pos e, cellsFrom_eq r]
      simp [cellNames, e]
    · rw [if_neg e, cellsFrom_eq r]
      simp [cellNames, e]
noncomputable def cellE : Addr → List (Option Value) → MH
  | _, [] => []
  | n, v :: r => (n, .cell v) :: cellE (n + 1) r
theorem mem_cellE {a : Addr} {mo : MO} : ∀ {n : Addr} {vs : List (Option Value)}, (a, mo) ∈ cellE n vs → ∃ i v, vs[i]? = some v ∧ a = n + i ∧ mo = .cell v
  | n, v :: r, hm => by
    rcases List.mem_cons.mp hm with e | hm
    · cases e; exact ⟨0, v, rfl, rfl, rfl⟩
    · obtain ⟨i, v', h1, h2, h3⟩ := mem_cellE hm
      exact ⟨i + 1, v', by simpa using h1, by rw [h2]; exact Nat.add_right_comm n 1 i, h3⟩
theorem cellE_keys : ∀ (n : Addr) (vs : List (Option Value)), (cellE n vs).map (·.1) = List.range' n vs.length
  | _, [] => rfl
  | n, v :: r => by simp [cellE, cellE_keys (n + 1) r, List.range'_succ]
noncomputable def Fn.cells (F : Fn) : List PySem.Str := cellNames F.scope.names
noncomputable def Fn.locC (F : Fn) (vs : List Value) : Loc := (F.ns.zip (vs.map some) ++ F.rest.map fun x => (x, none)).filter fun p => decide (F.scope.names.lookup p.1 = some NameKind.local)
noncomputable def Fn.namesC (F : Fn) : Bool := decide (F.ns ++ F.rest).Nodup && (F.ns ++ F.rest).all (fun x => (decide (F.scope.names.lookup x = some .local) || (decide (F.scope.names.lookup x = some .cell) && decide (x ∈ F.cells))) && !(x == ("__debug__" : PySem.Str))) &&
  decide F.cells.Nodup && F.cells.all (fun x => decide (F.scope.names.lookup x = some .cell) && !(x == ("__debug__" : PySem.Str)) && !(x == ("__classdict__" : PySem.Str)))
structure FnOkC (prog : Program) (w : World) (K : Frag) (F : Fn) : Prop where
  obj : ∃ oc od osl, K.lookup F.f = some ⟨oc, od, .func F.fd, osl⟩
  code : codeIn K F.cdv F.qual = true
  keep : keepIn K (.ref F.f) = true
  kind : F.scope.kind = .function
  gen : F.scope.isGenerator = false
  co : F.scope.isCoroutine = false
  names : F.namesC = true
noncomputable def envC (F : Fn) (L : Addr) : Env := { envOf F.qual F.scope L F.f F.cdv with cells := cellsFrom (L + 1) F.scope.names [] }
noncomputable def Sit.intoC (c : Sit) (F : Fn) (L : Addr) (cells : List (PySem.Str × Addr)) : Sit := { c with env := envC F L, n := c.n - 1, top := true, cells := cells }
theorem Good.intoC {F : Fn} {A : Around} {d : Data} {cells : List (PySem.Str × Addr)} (G : Good c base FS A) (hn : 0 < c.n) (hk : F.scope.kind = .function) : Good (c.intoC F L cells) base ((c.env.locals, d) :: FS) (A.deeper (envC F L)) := by
  refine ⟨G.kin, G.ro, G.lim, G.hd, ?_, ?_, ?_, G.guards⟩
  · have := G.depth
    show A.depth + 1 + 4 * (c.n - 1) ≤ 960
    omega
  · have := G.units
    show A.units + 3 + 20 * (c.n - 1) ≤ 9000
    omega
  · obtain ⟨fl, e, _, hf⟩ := G.frames
    refine ⟨envC F L :: fl, Around.frames_deeper e, fun _ => ⟨fl, rfl⟩, fun x hx => ?_⟩
    rcases List.mem_cons.mp hx with rfl | hx
    · refine ⟨?_, L, rfl, .inl rfl⟩
      show F.scope.kind ≠ .module
      rw [hk]; decide
    · obtain ⟨h1, L', h2, h3⟩ := hf x hx
      refine ⟨h1, L', h2, .inr ?_⟩
      rcases h3 with rfl | h3
      · exact .head _
      · exact .tail _ h3
theorem Rel.enterC {mr : PySem.Str → Option Value} {cs : MH} (R : Rel prog w base FS X L h m mh) (hL : h.objs.size ≤ L') (k : ∀ b o, h.get? b = some o → h'.get? b = some o) (hn : h'.Ns L' mr) (hm : ∀ x ov, (x, ov) ∈ m0 → (mr x).map cn = ov)
    (hc : ∀ a mo, (a, mo) ∈ cs → AbsH prog w h' a mo ∧ h.objs.size ≤ a ∧ a ≠ L') (nd : (cs.map (·.1)).Nodup) :
    ∃ d, (∃ o, h.get? L = some o ∧ o.data = d ∧ ∃ es ep, d = .dict es ep) ∧ Rel prog w base ((L, d) :: FS) X L' h' m0 (cs ++ mh) := by
  obtain ⟨d, hd, R1⟩ := R.enter hL k hn hm
  refine ⟨d, hd, ?_⟩
  have key : ∀ a, a ∈ cs.map (·.1) → h.objs.size ≤ a ∧ a ≠ L' := fun a q => by
    obtain ⟨⟨b, mo⟩, h1, rfl⟩ := List.mem_map.mp q
    exact (hc b mo h1).2
  refine { R1 with nd := ?_, objs := fun a mo q => ?_, ex := fun a o q => ?_, fs := fun a d q => ?_ }
  · rw [List.map_append, List.nodup_append]
    exact ⟨nd, R1.nd, fun a ha b hb e => (R.fresh (key a ha).1).2.2.1 (e ▸ hb)⟩
  · rcases List.mem_append.mp q with q | q
    · obtain ⟨x, y, z⟩ := hc a mo q
      exact ⟨x, (R.fresh y).1, z⟩
    · exact R1.objs a mo q
  · obtain ⟨x, y, z, t⟩ := R1.ex a o q
    refine ⟨x, y, z, ?_⟩
    rw [List.map_append, List.mem_append, not_or]
    exact ⟨fun e => (R.fresh (key a e).1).2.2.2.1 (List.mem_map_of_mem (f := (·.1)) q), t⟩
  · obtain ⟨x, y, z, t, u⟩ := R1.fs a d q
    refine ⟨x, y, z, ?_, u⟩
    rw [List.map_append, List.mem_append, not_or]
    refine ⟨fun e => ?_, t⟩
    rcases List.mem_cons.mp q with q | q
    · have e2 : a = L := congrArg (·.1) q
      exact absurd R.lt (Nat.not_lt.mpr (e2 ▸ (key a e).1))
    · exact (R.fresh (key a e).1).2.2.2.2 (List.mem_map_of_mem (f := (·.1)) q)
theorem CC.nil {env : Env} {scope : Scope} {cl : List (PySem.Str × Addr)} (h : closureFor scope env = Pure.pure cl) : CompCells env scope cl [] := ⟨h, fun _ q => nomatch q⟩
theorem CC.cons {env : Env} {scope : Scope} {cl cells : List (PySem.Str × Addr)} {x : PySem.Str} {a : Addr} (h : CompCells env scope cl cells) (hk : (relabel scope env).names.lookup x = some .cell ∨ (relabel scope env).names.lookup x = some .free) (hl : cl.lookup x = some a)
    (hd : (x == ("__debug__" : PySem.Str)) = false) (hd2 : (x == ("__classdict__" : PySem.Str)) = false) : CompCells env scope cl ((x, a) :: cells) := by
  refine ⟨h.1, fun p hp => ?_⟩
  rcases List.mem_cons.mp hp with rfl | hp
  · exact ⟨hk, hl, hd, hd2⟩
  · exact h.2 p hp
theorem look_map (x : PySem.Str) : ∀ (ns : List PySem.Str) (as' : List Value), ((ns.zip as').lookup x).map cn = (ns.zip (as'.map cn)).lookup x
  | [], _ => rfl
  | _ :: _, [] => rfl
  | n :: ns, v :: vs => by
    simp only [List.zip_cons_cons, List.map_cons, List.lookup_cons]
    cases x == n
    · exact look_map x ns vs
    · rfl
theorem TCall.defC {as : List Value} (F : Fn) (ok : FnOkC c.prog c.w c.K F) (hn : 0 < c.n) (m0 : Loc) (cs : List (Option Value)) (cells : Addr → List (PySem.Str × Addr))
    (hb : ∀ as' : List Value, as'.length = as.length → bindArgs F.fd ⟨as', []⟩ = Pure.pure (F.ns.zip as')) (hl : as.length = F.ns.length) (hm0 : m0 = F.locC as) (hcs : cs = F.cells.map fun x => (F.ns.zip as).lookup x) (hcells : ∀ L, cells L = cellsFrom (L + 1) F.scope.names [])
    (h : ∀ L, TS (c.intoC F L (cells L)) m0 (cellE (L + 1) cs ++ mh) F.body (fun fl _ mh' => Q (match fl with | .ret v => v | _ => .none) m mh')) : TCall c m mh (.ref F.f) as [] Q := by
  intro f' as' kw' ef ea ek base FS X A E s G N T R g
  rw [cn_ref ef]; obtain rfl := no_kw ek
  obtain ⟨oc, od, osl, ho⟩ := ok.obj
  have KI := G.kin.keeps R.keep
  have la : as'.length = as.length := by rw [← ea, List.length_map]
  have hd := G.depth
  have nm := ok.names
  unfold Fn.namesC at nm
  simp only [Bool.and_eq_true, decide_eq_true_eq, List.all_eq_true, Bool.or_eq_true, Bool.not_eq_true'] at nm
  obtain ⟨⟨⟨nd, hnm⟩, cnd⟩, hcn⟩ := nm
  have nd1 : F.ns.Nodup := (List.nodup_append.mp nd).1
  have e1 : (F.ns.zip as').map (·.1) = F.ns := List.map_fst_zip (by omega)
  have look : ∀ x : PySem.Str, ((F.ns.zip as').reverse.lookup x).map cn = (F.ns.zip as).lookup x := fun x => by
    rw [lookup_rev _ _ (by rw [e1]; exact nd1), ← ea]; exact look_map x F.ns as'
  have cellsAt : ∀ (L : Addr) (i : Nat) (x : PySem.Str), F.cells[i]? = some x → (cellsFrom (L + 1) F.scope.names []).lookup x = some (L + 1 + i) := fun L i x hi => by
    rw [cellsFrom_eq, List.append_nil, lookup_rev]
    · have := lookup_zip F.cells (List.range' (L + 1) F.cells.length) x cnd i hi
      have e : (cellNames F.scope.names).zipIdx (L + 1) = F.cells.zip (List.range' (L + 1) F.cells.length) := List.zipIdx_eq_zip_range' ..
      rw [e, this]
      rw [List.getElem?_range' (by exact (List.getElem?_eq_some_iff.mp hi).1)]
      simp
    · rw [List.zipIdx_map_fst]; exact cnd
  refine wpAny_call (codeAny_call_cells (fd := F.fd) (binds := F.ns.zip as') (by unfold recursionLimit; omega) (KI _ _ ho) rfl (G.lim.keeps R.keep) (codeRec_of KI ok.code) rfl (hb as' la) rfl (fun x hx => ?_) (fun s₁ IC => ?_) ok.co ok.gen ok.kind)
  · have hx1 : x.1 ∈ F.ns ++ F.rest := List.mem_append_left _ (List.of_mem_zip hx).1
    rcases (hnm x.1 hx1).1 with e | ⟨e, hm⟩
    · exact .inl e
    · refine .inr ⟨e, ?_⟩
      obtain ⟨i, hi⟩ := List.mem_iff_getElem?.mp hm
      show ((cellsFrom (s.heap.objs.size + 1) F.scope.names []).lookup x.1).isSome = true
      rw [cellsAt _ i _ hi]; rfl
  have ee : callEnvC F.fd s.heap.objs.size F.f = envC F s.heap.objs.size := rfl
  rw [ee] at IC ⊢
  obtain ⟨hh, tk, rfl⟩ := IC.toInCall.same
  have H1 : ∀ x ov, (x, ov) ∈ m0 → (bindL (envC F s.heap.objs.size).kindOf (F.ns.zip as') (fun _ => none) x).map cn = ov := by
    intro x ov hx
    rw [hm0, Fn.locC, List.mem_filter] at hx
    obtain ⟨hx, hk⟩ := hx
    have hk' : (envC F s.heap.objs.size).kindOf x = some .local := of_decide_eq_true hk
    rw [bindL_at _ hk', Option.or_none, look]
    rcases List.mem_append.mp hx with hx | hx
    · obtain ⟨i, hi, e⟩ := List.mem_iff_getElem.mp hx
      rw [List.getElem_zip] at e
      simp only [Prod.mk.injEq, List.getElem_map] at e
      have hi' : i < F.ns.length := by simp at hi; omega
      have hi2 : i < as.length := by omega
      rw [lookup_zip F.ns as x nd1 i (by rw [List.getElem?_eq_getElem hi', e.1]), List.getElem?_eq_getElem hi2, ← e.2]
    · obtain ⟨y, hy, e⟩ := List.mem_map.mp hx
      cases e
      rw [List.lookup_eq_none_iff]
      intro q hq
      have : q.1 ∈ F.ns := (List.of_mem_zip hq).1
      have ne : x ≠ q.1 := fun e => (List.nodup_append.mp nd).2.2 q.1 this x hy e.symm
      simpa using ne
  have H2 : ∀ a mo, (a, mo) ∈ cellE (s.heap.objs.size + 1) cs → AbsH c.prog c.w hh a mo ∧ s.heap.objs.size ≤ a ∧ a ≠ s.heap.objs.size := by
    intro a mo hm
    obtain ⟨i, v, h1, rfl, rfl⟩ := mem_cellE hm
    rw [hcs, List.getElem?_map] at h1
    obtain ⟨x, h2, rfl⟩ := Option.map_eq_some_iff.mp h1
    have := IC.cell x _ (cellsAt _ i x h2)
    have hk' : (envC F s.heap.objs.size).kindOf x = some .cell := (hcn x (List.mem_of_getElem? h2)).1.1
    rw [bindC_at _ hk', Option.or_none] at this
    exact ⟨⟨_, this, look x⟩, (show (s.heap.objs.size : Nat) ≤ s.heap.objs.size + 1 + i by omega), (show (s.heap.objs.size + 1 + i : Nat) ≠ s.heap.objs.size by omega)⟩
  have H3 : ((cellE (s.heap.objs.size + 1) cs).map (·.1)).Nodup := by rw [cellE_keys]; exact List.nodup_range' ..
  obtain ⟨d, hd', R'⟩ := R.enterC (L' := s.heap.objs.size) (h' := hh) (m0 := m0) (cs := cellE (s.heap.objs.size + 1) cs) (Nat.le_refl _) IC.toInCall.keep IC.toInCall.ns H1 H2 H3
  have G' : Good (c.intoC F s.heap.objs.size (cells s.heap.objs.size)) base ((c.env.locals, d) :: FS) (A.deeper (envC F s.heap.objs.size)) := G.intoC hn ok.kind
  have N' : NamesOk (c.intoC F s.heap.objs.size (cells s.heap.objs.size)) m0 := by
    have sb : m0.map (·.1) = (F.ns ++ F.rest).filter fun x => decide (F.scope.names.lookup x = some NameKind.local) := by
      have e2 : (F.ns.zip (as.map some) ++ F.rest.map fun x => (x, (none : Option Value))).map (·.1) = F.ns ++ F.rest := by
        rw [List.map_append, List.map_fst_zip (by rw [List.length_map]; omega), List.map_map]
        congr 1; exact List.map_id _
      rw [hm0, Fn.locC, ← e2, List.filter_map]; rfl
    refine ⟨ok.kind, by rw [sb]; exact nd.sublist List.filter_sublist, fun p hp => ?_⟩
    have : p.1 ∈ m0.map (·.1) := List.mem_map_of_mem (f := (·.1)) hp
    rw [sb, List.mem_filter] at this
    exact ⟨of_decide_eq_true this.2, (hnm _ this.1).2⟩
  have T' : TabOk (c.intoC F s.heap.objs.size (cells s.heap.objs.size)) := by
    refine ⟨fun p hp => ?_, ⟨rfl, rfl⟩, T.glob⟩
    have hp' : p ∈ cellsFrom (s.heap.objs.size + 1) F.scope.names [] := by rw [← hcells]; exact hp
    have : p.1 ∈ F.cells ∧ (cellsFrom (s.heap.objs.size + 1) F.scope.names []).lookup p.1 = some p.2 := by
      rw [cellsFrom_eq, List.append_nil, List.mem_reverse] at hp'
      obtain ⟨x, a⟩ := p
      obtain ⟨h1, h2⟩ := List.mk_mem_zipIdx_iff_le_and_getElem?_sub.mp hp'
      refine ⟨List.mem_of_getElem? h2, ?_⟩
      rw [cellsAt _ _ _ h2]
      congr 1; exact (show ((s.heap.objs.size : Nat) + 1 + ((a : Nat) - (s.heap.objs.size + 1)) : Nat) = a by have : (s.heap.objs.size + 1 : Nat) ≤ a := h1; omega)
    obtain ⟨⟨q1, q2⟩, q3⟩ := hcn _ this.1
    exact ⟨.inl q1, this.2, q2, q3⟩
  refine wpAny_mono (h s.heap.objs.size base _ X _ _ { s with heap := hh, toks := tk } G' N' T' R' g) (fun fl s' => ?_) (fun _ _ e => e)
  refine fun hx => Goes.el hx fun m1 mh1 g' o' R1 _ q => ?_
  refine ⟨g', o', m, mh1, R.leave hd' R1, N, ?_⟩
  cases fl <;> exact q
end
end
section
open PySem PySem.W PySem.Calls PyProof.Rows
section
variable {c : Sit} {m m' m0 : Loc} {mh mh' mh0 : MH} {α β : Type}
variable {Q : Value → Loc → MH → Prop} {QB : Bool → Loc → MH → Prop} {QF : Flow → Loc → MH → Prop} {QL : Loc → MH → Prop}
variable {prog : Program} {w : World} {base : Heap} {FS : FSt} {X : Xs} {L L' : Addr} {h h' : Heap}

/-! dicts with tuples for keys -/
noncomputable def tAt (kvs : List (List Key × Value)) (x : List Key) : Option Value := (kvs.find? fun kv => decide (kv.1 = x)).map (·.2)
noncomputable def tPut (kvs : List (List Key × Value)) (x : List Key) (v : Value) : List (List Key × Value) :=
  if kvs.any (fun kv => decide (kv.1 = x)) then kvs.map (fun kv => if kv.1 = x then (kv.1, v) else kv) else kvs ++ [(x, v)]
theorem tAt_map (kv : List (List Key × Addr × Value)) (x : List Key) : tAt (kv.map fun p => (p.1, cn p.2.2)) x = (atKey kv x).map fun p => cn p.2 := by
  unfold tAt atKey
  induction kv with
  | nil => rfl
  | cons p r ih =>
    rw [List.map_cons, List.find?_cons, List.find?_cons]
    by_cases e : p.1 = x
    · simp [e]
    · simp only [e, decide_false]; exact ih
theorem tPut_map (kv : List (List Key × Addr × Value)) (x : List Key) (a : Addr) (v : Value) : (storedH kv x a v).map (fun p => (p.1, cn p.2.2)) = tPut (kv.map fun p => (p.1, cn p.2.2)) x (cn v) := by
  unfold tPut storedH
  have e : ((kv.map fun p => (p.1, cn p.2.2)).any fun kv => decide (kv.1 = x)) = (atKey kv x).isSome := by
    rw [← any_kvsOf, kvsOf, List.any_map, List.any_map]; rfl
  rw [e]
  split
  · rw [List.map_map, List.map_map]
    refine List.map_congr_left fun p _ => ?_
    simp only [Function.comp, putAt]
    split <;> rfl
  · simp
theorem itemsAre_of {ks : List Key} : ∀ {vs : List Value}, vs.map cn = ks.map keyV → ItemsAre (keyKind prog w) ks vs := by
  induction ks with
  | nil => intro vs e; rw [List.map_eq_nil_iff.mp e]; exact .nil
  | cons k ks ih =>
    intro vs e
    match vs, e with
    | v :: vs, e =>
      simp only [List.map_cons, List.cons.injEq] at e
      exact .cons (keyIs_of_cn e.1) (ih e.2)
theorem Rel.tupKey {t : Addr} {ks : List Key} (R : Rel prog w base FS X L h m mh) (hk : MHas mh t (.tup (ks.map keyV))) : (tupleKind (keyKind prog w)).is h ks t := by
  obtain ⟨vs, n, e, e2⟩ := R.tup hk
  exact ⟨_, _, n, e, rfl, rfl, itemsAre_of e2⟩
theorem Good.roomT {A : Around} (G : Good c base FS A) : (tupleKind (keyKind c.prog c.w)).room A.in1 := by
  have := G.units
  exact tupleKind_room_in1 (by unfold cLine; omega)
theorem TItem.tdict {a t : Addr} {kvs : List (List Key × Value)} (ks : List Key) {v : Value} (ha : MHas mh a (.tdict kvs)) (hk : MHas mh t (.tup (ks.map keyV))) (hv : tAt kvs ks = some v) (hq : Q v m mh) : TItem c m mh (.ref a) (.ref t) Q := by
  intro o' i' eo ei base FS X A E s G N T R g
  rw [cn_ref eo, cn_ref ei]
  obtain ⟨kv', d, rfl⟩ := R.tdict ha
  rw [tAt_map] at hv
  obtain ⟨⟨b, v0⟩, h1, rfl⟩ := Option.map_eq_some_iff.mp hv
  exact wpAny_getItem_heap G.roomT (R.tupKey hk) d h1 ⟨g, rfl, m, mh, R, N, hq⟩
theorem tdict_notTup {a : Addr} {kv : List (List Key × Addr × Value)} (d : h.DictOfH (tupleKind (keyKind prog w)) a kv) : ∀ ob, h.get? a = some ob → NotTup ob := by
  obtain ⟨o, es, ep, ho, hx, hd, _⟩ := d
  intro ob q
  rw [ho] at q; cases q
  exact notTup_of_dict hd
theorem TSetItem.tdict {a t : Addr} {kvs : List (List Key × Value)} (ks : List Key) {v : Value} (ha : MPut mh a (.tdict kvs) (.tdict (tPut kvs ks v)) mh') (hk : MHas mh t (.tup (ks.map keyV))) (hs : kvs.length ≤ slim) (hq : QL m mh') : TSetItem c m mh (.ref a) (.ref t) v QL := by
  intro o' i' v' eo ei ev base FS X A E s G N T R g
  rw [cn_ref eo, cn_ref ei]
  obtain ⟨kv', d, e⟩ := R.tdict (.of_mem ha.has)
  refine wpAny_setItem_heap G.roomT (R.tupKey hk) d (fun h' d' hs' => ⟨g, rfl, m, mh', R.set ha hs'.extBut (tdict_notTup d) ⟨_, d', ?_⟩, N, hq⟩) ?_
  · rw [tPut_map, e, ev]
  · rw [← e, List.length_map] at hs; exact Nat.le_trans hs slim_le
theorem TDSet.tup {a t : Addr} {kvs : List (List Key × Value)} (ks : List Key) {v : Value} (ha : MPut mh a (.tdict kvs) (.tdict (tPut kvs ks v)) mh') (hk : MHas mh t (.tup (ks.map keyV))) (hs : kvs.length ≤ slim) (hq : QL m mh') : TDSet c m mh a (.ref t) v QL := by
  intro i' v' ei ev base FS X A E s G N T R g
  rw [cn_ref ei]
  obtain ⟨kv', d, e⟩ := R.tdict (.of_mem ha.has)
  have hu : (tupleKind (keyKind c.prog c.w)).room A := by
    have := G.units
    show A.units < cLine
    unfold cLine; omega
  refine wpAny_dictSet_heap hu (R.tupKey hk) d (fun h' d' hs' => ⟨g, rfl, m, mh', R.set ha hs'.extBut (tdict_notTup d) ⟨_, d', ?_⟩, N, hq⟩) ?_
  · rw [tPut_map, e, ev]
  · rw [← e, List.length_map] at hs; exact Nat.le_trans hs slim_le
/-- an empty dict may bear either kind of keys -/
theorem AbsH.empty {a : Addr} (x : AbsH prog w h a (.dict [])) : AbsH prog w h a (.tdict []) := by
  obtain ⟨kv', ⟨o, es, ep, ho, hx, hd, he, hp, hn⟩, e⟩ := x
  have : kv' = [] := List.map_eq_nil_iff.mp e
  subst this
  refine ⟨[], ⟨o, es, ep, ho, hx, hd, ?_, (fun x q => by cases q), List.nodup_nil⟩, rfl⟩
  have := hp.length
  exact List.length_eq_zero_iff.mp this
theorem Rel.asT {d : Addr} (R : Rel prog w base FS X L h m mh) (p : MPut mh d (.dict []) (.tdict []) mh') : Rel prog w base FS X L h m mh' := by
  have x := (R.objs _ _ p.has).1
  obtain ⟨kv', da, e⟩ := id x
  exact R.set p (Heap.ExtBut.refl _ _) (dict_notTup da) x.empty
theorem TT.asT {d : Addr} {t : Sem α} {QT : α → Loc → MH → Prop} (p : MPut mh d (.dict []) (.tdict []) mh') (hq : TT c m mh' t QT) : TT c m mh t QT :=
  fun base FS X A E s G N T R g => hq base FS X A E s G N T (R.asT p) g
theorem CompBlock.asT {K : Comp} {gens : List Comprehension} {scope : Scope} {pos : Pos} {target : Expr} {d : Nat} {it r a : Addr} {src : Src} (p : MPut mh0 a (.dict []) (.tdict []) mh') (hq : CompBlock c K gens scope pos target d it r src m0 mh' QL) : CompBlock c K gens scope pos target d it r src m0 mh0 QL := by
  obtain ⟨rest, I, J, F, B, ht, hI, hn, hJ, hF⟩ := hq
  refine ⟨rest, fun k m mh => I k m mh ∨ (k = 0 ∧ m = m0 ∧ mh = mh0), J, F, B, ht, .inr ⟨rfl, rfl, rfl⟩, fun k raws m mh hP hi => ?_, fun k m mh j => (hJ k m mh j).imp id fun x => TT.mono x fun _ _ _ y => y.imp id .inl, hF⟩
  rcases hi with hi | ⟨rfl, rfl, rfl⟩
  · exact hn k raws m mh hP hi
  · exact TT.asT p.right (hn 0 raws m _ hP hI)

/-! data within data -/
mutual
inductive DeepV (c : Sit) (mh : MH) : Value → PyData → Prop
  | int {i} : DeepV c mh (.int i 0) (.int i)
  | str {x} : DeepV c mh (.str x 0) (.str x)
  | list {a xs ds} : LAt c mh a xs → DeepAll c mh xs ds → DeepV c mh (.ref a) (.list ds)
  | tup {a xs ds} : MHas mh a (.tup xs) → DeepAll c mh xs ds → DeepV c mh (.ref a) (.tuple ds)
inductive DeepAll (c : Sit) (mh : MH) : List Value → List PyData → Prop
  | nil : DeepAll c mh [] []
  | cons {v d vs ds} : DeepV c mh v d → DeepAll c mh vs ds → DeepAll c mh (v :: vs) (d :: ds)
end
theorem DeepV.reads {A : Around} {s : Shared} (G : Good c base FS A) (R : Rel c.prog c.w base FS X c.env.locals s.heap m mh) {v : Value} {d : PyData} (x : DeepV c mh v d) : ∀ v', cn v' = v → ∃ as, Reads s.heap v' d as := by
  refine DeepV.rec (motive_1 := fun v d _ => ∀ v', cn v' = v → ∃ as, Reads s.heap v' d as) (motive_2 := fun vs ds _ => ∀ vs' : List Value, vs'.map cn = vs → ∃ as, ReadsAll s.heap vs' ds as) ?_ ?_ ?_ ?_ ?_ ?_ x
  · intro i v' e; obtain ⟨u, rfl⟩ := cn_int e; exact ⟨_, .int _ _⟩
  · intro x v' e; obtain ⟨u, rfl⟩ := cn_str e; exact ⟨_, .str _ _⟩
  · intro a xs ds ha hd ih v' e
    rw [cn_ref e]
    obtain ⟨vs, ⟨n, pl⟩, e2⟩ := R.lat G ha
    obtain ⟨as, q⟩ := ih _ e2
    exact ⟨_, .list pl rfl rfl q⟩
  · intro a xs ds ha hd ih v' e
    rw [cn_ref e]
    obtain ⟨vs, n, pl, e2⟩ := R.tup ha
    obtain ⟨as, q⟩ := ih _ e2
    exact ⟨_, .tuple pl rfl rfl q⟩
  · intro vs' e; rw [List.map_eq_nil_iff.mp e]; exact ⟨_, .nil⟩
  · intro v d vs ds hv hr ih1 ih2 vs' e
    match vs', e with
    | v' :: vs', e =>
      simp only [List.map_cons, List.cons.injEq] at e
      obtain ⟨as, q⟩ := ih1 _ e.1
      obtain ⟨bs, q2⟩ := ih2 _ e.2
      exact ⟨_, .cons q q2⟩
theorem DeepAll.sL (xs : List PySem.Str) : DeepAll c mh (sL xs) (xs.map .str) := by
  induction xs with
  | nil => exact .nil
  | cons x xs ih => exact .cons .str ih
theorem TCmp.ninDeep {a : Addr} {v : Value} {ds : List PyData} {d : PyData} (hc : DeepV c mh (.ref a) (.list ds)) (hv : DeepV c mh v d) (h1 : PyData.canLayAll0 ds = true) (h2 : d.canLay0 = true) (h3 : d.depth ≤ 100)
    (hq : Q (.bool (!ds.any fun y => PyData.eqv y d)) m mh) : TCmp c m mh .NotIn v (.ref a) Q := by
  intro i' o' ei eo base FS X A E s G N T R g
  obtain ⟨as, r1⟩ := hc.reads G R _ eo
  obtain ⟨bs, r2⟩ := hv.reads G R _ ei
  refine PySem.SeqAt.notIn_list_reads r1 r2 h1 h2 ?_ ⟨g, rfl, m, mh, R, N, hq⟩
  have := G.units
  have := Nat.min_le_right (PyData.depthAll ds) d.depth
  unfold cLine; omega

/-! two lists joined; all, any of a list of bools; a list's copy -/
theorem TBin.addL {a b : Addr} {xs ys : List Value} (ha : LAt c mh a xs) (hb : LAt c mh b ys) (hs : xs.length + ys.length ≤ slim) (hq : ∀ r, Q (.ref r) m ((r, .list (xs ++ ys)) :: mh)) : TBin c m mh .Add (.ref a) (.ref b) Q := by
  intro a' b' ea eb base FS X A E s G N T R g
  rw [cn_ref ea, cn_ref eb]
  obtain ⟨vs, ⟨n, p1⟩, rfl⟩ := R.lat G ha
  obtain ⟨ws, ⟨n2, p2⟩, rfl⟩ := R.lat G hb
  have hz : vs.toArray.size + ws.toArray.size ≤ sizeLine := by
    rw [List.length_map, List.length_map] at hs
    exact Nat.le_trans (by simpa using hs) slim_le
  refine PySem.P.add_list p1 p2 ⟨g, rfl, m, _, R.push (mo := .list (vs.map cn ++ ws.map cn)) ⟨vs ++ ws, ⟨0, ?_⟩, List.map_append⟩, N, hq _⟩ hz
  rw [Heap.get?_push_size _ rfl]; simp
theorem kept_of_push {s : Shared} {h' : Heap} {o : Obj} (hk : ∀ b x, b ∉ [s.heap.objs.size] → (s.heap.push o).get? b = some x → h'.get? b = some x) : ∀ b x, s.heap.get? b = some x → h'.get? b = some x :=
  fun b x e => hk b x (fun hm => by rw [List.mem_singleton.mp hm] at e; exact Nat.lt_irrefl _ (Heap.lt_size e)) (Heap.get?_push_of_some _ e)
noncomputable def bL (bs : List Bool) : List Value := bs.map .bool
theorem bools_at {vs : List Value} {bs : List Bool} (e : vs.map cn = bL bs) (i : Nat) {v : Value} (hv : vs.toArray[i]? = some v) : ∃ b, bs[i]? = some b ∧ v = .bool b := by
  have : (vs.map cn)[i]? = some (cn v) := by rw [List.getElem?_map]; simp at hv; rw [hv]; rfl
  rw [e, bL, List.getElem?_map] at this
  obtain ⟨b, h1, h2⟩ := Option.map_eq_some_iff.mp this
  exact ⟨b, h1, cn_bool h2.symm⟩
theorem TCall.all {a : Addr} {bs : List Bool} (ha : LAt c mh a (bL bs)) (hq : Q (.bool (bs.all id)) m mh) : TCall c m mh (.builtin "all") [.ref a] [] Q := by
  intro f' as' kw' ef ea ek base FS X A E s G N T R g
  rw [cn_builtin ef]
  obtain ⟨v, rfl, ev⟩ := one_arg ea
  rw [cn_ref ev]; obtain rfl := no_kw ek
  obtain ⟨vs, pl, e⟩ := R.lat G ha
  have hlt : a < s.heap.objs.size := by obtain ⟨_, e⟩ := pl; exact Heap.lt_size e
  have hl : vs.length = bs.length := by have := congrArg List.length e; simpa [bL] using this
  refine call_all_walk (wpAny_pyIter_list pl.isList ?_)
  refine ⟨s.heap.objs.size, [s.heap.objs.size, a], [s.heap.objs.size], vs.toArray.size, _, _, fun i => (bs[i]?).getD true, rfl, Walks.list (A := A.in1) G.hd _ a (Nat.ne_of_lt hlt) vs.toArray,
    ⟨⟨_, Heap.get?_push_size _ rfl, rfl, rfl⟩, pl.isList.push _⟩, fun i v s' Q' E' hP hQ => ?_, fun h' tk hk => ?_⟩
  · obtain ⟨b, e, rfl⟩ := bools_at e i hP
    simp only [e, Option.getD_some] at hQ
    exact wpAny_truthy_bool hQ
  · have e2 : ((List.range vs.toArray.size).all fun i => (bs[i]?).getD true) = bs.all id := by
      rw [List.size_toArray, hl, Bool.eq_iff_iff, List.all_eq_true, List.all_eq_true]
      constructor
      · intro k b hb
        obtain ⟨i, hi, rfl⟩ := List.getElem_of_mem hb
        have := k i (List.mem_range.mpr hi)
        simpa [List.getElem?_eq_getElem hi] using this
      · intro k i hi
        have hi' := List.mem_range.mp hi
        simpa [List.getElem?_eq_getElem hi'] using k _ (List.getElem_mem hi')
    rw [e2]
    exact ⟨g, rfl, m, mh, R.all (kept_of_push hk), N, hq⟩
theorem TCall.any {a : Addr} {bs : List Bool} (ha : LAt c mh a (bL bs)) (hq : Q (.bool (bs.any id)) m mh) : TCall c m mh (.builtin "any") [.ref a] [] Q := by
  intro f' as' kw' ef ea ek base FS X A E s G N T R g
  rw [cn_builtin ef]
  obtain ⟨v, rfl, ev⟩ := one_arg ea
  rw [cn_ref ev]; obtain rfl := no_kw ek
  obtain ⟨vs, pl, e⟩ := R.lat G ha
  have hlt : a < s.heap.objs.size := by obtain ⟨_, e⟩ := pl; exact Heap.lt_size e
  have hl : vs.length = bs.length := by have := congrArg List.length e; simpa [bL] using this
  refine call_any_walk (wpAny_pyIter_list pl.isList ?_)
  refine ⟨s.heap.objs.size, [s.heap.objs.size, a], [s.heap.objs.size], vs.toArray.size, _, _, fun i => (bs[i]?).getD false, rfl, Walks.list (A := A.in1) G.hd _ a (Nat.ne_of_lt hlt) vs.toArray,
    ⟨⟨_, Heap.get?_push_size _ rfl, rfl, rfl⟩, pl.isList.push _⟩, fun i v s' Q' E' hP hQ => ?_, fun h' tk hk => ?_⟩
  · obtain ⟨b, e, rfl⟩ := bools_at e i hP
    simp only [e, Option.getD_some] at hQ
    exact wpAny_truthy_bool hQ
  · have e2 : ((List.range vs.toArray.size).any fun i => (bs[i]?).getD false) = bs.any id := by
      rw [List.size_toArray, hl, Bool.eq_iff_iff, List.any_eq_true, List.any_eq_true]
      constructor
      · rintro ⟨i, hi, k⟩
        have hi' := List.mem_range.mp hi
        exact ⟨_, List.getElem_mem hi', by simpa [List.getElem?_eq_getElem hi'] using k⟩
      · rintro ⟨b, hb, k⟩
        obtain ⟨i, hi, rfl⟩ := List.getElem_of_mem hb
        exact ⟨i, List.mem_range.mpr hi, by simpa [List.getElem?_eq_getElem hi] using k⟩
    rw [e2]
    exact ⟨g, rfl, m, mh, R.all (kept_of_push hk), N, hq⟩
theorem TCall.listL {a : Addr} {xs : List Value} (ha : LAt c mh a xs) (hs : xs.length ≤ slim) (hq : ∀ r, Q (.ref r) m ((r, .list xs) :: mh)) : TCall c m mh (.type "list") [.ref a] [] Q := by
  intro f' as' kw' ef ea ek base FS X A E s G N T R g
  rw [cn_type ef]
  obtain ⟨v, rfl, ev⟩ := one_arg ea
  rw [cn_ref ev]; obtain rfl := no_kw ek
  obtain ⟨vs, ⟨n, pl⟩, rfl⟩ := R.lat G ha
  rw [List.length_map] at hs
  exact call_list_seq a (.inl rfl) pl rfl rfl (fun h' c' hk he => ⟨g, rfl, m, _, R.new (mo := .list (vs.map cn)) (Nat.le_refl _) hk ⟨vs, ⟨c', he⟩, rfl⟩, N, hq _⟩) (Nat.le_trans (by simpa using hs) slim_le)
theorem TCall.tupleL {a : Addr} {xs : List Value} (ha : LAt c mh a xs) (hs : xs.length ≤ slim) (hq : ∀ r, Q (.ref r) m ((r, .tup xs) :: mh)) : TCall c m mh (.type "tuple") [.ref a] [] Q := by
  intro f' as' kw' ef ea ek base FS X A E s G N T R g
  rw [cn_type ef]
  obtain ⟨v, rfl, ev⟩ := one_arg ea
  rw [cn_ref ev]; obtain rfl := no_kw ek
  obtain ⟨vs, pl, rfl⟩ := R.lat G ha
  rw [List.length_map] at hs
  exact call_tuple_list pl.isList (fun h' hk => ⟨g, rfl, m, _, (R.all hk).push (mo := .tup (vs.map cn)) ⟨vs, 0, Heap.get?_push_size _ rfl, rfl⟩, N, hq _⟩) (Nat.le_trans (by simpa using hs) slim_le)
end
end
section
open PySem PySem.W PySem.Calls PyProof.Rows
section
variable {c : Sit} {m m' m0 : Loc} {mh mh' mh0 : MH} {α β : Type}
variable {Q : Value → Loc → MH → Prop} {QB : Bool → Loc → MH → Prop} {QF : Flow → Loc → MH → Prop} {QL : Loc → MH → Prop}
variable {prog : Program} {w : World} {base : Heap} {FS : FSt} {X : Xs} {L L' : Addr} {h h' : Heap}

theorem AbsH.keptS {a : Addr} {mo : MO} {S : List Addr} (x : AbsH prog w h a mo) (k : ∀ b o, b ∉ S → h.get? b = some o → h'.get? b = some o) (hd : ∀ d ∈ S, ∀ o, h.get? d = some o → NotTup o) (ne : a ∉ S) : AbsH prog w h' a mo := by
  cases mo with
  | list xs => obtain ⟨vs, ⟨n, e⟩, e2⟩ := x; exact ⟨vs, ⟨n, k _ _ ne e⟩, e2⟩
  | tup xs => obtain ⟨vs, n, e, e2⟩ := x; exact ⟨vs, n, k _ _ ne e, e2⟩
  | dict kvs => obtain ⟨kv', ⟨o, es, ep, ho, r⟩, e2⟩ := x; exact ⟨kv', ⟨o, es, ep, k _ _ ne ho, r⟩, e2⟩
  | tdict kvs =>
    obtain ⟨kv', ⟨o, es, ep, ho, hx, hd', he, hk, hn⟩, e2⟩ := x
    refine ⟨kv', ⟨o, es, ep, k _ _ ne ho, hx, hd', he, fun y hy => ?_, hn⟩, e2⟩
    obtain ⟨o', items, n, h1, h2, h3, h4⟩ := hk y hy
    refine ⟨o', items, n, k _ _ ?_ h1, h2, h3, h4⟩
    intro e
    exact hd _ e o' h1 h2 _ _ h3
  | set xs =>
    obtain ⟨nd, o, es, ep, t, ho, r⟩ := x
    exact ⟨nd, o, es, ep, t, k _ _ ne ho, r⟩
  | inst C dx => exact k _ _ ne x
  | cell v => obtain ⟨v', ⟨o, e, e1⟩, e2⟩ := x; exact ⟨v', ⟨o, k _ _ ne e, e1⟩, e2⟩
  | raw o => exact k _ _ ne x
  | fdict kvs ep => obtain ⟨kv', ⟨o, es, ho, r⟩, e2⟩ := x; exact ⟨kv', ⟨o, es, k _ _ ne ho, r⟩, e2⟩
  | range x y z => obtain ⟨t, u, v, e⟩ := x; exact ⟨t, u, v, k _ _ ne e⟩
/-- some objects change, some are new -/
theorem Rel.swap {E1 E2 : MH} (R : Rel prog w base FS X L h m (E1 ++ mh)) (k : ∀ b o, b ∉ E1.map (·.1) → h.get? b = some o → h'.get? b = some o) (nt : ∀ b ∈ E1.map (·.1), ∀ o, h.get? b = some o → NotTup o)
    (nd : (E2.map (·.1)).Nodup) (hn : ∀ a mo, (a, mo) ∈ E2 → AbsH prog w h' a mo ∧ (a ∈ E1.map (·.1) ∨ h.objs.size ≤ a)) : Rel prog w base FS X L h' m (E2 ++ mh) := by
  have nd1 := R.nd
  rw [List.map_append, List.nodup_append] at nd1
  have in1 : ∀ a, a ∈ E1.map (·.1) → base.objs.size ≤ a ∧ a ≠ L ∧ a ∉ mh.map (·.1) ∧ a ∉ X.map (·.1) ∧ a ∉ FS.map (·.1) := fun a ha => by
    obtain ⟨⟨b, mo⟩, hm, rfl⟩ := List.mem_map.mp ha
    obtain ⟨_, y, z⟩ := R.objs b mo (List.mem_append_left _ hm)
    refine ⟨y, z, fun q => nd1.2.2 _ ha _ q rfl, fun q => ?_, fun q => ?_⟩
    · obtain ⟨⟨b', o⟩, hm', e⟩ := List.mem_map.mp q
      have e' : b' = b := e
      subst e'
      exact (R.ex _ _ hm').2.2.2 (by rw [List.map_append]; exact List.mem_append_left _ ha)
    · obtain ⟨⟨b', o⟩, hm', e⟩ := List.mem_map.mp q
      have e' : b' = b := e
      subst e'
      exact (R.fs _ _ hm').2.2.2.1 (by rw [List.map_append]; exact List.mem_append_left _ ha)
  have key : ∀ a, a ∈ E2.map (·.1) → base.objs.size ≤ a ∧ a ≠ L ∧ a ∉ mh.map (·.1) ∧ a ∉ X.map (·.1) ∧ a ∉ FS.map (·.1) := fun a ha => by
    obtain ⟨⟨b, mo⟩, hm, rfl⟩ := List.mem_map.mp ha
    rcases (hn b mo hm).2 with q | q
    · exact in1 _ q
    · obtain ⟨f1, f2, f3, f4, f5⟩ := R.fresh q
      rw [List.map_append, List.mem_append, not_or] at f3
      exact ⟨f1, f2, f3.2, f4, f5⟩
  refine ⟨fun b o e => k _ _ (fun q => ?_) (R.keep b o e), R.above, ?_, ?_, ?_, ?_, ?_⟩
  · exact absurd (Heap.lt_size e) (Nat.not_lt.mpr (in1 b q).1)
  · obtain ⟨mr, ⟨oL, es, ep, h1, h2⟩, e⟩ := R.ns
    exact ⟨mr, ⟨oL, es, ep, k _ _ (fun q => (in1 _ q).2.1 rfl) h1, h2⟩, e⟩
  · rw [List.map_append, List.nodup_append]
    exact ⟨nd, nd1.2.1, fun a ha b hb e => (key a ha).2.2.1 (e ▸ hb)⟩
  · intro a mo q
    rcases List.mem_append.mp q with q | q
    · obtain ⟨x, _⟩ := hn a mo q
      have := key a (List.mem_map_of_mem (f := (·.1)) q)
      exact ⟨x, this.1, this.2.1⟩
    · obtain ⟨x, y, z⟩ := R.objs a mo (List.mem_append_right _ q)
      exact ⟨x.keptS k nt (fun e => (in1 _ e).2.2.1 (List.mem_map_of_mem (f := (·.1)) q)), y, z⟩
  · intro a o q
    obtain ⟨x, y, z, t⟩ := R.ex a o q
    rw [List.map_append, List.mem_append, not_or] at t
    refine ⟨k _ _ t.1 x, y, z, ?_⟩
    rw [List.map_append, List.mem_append, not_or]
    exact ⟨fun e => (key a e).2.2.2.1 (List.mem_map_of_mem (f := (·.1)) q), t.2⟩
  · intro a d q
    obtain ⟨⟨o, x, r⟩, y, z, t, u⟩ := R.fs a d q
    rw [List.map_append, List.mem_append, not_or] at t
    refine ⟨⟨o, k _ _ t.1 x, r⟩, y, z, ?_, u⟩
    rw [List.map_append, List.mem_append, not_or]
    exact ⟨fun e => (key a e).2.2.2.2 (List.mem_map_of_mem (f := (·.1)) q), t.2⟩

/-! enumerate -/
section
variable {A : Around} {E : Value → Shared → Prop} {s : Shared}
theorem nextOf_tuple_item {it t : Addr} {i : Nat} {items} {x : Value} {Q : Value → Shared → Prop} (hit : s.heap.IsTupleIter it t i) (ht : s.heap.IsTuple t items) (hx : items[i]? = some x)
    (hQ : ∀ h', h'.IsTupleIter it t (i + 1) → Heap.SameBut it s.heap h' → Q x { s with heap := h' }) : wpAny (model prog w) A (Builtin.SmallTypes.nextOf (.ref it)) Q E s := by
  obtain ⟨o, ho, hc, hd⟩ := id hit
  obtain ⟨ol, hol, _, nl, hdl⟩ := ht
  unfold Builtin.SmallTypes.nextOf
  refine wpAny_bind (wpAny_callSpecial?_slot (name := PySem.Str.ofString "__next__") hit.typeIs PySem.F.slot_tuple_iterator_next
    (wpAny_call_entry PySem.F.slot_tuple_iterator_next hit.typeIs PySem.F.entry_tuple_iterator_next ?_ (PySem.F.args_tuple_iterator_next_1 _)))
  show wpAny _ _ (field (.ref it) 0 >>= _) _ _ s
  refine wpAny_bind (wpAny_field ho hd (x := .ref t) rfl ?_)
  show wpAny _ _ (if (Value.ref t == Value.none) = true then _ else _) _ _ s
  rw [if_neg (show ¬ ((Value.ref t == Value.none) = true) from Bool.false_ne_true)]
  show wpAny _ _ (field (.ref it) 1 >>= _) _ _ s
  refine wpAny_bind (wpAny_field ho hd (x := .int i 0) rfl ?_)
  show wpAny _ _ (seqItems? (.ref t) >>= _) _ _ s
  refine wpAny_bind (wpAny_seqItems hol hdl ?_)
  simp only [Int.toNat_natCast, hx]
  refine wpAny_bind (wpAny_setField ho hd (by simp) (wpAny_pure ⟨x, rfl, wpAny_pure (hQ _ ?_ (Heap.SameBut.update ..))⟩))
  exact ⟨_, Heap.get?_update_self _ ho (Obj.isFreed_of_fields (Obj.data_mapFields hd _)), (Obj.cls_mapFields ..).trans hc, by
    rw [Obj.data_mapFields hd]; simp [rawInt]⟩
theorem nextOf_tuple_end {it t : Addr} {i : Nat} {items} {Q : Value → Shared → Prop} (hh : A.handled = none) (hit : s.heap.IsTupleIter it t i) (ht : s.heap.IsTuple t items) (hx : items[i]? = none)
    (hE : ∀ h' e, Heap.ExtBut it s.heap h' → (∃ o, h'.get? e = some o ∧ o.cls = .type "StopIteration") → E (.ref e) { s with heap := h' }) : wpAny (model prog w) A (Builtin.SmallTypes.nextOf (.ref it)) Q E s := by
  obtain ⟨o, ho, hc, hd⟩ := id hit
  obtain ⟨ol, hol, _, nl, hdl⟩ := ht
  unfold Builtin.SmallTypes.nextOf
  refine wpAny_bind (wpAny_callSpecial?_slot (name := PySem.Str.ofString "__next__") hit.typeIs PySem.F.slot_tuple_iterator_next
    (wpAny_call_entry PySem.F.slot_tuple_iterator_next hit.typeIs PySem.F.entry_tuple_iterator_next ?_ (PySem.F.args_tuple_iterator_next_1 _)))
  show wpAny _ _ (field (.ref it) 0 >>= _) _ _ s
  refine wpAny_bind (wpAny_field ho hd (x := .ref t) rfl ?_)
  show wpAny _ _ (if (Value.ref t == Value.none) = true then _ else _) _ _ s
  rw [if_neg (show ¬ ((Value.ref t == Value.none) = true) from Bool.false_ne_true)]
  show wpAny _ _ (field (.ref it) 1 >>= _) _ _ s
  refine wpAny_bind (wpAny_field ho hd (x := .int i 0) rfl ?_)
  show wpAny _ _ (seqItems? (.ref t) >>= _) _ _ s
  refine wpAny_bind (wpAny_seqItems hol hdl ?_)
  simp only [Int.toNat_natCast, hx]
  refine wpAny_bind (wpAny_rule (wpAny_bind (wpAny_setField ho hd (by simp) ?_)))
  show wpAny _ _ (newExc (.type "StopIteration") [] >>= _) _ _ _
  refine wpAny_bind ?_
  simp only [newExc, newTuple]
  refine wpAny_bind (wpAny_newObj_type ?_ (by size_fits))
  refine wpAny_bind (m := firstArgMember _ _) (wpAny_of_eq (a := Value.none) (by first | rfl | (simp only [firstArgMember]; rfl)) ?_)
  refine wpAny_newObj_type ?_ (by size_fits)
  simp only [raiseNew]
  refine wpAny_bind (wpAny_handled ?_)
  rw [show A.in1.handled = none from hh]
  refine wpAny_bind (wpAny_pure (wpAny_throw ?_))
  exact hE _ _ (((Heap.SameBut.update ..).extBut.push _).push _) ⟨_, Heap.get?_push_size _ rfl, rfl⟩
end
theorem draws_tuple {A : Around} (hh : A.handled = none) (it l : Addr) (hne : l ≠ it) (items : Array Value) :
    Draws prog w A it [it, l] items.size (fun i v => items[i]? = some v) (fun i h => h.IsTupleIter it l i ∧ h.IsTuple l items) where
  live := fun _ _ st => let ⟨o, ho, _⟩ := st.1; ⟨o, ho⟩
  frame := fun _ _ _ st hk => ⟨st.1.at fun o e => hk it (by simp) o e, st.2.at fun o e => hk l (by simp) o e⟩
  item := fun i s Q E hi st hQ => by
    refine nextOf_tuple_item st.1 st.2 (x := items[i]) (by simp [hi]) fun h' hit' hs' => ?_
    exact hQ _ h' s.toks (by simp [hi]) ⟨hit', st.2.extBut hs'.extBut hne⟩ hs'
  done := fun s Q E st hE => nextOf_tuple_end hh st.1 st.2 (by simp) hE

/-- the two kinds of rows that we count along -/
structure SeqK (c : Sit) (T : String) (l : Addr) (has : MH → List Value → Prop) (seqAt : Heap → Array Value → Prop) : Prop where
  there : ∀ {mh p xs}, has mh xs → has (p :: mh) xs
  at_ : ∀ {base FS X A m mh xs} {s : Shared}, Good c base FS A → Rel c.prog c.w base FS X c.env.locals s.heap m mh → has mh xs → ∃ vs : List Value, seqAt s.heap vs.toArray ∧ vs.map cn = xs
  lt : ∀ {h vs}, seqAt h vs → l < h.objs.size
  obj : ∀ {h : Heap} {vs}, seqAt h vs → ∃ o, h.get? l = some o ∧ o.cls ≠ .type T ∧ o.cls ≠ .type "enumerate"
  draws : ∀ {A : Around} (_ : A.handled = none) (it : Addr) (_ : l ≠ it) (items : Array Value), Draws c.prog c.w A it [it, l] items.size (fun i v => items[i]? = some v) (fun i h => (∃ o, h.get? it = some o ∧ LIt T l i o) ∧ seqAt h items)
theorem seqK_list (c : Sit) (l : Addr) : SeqK c "list_iterator" l (fun mh xs => LAt c mh l xs) (fun h vs => h.IsList l vs) where
  there := LAt.there
  at_ := fun G R ha => let ⟨vs, pl, e⟩ := R.lat G ha; ⟨vs, pl.isList, e⟩
  lt := fun ⟨_, e, _⟩ => Heap.lt_size e
  obj := fun ⟨o, e, hc, _⟩ => ⟨o, e, by rw [hc]; decide, by rw [hc]; decide⟩
  draws := fun hh it hne items => Draws.list hh it l hne items
theorem seqK_tup (c : Sit) (l : Addr) : SeqK c "tuple_iterator" l (fun mh xs => MHas mh l (.tup xs)) (fun h vs => h.IsTuple l vs) where
  there := MHas.there
  at_ := fun G R ha => let ⟨vs, n, pl, e⟩ := R.tup ha; ⟨vs, ⟨_, pl, rfl, n, rfl⟩, e⟩
  lt := fun ⟨_, e, _⟩ => Heap.lt_size e
  obj := fun ⟨o, e, hc, _⟩ => ⟨o, e, by rw [hc]; decide, by rw [hc]; decide⟩
  draws := fun hh it hne items => draws_tuple hh it l hne items
noncomputable def enumP (T : String) (l it : Addr) (k : Nat) (raws : Xs) : Prop := ∃ i o old, raws = [(it, enumObj i k old), (i, o)] ∧ LIt T l k o
noncomputable def enumOut (i : Addr) (k : Int) (x : Value) (a : Addr) : Obj := { cls := .type "enumerate", dict := none, data := .fields #[rawInt a, .bool false, .ref i, rawInt k, .none, x], slots := #[] }
theorem fields_nt {o : Obj} {fs : Array Value} (e : o.data = .fields fs) : NotTup o := fun _ vs n q => by rw [e] at q; cases q
theorem nodup2 {a b : Addr} (ne : a ≠ b) : ([a, b] : List Addr).Nodup := by simp [ne]
theorem Nexts.of_enum {T : String} {l it : Addr} {has : MH → List Value → Prop} {seqAt : Heap → Array Value → Prop} (S : SeqK c T l has seqAt) {elts : List Expr} {x1 : Nat} {tp : Pos} {I J F : Nat → Loc → MH → Prop}
    (hl : ∀ k m mh, I k m mh → ∃ xs, has mh xs ∧ (xs[k]? = none → k = xs.length → F k m mh) ∧ (k ≤ xs.length) ∧ ∀ x, xs[k]? = some x → ∀ t, TA c m ((t, .tup [.int k 0, x]) :: mh) (.Tuple elts x1 tp) (.ref t) (fun m1 h1 => Drop h1 (J k m1))) : Nexts c (.Tuple elts x1 tp) it (enumP T l it) I J F := by
  rintro k raws m mh ⟨i, o, old, rfl, ht⟩ hI base FS X A E s G N Tb R g
  obtain ⟨xs, hx, h1, hk, h2⟩ := hl k m mh hI
  have he : IsEnum s.heap it i k old := (R.objs it (.raw _) (.head _)).1
  have hi : s.heap.get? i = some o := (R.objs i (.raw o) (.tail _ (.head _))).1
  have hnd : it ≠ i := by
    have := R.nd
    simp only [rawE, List.map_cons, List.map_nil, List.cons_append, List.nil_append, List.nodup_cons, List.mem_cons, not_or] at this
    exact this.1.1
  obtain ⟨vs, pl, e⟩ := S.at_ G R (S.there (S.there hx))
  obtain ⟨ol, hol, nc1, nc2⟩ := S.obj pl
  have hli : l ≠ i := fun q => by subst q; rw [hol] at hi; cases hi; exact nc1 ht.1
  have hle : l ≠ it := fun q => by subst q; have he' : s.heap.get? l = some _ := he; rw [hol] at he'; cases he'; exact nc2 rfl
  have D := S.draws (A := A.in1) G.hd i hli vs.toArray
  have len : vs.length = xs.length := by rw [← e, List.length_map]
  have nt : ∀ b ∈ (rawE [(it, enumObj i k old), (i, o)]).map (·.1), ∀ ob, s.heap.get? b = some ob → NotTup ob := by
    intro b hb ob q
    simp only [rawE, List.map_cons, List.map_nil, List.mem_cons, List.not_mem_nil, or_false] at hb
    rcases hb with rfl | rfl
    · rw [he] at q; cases q; exact fields_nt rfl
    · rw [hi] at q; cases q; exact fields_nt ht.2
  have hei : it ∉ [i, l] := by simp; exact ⟨hnd, fun q => hle q.symm⟩
  by_cases hlt : k < xs.length
  · have hkv : k < vs.toArray.size := by rw [List.size_toArray]; omega
    refine wpAny_pyNext_enum_itemD D he ⟨⟨o, hi, ht⟩, pl⟩ hkv hnd hei fun x h' tk hP ho hst hT hsz hkp => ?_
    have hxk : xs[k]? = some (cn x) := by rw [← e, List.getElem?_map]; simp at hP; rw [hP]; rfl
    obtain ⟨⟨o', ho', hc', hd'⟩, _⟩ := hst
    have itlt : it < s.heap.objs.size := Heap.lt_size he
    have ilt : i < s.heap.objs.size := Heap.lt_size hi
    have R' : Rel c.prog c.w base FS X c.env.locals h' m (([(it, .raw (enumOut i (k + 1) x s.heap.objs.size)), (i, .raw o'), (s.heap.objs.size, .tup [.int k 0, cn x])] : MH) ++ mh) := by
      refine Rel.swap (E1 := rawE [(it, enumObj i k old), (i, o)]) R (fun b ob hb q => hkp b ob (fun e => hb (by simp [rawE, e])) (fun e => hb (by simp [rawE, e])) q) nt ?_ ?_
      · simp only [List.map_cons, List.map_nil, List.nodup_cons, List.mem_cons, List.not_mem_nil, or_false, not_or]
        exact ⟨⟨hnd, Nat.ne_of_lt itlt⟩, Nat.ne_of_lt ilt, not_false, List.nodup_nil⟩
      · intro a mo q
        simp only [List.mem_cons, List.not_mem_nil, or_false] at q
        rcases q with q | q | q
        · cases q; exact ⟨ho, .inl (by simp [rawE])⟩
        · cases q; exact ⟨ho', .inl (by simp [rawE])⟩
        · cases q; exact ⟨⟨[.int k tk, x], 0, by simpa using hT, rfl⟩, .inr (Nat.le_refl _)⟩
    refine ⟨g, rfl, m, _, R', N, ?_⟩
    intro base FS X A E s' G N Tb R2 g
    have he2 : IsEnumOut s'.heap it i ((k : Int) + 1) x s.heap.objs.size := (R2.objs it (.raw _) (.head _)).1
    refine wpAny_letOwnedTupleGo_enum he2 fun h3 he3 hs3 => ?_
    have R3 : Rel c.prog c.w base FS X c.env.locals h3 m (([(it, .raw (enumObj i (k + 1) x)), (i, .raw o'), (s.heap.objs.size, .tup [.int k 0, cn x])] : MH) ++ mh) := by
      exact R2.raw_set (o := enumOut i (k + 1) x s.heap.objs.size) hs3.extBut (fields_nt rfl) he3
    refine ⟨g, rfl, m, _, R3, N, ?_⟩
    refine TT.drop (TT.mono (TT.frame (raws := [(it, enumObj i (k + 1) x), (i, o')]) (h2 (cn x) hxk s.heap.objs.size (.ref s.heap.objs.size) rfl)) fun _ m' mh' ⟨mh1, e0, l', mh2, p, sub, j⟩ => ?_)
    subst e0
    exact ⟨rawE [(it, enumObj i (k + 1) x), (i, o')] ++ l', rawE [(it, enumObj i (k + 1) x), (i, o')] ++ mh2, p.append_left _, List.Sublist.append (.refl _) sub, _, mh2, ⟨i, o', x, rfl, hc', hd'⟩, rfl, j⟩
  · have hke : k = xs.length := by omega
    have : k = vs.toArray.size := by rw [List.size_toArray]; omega
    refine wpAny_pyNext_enum_endD D he (by rw [← this]; exact ⟨⟨o, hi, ht⟩, pl⟩) fun h' kp => ⟨g, rfl, m, mh, ?_, N, h1 (List.getElem?_eq_none (by omega)) hke⟩
    exact Rel.swap (E1 := rawE [(it, enumObj i k old), (i, o)]) (E2 := []) R (fun b ob hb q => kp b ob (fun e => hb (by simp [rawE, e])) q) nt List.nodup_nil (fun _ _ q => nomatch q)
/-- the call -/
theorem TCall.enumL {a : Addr} {xs : List Value} (ha : LAt c mh a xs) (hq : ∀ e i o, LIt "list_iterator" a 0 o → Q (.ref e) m ((e, .raw (enumObj i 0 .none)) :: (i, .raw o) :: mh)) : TCall c m mh (.type "enumerate") [.ref a] [] Q := by
  intro f' as' kw' ef ea ek base FS X A E s G N T R g
  rw [cn_type ef]
  obtain ⟨v, rfl, ev⟩ := one_arg ea
  rw [cn_ref ev]; obtain rfl := no_kw ek
  obtain ⟨vs, pl, e⟩ := R.lat G ha
  refine call_enumerate_list pl.isList fun h' he hit hsz hk => ?_
  obtain ⟨o, ho, hc, hd⟩ := hit
  refine ⟨g, rfl, m, ([(s.heap.objs.size + 1, .raw (enumObj s.heap.objs.size 0 .none)), (s.heap.objs.size, .raw o)] : MH) ++ mh, ?_, N, hq _ _ _ ⟨hc, hd⟩⟩
  refine Rel.swap (E1 := []) (mh := mh) R (fun b o _ q => hk b o q) (fun b hb => nomatch hb) ?_ ?_
  · exact nodup2 (Nat.succ_ne_self _)
  · intro b mo q
    simp only [List.mem_cons, List.not_mem_nil, or_false] at q
    rcases q with q | q
    · cases q; exact ⟨he, .inr (Nat.le_succ _)⟩
    · cases q; exact ⟨ho, .inr (Nat.le_refl _)⟩
theorem TSrc.enum {T : String} {l e i : Addr} {o : Obj} {src : Src} {QS : Addr → Src → Loc → MH → Prop} (hs : src.P e = enumP T l e) (ho : LIt T l 0 o) (hq : QS e src m mh) : TSrc c m ((e, .raw (enumObj i 0 .none)) :: (i, .raw o) :: mh) (.ref e) QS := by
  intro x' ex base FS X A E s G N Tb R g
  rw [cn_ref ex]
  have he : IsEnum s.heap e i 0 .none := (R.objs e (.raw _) (.head _)).1
  refine wpAny_pyIter_enum he ⟨g, rfl, m, _, R, N, e, src, [(e, enumObj i 0 .none), (i, o)], mh, rfl, ?_, rfl, hq⟩
  rw [hs]; exact ⟨i, o, _, rfl, ho⟩
noncomputable abbrev ETurn (c : Sit) (has : MH → List Value → Prop) (elts : List Expr) (x1 : Nat) (tp : Pos) (body orelse : List Stmt) (B : Nat) (QF : Flow → Loc → MH → Prop) (J : Nat → Loc → MH → Prop) (k : Nat) (m : Loc) (mh : MH) : Prop :=
  ∃ xs, has mh xs ∧ k ≤ xs.length ∧ (k = xs.length → TS c m mh orelse QF) ∧
    ∀ x, xs[k]? = some x → k < B ∧ ∀ t, TA c m ((t, .tup [.int k 0, x]) :: mh) (.Tuple elts x1 tp) (.ref t) fun m1 h1 => Drop h1 fun h1 => TS c m1 h1 body (Turn (J (k + 1)) QF)
theorem TLoop.enum0 {T : String} {l e i : Addr} {o : Obj} {has : MH → List Value → Prop} {seqAt : Heap → Array Value → Prop} (src : Src) (S : SeqK c T l has seqAt) (hs : src.P e = enumP T l e) (ho : LIt T l 0 o) {elts : List Expr} {x1 : Nat} {tp : Pos} {body orelse : List Stmt} (I : Nat → Loc → MH → Prop) (B : Nat) (h0 : I 0 m mh)
    (hl : ∀ k m mh, I k m mh → ∃ xs, has mh xs ∧ k ≤ xs.length ∧ (k = xs.length → TS c m mh orelse QF) ∧ ∀ x, xs[k]? = some x → k < B ∧ ∀ t, TA c m ((t, .tup [.int k 0, x]) :: mh) (.Tuple elts x1 tp) (.ref t) fun m1 h1 => Drop h1 fun h1 => TS c m1 h1 body (Turn (I (k + 1)) QF)) :
    TLoop c m ((e, .raw (enumObj i 0 .none)) :: (i, .raw o) :: mh) (.ref e) (.Tuple elts x1 tp) body orelse QF := by
  intro x' ex base FS X A E s G N Tb R g
  rw [cn_ref ex]
  have he : IsEnum s.heap e i 0 .none := (R.objs e (.raw _) (.head _)).1
  refine wpAny_pyIter_enum he ⟨g, rfl, m, _, R, N, e, src, [(e, enumObj i 0 .none), (i, o)], mh, I,
    fun k m mh => k < B ∧ TS c m mh body (Turn (I (k + 1)) QF), fun k m mh => TS c m mh orelse QF, B, rfl, ?_, rfl, h0, ?_, fun _ _ _ j => j, fun _ _ _ f => f⟩
  · rw [hs]; exact ⟨i, o, _, rfl, ho⟩
  · rw [hs]
    refine Nexts.of_enum S (fun k m mh hi => ?_)
    obtain ⟨xs, h1, h2, h3, h4⟩ := hl k m mh hi
    refine ⟨xs, h1, fun _ q => h3 q, h2, fun x q t v' ev => TT.mono ((h4 x q).2 t v' ev) ?_⟩
    rintro _ m1 mh1 ⟨l', mh2, p, sb, z⟩
    exact ⟨l', mh2, p, sb, (h4 x q).1, z⟩
theorem TLoop.enum {T : String} {l e i : Addr} {o : Obj} {has : MH → List Value → Prop} {seqAt : Heap → Array Value → Prop} (src : Src) (S : SeqK c T l has seqAt) (hs : src.P e = enumP T l e) (ho : LIt T l 0 o) {elts : List Expr} {x1 : Nat} {tp : Pos} {body orelse : List Stmt} (I : Nat → Loc → MH → Prop) (B : Nat) (h0 : I 0 m mh)
    (hl : ∀ J, HidI I J → ∀ k m mh, I k m mh → ETurn c has elts x1 tp body orelse B QF J k m mh) :
    TLoop c m ((e, .raw (enumObj i 0 .none)) :: (i, .raw o) :: mh) (.ref e) (.Tuple elts x1 tp) body orelse QF := TLoop.enum0 src S hs ho I B h0 (hl I fun _ _ _ q => q)
theorem CompBlock.enum {T : String} {l it r : Addr} {K : Comp} {gens : List Comprehension} {scope : Scope} {pos : Pos} {d : Nat} {has : MH → List Value → Prop} {seqAt : Heap → Array Value → Prop} (src : Src) (S : SeqK c T l has seqAt) (hs : src.P it = enumP T l it) {elts : List Expr} {x1 : Nat} {tp : Pos} (I : Nat → Loc → MH → Prop) (B : Nat) (ok : okAt gens d (.Tuple elts x1 tp)) (h0 : I 0 m0 mh0)
    (hl : ∀ k m mh, I k m mh → ∃ xs, has mh xs ∧ k ≤ xs.length ∧ (k = xs.length → QL m mh) ∧
      ∀ x, xs[k]? = some x → k < B ∧ ∀ t, TA c m ((t, .tup [.int k 0, x]) :: mh) (.Tuple elts x1 tp) (.ref t) fun m1 h1 => Drop h1 fun h1 => TRun c m1 h1 K gens scope pos d it r (I (k + 1))) :
    CompBlock c K gens scope pos (.Tuple elts x1 tp) d it r src m0 mh0 QL :=
  ⟨_, I, fun k m mh => k < B ∧ TRun c m mh K gens scope pos d it r (I (k + 1)), fun _ => QL, B, ok.turn, h0, by
    rw [hs]
    refine Nexts.of_enum S (fun k m mh hi => ?_)
    obtain ⟨xs, h1, h2, h3, h4⟩ := hl k m mh hi
    refine ⟨xs, h1, fun _ q => h3 q, h2, fun x q t v' ev => TT.mono ((h4 x q).2 t v' ev) ?_⟩
    rintro _ m1 mh1 ⟨l', mh2, p, sb, z⟩
    exact ⟨l', mh2, p, sb, (h4 x q).1, z⟩, fun _ _ _ j => j, fun _ _ _ f => f⟩
end
end
section
open PySem PySem.W PySem.Calls PyProof.Rows
section
variable {c : Sit} {m m' m0 : Loc} {mh mh' mh0 : MH} {α β : Type}
variable {Q : Value → Loc → MH → Prop} {QB : Bool → Loc → MH → Prop} {QF : Flow → Loc → MH → Prop} {QL : Loc → MH → Prop}

/-! some of the facts, in another order -/
inductive Pull : MH → (Addr × MO) → MH → Prop
  | here {a l} : Pull (a :: l) a l
  | there {a b l r} : Pull l a r → Pull (b :: l) a (b :: r)
  | app {a l r k} : Pull l a r → Pull (k ++ l) a (k ++ r)
inductive PullB : MH → MH → MH → Prop
  | here {k l} : PullB (k ++ l) k l
  | there {k b l r} : PullB l k r → PullB (b :: l) k (b :: r)
  | app {k k2 l r} : PullB l k r → PullB (k2 ++ l) k (k2 ++ r)
theorem Pull.perm {l r : MH} {a : Addr × MO} (p : Pull l a r) : l.Perm (a :: r) := by
  induction p with
  | here => exact .refl _
  | there _ ih => exact (ih.cons _).trans (.swap _ _ _)
  | @app a l r k _ ih => exact (ih.append_left k).trans List.perm_middle
theorem PullB.perm {l k r : MH} (p : PullB l k r) : l.Perm (k ++ r) := by
  induction p with
  | here => exact .refl _
  | there _ ih => exact (ih.cons _).trans List.perm_middle.symm
  | @app k k2 l r _ ih => exact (ih.append_left k2).trans (by rw [← List.append_assoc, ← List.append_assoc]; exact List.perm_append_comm.append_right _)
noncomputable def Sub2 (l' l : MH) : Prop := ∃ k, l.Perm k ∧ l'.Sublist k
theorem Sub2.refl {l : MH} : Sub2 l l := ⟨l, .refl _, .refl _⟩
theorem Sub2.cons {l l' r : MH} {a : Addr × MO} (p : Pull l a r) (s : Sub2 l' r) : Sub2 (a :: l') l := let ⟨k, h1, h2⟩ := s; ⟨a :: k, p.perm.trans (h1.cons _), h2.cons_cons _⟩
theorem Sub2.app {l l' r k : MH} (p : PullB l k r) (s : Sub2 l' r) : Sub2 (k ++ l') l := let ⟨q, h1, h2⟩ := s; ⟨k ++ q, p.perm.trans (h1.append_left _), (List.Sublist.refl _).append h2⟩
theorem Sub2.skip {l l' : MH} {a : Addr × MO} (s : Sub2 l' l) : Sub2 l' (a :: l) := let ⟨q, h1, h2⟩ := s; ⟨a :: q, h1.cons _, h2.cons _⟩
theorem Sub2.skipB {l l' k : MH} (s : Sub2 l' l) : Sub2 l' (k ++ l) := let ⟨q, h1, h2⟩ := s; ⟨k ++ q, h1.append_left _, h2.trans (List.sublist_append_right _ _)⟩
theorem Drop.of {P : MH → Prop} (h : P mh') (s : Sub2 mh' mh) : Drop mh P := let ⟨k, h1, h2⟩ := s; ⟨k, mh', h1, h2, h⟩
theorem Sub2.rel {prog : Program} {w : World} {base : Heap} {FS : FSt} {X : Xs} {L : Addr} {h : Heap} (s : Sub2 mh' mh) (R : Rel prog w base FS X L h m mh) : Rel prog w base FS X L h m mh' := by
  obtain ⟨k, h1, h2⟩ := s
  have R' := R.perm h1
  exact R'.weak (fun _ q => q) (fun _ q => h2.subset q) (R'.nd.sublist (h2.map _))
theorem TT.sub2 {t : Sem α} {QT : α → Loc → MH → Prop} (s : Sub2 mh' mh) (h : TT c m mh' t QT) : TT c m mh t QT :=
  fun base FS X A E st G N T R g => h base FS X A E st G N T (s.rel R) g
theorem TS.sub2 {ss : List Stmt} (h : TS c m mh' ss QF) (s : Sub2 mh' mh) : TS c m mh ss QF := TT.sub2 s h
theorem TS1.sub2 {ss : Stmt} (h : TS1 c m mh' ss QF) (s : Sub2 mh' mh) : TS1 c m mh ss QF := TT.sub2 s h
theorem TCall.sub2 {f : Value} {as : List Value} {kw : List (PySem.Str × Value)} (h : TCall c m mh' f as kw Q) (s : Sub2 mh' mh) : TCall c m mh f as kw Q := fun f' as' kw' ef ea ek => TT.sub2 s (h f' as' kw' ef ea ek)
theorem TRun.drop {K : Comp} {gens : List Comprehension} {scope : Scope} {pos : Pos} {d : Nat} {it r : Addr} (h : TRun c m mh K gens scope pos d it r (fun m' mh' => Drop mh' (QL m'))) : TRun c m mh K gens scope pos d it r QL :=
  TT.drop (TT.mono h fun _ _ _ ⟨e, l, mh2, p, s, q⟩ => ⟨l, mh2, p, s, e, q⟩)
theorem TT.pull {t : Sem α} {QT : α → Loc → MH → Prop} {a : Addr × MO} {r : MH} (p : Pull mh a r) (h : TT c m (a :: r) t QT) : TT c m mh t QT := TT.perm p.perm h
theorem TCall.pull {f : Value} {as : List Value} {kw : List (PySem.Str × Value)} {a : Addr × MO} {r : MH} (p : Pull mh a r) (h : TCall c m (a :: r) f as kw Q) : TCall c m mh f as kw Q := fun f' as' kw' ef ea ek => TT.pull p (h f' as' kw' ef ea ek)
theorem MHas.left {l r : MH} {a : Addr} {o : MO} (x : MHas l a o) : MHas (l ++ r) a o := .of_mem (List.mem_append_left _ x.mem)
theorem MHas.right {l r : MH} {a : Addr} {o : MO} (x : MHas r a o) : MHas (l ++ r) a o := .of_mem (List.mem_append_right _ x.mem)
theorem TAnd.nilA (h : QB true m mh) : TAnd c m mh .And [] QB := TAnd.nil h
theorem TAnd.nilO (h : QB false m mh) : TAnd c m mh .Or [] QB := TAnd.nil h
theorem TV.str {x : PySem.Str} (hs : x.length ≤ slim) (h : QB ((x.length : Int) != 0) m mh) : TV c m mh (.str x 0) QB := by
  intro v' e base FS X A E s G N T R g
  obtain ⟨u, rfl⟩ := cn_str e
  exact PySem.P.truthy_str (by have := slim_lt hs; omega) ⟨g, rfl, m, mh, R, N, h⟩
end
end
section
open PySem PySem.W PySem.Calls PyProof.Rows
section
variable {c : Sit} {m m' m0 : Loc} {mh mh' mh0 : MH} {α β : Type}
variable {Q : Value → Loc → MH → Prop} {QB : Bool → Loc → MH → Prop} {QF : Flow → Loc → MH → Prop} {QL : Loc → MH → Prop}
theorem TA.sub {o i : Expr} {pos : Pos} {v : Value} (h : TE c m mh o fun ov m1 h1 => TE c m1 h1 i fun iv m2 h2 => TSetItem c m2 h2 ov iv v QL) : TA c m mh (.Subscript o i pos) v QL := by
  intro v' ev
  rw [arm_assign_Subscript]
  exact TT.bind (TT.holding (TT.mono h fun ov m1 h1 k => TT.bind (TT.holding (TT.mono k fun iv m2 h2 k2 => TT.at_ (TT.bind (TT.holding (TT.mono (k2 ov iv v' rfl rfl ev) fun _ m3 h3 k3 => TT.release k3)))))))
end
/-! tables -/
noncomputable def upd {κ β : Type} [DecidableEq κ] (f : κ → β) (x : κ) (v : β) : κ → β := fun y => if y = x then v else f y
section
variable {K κ : Type} [DecidableEq K] [DecidableEq κ]
noncomputable def kAt (kvs : List (K × Value)) (x : K) : Option Value := (kvs.find? fun kv => decide (kv.1 = x)).map (·.2)
noncomputable def kPut (kvs : List (K × Value)) (x : K) (v : Value) : List (K × Value) :=
  if kvs.any (fun kv => decide (kv.1 = x)) then kvs.map (fun kv => if kv.1 = x then (kv.1, v) else kv) else kvs ++ [(x, v)]
theorem vAt_k (kvs : List (PySem.Str × Value)) (x : PySem.Str) : vAt kvs x = kAt kvs x := rfl
theorem vPut_k (kvs : List (PySem.Str × Value)) (x : PySem.Str) (v : Value) : vPut kvs x v = kPut kvs x v := rfl
theorem tAt_k (kvs : List (List Key × Value)) (x : List Key) : tAt kvs x = kAt kvs x := rfl
theorem tPut_k (kvs : List (List Key × Value)) (x : List Key) (v : Value) : tPut kvs x v = kPut kvs x v := rfl
noncomputable def enc (g : κ → K) (ks : List κ) (f : κ → Value) : List (K × Value) := ks.map fun k => (g k, f k)
theorem enc_len (g : κ → K) (ks : List κ) (f : κ → Value) : (enc g ks f).length = ks.length := List.length_map _
theorem kAt_enc {g : κ → K} (hg : ∀ a b, g a = g b → a = b) {f : κ → Value} {k : κ} : ∀ {ks : List κ}, k ∈ ks → kAt (enc g ks f) (g k) = some (f k)
  | a :: r, h => by
    unfold kAt enc
    rw [List.map_cons, List.find?_cons]
    by_cases e : a = k
    · subst e; simp
    · have : g a ≠ g k := fun q => e (hg _ _ q)
      simp only [this, decide_false]
      have h' : k ∈ r := by rcases List.mem_cons.mp h with q | q; exact absurd q.symm e; exact q
      exact kAt_enc hg h'
theorem kAt_enc_none {g : κ → K} (hg : ∀ a b, g a = g b → a = b) {f : κ → Value} {k : κ} {ks : List κ} (h : k ∉ ks) : kAt (enc g ks f) (g k) = none := by
  unfold kAt enc
  rw [Option.map_eq_none_iff, List.find?_eq_none]
  intro p hp
  obtain ⟨a, ha, rfl⟩ := List.mem_map.mp hp
  simp only [decide_eq_true_eq]
  exact fun e => h (hg _ _ e ▸ ha)
theorem kPut_old {g : κ → K} (hg : ∀ a b, g a = g b → a = b) {f : κ → Value} {k : κ} {v : Value} {ks : List κ} (h : k ∈ ks) : kPut (enc g ks f) (g k) v = enc g ks (upd f k v) := by
  unfold kPut enc
  rw [if_pos]
  · rw [List.map_map]
    refine List.map_congr_left fun a _ => ?_
    simp only [Function.comp, upd]
    by_cases e : a = k
    · simp [e]
    · have : g a ≠ g k := fun q => e (hg _ _ q)
      simp [this, e]
  · rw [List.any_eq_true]
    exact ⟨_, List.mem_map.mpr ⟨k, h, rfl⟩, by simp⟩
theorem kPut_new {g : κ → K} (hg : ∀ a b, g a = g b → a = b) {f : κ → Value} {k : κ} {ks : List κ} (h : k ∉ ks) : kPut (enc g ks f) (g k) (f k) = enc g (ks ++ [k]) f := by
  unfold kPut enc
  rw [if_neg]
  · rw [List.map_append]; rfl
  · rw [List.any_eq_true]
    rintro ⟨p, hp, e⟩
    obtain ⟨a, ha, rfl⟩ := List.mem_map.mp hp
    simp only [decide_eq_true_eq] at e
    exact h (hg _ _ e ▸ ha)
end
theorem foldl_take {α β : Type} {f : β → α → β} {i : β} {xs : List α} {k : Nat} {x : α} (h : xs[k]? = some x) : (xs.take (k + 1)).foldl f i = f ((xs.take k).foldl f i) x := by
  rw [List.take_add_one, h, List.foldl_append]; rfl
noncomputable def key2 (p : PySem.Str × PySem.Str) : List Key := [.inl p.1, .inl p.2]
theorem key2_inj : ∀ a b, key2 a = key2 b → a = b := by
  rintro ⟨a, b⟩ ⟨c, d⟩ h
  simp only [key2, List.cons.injEq, Sum.inl.injEq, and_true] at h
  rw [h.1, h.2]
end
section
open PySem PySem.W PySem.Calls PyProof.Rows
section
variable {c : Sit} {m m' m0 : Loc} {mh mh' mh0 : MH} {α β : Type}
variable {Q : Value → Loc → MH → Prop} {QB : Bool → Loc → MH → Prop} {QF : Flow → Loc → MH → Prop} {QL : Loc → MH → Prop}
/-- a name that inner blocks read is stored into -/
theorem TA.cell {x : PySem.Str} {p : Pos} {a : Addr} {ov : Option Value} {v : Value} (hx : CHas c.cells x a) (hk : c.env.kindOf x = some .cell) (ha : MPut mh a (.cell ov) (.cell (some v)) mh') (h : QL m mh') : TA c m mh (.Name x p) v QL := by
  intro v' hv base FS X A E s G N T R g
  exact wpAny_assign_Name (TT.storeC (Q := fun _ m' mh' => QL m' mh') hv hx hk ha h base FS X A E s G N T R g)
end
end
section
open PySem PySem.W PySem.Calls PyProof.Rows
section
variable {c : Sit} {m m' m0 : Loc} {mh mh' mh0 : MH} {α β : Type}
variable {Q Q' : Value → Loc → MH → Prop} {QB : Bool → Loc → MH → Prop} {QF : Flow → Loc → MH → Prop} {QL : Loc → MH → Prop}
theorem TE.mono {e : Expr} (h : TE c m mh e Q) (k : ∀ v m' mh', Q v m' mh' → Q' v m' mh') : TE c m mh e Q' := TT.mono h fun _ _ _ => k _ _ _
theorem TE.ext (P : Value → MH → Prop) {e : Expr} (h : TE c m mh e fun v m' mh' => m' = m ∧ ∃ pre, mh' = pre ++ mh ∧ P v mh') (k : ∀ v pre, P v (pre ++ mh) → Q v m (pre ++ mh)) : TE c m mh e Q :=
  h.mono fun v m' mh' ⟨e1, pre, e2, p⟩ => by subst e1; subst e2; exact k v pre p
end
end
section
open PySem PySem.W PySem.Calls PyProof.Rows
section
variable {c : Sit} {m m' m0 : Loc} {mh mh' mh0 : MH} {α β : Type}
variable {Q Q' : Value → Loc → MH → Prop} {QB : Bool → Loc → MH → Prop} {QF : Flow → Loc → MH → Prop} {QL : Loc → MH → Prop}
variable {prog : Program} {w : World} {base : Heap} {FS : FSt} {X : Xs} {L L' : Addr} {h h' : Heap}

/-- a name set in a namespace dict -/
theorem nsSet_dict {A : Around} {E : Value → Shared → Prop} {s : Shared} {dx : Addr} {kv : List (PySem.Str × Value)} {name : PySem.Str} {v : Value} {QU : Unit → Shared → Prop} (d : s.heap.DictOf (strKind prog w) dx kv)
    (hq : ∀ h', h'.DictOf (strKind prog w) dx (stored kv name v) → Kept dx s.heap h' → QU () { s with heap := h', toks := s.toks + 1 }) : wpAny (model prog w) A (nsSet dx name v) QU E s := by
  obtain ⟨o, es, ep, ho, hc, hd, hk, hp, hn⟩ := d
  unfold nsSet
  refine wpAny_bind (wpAny_bind (wpAny_askSetting (wpAny_pure (wpAny_bind (wpAny_mkText (wpAny_bind (wpAny_loadPart ho ?_)))))))
  rw [hd]
  dsimp only
  have nr : es.any (·.refKey) = false := by
    rw [Array.any_eq_false]
    intro i hi
    obtain ⟨k, h1, _⟩ := hk es[i] (Array.getElem_mem hi)
    obtain ⟨u, h2⟩ := Value.isStrOf_shape h1
    rw [DictEntry.refKey, h2]; simp
  rw [aRefKeyMayBeTheName_at, nr, Bool.and_false]
  have ef : (fun e : DictEntry => e.key.isStr name) = fun e => (strKind prog w).is name e.key := funext fun e => isStr_eq name e.key
  have hidx : (es.findIdx? fun e => (strKind prog w).is name e.key) = kv.findIdx? fun kv => decide (kv.1 = name) := by
    rw [← hp.findIdx name]; obtain ⟨l⟩ := es; simp
  have hf : o.isFreed = false := Obj.isFreed_of_dict hd
  obtain ⟨c0, d0, dt, sl⟩ := o
  simp only at hd
  subst hd
  refine wpAny_updatePart ho (hq _ ?_ (Heap.SameBut.update ..).extBut)
  cases hi : es.findIdx? fun e => (strKind prog w).is name e.key with
  | some i =>
    have eo : Obj.putName name (PyData.keyHash w.params name) (.str name s.toks) v ⟨c0, d0, .dict es ep, sl⟩ = ⟨c0, d0, .dict (es.modify i fun e => { e with val := v }) ep, sl⟩ := by
      rw [Obj.putName_eq]; unfold Obj.putNameByArray; simp only [ef, hi]
    refine ⟨_, _, ep, (Heap.get?_update_self _ ho (by first | (erw [eo]; rfl) | rfl)).trans (congrArg some eo), hc, rfl, hk.modify _ _, ?_, ?_⟩
    · rw [stored, if_pos (any_of_findIdx_some (hidx ▸ hi))]
      have hl : (es.toList.findIdx? fun e => (strKind prog w).is name e.key) = some i := by rw [← hi]; obtain ⟨l⟩ := es; simp
      have := hp.modify hn hl v
      obtain ⟨l⟩ := es
      simpa using this
    · rw [stored, if_pos (any_of_findIdx_some (hidx ▸ hi)), keys_map_store]; exact hn
  | none =>
    have hnot : name ∉ kv.map (·.1) := not_mem_of_findIdx_none (hidx ▸ hi)
    have hany : ¬ (kv.any fun kv => decide (kv.1 = name)) = true := by
      rw [List.any_eq_true]; rintro ⟨p, hkv, he⟩
      exact hnot (List.mem_map.mpr ⟨p, hkv, of_decide_eq_true he⟩)
    have eo : Obj.putName name (PyData.keyHash w.params name) (.str name s.toks) v ⟨c0, d0, .dict es ep, sl⟩ = ⟨c0, d0, .dict (es.push ⟨PyData.keyHash w.params name, .str name s.toks, v⟩) (ep + 1), sl⟩ := by
      rw [Obj.putName_eq]; unfold Obj.putNameByArray; simp only [ef, hi]
    have hkey := strKind_is prog w name s.toks
    refine ⟨_, _, ep + 1, (Heap.get?_update_self _ ho (by first | (erw [eo]; rfl) | rfl)).trans (congrArg some eo), hc, rfl, hk.push hkey _, ?_, ?_⟩
    · rw [stored, if_neg hany]
      have := hp.append hkey (PyData.keyHash w.params name) v
      obtain ⟨l⟩ := es
      simpa using this
    · rw [stored, if_neg hany, List.map_append, List.nodup_append]
      refine ⟨hn, by simp, ?_⟩
      intro a ha b hb
      simp only [List.map_cons, List.map_nil, List.mem_singleton] at hb
      subst hb
      exact fun e => hnot (e ▸ ha)

/-! attributes stored -/
noncomputable def TSetAttr (c : Sit) (m : Loc) (mh : MH) (o : Value) (name : PySem.Str) (v : Value) (Q : Loc → MH → Prop) : Prop := ∀ o' v', cn o' = o → cn v' = v → TT c m mh (setAttr o' name v') (fun _ m' mh' => Q m' mh')
theorem TA.attr {o : Expr} {name : PySem.Str} {pos : Pos} {v : Value} (hq : TE c m mh o fun ov m1 h1 => TSetAttr c m1 h1 ov name v QL) : TA c m mh (.Attribute o name pos) v QL := by
  intro v' ev
  rw [arm_assign_Attribute]
  exact TT.bind (TT.holding (TT.mono hq fun ov m1 h1 k => TT.at_ (TT.bind (TT.holding (TT.mono (k ov v' rfl ev) fun _ m3 h3 k3 => TT.release k3)))))
theorem TSetAttr.field {C x dx : Addr} {as : List (PySem.Str × Value)} {names : List PySem.Str} {name : PySem.Str} {v : Value} (ok : ClsOk c.K C names) (hn : SHas names name) (h1 : MHas mh x (.inst C dx)) (h2 : MPut mh dx (.dict as) (.dict (vPut as name v)) mh')
    (hs : as.length ≤ slim) (hq : QL m mh') : TSetAttr c m mh (.ref x) name v QL := by
  intro o' v' eo ev base FS X A E s G N T R g
  rw [cn_ref eo]
  obtain ⟨od, ho, I⟩ := R.instAt h1 (.of_mem h2.has)
  obtain ⟨kv', d, e2⟩ := R.dict (.of_mem h2.has)
  obtain ⟨cd, hc, hd⟩ := ok.dict
  have KI := G.kin.keeps R.keep
  refine set_plain KI I ok.sa ?_
  refine osa_open (s := { s with toks := s.toks + 1 }) (r := none) KI I ok.over (by unfold takerIn; rw [ok.free name hn.mem]; rfl) fun b => ?_
  have hx := I.at_
  refine wpAny_bind (wpAny_pure (wpAny_bind (wpAny_bind (wpAny_loadPart hx (wpAny_bind (looks_clsIn (M := model c.prog c.w) KI hc _ _ _ { s with toks := s.toks + 1 } (fun _ _ e => e) ?_))))))
  rw [hd]
  refine wpAny_pure (a := some dx) (wpAny_bind (wpAny_pure (wpAny_bind ?_)))
  refine nsSet_dict d fun h' d' k => ?_
  obtain ⟨o2, es2, ep2, ho2, hc2, hd2, hk2, hp2, hn2⟩ := id d'
  refine wpAny_bind (wpAny_lookBehind ho2 ?_ (wpAny_pure ⟨g, rfl, m, mh', R.set h2 k (dict_notTup d) ⟨_, d', ?_⟩, N, hq⟩))
  · rw [hd2]
    refine pastItsLine_dict ?_
    have l1 := hp2.length
    have l2 : (stored kv' name v').length ≤ kv'.length + 1 := by
      unfold stored; split <;> simp
    have l3 : kv'.length = as.length := by rw [← e2, List.length_map]
    rw [Array.length_toList] at l1
    have := slim_le
    omega
  · rw [vPut_map, e2, ev]

/-! methods of instances -/
theorem TGet.own {C x dx f : Addr} {as : List (PySem.Str × Value)} {names : List PySem.Str} {name : PySem.Str} {QG : Value → List Value → Loc → MH → Prop} (ok : ClsOk c.K C names) (h1 : MHas mh x (.inst C dx)) (h2 : MHas mh dx (.dict as))
    (hf : findIn c.K (.ref C) name = some (some (.ref f))) (ht : typeIn c.K (.ref f) = some (.type "function")) (hno : vAt as name = none) (hq : QG (.ref f) [.ref x] m mh) : TGet c m mh (.ref x) name QG := by
  intro o' pl eo base FS X A E s G N T R g
  rw [cn_ref eo]
  obtain ⟨od, ho, I⟩ := R.instAt h1 h2
  obtain ⟨kv', d, rfl⟩ := R.dict h2
  obtain ⟨od', ho', hl⟩ := lookIn_of (x := name) d
  obtain rfl : od = od' := by rw [ho] at ho'; exact Option.some.inj ho'
  rw [vAt_map, Option.map_eq_none_iff] at hno
  refine method_fn (G.kin.keeps R.keep) I ok.ga ok.gt hf ht ?_ ⟨g, rfl, m, mh, R, N, hq⟩
  show (lookIn name od).map (·.isSome) = some false
  rw [hl, hno]; rfl

/-! a new instance -/
structure MakeOk (K : Frag) (C fI : Addr) : Prop where
  makes : makesIn K C = true
  init : findIn K (.ref C) "__init__" = some (some (.ref fI))
  fn : typeIn K (.ref fI) = some (.type "function")
/-- the call of a def, as code -/
noncomputable def TCode (c : Sit) (m : Loc) (mh : MH) (f : Value) (as : List Value) (Q : Value → Loc → MH → Prop) : Prop :=
  ∀ f' as', cn f' = f → as'.map cn = as → ∀ (base : Heap) (FS : FSt) (X : Xs) (A : Around) (E : Value → Shared → Prop) (s : Shared), Good c base FS A → NamesOk c m → TabOk c → Rel c.prog c.w base FS X c.env.locals s.heap m mh → s.gens = #[] →
    codeAny (model c.prog c.w) A (.call f' ⟨as', []⟩) (fun r s' => match r with
      | .ok (.ret v) => s'.gens = #[] ∧ s'.os = s.os ∧ ∃ m' mh', Rel c.prog c.w base FS X c.env.locals s'.heap m' mh' ∧ NamesOk c m' ∧ Q (cn v) m' mh'
      | .ok _ => False
      | .error e => E e s') s
theorem TCode.def_ {as : List Value} (F : Fn) (ok : FnOk c.prog c.w c.K F) (hn : 0 < c.n) (m0 : Loc) (dfl : List Value) (hb : BindsD c.K F as.length dfl) (hl : as.length + dfl.length = F.ns.length) (hm0 : m0 = F.loc (as ++ dfl.map cn)) (hcell : ∀ x ∈ F.scope.names, x.2 ≠ .cell)
    (h : ∀ L, TS (c.into F L) m0 mh F.body (fun fl _ mh' => Q (match fl with | .ret v => v | _ => .none) m mh')) : TCode c m mh (.ref F.f) as Q := by
  intro f' as' ef ea base FS X A E s G N T R g
  rw [cn_ref ef]
  obtain ⟨oc, od, osl, ho⟩ := ok.obj
  have KI := G.kin.keeps R.keep
  have la : as'.length = as.length := by rw [← ea, List.length_map]
  have ll : (as' ++ dfl).length = F.ns.length := by rw [List.length_append, la, hl]
  have hd := G.depth
  have em : m0 = F.loc ((as' ++ dfl).map cn) := by rw [hm0, List.map_append, ea]
  have hloc : ∀ y ∈ F.ns.zip (as' ++ dfl), F.fd.scope.names.lookup y.1 = some .local := fun y hy => (ok.local (List.mem_append_left _ (List.of_mem_zip hy).1)).1
  refine codeAny_call_def (fd := F.fd) (by unfold recursionLimit; omega) (KI _ _ ho) rfl (G.lim.keeps R.keep) (codeRec_of KI ok.code) rfl (hb as' la s KI) hcell hloc (fun h0 hns hk => ?_) ok.co ok.gen ok.kind
  obtain ⟨d, hd', R'⟩ := R.enter (m0 := m0) (Nat.le_refl _) hk hns (fun x ov hx => ok.binds ll x ov (by rw [em] at hx; exact hx))
  have G' : Good (c.into F s.heap.objs.size) base ((c.env.locals, d) :: FS) (A.deeper (envOf F.qual F.scope s.heap.objs.size F.f F.cdv)) := G.into hn ok.kind
  have en := Fn.locNames (F := F) (vs := (as' ++ dfl).map cn) (by rw [List.length_map]; exact ll)
  rw [← em] at en
  have N' : NamesOk (c.into F s.heap.objs.size) m0 := ⟨ok.kind, by rw [en]; exact ok.nd, fun p hp => ok.local (by rw [← en]; exact List.mem_map_of_mem (f := (·.1)) hp)⟩
  have T' : TabOk (c.into F s.heap.objs.size) := ⟨fun p hp => (by cases hp), ⟨rfl, rfl⟩, T.glob⟩
  refine wpAny_mono (h s.heap.objs.size base _ X _ (fun e s' => wpAny _ _ (leaving _ e) (fun _ s'' => E e s'') (fun e' s'' => E e' s'') s') { s with heap := h0, toks := s.toks + (F.ns.zip (as' ++ dfl)).length } G' N' T' R' g) (fun fl s' => ?_) (fun _ _ e => e)
  rintro ⟨g', o', m1, mh1, R1, _, q⟩
  refine ⟨g', o', m, mh1, R.leave hd' R1, N, ?_⟩
  cases fl <;> exact q
noncomputable def Sit.less (c : Sit) : Sit := { c with n := c.n - 1 }
theorem TCall.make {C fI : Addr} {as : List Value} (ok : MakeOk c.K C fI) (hn : 0 < c.n) (hq : ∀ x dx, TCode c.less m ((x, .inst C dx) :: (dx, .dict []) :: mh) (.ref fI) (.ref x :: as) fun v m' h' => v = .none ∧ Q (.ref x) m' h') : TCall c m mh (.ref C) as [] Q := by
  intro f' as' kw' ef ea ek base FS X A E s G N T R g
  rw [cn_ref ef]; obtain rfl := no_kw ek
  have KI := G.kin.keeps R.keep
  refine wpAny_call ?_
  obtain ⟨hh, gg, d, t, os⟩ := s
  refine make_core (makes_of KI ok.makes) (looks_findIn KI ok.init) (fun self => bind_fn KI self ok.fn) (.inl rfl) ?_
  have R2 : Rel c.prog c.w base FS X c.env.locals ((hh.push emptyDict).push (instObj C hh.objs.size)) m ((hh.objs.size + 1, .inst C hh.objs.size) :: (hh.objs.size, .dict []) :: mh) := by
    have R1 := R.push (o := emptyDict) (mo := .dict []) ⟨[], Heap.DictOf.new _, rfl⟩
    have := R1.push (o := instObj C hh.objs.size) (mo := .inst C hh.objs.size) (Heap.get?_push_size _ rfl)
    rwa [Heap.size_push] at this
  have G2 : Good c.less base FS (A.under (.builtin "type.__call__" ⟨.ref C :: as', []⟩)) := by
    refine ⟨G.kin, G.ro, G.lim, G.hd, ?_, ?_, ?_, ?_⟩
    · have := G.depth
      have hw : (Code.builtin "type.__call__" ⟨.ref C :: as', []⟩).weight = 1 := by kernel_rfl
      show A.depth + (Code.builtin "type.__call__" ⟨.ref C :: as', []⟩).weight + 4 * (c.n - 1) ≤ 960
      omega
    · have := G.units
      have hw : (Code.builtin "type.__call__" ⟨.ref C :: as', []⟩).cUnits = 1 := by kernel_rfl
      show A.units + (Code.builtin "type.__call__" ⟨.ref C :: as', []⟩).cUnits + 20 * (c.n - 1) ≤ 9000
      omega
    · have hw : (Code.builtin "type.__call__" ⟨.ref C :: as', []⟩).envs = [] := by kernel_rfl
      show ∃ fl, pushEnvs (Code.builtin "type.__call__" ⟨.ref C :: as', []⟩).envs A.frames = some fl ∧ _
      rw [hw]
      exact G.frames
    · have hw : (Code.builtin "type.__call__" ⟨.ref C :: as', []⟩).guards = [] := by kernel_rfl
      show pushGuards (Code.builtin "type.__call__" ⟨.ref C :: as', []⟩).guards A.guards = some []
      rw [hw]
      exact G.guards
  have z := hq (hh.objs.size + 1) hh.objs.size (.ref fI) (.ref (hh.objs.size + 1) :: as') rfl (by simp [ea, cn]) base FS X (A.under (.builtin "type.__call__" ⟨.ref C :: as', []⟩)) E ⟨(hh.push emptyDict).push (instObj C hh.objs.size), gg, d, t, os⟩ G2 ⟨N.kind, N.nd, N.loc⟩ ⟨T.cell, T.envg, T.glob⟩ R2 g
  refine codeAny_mono z fun r s' => ?_
  match r with
  | .error e => exact id
  | .ok .next => exact id
  | .ok .brk => exact id
  | .ok .cont => exact id
  | .ok (.ret v) =>
    rintro ⟨g', o', m', mh', R', N', e, q⟩
    exact ⟨cn_none e, g', o', m', mh', R', ⟨N'.kind, N'.nd, N'.loc⟩, q⟩
end
end
section
open PySem PySem.W PySem.Calls PyProof.Rows
section
variable {c : Sit} {m m' m0 : Loc} {mh mh' mh0 : MH} {α β : Type}
variable {Q Q' : Value → Loc → MH → Prop} {QB : Bool → Loc → MH → Prop} {QF : Flow → Loc → MH → Prop} {QL : Loc → MH → Prop}
variable {prog : Program} {w : World} {base : Heap} {FS : FSt} {X : Xs} {L L' : Addr} {h h' : Heap}

/-! something that raises a KeyError -/
noncomputable def TRz (c : Sit) (m : Loc) (mh : MH) {α : Type} (t : Sem α) (m' : Loc) (mh' : MH) : Prop :=
  ∀ (base : Heap) (FS : FSt) (X : Xs) (A : Around) (s : Shared) (Z : Value → Shared → Prop), Good c base FS A → NamesOk c m → TabOk c → Rel c.prog c.w base FS X c.env.locals s.heap m mh → s.gens = #[] →
    (∀ e s' hr, Rel c.prog c.w base FS X c.env.locals hr m' mh' → Heap.NewExc hr s'.heap e "KeyError" → s'.gens = #[] → s'.os = s.os → Z (.ref e) s') →
    wpAny (model c.prog c.w) A t (fun _ _ => False) Z s
theorem TRz.bind {t : Sem α} {f : α → Sem β} (hq : TT c m mh t fun a m1 h1 => TRz c m1 h1 (f a) m' mh') : TRz c m mh (t >>= f) m' mh' :=
  fun base FS X A s Z G N T R g hz => wpAny_bind (wpAny_mono (hq base FS X A Z s G N T R g)
    (fun _ s' hx => Goes.el hx fun _ _ g' o' r n q => q base FS X A s' Z G n T r g' fun e s'' hr R' x g'' o'' => hz e s'' hr R' x g'' (o''.trans o')) (fun _ _ e => e))
theorem TRz.first {t : Sem α} {f : α → Sem β} (hq : TRz c m mh t m' mh') : TRz c m mh (t >>= f) m' mh' :=
  fun base FS X A s Z G N T R g hz => wpAny_bind (wpAny_mono (hq base FS X A s Z G N T R g hz) (fun _ _ q => q.elim) (fun _ _ e => e))
theorem TRz.operate {vs : List Value} {t : Sem Value} (hq : TRz c m mh t m' mh') : TRz c m mh (PySem.operate vs t) m' mh' :=
  fun base FS X A s Z G N T R g hz => wpAny_operateT (wpAny_mono (hq base FS X A s Z G N T R g hz) (fun _ _ q => q.elim) (fun _ _ e => e))
theorem TRz.at_ {p : Pos} {t : Sem α} (hq : TRz c m mh t m' mh') : TRz c m mh (do PySem.standAt p; t) m' mh' := TRz.bind (TT.standAt hq)
/-- an absent key -/
theorem TRz.item {a : Addr} {mo : MO} {kvs : List (PySem.Str × Value)} {x : PySem.Str} (ha : MHas mh a mo) (hd : IsD mo kvs) (hv : vAt kvs x = none) {o' i' : Value} (eo : cn o' = .ref a) (ei : cn i' = .str x 0) : TRz c m mh (getItem o' i') m mh := by
  intro base FS X A s Z G N T R g hz
  rw [cn_ref eo]; obtain ⟨u, rfl⟩ := cn_str ei
  obtain ⟨kv', d, rfl⟩ := R.dictD ha hd
  rw [vAt_map, Option.map_eq_none_iff] at hv
  exact wpAny_getItem_missing_of (strKind_is _ _ x u) (R.notSys G.lim ha) G.hd d.mapOf hv fun h' e ne => hz _ _ _ R ne g rfl
theorem TRz.sub {value slice : Expr} {pos : Pos} (hq : TE c m mh value fun o m1 h1 => TE c m1 h1 slice fun i m2 h2 => m2 = m' ∧ h2 = mh' ∧ ∃ a kvs x, o = .ref a ∧ i = .str x 0 ∧ MHas mh' a (.dict kvs) ∧ vAt kvs x = none)
    (hs : ∀ o i, subscripted slice false o i = PySem.operate [o, i] (getItem o i) := by intro _ _; rfl) : TRz c m mh (eval (.Subscript value slice pos) c.env) m' mh' := by
  rw [eval_Subscript]
  refine TRz.bind (TT.mono hq fun o m1 h1 k => TRz.bind (TT.holding (TT.mono k fun i m2 h2 k2 => TRz.at_ ?_)))
  obtain ⟨rfl, rfl, a, kvs, x, eo, ei, hd, hv⟩ := k2
  have ht : TyIs c m2 h2 (.ref a) "dict" := .dict hd (.inl rfl)
  intro base FS X A s Z G N T R g hz
  have hT := ht base FS X A s G R o eo
  rw [getitemInPython_of_ne hT.not_modules]
  refine wpAny_bind (wpAny_bind (wpAny_specialOf hT PySem.F.slot_dict_getitem.lookup (wpAny_pure ?_)))
  rw [hs]
  exact TRz.first (t := PySem.operate [o, i] (getItem o i)) (TRz.operate (TRz.item hd (.inl rfl) hv eo ei)) base FS X A s Z G N T R g hz
theorem TRz.expr {e : Expr} {name : PySem.Str} {apos pos : Pos} {es : List Expr} {p : Pos} {ss : List Stmt} (hq : TRz c m mh (eval e c.env) m' mh')
    (hbase : attributeBase e name c.env (eval e c.env) = eval e c.env := by rfl) (hi : interactive c.env = false := by rfl) (hs : swapsWith (.Call (.Attribute e name apos) es [] pos) none p.line c.env = Pure.pure false := by rfl) :
    TRz c m mh (execs (.Expr (.Call (.Attribute e name apos) es [] pos) p :: ss) c.env) m' mh' := by
  rw [execs_cons]
  refine TRz.first ?_
  rw [exec_Expr _ _ _ hi hs]
  refine TRz.at_ (TRz.first ?_)
  show TRz c m mh (do
    let ov ← attributeBase e name c.env (eval e c.env)
    PySem.standAt apos.atName
    methodCall e name apos pos c.env ov (es.length + 0) (backTo pos (starEach es c.env)) (backToKw pos (keywordEach [] c.env))) m' mh'
  rw [hbase]
  exact TRz.first hq

/-! it is caught -/
theorem funFrames_of {h base : Heap} : ∀ {l : List Env}, (∀ e ∈ l, e.scope.kind ≠ .module ∧ ∃ L o, e.frame = some L ∧ base.get? L = none ∧ h.get? L = some o ∧ ∀ vs, o.data ≠ .fields vs) → h.FunFrames base l
  | [], _ => trivial
  | e :: l, k => by
    obtain ⟨k1, L, o, k2, k3, k4, k5⟩ := k e (.head _)
    exact ⟨k1, ⟨L, o, k2, k3, k4, k5⟩, funFrames_of fun e he => k e (.tail _ he)⟩
theorem Rel.slots (R : Rel prog w base FS X L h m mh) (k : (hideAll h (L :: FS.map (·.1))).StaysIn h') (u : h.UpToSlots h') : Rel prog w base FS X L h' m mh := by
  have hid : ∀ {b o}, h.get? b = some o → b ≠ L → b ∉ FS.map (·.1) → h'.get? b = some o := fun e n1 n2 => k _ _ (hideAll_get _ e (by simp only [List.mem_cons, not_or]; exact ⟨n1, n2⟩))
  have notFS : ∀ a, a ∈ FS.map (·.1) → base.objs.size ≤ a ∧ a ∉ mh.map (·.1) ∧ a ∉ X.map (·.1) := fun a ha => by
    obtain ⟨⟨b, d⟩, hm, rfl⟩ := List.mem_map.mp ha
    obtain ⟨_, y, _, t, u⟩ := R.fs b d hm
    exact ⟨y, t, u⟩
  refine ⟨fun b o e => ?_, R.above, ?_, R.nd, fun a mo hm => ?_, fun a o hm => ?_, fun a d hm => ?_⟩
  · have lt := Heap.lt_size e
    exact hid (R.keep b o e) (fun q => by subst q; exact absurd lt (Nat.not_lt.mpr R.above)) (fun q => absurd lt (Nat.not_lt.mpr (notFS _ q).1))
  · obtain ⟨mr, hn, e⟩ := R.ns
    exact ⟨mr, u.ns hn, e⟩
  · obtain ⟨x, y, z⟩ := R.objs a mo hm
    refine ⟨x.keptS (S := L :: FS.map (·.1)) (fun b o nb e => k _ _ (hideAll_get _ e nb)) ?_ ?_, y, z⟩
    · intro b hb ob q
      rcases List.mem_cons.mp hb with rfl | hb
      · obtain ⟨mr, ⟨oL, es, ep, h1, h2, _⟩, _⟩ := R.ns
        rw [h1] at q; cases q
        exact notTup_of_dict h2
      · obtain ⟨⟨b, d⟩, hm2, rfl⟩ := List.mem_map.mp hb
        obtain ⟨⟨o, x2, e, es, ep, e2⟩, _⟩ := R.fs b d hm2
        rw [x2] at q; cases q
        exact notTup_of_dict (e.trans e2)
    · intro q
      rcases List.mem_cons.mp q with e | q
      · exact z e
      · exact (notFS _ q).2.1 (List.mem_map_of_mem (f := (·.1)) hm)
  · obtain ⟨x, y, z, t⟩ := R.ex a o hm
    exact ⟨hid x z (fun q => (notFS _ q).2.2 (List.mem_map_of_mem (f := (·.1)) hm)), y, z, t⟩
  · obtain ⟨⟨o, x, e, es, ep, e2⟩, y, z, t⟩ := R.fs a d hm
    obtain ⟨sl, q⟩ := u a o x (fun vs q => by rw [e, e2] at q; cases q)
    exact ⟨⟨_, q, e, es, ep, e2⟩, y, z, t⟩

/-! under a handler -/
noncomputable def TTh (c : Sit) (m : Loc) (mh : MH) {α : Type} (t : Sem α) (Q : α → Loc → MH → Prop) : Prop :=
  ∀ (base : Heap) (FS : FSt) (X : Xs) (A : Around) (v : Option Value) (E : Value → Shared → Prop) (s : Shared), Good c base FS A → NamesOk c m → TabOk c → Rel c.prog c.w base FS X c.env.locals s.heap m mh → s.gens = #[] →
    wpAny (model c.prog c.w) (A.mark v) t (Goes c base FS X s Q) E s
theorem TTh.pure {a : α} {QT : α → Loc → MH → Prop} (hq : QT a m mh) : TTh c m mh (Pure.pure a) QT :=
  fun _ _ _ _ _ _ _ _ N _ R g => wpAny_pure ⟨g, rfl, m, mh, R, N, hq⟩
theorem TTh.bind {t : Sem α} {f : α → Sem β} {QT : β → Loc → MH → Prop} (hq : TTh c m mh t (fun a m' mh' => TTh c m' mh' (f a) QT)) : TTh c m mh (t >>= f) QT :=
  fun base FS X A v E s G N T R g => wpAny_bind (wpAny_mono (hq base FS X A v E s G N T R g)
    (fun _ s' hx => Goes.el hx fun _ _ g' o' r n q => wpAny_mono (q base FS X A v E s' G n T r g') (fun _ _ z => Goes.after z o') (fun _ _ e => e)) (fun _ _ e => e))
theorem TTh.holding {vs : List Value} {t : Sem α} {QT : α → Loc → MH → Prop} (hq : TTh c m mh t QT) : TTh c m mh (PySem.holding vs t) QT :=
  fun base FS X A v E s G N T R g => wpAny_holding (hq base FS X A v E s G N T R g)
theorem TTh.standAt {p : Pos} {QT : Unit → Loc → MH → Prop} (hq : QT () m mh) : TTh c m mh (PySem.standAt p) QT :=
  fun _ _ _ _ _ _ _ _ N _ R g => wpAny_standAt ⟨g, rfl, m, mh, R, N, hq⟩
theorem TTh.at_ {p : Pos} {t : Sem α} {QT : α → Loc → MH → Prop} (hq : TTh c m mh t QT) : TTh c m mh (do PySem.standAt p; t) QT := TTh.bind (TTh.standAt hq)
theorem TTh.release {vs ks : List Value} {QT : Unit → Loc → MH → Prop} (hq : QT () m mh) : TTh c m mh (PySem.release vs ks) QT :=
  fun _ _ _ _ _ _ _ _ N _ R g => fun Γ p _ => by rw [Sem.wp_release]; exact ⟨g, rfl, m, mh, R, N, hq⟩
theorem TTh.local {x : PySem.Str} {v : Value} {p : Pos} {QT : Value → Loc → MH → Prop} (hx : LHas m x v) (hq : ∀ v', cn v' = v → QT v' m mh) : TTh c m mh (eval (.Name x p) c.env) QT := by
  intro base FS X A v E s G N T R g
  obtain ⟨mr, hn, e⟩ := R.ns
  have := e x _ hx.mem
  obtain ⟨v', h1, h2⟩ := Option.map_eq_some_iff.mp this
  exact wpAny_Name (wpAny_loadName_local N.kind (N.loc _ hx.mem).1 hn h1 ⟨g, rfl, m, mh, R, N, hq v' h2⟩) (N.loc _ hx.mem).2
theorem TTh.list1 {x : PySem.Str} {v : Value} {p p2 : Pos} {QT : Value → Loc → MH → Prop} (hx : LHas m x v) (hq : ∀ r, QT (.ref r) m ((r, .list [v]) :: mh)) : TTh c m mh (eval (.List [.Name x p] p2) c.env) QT := by
  show TTh c m mh (do PySem.standAt p2; newList (← spliced (backTo p2 (starEach [.Name x p] c.env)))) QT
  refine TTh.at_ (TTh.bind (QT := QT) (t := spliced (backTo p2 (starEach [.Name x p] c.env))) ?_)
  intro base FS X A v0 E s G N T R g
  refine wpAny_items_cons (e := .Name x p) (rest := []) ?_ rfl
  refine wpAny_mono (TTh.local hx (QT := fun v' m' h' => cn v' = v ∧ m' = m ∧ h' = mh) (fun v' e => ⟨e, rfl, rfl⟩) base FS X A v0 E s G N T R g) (fun v' s' => ?_) fun _ _ e => e
  refine fun hx => Goes.el hx fun m' h' g' o' R' N' hz => ?_
  obtain ⟨e, rfl, rfl⟩ := hz
  refine wpAny_pure ⟨g', o', m', h', R', N', ?_⟩
  intro base FS X A v0 E s2 G N T R g
  exact wpAny_newObj_type ⟨g, rfl, m', _, R.push (mo := .list [v]) ⟨[v'], ⟨0, Heap.get?_push_size _ rfl⟩, by simp [e]⟩, N, hq _⟩ (show 1 ≤ sizeLine by decide)
theorem TTh.field {e : Expr} {p : Pos} {C x dx : Addr} {as : List (PySem.Str × Value)} {names : List PySem.Str} {name : PySem.Str} {v : Value} {QT : Value → Loc → MH → Prop} (ok : ClsOk c.K C names) (hn : SHas names name)
    (he : TTh c m mh (eval e c.env) fun o m1 h1 => cn o = .ref x ∧ m1 = m ∧ h1 = mh) (h1 : MHas mh x (.inst C dx)) (h2 : MHas mh dx (.dict as)) (hv : vAt as name = some v) (hb : notB v = true) (hq : ∀ v', cn v' = v → QT v' m mh)
    (hbs : attributeBase e name c.env (eval e c.env) = eval e c.env := by rfl) : TTh c m mh (eval (.Attribute e name p) c.env) QT := by
  show TTh c m mh (do
    let o ← attributeBase e name c.env (eval e c.env)
    PySem.standAt p.atName
    let r ← PySem.holding [o] (getAttr o name true)
    letTemporaryGo e o r
    Pure.pure r) QT
  rw [hbs]
  refine TTh.bind ?_
  intro base FS X A w0 E s G N T R g
  refine wpAny_mono (he base FS X A w0 E s G N T R g) (fun o' s' => ?_) fun _ _ e => e
  refine fun hx => Goes.el hx fun m1 mh1 g' o2 R' N' hz => ?_
  obtain ⟨eo, rfl, rfl⟩ := hz
  refine ⟨g', o2, m1, mh1, R', N', ?_⟩
  refine TTh.at_ (TTh.bind (TTh.holding ?_))
  intro base FS X A w0 E s G N T R g
  rw [cn_ref eo]
  obtain ⟨od, ho, I⟩ := R.instAt h1 h2
  obtain ⟨kv', d, rfl⟩ := R.dict h2
  obtain ⟨od', ho', hl⟩ := lookIn_of (x := name) d
  obtain rfl : od = od' := by rw [ho] at ho'; exact Option.some.inj ho'
  rw [vAt_map] at hv
  obtain ⟨v0, q1, q2⟩ := Option.map_eq_some_iff.mp hv
  obtain ⟨cd, hc, hd⟩ := ok.dict
  have hf : findObj c.K C (some od) name = some (.value v0) := by
    unfold findObj W.ownOf
    rw [hc, Option.bind_some, ok.free name hn.mem]
    simp [hd, hl, q1]
  have hh : handedIn v0 = true := by
    cases v0 with
    | builtin i => simp only [cn] at q2; subst q2; cases hb
    | _ => rfl
  refine get_value (G.kin.keeps R.keep) I ok.ga hf hh ⟨g, rfl, m1, mh1, R, N, ?_⟩
  refine TTh.bind ?_
  exact fun base FS X A w0 E s G N T R g => wpAny_letTemporaryGo ⟨g, rfl, m1, mh1, R, N, TTh.pure (hq v0 q2)⟩
/-- self.an[kn] = [pn] -/
theorem TTh.store {sn an kn pn : PySem.Str} {p1 p2 p3 p4 p5 p6 p7 : Pos} {C x dx d : Addr} {as : List (PySem.Str × Value)} {names : List PySem.Str} {key : PySem.Str} {v : Value} {kvs : List (PySem.Str × Value)} {mk : Addr → MH} {QFl : Flow → Loc → MH → Prop} (ok : ClsOk c.K C names) (hn : SHas names an)
    (hs : LHas m sn (.ref x)) (hk : LHas m kn (.str key 0)) (hp : LHas m pn v) (h1 : MHas mh x (.inst C dx)) (h2 : MHas mh dx (.dict as)) (hv : vAt as an = some (.ref d)) (hl : kvs.length ≤ slim)
    (hd : ∀ r, MPut ((r, .list [v]) :: mh) d (.dict kvs) (.dict (vPut kvs key (.ref r))) ((r, .list [v]) ::  mk r)) (hq : ∀ r, QFl .next m ((r, .list [v]) ::  mk r))
    (hsw : swapsWith (.List [.Name pn p5] p6) (some (.Subscript (.Attribute (.Name sn p1) an p2) (.Name kn p3) p4)) p7.line c.env = Pure.pure false := by rfl) (hw : swappedStores [.Subscript (.Attribute (.Name sn p1) an p2) (.Name kn p3) p4] (.List [.Name pn p5] p6) c.env = Pure.pure Option.none := by rfl)
    (he : assignEach [.Subscript (.Attribute (.Name sn p1) an p2) (.Name kn p3) p4] c.env = [(false, PySem.assign (.Subscript (.Attribute (.Name sn p1) an p2) (.Name kn p3) p4) c.env)] := by rfl)
    (hbs : attributeBase (.Name sn p1) an c.env (eval (.Name sn p1) c.env) = eval (.Name sn p1) c.env := by rfl) :
    TTh c m mh (execs [.Assign [.Subscript (.Attribute (.Name sn p1) an p2) (.Name kn p3) p4] (.List [.Name pn p5] p6) p7] c.env) QFl := by
  rw [execs_cons]
  refine TTh.bind (t := exec _ c.env) ?_
  rw [exec_Assign_arm]
  refine TTh.bind (TTh.standAt ?_)
  show TTh c m mh (swapsWith (.List [.Name pn p5] p6) (some (.Subscript (.Attribute (.Name sn p1) an p2) (.Name kn p3) p4)) p7.line c.env >>= _) _
  rw [hsw]
  refine TTh.bind (TTh.pure ?_)
  rw [if_neg (by decide)]
  refine TTh.bind (TTh.list1 hp fun r => ?_)
  rw [hw]
  refine TTh.bind (TTh.pure ?_)
  show TTh c m ((r, .list [v]) :: mh) (do PySem.assignAll (.ref r) ((assignEach [.Subscript (.Attribute (.Name sn p1) an p2) (.Name kn p3) p4] c.env).map (·.2)); Pure.pure Flow.next) _
  rw [he]
  refine TTh.bind (t := PySem.assignAll _ _) ?_
  simp only [List.map_cons, List.map_nil]
  unfold PySem.assignAll
  rw [arm_assign_Subscript]
  refine TTh.bind (TTh.holding (TTh.field ok hn (TTh.local hs fun v' e => ⟨e, rfl, rfl⟩) (.there h1) (.there h2) hv rfl (fun o' eo => ?_) hbs))
  refine TTh.bind (TTh.holding (TTh.local hk fun i' ei => ?_))
  refine TTh.at_ (TTh.bind (TTh.holding ?_))
  intro base FS X A w0 E s G N T R g
  rw [cn_ref eo]; obtain ⟨u, rfl⟩ := cn_str ei
  obtain ⟨kv', dd, e⟩ := R.dict (.of_mem (hd r).has)
  refine wpAny_setItem_pairs (strKind_is _ _ key u) dd (fun h' d' hs' => ⟨g, rfl, m, _, R.set (hd r) hs'.extBut (dict_notTup dd) ⟨_, d', ?_⟩, N, ?_⟩) ?_
  · rw [vPut_map, e]; rfl
  · refine TTh.release (TTh.pure (TTh.pure ?_))
    exact hq r
  · rw [← e, List.length_map] at hl; exact Nat.le_trans hl slim_le
theorem TS1.tryMiss {body : List Stmt} {kn : PySem.Str} {np hp tp : Pos} {st : Stmt} {QF : Flow → Loc → MH → Prop} (hb : TRz c m mh (execs body c.env) m mh) (hg : GHas c.globs kn (.type "KeyError")) (hk : c.env.kindOf kn = some .globalImplicit) (hd : (kn == ("__debug__" : PySem.Str)) = false)
    (hq : TTh c m mh (execs [st] c.env) fun f m' h' => QF (cnF f) m' h') (hfr : c.env.frame = some c.env.locals := by rfl) (htop : c.top = true := by rfl) :
    TS1 c m mh (.Try body [.ExceptHandler (some (.Name kn np)) none [st] hp] [] [] tp) QF := by
  intro base FS X A E s G N T R g
  refine wpAny_Try_except ?_
  refine wpAny_mono (hb base FS X A s _ G N T R g ?_) (fun _ _ q => q.elim) (fun _ _ e => e)
  intro e s' hr R0 ne g' o'
  obtain ⟨ob, t, he, hcls, hdat⟩ := ne.there
  have R1 : Rel c.prog c.w base FS X c.env.locals s'.heap m mh := R0.all ne.keeps
  obtain ⟨fl, hfl, hft, hfe⟩ := G.frames
  obtain ⟨outer, rfl⟩ := hft htop
  have hidden : ∀ {b}, b ∈ c.env.locals :: FS.map (·.1) → (hideAll hr (c.env.locals :: FS.map (·.1))).get? b = none := fun hm => hideAll_none _ hm
  have stays : (hideAll hr (c.env.locals :: FS.map (·.1))).StaysIn s'.heap := fun b o q => ne.keeps _ _ (of_hideAll _ q)
  have hen : (hideAll hr (c.env.locals :: FS.map (·.1))).get? e = none := by
    cases q : (hideAll hr (c.env.locals :: FS.map (·.1))).get? e with
    | none => rfl
    | some o => have := of_hideAll _ q; rw [ne.new] at this; cases this
  have FF : s'.heap.FunFrames (hideAll hr (c.env.locals :: FS.map (·.1))) (c.env :: outer) := by
    refine funFrames_of fun x hx => ?_
    obtain ⟨k1, L', k2, k3⟩ := hfe x hx
    rcases k3 with rfl | k3
    · obtain ⟨mr, ⟨oL, es, ep, h1, h2, _⟩, _⟩ := R1.ns
      exact ⟨k1, _, oL, k2, hidden (.head _), h1, fun vs q => by rw [h2] at q; cases q⟩
    · obtain ⟨⟨b, d⟩, hm, rfl⟩ := List.mem_map.mp k3
      obtain ⟨⟨o, x1, x2, es, ep, x3⟩, _⟩ := R1.fs b d hm
      exact ⟨k1, _, o, k2, hidden (.tail _ k3), x1, fun vs q => by rw [x2, x3] at q; cases q⟩
  unfold noteFrame
  simp only [hfr]
  refine wpAny_bind (wpAny_field he hdat (x := .none) rfl ?_)
  rw [if_neg (by decide)]
  refine wpAny_newEntryW (a0 := t) hfl FF hfr he stays hen hdat (by simp) rfl fun h1 hL => ?_
  obtain ⟨k1, k2, k3, k4⟩ := hL
  have hfly : Heap.FlyingW (hideAll hr (c.env.locals :: FS.map (·.1))) (c.env :: outer) e ob.cls t h1 := ⟨k1, hen, k2, k3⟩
  have R2 : Rel c.prog c.w base FS X c.env.locals h1 m mh := R0.slots k1 fun b o q hn => by
    obtain ⟨sl, z⟩ := k4 b o (ne.keeps _ _ q) hn
    exact ⟨sl, z⟩
  obtain ⟨oe, vs, he1, hc1, hd1, _⟩ := hfly.first
  obtain ⟨vk, ek, tk⟩ := T.glob _ hg.mem
  obtain rfl := cn_type ek
  have look := tk _ N.kind hk T.envg.1 T.envg.2 h1 (G.kin.keeps R2.keep)
  refine wpAny_handleBy_builtin (X := "KeyError") (T := "KeyError") (b := true) (by rw [isSubtype_type]; kernel_rfl) (by kernel_rfl) (by rw [isSubtype_type]; kernel_rfl) ?_
  refine wpAny_Name (look.here ⟨rfl, ⟨oe, he1, hc1.trans hcls⟩, ?_⟩) hd
  rw [if_pos rfl]
  refine lands_againW hfly fun h2 hfl2 u2 => ?_
  have R3 : Rel c.prog c.w base FS X c.env.locals h2 m mh := R0.slots hfl2.1 fun b o q hn => by
    obtain ⟨sl, z⟩ := k4 b o (ne.keeps _ _ q) hn
    obtain ⟨sl2, z2⟩ := u2 b _ z hn
    exact ⟨sl2, z2⟩
  exact wpAny_mono (hq base FS X A _ _ { s' with heap := h2 } G N T R3 g') (fun _ _ z => Goes.after z o') (fun _ _ e => e)
end
end
section
open PySem PySem.W PySem.Calls PyProof.Rows
section
variable {c : Sit} {m m' m0 : Loc} {mh mh' mh0 : MH} {α β : Type}
variable {Q Q' : Value → Loc → MH → Prop} {QB : Bool → Loc → MH → Prop} {QF : Flow → Loc → MH → Prop} {QL : Loc → MH → Prop}
variable {prog : Program} {w : World} {base : Heap} {FS : FSt} {X : Xs} {L L' : Addr} {h h' : Heap}

/-! `a and b` as a value -/
theorem TE.and2 {a b : Expr} {p : Pos} (hq : TE c m mh a fun v m1 h1 => TV c m1 h1 v fun t m2 h2 => (t = true → TE c m2 h2 b Q) ∧ (t = false → Q v m2 h2)) (hv : evalEach [a, b] c.env = [eval a c.env, eval b c.env] := by rfl) : TE c m mh (.BoolOp .And [a, b] p) Q := by
  show TT c m mh (eval (.BoolOp .And [a, b] p) c.env) _
  rw [arm_eval_BoolOp, hv]
  show TT c m mh (do
    let v ← eval a c.env
    PySem.standAt p
    let t ← PySem.holding [v] (truthy v)
    match BoolOp.And, t with
    | .And, false | .Or, true => Pure.pure v
    | _, _ => boolOp p .And [eval b c.env]) _
  refine TT.bind (TT.mono hq fun v m1 h1 k => TT.at_ (TT.bind (TT.holding (TT.mono (k v rfl) fun t m2 h2 k2 => ?_))))
  cases t with
  | true => exact k2.1 rfl
  | false => exact TT.pure (k2.2 rfl)

/-! strs -/
theorem TCmp.inS {x y : PySem.Str} (hq : Q (.bool !(Builtin.Str.occurrences x y 0 x.length 1).isEmpty) m mh) : TCmp c m mh .In (.str y 0) (.str x 0) Q := by
  intro a b ea eb base FS X A E s G N T R g
  obtain ⟨u, rfl⟩ := cn_str ea; obtain ⟨u', rfl⟩ := cn_str eb
  exact PyProof.Rows.in_str ⟨g, rfl, m, mh, R, N, hq⟩
theorem TItem.str {x : PySem.Str} {i : Int} {ch : Nat} (h0 : 0 ≤ i) (hi : i < 2 ^ 63) (hc : x.cps[i.toNat]? = some ch) (hq : Q (.str ⟨#[ch]⟩ 0) m mh) : TItem c m mh (.str x 0) (.int i 0) Q := by
  intro o' i' eo ei base FS X A E s G N T R g
  obtain ⟨u, rfl⟩ := cn_str eo; obtain ⟨u', rfl⟩ := cn_int ei
  refine PyProof.Rows.getItem_str (c := ch) ?_ ?_ ⟨g, rfl, m, mh, R, N, hq⟩
  · have h1 : ¬ i < -(2 ^ 63 : Int) := by omega
    have h2 : ¬ i ≥ 2 ^ 63 := by omega
    rw [decide_eq_false h1, decide_eq_false h2]; rfl
  · have hl : i.toNat < x.cps.size := (Array.getElem?_eq_some_iff.mp hc).1
    unfold seqIndex?
    have h1 : ¬ i < 0 := by omega
    simp only [h1, if_false]
    have h2 : i.toNat < x.length := hl
    rw [if_pos (by simp; omega)]
    exact hc
theorem TCall.lenS {x : PySem.Str} (hs : x.length ≤ slim) (hq : Q (.int x.length 0) m mh) : TCall c m mh (.builtin "len") [.str x 0] [] Q := by
  intro f' as' kw' ef ea ek base FS X A E s G N T R g
  rw [cn_builtin ef]
  obtain ⟨v, rfl, ev⟩ := one_arg ea
  obtain ⟨u, rfl⟩ := cn_str ev; obtain rfl := no_kw ek
  exact PyProof.Rows.len_str (by have := slim_lt hs; omega) ⟨g, rfl, m, mh, R, N, hq⟩

/-! i -= 1 -/
theorem TS1.subI {x : PySem.Str} {e : Expr} {np p : Pos} {i j : Int} (hx : LHas m x (.int i 0)) (he : TE c m mh e fun v m1 h1 => v = .int j 0 ∧ ∃ m2, LPut m1 x (.int (i - j) 0) m2 ∧ QF .next m2 h1) : TS1 c m mh (.AugAssign (.Name x np) .Sub e p) QF := by
  intro base FS X A E s G N T R g
  refine wpAny_AugAssign_Name ?_
  have z := TT.loadL (c := c) (m := m) (mh := mh) (Q := fun old m1 h1 => TT c m1 h1 (eval e c.env) fun v m2 h2 => TT c m2 h2 (inplaceOp .Sub old v) fun r m3 h3 => TT c m3 h3 (storeName c.env x r) fun _ m4 h4 => QF .next m4 h4) hx (fun old eo => by
    obtain ⟨u, rfl⟩ := cn_int eo
    refine TT.mono he fun v m1 h1 ⟨ev, m2, hp, hq⟩ => ?_
    obtain ⟨u', rfl⟩ := cn_int ev
    intro base FS X A E s G N T R g
    refine PySem.AutoIntOps.isub_0 ?_
    exact ⟨g, rfl, m1, h1, R, N, TT.storeL rfl hp hq⟩) base FS X A E s G N T R g
  refine wpAny_mono z (fun old s1 hx => Goes.el hx fun m1 h1 g1 o1 R1 N1 k => ?_) fun _ _ e => e
  refine wpAny_mono (k base FS X A E s1 G N1 T R1 g1) (fun v s2 hx => Goes.el hx fun m2 h2 g2 o2 R2 N2 k2 => ?_) fun _ _ e => e
  refine wpAny_mono (k2 base FS X A E s2 G N2 T R2 g2) (fun r s3 hx => Goes.el hx fun m3 h3 g3 o3 R3 N3 k3 => ?_) fun _ _ e => e
  refine wpAny_mono (k3 base FS X A E s3 G N3 T R3 g3) (fun _ s4 hx => Goes.el hx fun m4 h4 g4 o4 R4 N4 k4 => ?_) fun _ _ e => e
  exact ⟨g4, ((o4.trans o3).trans o2).trans o1, m4, h4, R4, N4, k4⟩

/-! tuples -/
theorem TV.tup {a : Addr} {xs : List Value} (ha : MHas mh a (.tup xs)) (hs : xs.length ≤ slim) (hq : QB (!xs.isEmpty) m mh) : TV c m mh (.ref a) QB := by
  intro v' e base FS X A E s G N T R g
  rw [cn_ref e]
  obtain ⟨vs, n, pl, rfl⟩ := R.tup ha
  rw [List.length_map] at hs
  refine truthy_tuple (items := vs.toArray) ⟨_, pl, rfl, n, rfl⟩ (by simpa using slim_lt hs) ⟨g, rfl, m, mh, R, N, ?_⟩
  cases vs <;> exact hq
theorem TE.cutT {value : Expr} {lower : Expr} {p pos : Pos} (hq : TE c m mh value fun o m1 h1 => TPart c m1 h1 (some lower) fun lo m2 h2 =>
      ∃ a xs k, o = .ref a ∧ lo = some ((k : Nat) : Int) ∧ 1 ≤ k ∧ k ≤ xs.length ∧ MHas h2 a (.tup xs) ∧ xs.length ≤ slim ∧ ∀ r, Q (.ref r) m2 ((r, .tup (xs.drop k)) :: h2)) : TE c m mh (.Subscript value (.Slice (some lower) Option.none Option.none p) pos) Q := by
  intro base FS X A E s G N T R g
  show wpAny _ A (eval _ _) _ E s
  rw [eval_Subscript]
  refine TT.bind (c := c) (m := m) (mh := mh) (t := eval value c.env) (TT.mono hq fun o m1 h1 k => ?_) base FS X A E s G N T R g
  have sl : TT c m1 h1 (eval (.Slice (some lower) Option.none Option.none p) c.env) (fun v m3 h3 => ∃ (d : Addr) (u : Tok) (o' : Value) (h0 : MH) (a : Addr) (xs : List Value) (k : Nat), v = .ref d ∧ h3 = (d, .raw { cls := .type "slice", data := .fields #[.int k u, .none, .none] }) :: h0 ∧ o' = cn o ∧ o' = .ref a ∧ 1 ≤ k ∧ k ≤ xs.length ∧ MHas h0 a (.tup xs) ∧ xs.length ≤ slim ∧ ∀ r, Q (.ref r) m3 ((r, .tup (xs.drop k)) :: h0)) := by
    rw [arm_eval_Slice]
    refine TT.bind (TT.mono k fun vl m2 h2 ⟨lo, pl, a, xs, k, e1, e2, e3, e4, e5, e6, e7⟩ => TT.bind (TT.holding ?_))
    subst e2
    obtain ⟨u, rfl⟩ : ∃ u, vl = .int k u := by cases pl with | int => exact ⟨_, rfl⟩
    refine TT.pure (a := Value.none) (Q := fun vs m4 h4 => _) ?_
    refine TT.bind (TT.holding ?_)
    refine TT.pure (a := Value.none) (Q := fun vs m4 h4 => _) ?_
    intro base FS X A E s G N T R g
    exact wpAny_newObj_type ⟨g, rfl, m2, _, R.push (mo := .raw _) (Heap.get?_push_size _ rfl), N, _, u, _, _, a, xs, k, rfl, rfl, rfl, e1, e3, e4, e5, e6, e7⟩
  refine TT.bind (TT.holding (TT.mono sl fun i m3 h3 k3 => TT.at_ ?_))
  obtain ⟨d, u, o', h0, a, xs, kk, rfl, rfl, rfl, e, k1, k2, ha, hs, hQ⟩ := k3
  have eo := cn_ref e; subst eo
  intro base FS X A E s G N T R g
  obtain ⟨vs, n, pl, rfl⟩ := R.tup ha.there
  have ht : PyProof.Rows.IsTup s.heap a vs.toArray := ⟨_, pl, rfl, n, rfl⟩
  have hT := ht.typeIs
  rw [getitemInPython_of_ne hT.not_modules]
  refine wpAny_bind (wpAny_bind (wpAny_specialOf hT PySem.F.slot_tuple_getitem.lookup (wpAny_pure ?_)))
  have hsl : s.heap.IsSliceOf d (.int kk u) .none .none := ⟨_, (R.objs _ _ (.head _)).1, rfl, rfl⟩
  rw [List.length_map] at k2 hs
  refine wpAny_bind (wpAny_operating (getItem_tuple_from ht hsl k1 (by simpa using k2) ?_ ?_))
  · refine wpAny_bind (wpAny_letTemporaryGo (wpAny_pure ⟨g, rfl, m3, (_, .tup ((vs.map cn).drop kk)) :: h0, ?_, N, hQ _⟩))
    have R1 : Rel c.prog c.w base FS X c.env.locals s.heap m3 h0 := R.weak (fun _ q => q) (fun _ q => .tail _ q) (List.nodup_cons.mp R.nd).2
    exact R1.push (mo := .tup _) ⟨vs.drop kk, 0, Heap.get?_push_size _ rfl, by rw [List.map_drop]⟩
  · rw [List.size_toArray]; exact Nat.le_trans hs slim_le
end
end
section
open PySem PySem.W PySem.Calls PyProof.Rows
section
variable {prog : Program} {w : World} {A : Around} {E : Value → Shared → Prop} {s : Shared}
/-! two lists of two -/
set_option maxHeartbeats 4000000 in
theorem eq_two' {l b : Addr} {n n2 i1 i2 : Nat} (hc : ((0 : Int) + 1) = (i1 : Int)) (hc2 : ((i1 : Int) + 1) = (i2 : Int)) {items items2 : Array Value} {x1 x2 y1 y2 : Value} {e1 e2 : Bool} {Q : Value → Shared → Prop} (hl : s.heap.get? l = some { cls := .type "list", data := .seq items n }) (hb : s.heap.get? b = some { cls := .type "list", data := .seq items2 n2 })
    (a0 : items[((0 : Nat) : Int).toNat]? = some x1) (a1 : items[(i1 : Int).toNat]? = some x2) (a2 : items[(i2 : Int).toNat]? = none) (b0 : items2[((0 : Nat) : Int).toNat]? = some y1) (b1 : items2[(i1 : Int).toNat]? = some y2) (b2 : items2[(i2 : Int).toNat]? = none) (hsz : items.size = items2.size)
    (h1 : ∀ (E : Value → Shared → Prop) (Q : Bool → Shared → Prop), Q e1 s → wpAny (model prog w) A.in1 (eqBool x1 y1) Q E s) (h2 : ∀ (E : Value → Shared → Prop) (Q : Bool → Shared → Prop), Q e2 s → wpAny (model prog w) A.in1 (eqBool x2 y2) Q E s)
    (hu : A.units < cLine) (hq : Q (.bool (e1 && e2)) s) : wpAny (model prog w) A (compareOp .Eq (.ref l) (.ref b)) Q E s := by
  have hT : s.TypeIs (.ref l) "list" := ⟨_, hl, rfl⟩
  refine wpAny_richCompare_same_room (op := .Eq) hT ⟨_, hb, rfl⟩ F.slot_list_eq (wpAny_call (codeAny_call_builtin F.slot_list_eq.plain F.entry_list_eq (F.slot_list_eq.check _ _ _ _ _ _ _ _ hT (F.args_list_eq_2 _ _) ?_))) hu
  obtain ⟨hp, g, d, tk, os⟩ := s
  have f3 := AutoSeq1.sub_list_list
  have hne : ¬ (items.size != items2.size) = true := by simp [hsz]
  wp_walk using AutoSeq1.wpAny_loadPart' hl, AutoSeq1.wpAny_loadPart' hb
  refine ⟨plainId_quiet MeetsSeq3.plain_eq_loop _, codeAny_builtin MeetsSeq3.entry_eq_loop ?_⟩
  rw [Around.under_plainId MeetsSeq3.plain_eq_loop _]
  wp_walk using AutoSeq1.wpAny_loadPart' hl, AutoSeq1.wpAny_loadPart' hb
  have a0' : items[Int.toNat 0]? = some x1 := a0
  have b0' : items2[Int.toNat 0]? = some y1 := b0
  rw [a0', b0']
  refine wpAny_bind (h1 _ _ ?_)
  cases e1 with
  | false =>
    wp_walk using AutoSeq1.wpAny_loadPart' hl, AutoSeq1.wpAny_loadPart' hb
    rw [a0', b0']
    wp_walk
    exact ⟨fun x => (nomatch x), hq⟩
  | true =>
    wp_walk
    rw [hc]
    refine ⟨plainId_quiet MeetsSeq3.plain_eq_loop _, codeAny_builtin MeetsSeq3.entry_eq_loop ?_⟩
    rw [Around.under_plainId MeetsSeq3.plain_eq_loop _]
    wp_walk using AutoSeq1.wpAny_loadPart' hl, AutoSeq1.wpAny_loadPart' hb
    rw [a1, b1]
    refine wpAny_bind (h2 _ _ ?_)
    cases e2 with
    | false =>
      wp_walk using AutoSeq1.wpAny_loadPart' hl, AutoSeq1.wpAny_loadPart' hb
      rw [a1, b1]
      wp_walk
      exact ⟨fun x => (nomatch x), hq⟩
    | true =>
      wp_walk
      rw [hc2]
      refine ⟨plainId_quiet MeetsSeq3.plain_eq_loop _, codeAny_builtin MeetsSeq3.entry_eq_loop ?_⟩
      rw [Around.under_plainId MeetsSeq3.plain_eq_loop _]
      wp_walk using AutoSeq1.wpAny_loadPart' hl, AutoSeq1.wpAny_loadPart' hb
      rw [a2, b2]
      wp_walk using AutoSeq1.wpAny_loadPart' hl, AutoSeq1.wpAny_loadPart' hb
      refine ⟨fun x => (nomatch x), ?_⟩
      show Q (.bool (items.size == items2.size)) _
      rw [hsz, beq_self_eq_true]; exact hq
theorem eq_two {l b : Addr} {n n2 : Nat} {x1 x2 y1 y2 : Value} {e1 e2 : Bool} {Q : Value → Shared → Prop} (hl : s.heap.get? l = some { cls := .type "list", data := .seq #[x1, x2] n }) (hb : s.heap.get? b = some { cls := .type "list", data := .seq #[y1, y2] n2 })
    (h1 : ∀ (E : Value → Shared → Prop) (Q : Bool → Shared → Prop), Q e1 s → wpAny (model prog w) A.in1 (eqBool x1 y1) Q E s) (h2 : ∀ (E : Value → Shared → Prop) (Q : Bool → Shared → Prop), Q e2 s → wpAny (model prog w) A.in1 (eqBool x2 y2) Q E s)
    (hu : A.units < cLine) (hq : Q (.bool (e1 && e2)) s) : wpAny (model prog w) A (compareOp .Eq (.ref l) (.ref b)) Q E s :=
  eq_two' (i1 := 1) (i2 := 2) rfl rfl hl hb rfl rfl rfl rfl rfl rfl rfl h1 h2 hu hq
theorem eqBool_dicts {a b : Addr} {r : Bool} (hne : a ≠ b) (h : ∀ (E : Value → Shared → Prop) (Q : Value → Shared → Prop), Q (.bool r) s → wpAny (model prog w) A (compareOp .Eq (.ref a) (.ref b)) Q E s) :
    ∀ (E : Value → Shared → Prop) (Q : Bool → Shared → Prop), Q r s → wpAny (model prog w) A (eqBool (.ref a) (.ref b)) Q E s := by
  intro E Q hq
  unfold eqBool
  refine wpAny_holding ?_
  refine wpAny_ite_split (fun hab => absurd (by have := eq_of_beq hab; injection this) hne) (fun _ => ?_)
  exact wpAny_bind (h E _ (wpAny_truthy_bool hq))
end

section
variable {c : Sit} {m m' m0 : Loc} {mh mh' mh0 : MH} {α β : Type}
variable {Q Q' : Value → Loc → MH → Prop} {QB : Bool → Loc → MH → Prop} {QF : Flow → Loc → MH → Prop} {QL : Loc → MH → Prop}
variable {prog : Program} {w : World} {base : Heap} {FS : FSt} {X : Xs} {L L' : Addr} {h h' : Heap}
/-! formatting -/
inductive TShow (c : Sit) (mh : MH) : Value → PySem.Str → Prop
  | str {x} : TShow c mh (.str x 0) x
  | deep {a d} : DeepV c mh (.ref a) d → d.showable = true → d.hasDict = false → d.depth ≤ 100 → d.shown.length ≤ 1000000 → TShow c mh (.ref a) d.shown
theorem TBin.fmtE {y : PySem.Str} {fmt : PySem.Str} (hX : fmt = ⟨#[37, 115, 32, 45, 62, 32, 60, 101, 109, 112, 116, 121, 62]⟩) (hy : y.length ≤ 1000000) (hq : ∀ z, Q (.str z 0) m mh) : TBin c m mh .Mod (.str fmt 0) (.str y 0) Q := by
  intro a' b' ea eb base FS X A E s G N T R g
  obtain ⟨u, rfl⟩ := cn_str ea; obtain ⟨u', rfl⟩ := cn_str eb
  refine KPc.mod_str (T := fun z => z ++ PySem.Str.ofString " -> <empty>") hX hy ?_ fun t' k => ⟨g, rfl, m, mh, R, N, hq _⟩
  kpc_run_s
theorem TCall.joinT {a : Addr} {xs : List PySem.Str} {sep : PySem.Str} (ha : MHas mh a (.tup (sL xs))) (hz : JoinOk sep xs = true) (hq : ∀ z : PySem.Str, z.length ≤ 1000000 → Q (.str z 0) m mh) (hz2 : (Txt.join sep xs).length ≤ 1000000) : TCall c m mh (.builtin "str.join") [.str sep 0, .ref a] [] Q := by
  intro f' as' kw' ef ea ek base FS X A E s G N T R g
  rw [cn_builtin ef]; obtain rfl := no_kw ek
  obtain ⟨p, q, rfl, e1, e2⟩ := two_args ea
  obtain ⟨u, rfl⟩ := cn_str e1; rw [cn_ref e2]
  obtain ⟨vs, n, pl, e⟩ := R.tup ha
  obtain ⟨l, hl, hl2⟩ : ∃ l : List (PySem.Str × Tok), strValues l = vs ∧ l.map (·.1) = xs := by
    clear pl ha hz hz2
    induction vs generalizing xs with
    | nil => cases xs with | nil => exact ⟨[], rfl, rfl⟩ | cons => cases e
    | cons v vs ih =>
      cases xs with
      | nil => cases e
      | cons x xs =>
        simp only [sL, List.map_cons, List.cons.injEq] at e
        obtain ⟨t, rfl⟩ := cn_str e.1
        obtain ⟨l, rfl, rfl⟩ := ih e.2
        exact ⟨(x, t) :: l, rfl, rfl⟩
  subst hl hl2
  unfold JoinOk at hz
  rw [Bool.not_eq_true'] at hz
  exact call_meets F.slot_str_join (typeIs_str _ _ _) F.entry_str_join (F.args_str_join_2 _ _) (meets_str_join_tuple sep u a l hz) ⟨⟨_, n, pl, rfl, rfl⟩, post_join l ⟨joinFit_length hz, fun t' k => ⟨g, rfl, m, mh, R, N, hq _ hz2⟩⟩⟩
theorem TGet.str {x : PySem.Str} {name : PySem.Str} {id : String} {QG : Value → List Value → Loc → MH → Prop} (slot : Slot "str" name id) (hty : typeOf (.builtin id) = pure (.type "method_descriptor")) (hq : QG (.builtin id) [.str x 0] m mh) : TGet c m mh (.str x 0) name QG := by
  intro ov' pl e base FS X A E s G N T R g
  obtain ⟨u, rfl⟩ := cn_str e
  exact getMethod_builtin (typeIs_str s x u) PySem.F.plainAttrs_str slot hty (fun b e => by cases e) ⟨g, rfl, m, mh, R, N, hq⟩
end
end
section
open PySem PySem.W PySem.Calls PyProof.Rows
section
variable {prog : Program} {w : World} {A : Around} {E : Value → Shared → Prop} {s : Shared}
theorem pyHash_none {Q : Int → Shared → Prop} (h : Q 0xFCA86420 { s with toks := s.toks + 1 }) : wpAny (model prog w) A (pyHash .none) Q E s := by
  have hT : s.TypeIs .none "NoneType" := rfl
  unfold pyHash
  have hv : [Value.none].any Value.onHeap = false := rfl
  refine wpAny_bind ?_
  rw [cRoomFor, if_neg (by rw [hv]; exact Bool.false_ne_true)]; refine wpAny_pure ?_
  refine wpAny_bind (wpAny_specialOf hT F.slot_NoneType_hash.lookup ?_)
  show wpAny _ _ (if (some (Value.builtin "NoneType.__hash__") == some Value.none) = true then _ else _) Q E s
  rw [if_neg (by rw [beq_builtin_none]; exact Bool.false_ne_true)]
  refine wpAny_bind (wpAny_specialOf hT F.slot_NoneType_hash.lookup ?_)
  show wpAny _ _ (callSpecialIfBoundUnlessNone? .none "__hash__" _ >>= _) Q E s
  refine wpAny_bind (wpAny_callSpecialIfBoundUnlessNone?_slot hT F.slot_NoneType_hash
    (wpAny_call_entry F.slot_NoneType_hash hT F.entry_NoneType_hash
      (show wpAny _ _ (do ret (← mkInt 0xFCA86420)) _ _ s from wpAny_ret_mkInt ?_) (F.args_NoneType_hash_1 _)))
  show wpAny _ _ (if (decide (-(2 : Int) ^ 63 ≤ 0xFCA86420) && decide ((0xFCA86420 : Int) < 2 ^ 63)) = true then _ else _) Q E _
  rw [if_pos (by decide)]
  exact wpAny_pure h
noncomputable def noneIs (_ : Unit) : Value → Bool
  | .none => true
  | _ => false
theorem noneIs_shape {u : Unit} {v : Value} (h : noneIs u v = true) : v = .none := by cases v <;> first | rfl | cases h
noncomputable def noneKind (prog : Program) (w : World) : PySem.KeyKind prog w Unit where
  is := noneIs
  hash := fun _ => 0xFCA86420
  inj := fun _ _ _ _ _ => rfl
  byValue := fun _ _ h => by rw [noneIs_shape h]; rfl
  pyHash := fun hv h => by rw [noneIs_shape hv]; exact pyHash_none h
  eqBool := fun hu hv h => by
    rw [noneIs_shape hu, noneIs_shape hv]
    exact SeqAt.EqAt.same _ _ _ _ _ (by simpa using h)
  «strs» := fun k x t v h => by cases h
end
section
variable {c : Sit} {m m' m0 : Loc} {mh mh' mh0 : MH} {α β : Type}
variable {Q Q' : Value → Loc → MH → Prop} {QB : Bool → Loc → MH → Prop} {QF : Flow → Loc → MH → Prop} {QL : Loc → MH → Prop}
variable {prog : Program} {w : World} {base : Heap} {FS : FSt} {X : Xs} {L L' : Addr} {h h' : Heap}
theorem TGet.dict {a : Addr} {mo : MO} {kvs : List (PySem.Str × Value)} {name : PySem.Str} {id : String} {QG : Value → List Value → Loc → MH → Prop} (ha : MHas mh a mo) (hd : IsD mo kvs) (slot : Slot "dict" name id) (hty : typeOf (.builtin id) = pure (.type "method_descriptor"))
    (hq : QG (.builtin id) [.ref a] m mh) : TGet c m mh (.ref a) name QG := by
  intro ov' pl e base FS X A E s G N T R g
  rw [cn_ref e]
  obtain ⟨kv', d, _⟩ := R.dictD ha hd
  exact getMethod_builtin d.typeIs PySem.F.plainAttrs_dict slot hty (fun b e => by cases e; obtain ⟨o, _, _, ho, hx, _⟩ := d; exact ⟨o, ho, hx.2.1⟩) ⟨g, rfl, m, mh, R, N, hq⟩
theorem three_args {as' : List Value} {x y z : Value} (e : as'.map cn = [x, y, z]) : ∃ a b d, as' = [a, b, d] ∧ cn a = x ∧ cn b = y ∧ cn d = z := by
  obtain ⟨a, t, rfl, h1, h2⟩ := List.map_eq_cons_iff.mp e
  obtain ⟨b, d, rfl, h3, h4⟩ := two_args h2
  exact ⟨a, b, d, rfl, h1, h3, h4⟩
theorem emptyMap {K : Type} [DecidableEq K] (knd : PySem.KeyKind prog w K) {a : Addr} (d : h.DictOf (PySem.strKind prog w) a []) : h.MapOf knd a fun _ => none := by
  obtain ⟨o, es, ep, ho, hx, hd, hk, hp, hn⟩ := d
  have e0 : es.toList = [] := List.length_eq_zero_iff.mp hp.length
  have e1 : es = #[] := by cases es; simp_all
  subst e1
  exact ⟨o, _, ep, ho, hx, hd, (fun e he => by simp at he), fun k => rfl⟩
theorem TCall.get2E {a : Addr} {k dflt : Value} (ha : MHas mh a (.dict [])) (hk : k = .none ∨ ∃ x, k = .str x 0) (hq : Q dflt m mh) : TCall c m mh (.builtin "dict.get") [.ref a, k, dflt] [] Q := by
  intro f' as' kw' ef ea ek base FS X A E s G N T R g
  rw [cn_builtin ef]; obtain rfl := no_kw ek
  obtain ⟨p, q, r, rfl, e1, e2, e3⟩ := three_args ea
  rw [cn_ref e1]
  obtain ⟨kv', d, e⟩ := R.dict ha
  have : kv' = [] := List.map_eq_nil_iff.mp e
  subst this
  have hd := R.notSys G.lim ha
  rcases hk with rfl | ⟨x, rfl⟩
  · rw [cn_none e2]
    refine call_meetsIn F.slot_dict_get d.typeIs F.entry_dict_get (F.args_dict_get_3 _ _ _) (meets_dict_get_default (noneKind c.prog c.w) (k := ()) a rfl hd r) ⟨_, emptyMap _ d, g, rfl, m, mh, R, N, ?_⟩
    show Q (cn r) m mh
    rw [e3]; exact hq
  · obtain ⟨u, rfl⟩ := cn_str e2
    refine call_meetsIn F.slot_dict_get d.typeIs F.entry_dict_get (F.args_dict_get_3 _ _ _) (meets_dict_get_default (PySem.strKind c.prog c.w) (k := x) a (strKind_is _ _ x u) hd r) ⟨_, emptyMap _ d, g, rfl, m, mh, R, N, ?_⟩
    show Q (cn r) m mh
    rw [e3]; exact hq
theorem TCall.set0 (hq : ∀ r o, Q (.ref r) m ((r, .raw o) :: mh)) : TCall c m mh (.type "set") [] [] Q := by
  intro f' as' kw' ef ea ek base FS X A E s G N T R g
  rw [cn_type ef]; obtain rfl := no_kw ek
  obtain rfl : as' = [] := List.map_eq_nil_iff.mp ea
  exact call_set_0 fun led => ⟨g, rfl, m, _, R.push (mo := .raw _) (Heap.get?_push_size _ rfl), N, hq _ _⟩

/-! sorted -/
theorem TCall.sorted {a : Addr} {xs : List PySem.Str} (ha : LAt c mh a (sL xs)) (hs : xs.length < 64) (hq : ∀ r ys, ys.Perm xs → sortedS ys = true → Q (.ref r) m ((r, .list (sL ys)) :: mh)) : TCall c m mh (.builtin "sorted") [.ref a] [] Q := by
  intro f' as' kw' ef ea ek base FS X A E s G N T R g
  rw [cn_builtin ef]; obtain rfl := no_kw ek
  obtain ⟨p, rfl, e1⟩ := one_arg ea
  rw [cn_ref e1]
  obtain ⟨vs, pl, e⟩ := R.lat G ha
  have hl : vs.length = xs.length := by have := congrArg List.length e; simpa [sL] using this
  refine sorted_strs pl.isList (sL_are e) (by omega) fun out ys h1 h2 h3 => ?_
  obtain ⟨ep, he⟩ := sortedAll_at s.heap vs out
  have cnS : ∀ {vs : List Value} {ys : List PySem.Str}, StrsAre vs ys → vs.map cn = sL ys := by
    intro vs ys h
    induction h with
    | nil => rfl
    | cons x u r ih => simp only [List.map_cons, ih]; rfl
  refine ⟨g, rfl, m, _, R.new (mo := .list (sL ys)) (Nat.le_succ _) (fun b o => sortedAll_old) ⟨out.toList, ⟨ep, ?_⟩, cnS h1⟩, N, hq _ ys h2 h3⟩
  rw [he]

/-! tables compared -/
theorem eqvAll_ss : ∀ xs ys : List PySem.Str, PyData.eqvAll (xs.map .str) (ys.map .str) = decide (xs = ys)
  | [], [] => rfl
  | [], _ :: _ => rfl
  | _ :: _, [] => rfl
  | x :: xs, y :: ys => by
    simp only [List.map_cons, PyData.eqvAll, PyData.eqv, eqvAll_ss xs ys, List.cons.injEq]
    by_cases h : x = y <;> by_cases h2 : xs = ys <;> simp [h, h2]
theorem depth_ss : ∀ xs : List PySem.Str, PyData.depthAll (xs.map .str) ≤ 1
  | [] => by simp [PyData.depthAll]
  | x :: xs => by
    have := depth_ss xs
    simp only [List.map_cons, PyData.depthAll, PyData.depth]; omega
/-- a dict from strs to lists of strs, told by its rows -/
structure Tab (mh : MH) (d : Addr) (keys : List PySem.Str) (T : PySem.Str → List PySem.Str) : Prop where
  at_ : ∃ A : PySem.Str → Addr, MHas mh d (.dict (enc (fun s => s) keys fun s => .ref (A s))) ∧ ∀ s ∈ keys, MHas mh (A s) (.list (sL (T s)))
  lay : ∀ s ∈ keys, PyData.canLayAll0 ((T s).map .str) = true
noncomputable def tabEq (ka : List PySem.Str) (T : PySem.Str → List PySem.Str) (kb : List PySem.Str) (W : PySem.Str → List PySem.Str) : Bool := (ka.length == kb.length) && ka.all fun s => decide (s ∈ kb) && decide (T s = W s)
theorem mem_kv {kv : List (PySem.Str × Value)} {keys : List PySem.Str} {A : PySem.Str → Addr} (e : kv.map (fun p => (p.1, cn p.2)) = enc (fun s => s) keys fun s => .ref (A s)) (s : PySem.Str) : valueAt kv s = if s ∈ keys then some (.ref (A s)) else none := by
  have e1 := vAt_map kv s
  rw [e, vAt_k] at e1
  by_cases hs : s ∈ keys
  · rw [if_pos hs]
    rw [kAt_enc (g := fun s => s) (fun _ _ e => e) hs] at e1
    obtain ⟨v, h1, h2⟩ := Option.map_eq_some_iff.mp e1.symm
    rw [h1, cn_ref h2]
  · rw [if_neg hs]
    rw [kAt_enc_none (g := fun s => s) (fun _ _ e => e) hs] at e1
    exact Option.map_eq_none_iff.mp e1.symm
theorem kv_shape : ∀ {kv : List (PySem.Str × Value)} {keys : List PySem.Str} {A : PySem.Str → Addr}, kv.map (fun p => (p.1, cn p.2)) = (enc (fun s => s) keys fun s => .ref (A s)) → kv = keys.map fun s => (s, Value.ref (A s))
  | [], [], _, _ => rfl
  | [], _ :: _, _, e => by cases e
  | _ :: _, [], _, e => by cases e
  | p :: kv, k :: keys, A, e => by
    simp only [enc, List.map_cons, List.cons.injEq, Prod.mk.injEq] at e
    obtain ⟨⟨e1, e2⟩, e3⟩ := e
    rw [List.map_cons, ← kv_shape (kv := kv) (keys := keys) (A := A) e3]
    obtain ⟨a, b⟩ := p
    simp only at e1 e2
    rw [e1, cn_ref e2]
theorem hits_of {A A' : Around} (hu : A'.units + 10 < cLine) {s : Shared} (G : Good c base FS A) (R : Rel c.prog c.w base FS X c.env.locals s.heap m mh) {kb : List (PySem.Str × Value)} {kbs : List PySem.Str} {AB : PySem.Str → Addr} {W : PySem.Str → List PySem.Str} {AA : PySem.Str → Addr} {T : PySem.Str → List PySem.Str}
    (eb : kb.map (fun p => (p.1, cn p.2)) = enc (fun s => s) kbs fun s => .ref (AB s)) (hB : ∀ s ∈ kbs, MHas mh (AB s) (.list (sL (W s)))) (lB : ∀ s ∈ kbs, PyData.canLayAll0 ((W s).map .str) = true) :
    ∀ (keys : List PySem.Str), (∀ s ∈ keys, MHas mh (AA s) (.list (sL (T s)))) → (∀ s ∈ keys, PyData.canLayAll0 ((T s).map .str) = true) → KeqHits A' s kb (keys.map fun s => (s, Value.ref (AA s))) (keys.all fun s => decide (s ∈ kbs) && decide (T s = W s))
  | [], _, _ => .nil
  | k :: keys, h1, h2 => by
    rw [List.map_cons, List.all_cons]
    by_cases hk : k ∈ kbs
    · rw [decide_eq_true hk, Bool.true_and]
      refine KeqHits.hit (y := .ref (AB k)) (by rw [mem_kv eb, if_pos hk]) ?_ (hits_of hu G R eb hB lB keys (fun s hs => h1 s (.tail _ hs)) fun s hs => h2 s (.tail _ hs))
      obtain ⟨as, ra⟩ := (DeepV.list (c := c) (.own (h1 k (.head _))) (DeepAll.sL (T k))).reads G R (.ref (AA k)) rfl
      obtain ⟨bs, rb⟩ := (DeepV.list (c := c) (.own (hB k hk)) (DeepAll.sL (W k))).reads G R (.ref (AB k)) rfl
      have x := SeqAt.eqAt_reads _ _ A' s _ _ as bs ra rb (by simpa [PyData.canLay0] using h2 k (.head _)) (by simpa [PyData.canLay0] using lB k hk) (by
        have h3 := depth_ss (T k)
        have h4 := Nat.min_le_left (PyData.list ((T k).map .str)).depth (PyData.list ((W k).map .str)).depth
        have h5 : (PyData.list ((T k).map .str)).depth ≤ 2 := by simp only [PyData.depth]; omega
        omega)
      have e : PyData.eqv (.list ((T k).map .str)) (.list ((W k).map .str)) = decide (T k = W k) := by simp only [PyData.eqv]; exact eqvAll_ss _ _
      rw [e] at x
      exact x
    · rw [decide_eq_false hk, Bool.false_and, Bool.false_and]
      exact .miss (by rw [mem_kv eb, if_neg hk])
theorem Rel.eqTab {A A' : Around} (hu : A'.units + 10 < cLine) {s : Shared} {a b : Addr} {ka kb : List PySem.Str} {T W : PySem.Str → List PySem.Str} (G : Good c base FS A) (R : Rel c.prog c.w base FS X c.env.locals s.heap m mh) (ha : Tab mh a ka T) (hb : Tab mh b kb W) :
    ∃ (xa xb : List (PySem.Str × Value)), s.heap.DictOf (PySem.strKind c.prog c.w) a xa ∧ s.heap.DictOf (PySem.strKind c.prog c.w) b xb ∧ KeqHits A' s xb xa (ka.all fun s => decide (s ∈ kb) && decide (T s = W s)) ∧ xa.length = ka.length ∧ xb.length = kb.length ∧ (a == sysModules) = false ∧ (b == sysModules) = false := by
  obtain ⟨⟨AA, ha1, ha2⟩, la⟩ := ha
  obtain ⟨⟨AB, hb1, hb2⟩, lb⟩ := hb
  obtain ⟨xa, da, ea⟩ := R.dict ha1
  obtain ⟨xb, db, eb⟩ := R.dict hb1
  refine ⟨xa, xb, da, db, ?_, ?_, ?_, R.notSys G.lim ha1, R.notSys G.lim hb1⟩
  · rw [kv_shape ea]
    exact hits_of hu G R eb hb2 lb ka ha2 la
  · have := congrArg List.length ea; simpa [enc] using this
  · have := congrArg List.length eb; simpa [enc] using this
theorem TCmp.neTab {a b : Addr} {ka kb : List PySem.Str} {T W : PySem.Str → List PySem.Str} (ha : Tab mh a ka T) (hb : Tab mh b kb W) (hq : Q (.bool (!tabEq ka T kb W)) m mh) : TCmp c m mh .NotEq (.ref a) (.ref b) Q := by
  intro a' b' ea eb base FS X A E s G N T' R g
  rw [cn_ref ea, cn_ref eb]
  have := G.units
  obtain ⟨xa, xb, da, db, hits, l1, l2, s1, s2⟩ := R.eqTab (A' := A.in1) (by show A.units + 1 + 10 < cLine; unfold cLine; omega) G ha hb
  refine keq_ne s1 s2 da db (by unfold cLine; omega) (r := ka.all fun s => decide (s ∈ kb) && decide (T s = W s)) (fun _ => hits) ⟨g, rfl, m, mh, R, N, ?_⟩
  rw [l1, l2]; exact hq
theorem Rel.eqBoolTab {A A1 : Around} {s : Shared} {a b : Addr} {ka kb : List PySem.Str} {T W : PySem.Str → List PySem.Str} (G : Good c base FS A) (R : Rel c.prog c.w base FS X c.env.locals s.heap m mh) (hu : A1.units + 20 < cLine) (ha : Tab mh a ka T) (hb : Tab mh b kb W) (hne : a ≠ b) :
    ∀ (E : Value → Shared → Prop) (Q : Bool → Shared → Prop), Q (tabEq ka T kb W) s → wpAny (model c.prog c.w) A1 (eqBool (.ref a) (.ref b)) Q E s := by
  refine eqBool_dicts hne fun E Q hq => ?_
  obtain ⟨xa, xb, da, db, hits, l1, l2, s1, s2⟩ := R.eqTab (A' := A1.in1) (by show A1.units + 1 + 10 < cLine; omega) G ha hb
  refine keq_eq s1 s2 da db (by omega) (r := ka.all fun s => decide (s ∈ kb) && decide (T s = W s)) (fun _ => hits) ?_
  rw [l1, l2]; exact hq
theorem TCmp.eqTwo {l b a1 a2 b1 b2 : Addr} {k1 k2 j1 j2 : List PySem.Str} {T1 T2 W1 W2 : PySem.Str → List PySem.Str} (hl : LAt c mh l [.ref a1, .ref a2]) (hb : LAt c mh b [.ref b1, .ref b2]) (t1 : Tab mh a1 k1 T1) (t2 : Tab mh a2 k2 T2) (w1 : Tab mh b1 j1 W1) (w2 : Tab mh b2 j2 W2) (n1 : a1 ≠ b1) (n2 : a2 ≠ b2)
    (hq : Q (.bool (tabEq k1 T1 j1 W1 && tabEq k2 T2 j2 W2)) m mh) : TCmp c m mh .Eq (.ref l) (.ref b) Q := by
  intro a' b' ea eb base FS X A E s G N T' R g
  rw [cn_ref ea, cn_ref eb]
  obtain ⟨vs, ⟨n, p1⟩, e1⟩ := R.lat G hl
  obtain ⟨ws, ⟨n', p2⟩, e2⟩ := R.lat G hb
  obtain ⟨x1, x2, rfl, y1, y2⟩ := two_args e1
  obtain ⟨z1, z2, rfl, y3, y4⟩ := two_args e2
  obtain rfl := cn_ref y1; obtain rfl := cn_ref y2; obtain rfl := cn_ref y3; obtain rfl := cn_ref y4
  have := G.units
  refine eq_two p1 p2 (R.eqBoolTab G (by show A.units + 1 + 20 < cLine; unfold cLine; omega) t1 w1 n1) (R.eqBoolTab G (by show A.units + 1 + 20 < cLine; unfold cLine; omega) t2 w2 n2) (by unfold cLine; omega) ⟨g, rfl, m, mh, R, N, hq⟩
end
end
section
open PySem PySem.W PySem.Calls PyProof.Rows
section
variable {c : Sit} {m m' m0 : Loc} {mh mh' mh0 : MH} {α β : Type}
variable {Q Q' : Value → Loc → MH → Prop} {QB : Bool → Loc → MH → Prop} {QF : Flow → Loc → MH → Prop} {QL : Loc → MH → Prop}
/-! fields, told one by one -/
inductive VHas : List (PySem.Str × Value) → PySem.Str → Value → Prop
  | here {x v l} : VHas ((x, v) :: l) x v
  | there {x v y o l} : y ≠ x → VHas l x v → VHas ((y, o) :: l) x v
inductive VApp : List (PySem.Str × Value) → PySem.Str → Value → List (PySem.Str × Value) → Prop
  | nil {x v} : VApp [] x v [(x, v)]
  | cons {x v y o l l'} : y ≠ x → VApp l x v l' → VApp ((y, o) :: l) x v ((y, o) :: l')
inductive VNo : List (PySem.Str × Value) → PySem.Str → Prop
  | nil {x} : VNo [] x
  | cons {x y o l} : y ≠ x → VNo l x → VNo ((y, o) :: l) x
theorem VHas.at_ {l : List (PySem.Str × Value)} {x : PySem.Str} {v : Value} (h : VHas l x v) : vAt l x = some v := by
  induction h with
  | here => simp [vAt]
  | @there x v y o l ne _ ih =>
    unfold vAt at ih ⊢
    rw [List.find?_cons]
    have : decide (y = x) = false := decide_eq_false ne
    simp only [this]; exact ih
theorem VNo.at_ {l : List (PySem.Str × Value)} {x : PySem.Str} (h : VNo l x) : vAt l x = none := by
  induction h with
  | nil => rfl
  | @cons x y o l ne _ ih =>
    unfold vAt at ih ⊢
    rw [List.find?_cons]
    have : decide (y = x) = false := decide_eq_false ne
    simp only [this]; exact ih
theorem VApp.put {l l' : List (PySem.Str × Value)} {x : PySem.Str} {v : Value} (h : VApp l x v l') : vPut l x v = l' := by
  have h1 : l' = l ++ [(x, v)] := by
    induction h with
    | nil => rfl
    | cons _ _ ih => rw [ih]; rfl
  have h2 : l.any (fun kv => decide (kv.1 = x)) = false := by
    clear h1
    induction h with
    | nil => rfl
    | @cons x v y o l l' ne _ ih =>
      rw [List.any_cons, ih, Bool.or_false]
      exact decide_eq_false ne
  unfold vPut
  rw [h2, h1]; rfl
theorem TSetAttr.new {C x dx : Addr} {as as' : List (PySem.Str × Value)} {names : List PySem.Str} {name : PySem.Str} {v : Value} (ok : ClsOk c.K C names) (hn : SHas names name) (h1 : MHas mh x (.inst C dx)) (ha : VApp as name v as') (h2 : MPut mh dx (.dict as) (.dict as') mh')
    (hs : as.length ≤ slim) (hq : QL m mh') : TSetAttr c m mh (.ref x) name v QL := TSetAttr.field ok hn h1 (by rw [ha.put]; exact h2) hs hq
theorem TAttr.at_ {C x dx : Addr} {as : List (PySem.Str × Value)} {names : List PySem.Str} {name : PySem.Str} {v : Value} (ok : ClsOk c.K C names) (hn : SHas names name) (h1 : MHas mh x (.inst C dx)) (h2 : MHas mh dx (.dict as)) (hv : VHas as name v)
    (hb : notB v = true) (hq : Q v m mh) : TAttr c m mh (.ref x) name Q := TAttr.field ok hn h1 h2 hv.at_ hb hq
theorem TCmp.neB {x y : Bool} (hq : Q (.bool (x != y)) m mh) : TCmp c m mh .NotEq (.bool x) (.bool y) Q := by
  intro a b ea eb base FS X A E s G N T R g
  rw [cn_bool ea, cn_bool eb]
  exact SeqAt.RcNeAt.bool_bool x y _ _ _ _ ⟨g, rfl, m, mh, R, N, hq⟩

/-! f'{e1!s} -> {e2!s}' -/
theorem TShow.conv {A : Around} {E : Value → Shared → Prop} {s : Shared} {base : Heap} {FS : FSt} {X : Xs} {v v' : Value} {x : PySem.Str} {QV : Value → Shared → Prop} (G : Good c base FS A) (R : Rel c.prog c.w base FS X c.env.locals s.heap m mh) (t : TShow c mh v x) (e : cn v' = v) (hl : x.length ≤ 1000000)
    (hq : ∀ h' u tk, (∀ b o, s.heap.get? b = some o → h'.get? b = some o) → QV (.str x u) { s with heap := h', toks := tk }) : wpAny (model c.prog c.w) A (convS v') QV E s := by
  cases t with
  | str => obtain ⟨u, rfl⟩ := cn_str e; exact SB.convS_str (fun t' k => hq s.heap t' k fun _ _ e => e) (Nat.le_trans hl (by decide))
  | deep hd h1 h2 h3 h4 =>
    obtain ⟨as, r⟩ := hd.reads G R _ e
    have e2 := cn_ref e
    subst e2
    refine convS_of_reads r h1 (fun q => by rw [h2] at q; cases q) G.guards ?_ (fun _ _ e => e) hq (Nat.le_trans h4 (by decide))
    have := G.units
    unfold cLine; omega
theorem TShow.field {A : Around} {E : Value → Shared → Prop} {s : Shared} {base : Heap} {FS : FSt} {X : Xs} {v v' : Value} {x : PySem.Str} {QV : Value → Shared → Prop} (G : Good c base FS A) (R : Rel c.prog c.w base FS X c.env.locals s.heap m mh) (t : TShow c mh v x) (e : cn v' = v) (hl : x.length ≤ 1000000)
    (hq : ∀ h' u tk, (∀ b o, s.heap.get? b = some o → h'.get? b = some o) → QV (.str x u) { s with heap := h', toks := tk }) : wpAny (model c.prog c.w) A (convS v') (fun r s2 => wpAny (model c.prog c.w) A (formatField r PySem.Str.empty) QV E s2) E s :=
  t.conv G R e hl fun h' u tk hk => wpAny_formatField_str (hq h' u tk hk) (hq h' _ _ hk) (Nat.le_trans hl (by decide))
theorem TE.shown2 {e1 e2 : Expr} {k : Nat} {lit : PySem.Str} {p1 p2 p3 p4 : Pos} (hl : lit.length ≤ 1000000) (hq : TE c m mh e1 fun v1 m1 h1 => ∃ x1, TShow c h1 v1 x1 ∧ x1.length ≤ 1000000 ∧ TE c m1 h1 e2 fun v2 m2 h2 => ∃ x2, TShow c h2 v2 x2 ∧ x2.length ≤ 1000000 ∧ Q (.str (x1 ++ lit ++ x2) 0) m2 h2)
    (he : evalEach [.FormattedValue e1 115 Option.none p1, .Constant (.str lit) k p2, .FormattedValue e2 115 Option.none p3] c.env = [eval (.FormattedValue e1 115 Option.none p1) c.env, eval (.Constant (.str lit) k p2) c.env, eval (.FormattedValue e2 115 Option.none p3) c.env] := by rfl) :
    TE c m mh (.JoinedStr [.FormattedValue e1 115 Option.none p1, .Constant (.str lit) k p2, .FormattedValue e2 115 Option.none p3] p4) Q := by
  intro base FS X A E s G N T R g
  refine wpAny_JoinedStr ?_
  rw [he]
  refine wpAny_FormattedValue_s (wpAny_mono (hq base FS X A E s G N T R g) (fun v s1 hx => Goes.el hx fun m1 h1 g1 o1 R1 N1 ⟨x1, t1, l1, k1⟩ => ?_) fun _ _ e => e)
  refine t1.field G R1 rfl l1 fun g2 u2 tk2 hk2 => ?_
  have ee : PySem.Str.empty ++ x1 = x1 := KPc.empty_app x1
  refine ⟨x1, _, rfl, by rw [ee]; exact Nat.le_trans l1 (by decide), ?_⟩
  rw [ee]
  refine wpAny_Constant_str ⟨lit, _, rfl, by rw [strLen_append]; exact Nat.le_trans (Nat.add_le_add l1 hl) (by decide), ?_⟩
  refine wpAny_FormattedValue_s (wpAny_mono (k1 base FS X A E _ G N1 T (R1.all hk2) g1) (fun v s3 hx => Goes.el hx fun m3 h3 g3 o3 R3 N3 ⟨x2, t2, l2, q2⟩ => ?_) fun _ _ e => e)
  refine t2.field G R3 rfl l2 fun g4 u4 tk4 hk4 => ?_
  have hz : (x1 ++ lit ++ x2).length ≤ sizeLine := by rw [strLen_append, strLen_append]; exact Nat.le_trans (Nat.add_le_add (Nat.add_le_add l1 hl) l2) (by decide)
  exact ⟨x2, _, rfl, hz, hz, g3, o3.trans o1, m3, h3, R3.all hk4, N3, q2⟩
end
end
section
open PySem PySem.W PySem.Calls PyProof.Rows
/-! a dict from strs to lists, with its lists -/
noncomputable def tb (keys : List PySem.Str) (A : PySem.Str → Addr) (T : PySem.Str → List Value) : MH := keys.map fun s => (A s, MO.list (T s))
noncomputable def tabB (d : Addr) (keys : List PySem.Str) (A : PySem.Str → Addr) (T : PySem.Str → List Value) : MH := (d, .dict (enc (fun s => s) keys fun s => .ref (A s))) :: tb keys A T
section
variable {d r : Addr} {keys : List PySem.Str} {A : PySem.Str → Addr} {T : PySem.Str → List Value} {k s : PySem.Str} {v : List Value}
theorem tabB_dict : MHas (tabB d keys A T) d (.dict (enc (fun s => s) keys fun s => .ref (A s))) := .here
theorem tabB_list (hs : s ∈ keys) : MHas (tabB d keys A T) (A s) (.list (T s)) := .there (.of_mem (List.mem_map.mpr ⟨s, hs, rfl⟩))
theorem tabB_put (nd : keys.Nodup) (hs : s ∈ keys) : MPut (tabB d keys A T) (A s) (.list (T s)) (.list v) (tabB d keys A (upd T s v)) := by
  refine .there ?_
  unfold tb
  induction keys with
  | nil => cases hs
  | cons a l ih =>
    rw [List.nodup_cons] at nd
    rw [List.map_cons, List.map_cons]
    by_cases e : a = s
    · subst e
      have : (l.map fun x => (A x, MO.list (upd T a v x))) = l.map fun x => (A x, MO.list (T x)) := by
        refine List.map_congr_left fun x hx => ?_
        have : x ≠ a := fun q => nd.1 (q ▸ hx)
        simp [upd, this]
      rw [this]
      have e2 : upd T a v a = v := by simp [upd]
      rw [e2]
      exact .here
    · have hs' : s ∈ l := by rcases List.mem_cons.mp hs with q | q; exact absurd q.symm e; exact q
      have e2 : upd T s v a = T a := by simp [upd, e]
      rw [e2]
      exact .there (ih nd.2 hs')
theorem tabB_new (hk : k ∉ keys) : vPut (enc (fun s => s) keys fun s => .ref (A s)) k (.ref r) = enc (fun s => s) (keys ++ [k]) fun s => .ref (upd A k r s) := by
  have e1 : enc (fun s => s) keys (fun s => Value.ref (A s)) = enc (fun s => s) keys fun s => Value.ref (upd A k r s) := by
    unfold enc
    refine List.map_congr_left fun x hx => ?_
    have : x ≠ k := fun q => hk (q ▸ hx)
    simp [upd, this]
  have e2 : (Value.ref r) = Value.ref (upd A k r k) := by simp [upd]
  rw [e1, e2, vPut_k]
  exact kPut_new (g := fun s : PySem.Str => s) (f := fun s => Value.ref (upd A k r s)) (fun _ _ e => e) hk
theorem tb_new (hk : k ∉ keys) : tb (keys ++ [k]) (upd A k r) (upd T k v) = tb keys A T ++ [(r, .list v)] := by
  unfold tb
  rw [List.map_append]
  congr 1
  · refine List.map_congr_left fun x hx => ?_
    have : x ≠ k := fun q => hk (q ▸ hx)
    simp [upd, this]
  · simp [upd]
theorem tabB_at (hs : s ∈ keys) : vAt (enc (fun s => s) keys fun s => Value.ref (A s)) s = some (.ref (A s)) := by
  rw [vAt_k, kAt_enc (g := fun s => s) (fun _ _ e => e) hs]
theorem tabB_none (hs : s ∉ keys) : vAt (enc (fun s => s) keys fun s => Value.ref (A s)) s = none := by
  rw [vAt_k, kAt_enc_none (g := fun s => s) (fun _ _ e => e) hs]
theorem tabB_isSome : (vAt (enc (fun s => s) keys fun s => Value.ref (A s)) s).isSome = decide (s ∈ keys) := by
  by_cases h : s ∈ keys
  · rw [tabB_at h, decide_eq_true h]; rfl
  · rw [tabB_none h, decide_eq_false h]; rfl
end
section
variable {c : Sit} {m m' m0 : Loc} {mh mh' mh0 : MH} {α β : Type}
variable {Q Q' : Value → Loc → MH → Prop} {QB : Bool → Loc → MH → Prop} {QF : Flow → Loc → MH → Prop} {QL : Loc → MH → Prop}
variable {d r : Addr} {keys : List PySem.Str} {A : PySem.Str → Addr} {T : PySem.Str → List Value} {k s : PySem.Str} {v : List Value} {H R : MH}
theorem TSub.tab (h : MHas mh d (.dict (enc (fun s => s) keys fun s => .ref (A s)))) (hs : s ∈ keys) (hq : Q (.ref (A s)) m mh) : TSub c m mh (.ref d) (.str s 0) Q :=
  TSub.dict h (.inl rfl) (TItem.dict h (.inl rfl) (tabB_at hs) hq)
theorem TCmp.inTab (h : MHas mh d (.dict (enc (fun s => s) keys fun s => .ref (A s)))) (hq : Q (.bool (decide (s ∈ keys))) m mh) : TCmp c m mh .In (.str s 0) (.ref d) Q :=
  TCmp.inD h (.inl rfl) (by rw [tabB_isSome]; exact hq)
theorem TCmp.ninTab (h : MHas mh d (.dict (enc (fun s => s) keys fun s => .ref (A s)))) (hq : Q (.bool (!decide (s ∈ keys))) m mh) : TCmp c m mh .NotIn (.str s 0) (.ref d) Q :=
  TCmp.ninD h (.inl rfl) (by rw [tabB_isSome]; exact hq)
theorem TSetItem.tabNew (p : PullB H (tabB d keys A T) R) (hk : k ∉ keys) (hs : keys.length ≤ slim) (hq : QL m (tabB d (keys ++ [k]) (upd A k r) (upd T k v) ++ R)) : TSetItem c m ((r, .list v) :: H) (.ref d) (.str k 0) (.ref r) QL := by
  have base : TSetItem c m ((r, .list v) :: (tabB d keys A T ++ R)) (.ref d) (.str k 0) (.ref r) (fun m' mh' => Drop mh' (QL m')) := by
    refine TSetItem.dict (mh' := (r, .list v) :: (d, .dict (vPut (enc (fun s => s) keys fun s => .ref (A s)) k (.ref r))) :: (tb keys A T ++ R)) (.there .here) (by rw [enc_len]; exact hs) ?_
    rw [tabB_new hk]
    refine ⟨_, _, ?_, List.Sublist.refl _, hq⟩
    unfold tabB
    rw [tb_new hk]
    have e1 : ((r, MO.list v) :: (d, .dict (enc (fun s => s) (keys ++ [k]) fun s => .ref (upd A k r s))) :: (tb keys A T ++ R)).Perm ((d, .dict (enc (fun s => s) (keys ++ [k]) fun s => .ref (upd A k r s))) :: (r, MO.list v) :: (tb keys A T ++ R)) := .swap _ _ _
    refine e1.trans (List.Perm.cons _ ?_)
    show List.Perm _ ((tb keys A T ++ [(r, MO.list v)]) ++ R)
    rw [List.append_assoc]
    exact List.perm_middle.symm
  intro o' i' v' eo ei ev
  refine TT.drop (TT.perm (p.perm.cons _) (TT.mono (base o' i' v' eo ei ev) ?_))
  intro _ m' mh' h
  exact h
end
open PySem PySem.W PySem.Calls PyProof.Rows
theorem TS.join {c : Sit} {m : Loc} {mh : MH} {b : Bool} {s1 s2 : List Stmt} {QF : Flow → Loc → MH → Prop} (I : Loc → MH → Prop) (h1 : b = true → TS c m mh s1 (fun f m' mh' => Drop mh' fun mh' => f = .next ∧ I m' mh')) (h2 : b = false → TS c m mh s2 (fun f m' mh' => Drop mh' fun mh' => f = .next ∧ I m' mh'))
    (h3 : ∀ m' mh', I m' mh' → QF .next m' mh') : (b = true → TS c m mh s1 QF) ∧ (b = false → TS c m mh s2 QF) := by
  have k : ∀ {ss}, TS c m mh ss (fun f m' mh' => Drop mh' fun mh' => f = .next ∧ I m' mh') → TS c m mh ss QF := fun h => by
    refine TT.mono (TS.drop (QF := fun f m' mh' => f = .next ∧ I m' mh') h) ?_
    rintro f m' mh' ⟨e, i⟩
    rw [e]; exact h3 m' mh' i
  exact ⟨fun e => k (h1 e), fun e => k (h2 e)⟩
open PySem PySem.W PySem.Calls PyProof.Rows
theorem TS1.tryOk {c : Sit} {m : Loc} {mh : MH} {QF : Flow → Loc → MH → Prop} {body : List Stmt} {h0 : ExceptHandler} {hs : List ExceptHandler} {tp : Pos} (h : TS c m mh body QF) : TS1 c m mh (.Try body (h0 :: hs) [] [] tp) QF := by
  intro base FS X A E s G N T R g
  refine wpAny_Try_except (wpAny_mono (h base FS X A _ s G N T R g) (fun f s' k => ?_) fun _ _ e => e)
  cases f with
  | next => exact wpAny_pure k
  | brk => exact k
  | cont => exact k
  | ret v => exact k
theorem tabB_grow {d r : Addr} {keys : List PySem.Str} {A : PySem.Str → Addr} {T : PySem.Str → List Value} {k : PySem.Str} {v : List Value} {H R : MH} (p : PullB H ((d, .dict (vPut (enc (fun s => s) keys fun s => .ref (A s)) k (.ref r))) :: tb keys A T) R) (hk : k ∉ keys) : Sub2 (tabB d (keys ++ [k]) (upd A k r) (upd T k v) ++ R) ((r, .list v) :: H) := by
  refine ⟨tabB d (keys ++ [k]) (upd A k r) (upd T k v) ++ R, (p.perm.cons _).trans ?_, .refl _⟩
  rw [tabB_new hk]
  unfold tabB
  rw [tb_new hk]
  have e1 : ((r, MO.list v) :: (((d, MO.dict (enc (fun s => s) (keys ++ [k]) fun s => .ref (upd A k r s))) :: tb keys A T) ++ R)).Perm ((d, .dict (enc (fun s => s) (keys ++ [k]) fun s => .ref (upd A k r s))) :: (r, MO.list v) :: (tb keys A T ++ R)) := .swap _ _ _
  refine e1.trans (List.Perm.cons _ ?_)
  show List.Perm _ ((tb keys A T ++ [(r, MO.list v)]) ++ R)
  rw [List.append_assoc]
  exact List.perm_middle.symm
theorem tabB_mput {d : Addr} {keys : List PySem.Str} {A : PySem.Str → Addr} {T : PySem.Str → List Value} {o : MO} : MPut (tabB d keys A T) d (.dict (enc (fun s => s) keys fun s => .ref (A s))) o ((d, o) :: tb keys A T) := .here
end
section
open PySem PySem.W PySem.Calls PyProof.Rows
set_option maxHeartbeats 1000000 in
theorem enum_tup (l : Addr) (items : Array Value) (n : Nat) (dct : Option Addr) (sl : Array (Option Value)) :
    Meets (Builtin.«enumerate.__new__» ⟨[.type "enumerate", .ref l], []⟩) (fun _ R s => s.heap.get? l = some { cls := .type "tuple", dict := dct, data := .seq items n, slots := sl } ∧
      R (.ok (.ret (.ref (s.heap.push { cls := .type "tuple_iterator", data := .fields #[.ref l, .int 0 0] }).objs.size)))
        { s with heap := (s.heap.push { cls := .type "tuple_iterator", data := .fields #[.ref l, .int 0 0] }).push { cls := .type "enumerate", data := .fields #[.none, .bool false, .ref s.heap.objs.size, rawInt 0, .none, .none] } }) :=
  .of_wp fun prog w A R s h => by
    obtain ⟨hp, g, d, tk, os⟩ := s; obtain ⟨hl, h⟩ := h
    have hsub := sub_enumerate
    have hL : Heap.IsTuple (Shared.heap ⟨hp, g, d, tk, os⟩) l items := ⟨_, hl, rfl, n, rfl⟩
    wp_walk using AutoSeq1.wpAny_loadPart' hl
    refine wpAny_stack_any fun st => wpAny_pure ?_
    split
    · rename_i c _ _ _ _ _
      cases (c == Value.type "enumerate")
      · wp_walk using AutoSeq1.wpAny_loadPart' hl, wpAny_pyIter_tuple hL
        exact ⟨_, rfl, h⟩
      · wp_walk using AutoSeq1.wpAny_loadPart' hl, wpAny_pyIter_tuple hL
        exact ⟨_, rfl, h⟩
    · wp_walk using AutoSeq1.wpAny_loadPart' hl, wpAny_pyIter_tuple hL
      exact ⟨_, rfl, h⟩
section
variable {c : Sit} {m m' m0 : Loc} {mh mh' mh0 : MH} {α β : Type}
variable {Q Q' : Value → Loc → MH → Prop} {QB : Bool → Loc → MH → Prop} {QF : Flow → Loc → MH → Prop} {QL : Loc → MH → Prop}
theorem TCall.enumT {a : Addr} {xs : List Value} (ha : MHas mh a (.tup xs)) (hq : ∀ e i o, LIt "tuple_iterator" a 0 o → Q (.ref e) m ((e, .raw (enumObj i 0 .none)) :: (i, .raw o) :: mh)) : TCall c m mh (.type "enumerate") [.ref a] [] Q := by
  intro f' as' kw' ef ea ek base FS X A E s G N T R g
  rw [cn_type ef]
  obtain ⟨v, rfl, ev⟩ := one_arg ea
  rw [cn_ref ev]; obtain rfl := no_kw ek
  obtain ⟨vs, n, pl, e⟩ := R.tup ha
  refine callType_new F.called_enumerate (by decide) (F.typeCall_enumerate_1 _) (F.newCall_enumerate_1 _) (fun obj => F.args_object_init_2 obj _) F.entry_enumerate_new (enum_tup a vs.toArray n _ _) ⟨pl, ?_⟩
  have hz : (s.heap.push { cls := .type "tuple_iterator", data := .fields #[.ref a, .int 0 0] }).objs.size = s.heap.objs.size + 1 := Heap.size_push ..
  show _ ∧ _
  rw [hz]
  have he : ((s.heap.push { cls := .type "tuple_iterator", data := .fields #[.ref a, .int 0 0] }).push (enumObj s.heap.objs.size 0 .none)).get? (s.heap.objs.size + 1) = some (enumObj s.heap.objs.size 0 .none) := by
    have := Heap.get?_push_size (s.heap.push { cls := .type "tuple_iterator", data := .fields #[.ref a, .int 0 0] }) (o := enumObj s.heap.objs.size 0 .none) rfl
    rw [hz] at this; exact this
  refine ⟨⟨_, he, rfl⟩, ?_⟩
  have ho : ((s.heap.push { cls := .type "tuple_iterator", data := .fields #[.ref a, .int 0 0] }).push (enumObj s.heap.objs.size 0 .none)).get? s.heap.objs.size = some { cls := .type "tuple_iterator", data := .fields #[.ref a, .int 0 0] } := Heap.get?_push_of_some _ (Heap.get?_push_size _ rfl)
  refine ⟨g, rfl, m, ([(s.heap.objs.size + 1, .raw (enumObj s.heap.objs.size 0 .none)), (s.heap.objs.size, .raw { cls := .type "tuple_iterator", data := .fields #[.ref a, .int 0 0] })] : MH) ++ mh, ?_, N, hq _ _ _ ⟨rfl, rfl⟩⟩
  refine Rel.swap (E1 := []) (mh := mh) R (fun b o _ q => Heap.get?_push_of_some _ (Heap.get?_push_of_some _ q)) (fun b hb => nomatch hb) ?_ ?_
  · exact nodup2 (Nat.succ_ne_self _)
  · intro b mo q
    simp only [List.mem_cons, List.not_mem_nil, or_false] at q
    rcases q with q | q
    · cases q; exact ⟨he, .inr (Nat.le_succ _)⟩
    · cases q; exact ⟨ho, .inr (Nat.le_refl _)⟩
/-- a dict that was gone through is a dict -/
theorem TS.thaw {d : Addr} {kvs : List (PySem.Str × Value)} {ep : Nat} {ss : List Stmt} (p : MPut mh d (.fdict kvs ep) (.dict kvs) mh') (h : TS c m mh' ss QF) : TS c m mh ss QF := by
  intro base FS X A E s G N T R g
  refine h base FS X A E s G N T ?_ g
  have x := (R.objs _ _ p.has).1
  obtain ⟨kv', da, e⟩ := x
  exact R.set p (Heap.ExtBut.refl _ _) (dict_notTup da.dictOf) ⟨kv', da.dictOf, e⟩
theorem TLoop.thaw {d : Addr} {kvs : List (PySem.Str × Value)} {ep : Nat} {x : Value} {target : Expr} {body orelse : List Stmt} (p : MPut mh d (.fdict kvs ep) (.dict kvs) mh') (h : TLoop c m mh' x target body orelse QF) : TLoop c m mh x target body orelse QF :=
  fun x' ex => TT.thaw p (h x' ex)
end
end
section
open PySem PySem.W PySem.Calls PyProof.Rows
section
variable {c : Sit} {m m' m0 : Loc} {mh mh' mh0 : MH} {QL : Loc → MH → Prop}
variable {d r : Addr} {keys : List PySem.Str} {A : PySem.Str → Addr} {T : PySem.Str → List Value} {k s : PySem.Str} {v : List Value} {H R : MH}
theorem tb_old (nd : keys.Nodup) (hk : k ∈ keys) : ∃ l, (tb keys A T).Perm ((A k, .list (T k)) :: l) ∧ (tb keys (upd A k r) (upd T k v)).Perm ((r, .list v) :: l) := by
  induction keys with
  | nil => cases hk
  | cons a ks ih =>
    rw [List.nodup_cons] at nd
    by_cases e : a = k
    · subst e
      refine ⟨tb ks A T, .refl _, ?_⟩
      have : tb ks (upd A a r) (upd T a v) = tb ks A T := by
        unfold tb
        refine List.map_congr_left fun x hx => ?_
        have : x ≠ a := fun q => nd.1 (q ▸ hx)
        simp [upd, this]
      show List.Perm ((upd A a r a, .list (upd T a v a)) :: tb ks (upd A a r) (upd T a v)) _
      rw [this]; simp [upd]
    · have hk' : k ∈ ks := by rcases List.mem_cons.mp hk with q | q; exact absurd q.symm e; exact q
      obtain ⟨l, h1, h2⟩ := ih nd.2 hk'
      refine ⟨(a |> fun a => (A a, MO.list (T a))) :: l, (h1.cons _).trans (.swap _ _ _), ?_⟩
      have e1 : upd A k r a = A a := by simp [upd, e]
      have e2 : upd T k v a = T a := by simp [upd, e]
      show List.Perm ((upd A k r a, .list (upd T k v a)) :: tb ks (upd A k r) (upd T k v)) _
      rw [e1, e2]
      exact (h2.cons _).trans (.swap _ _ _)
theorem TSetItem.tabOld (p : PullB H (tabB d keys A T) R) (nd : keys.Nodup) (hk : k ∈ keys) (hs : keys.length ≤ slim) (hq : QL m (tabB d keys (upd A k r) (upd T k v) ++ R)) : TSetItem c m ((r, .list v) :: H) (.ref d) (.str k 0) (.ref r) QL := by
  obtain ⟨l, p1, p2⟩ := tb_old (A := A) (T := T) (r := r) (v := v) nd hk
  have base : TSetItem c m ((r, .list v) :: (tabB d keys A T ++ R)) (.ref d) (.str k 0) (.ref r) (fun m' mh' => Drop mh' (QL m')) := by
    refine TSetItem.dict (mh' := (r, .list v) :: (d, .dict (vPut (enc (fun s => s) keys fun s => .ref (A s)) k (.ref r))) :: (tb keys A T ++ R)) (.there .here) (by rw [enc_len]; exact hs) ?_
    have eP : vPut (enc (fun s => s) keys fun s => Value.ref (A s)) k (.ref r) = enc (fun s => s) keys fun s => .ref (upd A k r s) := by
      rw [vPut_k, kPut_old (g := fun s : PySem.Str => s) (fun _ _ e => e) hk]
      unfold enc
      refine List.map_congr_left fun x _ => ?_
      unfold upd
      by_cases e : x = k
      · simp [e]
      · simp [e]
    rw [eP]
    have e1 : ((r, MO.list v) :: (d, .dict (enc (fun s => s) keys fun s => .ref (upd A k r s))) :: (tb keys A T ++ R)).Perm ((A k, .list (T k)) :: (d, .dict (enc (fun s => s) keys fun s => .ref (upd A k r s))) :: (tb keys (upd A k r) (upd T k v) ++ R)) := by
      refine (List.Perm.swap _ _ _).trans ?_
      refine (((p1.append_right R).cons (r, MO.list v)).cons _).trans ?_
      refine (List.Perm.cons _ (List.Perm.swap _ _ _)).trans ?_
      refine (List.Perm.swap _ _ _).trans (List.Perm.cons _ (List.Perm.cons _ ?_))
      exact (p2.append_right R).symm
    exact ⟨_, _, e1, .cons _ (.refl _), hq⟩
  intro o' i' v' eo ei ev
  refine TT.drop (TT.perm (p.perm.cons _) (TT.mono (base o' i' v' eo ei ev) ?_))
  intro _ m' mh' h
  exact h
end
end
section
open PySem PySem.W PySem.Calls PyProof.Rows
section
variable {c : Sit} {m m' m0 : Loc} {mh mh' mh0 : MH} {QL : Loc → MH → Prop} {QF : Flow → Loc → MH → Prop}
variable {d r : Addr} {keys : List PySem.Str} {A : PySem.Str → Addr} {T : PySem.Str → List Value} {k s : PySem.Str} {v : List Value} {H R : MH}
theorem upd_self {α : Type} {T : PySem.Str → α} {k : PySem.Str} {v : α} (h : v = T k) : upd T k v = T := by
  funext s
  unfold upd
  by_cases e : s = k
  · rw [if_pos e, e, h]
  · rw [if_neg e]
/-- a new row of a table, in a dict comprehension -/
theorem TDSet.tabNew (p : PullB H (tabB d keys A T) R) (hk : k ∉ keys) (hs : keys.length ≤ slim) (hv : v = T k) (hq : QL m (tabB d (keys ++ [k]) (upd A k r) T ++ R)) : TDSet c m ((r, .list v) :: H) d (.str k 0) (.ref r) QL := by
  have base : TDSet c m ((r, .list v) :: (tabB d keys A T ++ R)) d (.str k 0) (.ref r) (fun m' mh' => Drop mh' (QL m')) := by
    refine TDSet.str (mh' := (r, .list v) :: (d, .dict (vPut (enc (fun s => s) keys fun s => .ref (A s)) k (.ref r))) :: (tb keys A T ++ R)) (.there .here) (by rw [enc_len]; exact hs) ?_
    rw [tabB_new hk]
    refine ⟨_, _, ?_, List.Sublist.refl _, hq⟩
    have e0 : tb (keys ++ [k]) (upd A k r) T = tb (keys ++ [k]) (upd A k r) (upd T k v) := by rw [upd_self hv]
    unfold tabB
    rw [e0, tb_new hk]
    have e1 : ((r, MO.list v) :: (d, .dict (enc (fun s => s) (keys ++ [k]) fun s => .ref (upd A k r s))) :: (tb keys A T ++ R)).Perm ((d, .dict (enc (fun s => s) (keys ++ [k]) fun s => .ref (upd A k r s))) :: (r, MO.list v) :: (tb keys A T ++ R)) := .swap _ _ _
    refine e1.trans (List.Perm.cons _ ?_)
    show List.Perm _ ((tb keys A T ++ [(r, MO.list v)]) ++ R)
    rw [List.append_assoc]
    exact List.perm_middle.symm
  intro i' v' ei ev
  exact TT.drop (TT.perm (p.perm.cons _) (base i' v' ei ev))
theorem TA.thaw {kvs : List (PySem.Str × Value)} {ep : Nat} {e : Expr} {v : Value} (p : MPut mh d (.fdict kvs ep) (.dict kvs) mh') (h : TA c m mh' e v QL) : TA c m mh e v QL :=
  fun v' ev => TT.thaw p (h v' ev)
end
open PySem PySem.W PySem.Calls PyProof.Rows
/-- a statement, then the others: what is between is said once -/
theorem TS.seq {c : Sit} {m : Loc} {mh : MH} {s : Stmt} {ss : List Stmt} {QF : Flow → Loc → MH → Prop} (I : Loc → MH → Prop) (h1 : TS1 c m mh s (fun f m' mh' => Drop mh' fun mh' => f = .next ∧ I m' mh')) (h2 : ∀ m' mh', I m' mh' → TS c m' mh' ss QF) : TS c m mh (s :: ss) QF := by
  refine TS.cons (TT.mono (TT.drop (QT := fun f m' mh' => cnF f = .next ∧ I m' mh') (TT.mono h1 ?_)) ?_)
  · rintro f m' mh' h
    exact h
  · rintro f m' mh' ⟨e, i⟩
    cases f with
    | next => exact h2 m' mh' i
    | brk => exact nomatch e
    | cont => exact nomatch e
    | ret v => exact nomatch e
end
section
open PySem PySem.W PySem.Calls PyProof.Rows
/-- several witnesses at once -/
inductive Ex2 {A B : Type} (P : A → B → Prop) : Prop
  | mk (a : A) (b : B) : P a b → Ex2 P
inductive Ex3 {A B C : Type} (P : A → B → C → Prop) : Prop
  | mk (a : A) (b : B) (c : C) : P a b c → Ex3 P
inductive Ex4 {A B C D : Type} (P : A → B → C → D → Prop) : Prop
  | mk (a : A) (b : B) (c : C) (d : D) : P a b c d → Ex4 P
section
variable {c : Sit} {m m' : Loc} {mh mh' : MH}
/-- which judgement stands there -/
theorem Gd.te {e : Expr} {Q : Value → Loc → MH → Prop} (h : TE c m mh e Q) : TE c m mh e Q := h
theorem Gd.ts1 {st : Stmt} {Q : Flow → Loc → MH → Prop} (h : TS1 c m mh st Q) : TS1 c m mh st Q := h
theorem Gd.name {x : PySem.Str} {p : Pos} {Q : Value → Loc → MH → Prop} (h : TE c m mh (.Name x p) Q) : TE c m mh (.Name x p) Q := h
theorem Gd.ta {x : PySem.Str} {p : Pos} {v : Value} {Q : Loc → MH → Prop} (h : TA c m mh (.Name x p) v Q) : TA c m mh (.Name x p) v Q := h
theorem Gd.keep {a : Addr} {Q : Loc → MH → Prop} (h : TKeep c m mh (.ref a) Q) : TKeep c m mh (.ref a) Q := h
theorem Gd.attr {v : Value} {x : PySem.Str} {Q : Value → Loc → MH → Prop} (h : TAttr c m mh v x Q) : TAttr c m mh v x Q := h
theorem Gd.sattr {v v' : Value} {x : PySem.Str} {Q : Loc → MH → Prop} (h : TSetAttr c m mh v x v' Q) : TSetAttr c m mh v x v' Q := h
/-- what is to hold at a block's end, under a name: the steps between then bear the name alone -/
noncomputable def Hid (QF0 QF : Flow → Loc → MH → Prop) : Prop := ∀ f m' h', QF0 f m' h' → QF f m' h'
theorem Hid.use {QF0 QF : Flow → Loc → MH → Prop} {f : Flow} (h : Hid QF0 QF) (q : QF0 f m mh) : QF f m mh := h f m mh q
theorem TS.consA {st : Stmt} {ss : List Stmt} {QF : Flow → Loc → MH → Prop} (h : ∀ QH, Hid QF QH → TS1 c m mh st (Aft c ss QH)) : TS c m mh (st :: ss) QF := TS.cons (h QF fun _ _ _ q => q)
theorem TS.consH {st : Stmt} {ss : List Stmt} {QF0 QF : Flow → Loc → MH → Prop} (_ : Hid QF0 QF) (h : TS1 c m mh st (Aft c ss QF)) : TS c m mh (st :: ss) QF := TS.cons h
end
/-! the same, some steps at once -/
theorem LHas.n1 {p0 : PySem.Str × Option Value} {x v l} : LHas (p0 :: (x, some v) :: l) x v := (.there .here)
theorem LHas.n2 {p0 p1 : PySem.Str × Option Value} {x v l} : LHas (p0 :: p1 :: (x, some v) :: l) x v := (.there (.there .here))
theorem LHas.n3 {p0 p1 p2 : PySem.Str × Option Value} {x v l} : LHas (p0 :: p1 :: p2 :: (x, some v) :: l) x v := (.there (.there (.there .here)))
theorem LHas.n4 {p0 p1 p2 p3 : PySem.Str × Option Value} {x v l} : LHas (p0 :: p1 :: p2 :: p3 :: (x, some v) :: l) x v := (.there (.there (.there (.there .here))))
theorem LHas.n5 {p0 p1 p2 p3 p4 : PySem.Str × Option Value} {x v l} : LHas (p0 :: p1 :: p2 :: p3 :: p4 :: (x, some v) :: l) x v := (.there (.there (.there (.there (.there .here)))))
theorem LHas.n6 {p0 p1 p2 p3 p4 p5 : PySem.Str × Option Value} {x v l} : LHas (p0 :: p1 :: p2 :: p3 :: p4 :: p5 :: (x, some v) :: l) x v := (.there (.there (.there (.there (.there (.there .here))))))
theorem LHas.n7 {p0 p1 p2 p3 p4 p5 p6 : PySem.Str × Option Value} {x v l} : LHas (p0 :: p1 :: p2 :: p3 :: p4 :: p5 :: p6 :: (x, some v) :: l) x v := (.there (.there (.there (.there (.there (.there (.there .here)))))))
theorem LHas.n8 {p0 p1 p2 p3 p4 p5 p6 p7 : PySem.Str × Option Value} {x v l} : LHas (p0 :: p1 :: p2 :: p3 :: p4 :: p5 :: p6 :: p7 :: (x, some v) :: l) x v := (.there (.there (.there (.there (.there (.there (.there (.there .here))))))))
theorem LHas.n9 {p0 p1 p2 p3 p4 p5 p6 p7 p8 : PySem.Str × Option Value} {x v l} : LHas (p0 :: p1 :: p2 :: p3 :: p4 :: p5 :: p6 :: p7 :: p8 :: (x, some v) :: l) x v := (.there (.there (.there (.there (.there (.there (.there (.there (.there .here)))))))))
theorem LHas.n10 {p0 p1 p2 p3 p4 p5 p6 p7 p8 p9 : PySem.Str × Option Value} {x v l} : LHas (p0 :: p1 :: p2 :: p3 :: p4 :: p5 :: p6 :: p7 :: p8 :: p9 :: (x, some v) :: l) x v := (.there (.there (.there (.there (.there (.there (.there (.there (.there (.there .here))))))))))
theorem LHas.n11 {p0 p1 p2 p3 p4 p5 p6 p7 p8 p9 p10 : PySem.Str × Option Value} {x v l} : LHas (p0 :: p1 :: p2 :: p3 :: p4 :: p5 :: p6 :: p7 :: p8 :: p9 :: p10 :: (x, some v) :: l) x v := (.there (.there (.there (.there (.there (.there (.there (.there (.there (.there (.there .here)))))))))))
theorem LHas.n12 {p0 p1 p2 p3 p4 p5 p6 p7 p8 p9 p10 p11 : PySem.Str × Option Value} {x v l} : LHas (p0 :: p1 :: p2 :: p3 :: p4 :: p5 :: p6 :: p7 :: p8 :: p9 :: p10 :: p11 :: (x, some v) :: l) x v := (.there (.there (.there (.there (.there (.there (.there (.there (.there (.there (.there (.there .here))))))))))))
theorem LPut.n1 {p0 : PySem.Str × Option Value} {x v o l} : LPut (p0 :: (x, o) :: l) x v (p0 :: (x, some v) :: l) := (.there .here)
theorem LPut.n2 {p0 p1 : PySem.Str × Option Value} {x v o l} : LPut (p0 :: p1 :: (x, o) :: l) x v (p0 :: p1 :: (x, some v) :: l) := (.there (.there .here))
theorem LPut.n3 {p0 p1 p2 : PySem.Str × Option Value} {x v o l} : LPut (p0 :: p1 :: p2 :: (x, o) :: l) x v (p0 :: p1 :: p2 :: (x, some v) :: l) := (.there (.there (.there .here)))
theorem LPut.n4 {p0 p1 p2 p3 : PySem.Str × Option Value} {x v o l} : LPut (p0 :: p1 :: p2 :: p3 :: (x, o) :: l) x v (p0 :: p1 :: p2 :: p3 :: (x, some v) :: l) := (.there (.there (.there (.there .here))))
theorem LPut.n5 {p0 p1 p2 p3 p4 : PySem.Str × Option Value} {x v o l} : LPut (p0 :: p1 :: p2 :: p3 :: p4 :: (x, o) :: l) x v (p0 :: p1 :: p2 :: p3 :: p4 :: (x, some v) :: l) := (.there (.there (.there (.there (.there .here)))))
theorem LPut.n6 {p0 p1 p2 p3 p4 p5 : PySem.Str × Option Value} {x v o l} : LPut (p0 :: p1 :: p2 :: p3 :: p4 :: p5 :: (x, o) :: l) x v (p0 :: p1 :: p2 :: p3 :: p4 :: p5 :: (x, some v) :: l) := (.there (.there (.there (.there (.there (.there .here))))))
theorem LPut.n7 {p0 p1 p2 p3 p4 p5 p6 : PySem.Str × Option Value} {x v o l} : LPut (p0 :: p1 :: p2 :: p3 :: p4 :: p5 :: p6 :: (x, o) :: l) x v (p0 :: p1 :: p2 :: p3 :: p4 :: p5 :: p6 :: (x, some v) :: l) := (.there (.there (.there (.there (.there (.there (.there .here)))))))
theorem LPut.n8 {p0 p1 p2 p3 p4 p5 p6 p7 : PySem.Str × Option Value} {x v o l} : LPut (p0 :: p1 :: p2 :: p3 :: p4 :: p5 :: p6 :: p7 :: (x, o) :: l) x v (p0 :: p1 :: p2 :: p3 :: p4 :: p5 :: p6 :: p7 :: (x, some v) :: l) := (.there (.there (.there (.there (.there (.there (.there (.there .here))))))))
theorem LPut.n9 {p0 p1 p2 p3 p4 p5 p6 p7 p8 : PySem.Str × Option Value} {x v o l} : LPut (p0 :: p1 :: p2 :: p3 :: p4 :: p5 :: p6 :: p7 :: p8 :: (x, o) :: l) x v (p0 :: p1 :: p2 :: p3 :: p4 :: p5 :: p6 :: p7 :: p8 :: (x, some v) :: l) := (.there (.there (.there (.there (.there (.there (.there (.there (.there .here)))))))))
theorem LPut.n10 {p0 p1 p2 p3 p4 p5 p6 p7 p8 p9 : PySem.Str × Option Value} {x v o l} : LPut (p0 :: p1 :: p2 :: p3 :: p4 :: p5 :: p6 :: p7 :: p8 :: p9 :: (x, o) :: l) x v (p0 :: p1 :: p2 :: p3 :: p4 :: p5 :: p6 :: p7 :: p8 :: p9 :: (x, some v) :: l) := (.there (.there (.there (.there (.there (.there (.there (.there (.there (.there .here))))))))))
theorem LPut.n11 {p0 p1 p2 p3 p4 p5 p6 p7 p8 p9 p10 : PySem.Str × Option Value} {x v o l} : LPut (p0 :: p1 :: p2 :: p3 :: p4 :: p5 :: p6 :: p7 :: p8 :: p9 :: p10 :: (x, o) :: l) x v (p0 :: p1 :: p2 :: p3 :: p4 :: p5 :: p6 :: p7 :: p8 :: p9 :: p10 :: (x, some v) :: l) := (.there (.there (.there (.there (.there (.there (.there (.there (.there (.there (.there .here)))))))))))
theorem LPut.n12 {p0 p1 p2 p3 p4 p5 p6 p7 p8 p9 p10 p11 : PySem.Str × Option Value} {x v o l} : LPut (p0 :: p1 :: p2 :: p3 :: p4 :: p5 :: p6 :: p7 :: p8 :: p9 :: p10 :: p11 :: (x, o) :: l) x v (p0 :: p1 :: p2 :: p3 :: p4 :: p5 :: p6 :: p7 :: p8 :: p9 :: p10 :: p11 :: (x, some v) :: l) := (.there (.there (.there (.there (.there (.there (.there (.there (.there (.there (.there (.there .here))))))))))))
theorem MHas.n1 {p0 : Addr × MO} {a o l} : MHas (p0 :: (a, o) :: l) a o := (.there .here)
theorem MHas.n2 {p0 p1 : Addr × MO} {a o l} : MHas (p0 :: p1 :: (a, o) :: l) a o := (.there (.there .here))
theorem MHas.n3 {p0 p1 p2 : Addr × MO} {a o l} : MHas (p0 :: p1 :: p2 :: (a, o) :: l) a o := (.there (.there (.there .here)))
theorem MHas.n4 {p0 p1 p2 p3 : Addr × MO} {a o l} : MHas (p0 :: p1 :: p2 :: p3 :: (a, o) :: l) a o := (.there (.there (.there (.there .here))))
theorem MHas.n5 {p0 p1 p2 p3 p4 : Addr × MO} {a o l} : MHas (p0 :: p1 :: p2 :: p3 :: p4 :: (a, o) :: l) a o := (.there (.there (.there (.there (.there .here)))))
theorem MHas.n6 {p0 p1 p2 p3 p4 p5 : Addr × MO} {a o l} : MHas (p0 :: p1 :: p2 :: p3 :: p4 :: p5 :: (a, o) :: l) a o := (.there (.there (.there (.there (.there (.there .here))))))
theorem MHas.n7 {p0 p1 p2 p3 p4 p5 p6 : Addr × MO} {a o l} : MHas (p0 :: p1 :: p2 :: p3 :: p4 :: p5 :: p6 :: (a, o) :: l) a o := (.there (.there (.there (.there (.there (.there (.there .here)))))))
theorem MHas.n8 {p0 p1 p2 p3 p4 p5 p6 p7 : Addr × MO} {a o l} : MHas (p0 :: p1 :: p2 :: p3 :: p4 :: p5 :: p6 :: p7 :: (a, o) :: l) a o := (.there (.there (.there (.there (.there (.there (.there (.there .here))))))))
theorem Pull.n1 {p0 q : Addr × MO} {l} : Pull (p0 :: q :: l) q (p0 :: l) := (.there .here)
theorem Pull.n2 {p0 p1 q : Addr × MO} {l} : Pull (p0 :: p1 :: q :: l) q (p0 :: p1 :: l) := (.there (.there .here))
theorem Pull.n3 {p0 p1 p2 q : Addr × MO} {l} : Pull (p0 :: p1 :: p2 :: q :: l) q (p0 :: p1 :: p2 :: l) := (.there (.there (.there .here)))
theorem Pull.n4 {p0 p1 p2 p3 q : Addr × MO} {l} : Pull (p0 :: p1 :: p2 :: p3 :: q :: l) q (p0 :: p1 :: p2 :: p3 :: l) := (.there (.there (.there (.there .here))))
theorem Pull.n5 {p0 p1 p2 p3 p4 q : Addr × MO} {l} : Pull (p0 :: p1 :: p2 :: p3 :: p4 :: q :: l) q (p0 :: p1 :: p2 :: p3 :: p4 :: l) := (.there (.there (.there (.there (.there .here)))))
theorem Pull.n6 {p0 p1 p2 p3 p4 p5 q : Addr × MO} {l} : Pull (p0 :: p1 :: p2 :: p3 :: p4 :: p5 :: q :: l) q (p0 :: p1 :: p2 :: p3 :: p4 :: p5 :: l) := (.there (.there (.there (.there (.there (.there .here))))))
end
section
open PySem PySem.W PySem.Calls PyProof.Rows
noncomputable def stmtAt (p : Program) (i : Nat) : Stmt := p.main.body.getD i (.Pass default)
noncomputable def dName : Stmt → PySem.Str | .FunctionDef n .. => n | _ => default
noncomputable def dArgs : Stmt → Arguments | .FunctionDef _ a .. => a | _ => default
noncomputable def dBody : Stmt → List Stmt | .FunctionDef _ _ b .. => b | _ => []
noncomputable def dScope : Stmt → Scope | .FunctionDef _ _ _ _ _ _ sc .. => sc | _ => default
noncomputable def cBody : Stmt → List Stmt | .ClassDef _ _ _ b .. => b | _ => []
noncomputable def mkFn (s : Stmt) (f : Addr) (qual : PySem.Str) (dV pm cdv : Value) (ns rest : List PySem.Str) : Fn :=
  { f, name := dName s, qual, params := dArgs s, body := dBody s, scope := dScope s, dV, pm, cdv, ns, rest }
noncomputable abbrev pw := PySem.Challenge.pw_te0071_02
noncomputable def fNames : Fn := mkFn (stmtAt pw 11) 259 "_law_NAMES" .none (.str "law_te0071_02" 534) (.ref 258) [] []
noncomputable def fNext : Fn := mkFn (stmtAt pw 14) 267 "_law_next" .none (.str "law_te0071_02" 534) (.ref 266) ["tape"] []
noncomputable def fRow : Fn := mkFn (stmtAt pw 15) 272 "_law_row" .none (.str "law_te0071_02" 534) (.ref 271) ["tape"] ["count"]
noncomputable def fRules : Fn := mkFn (stmtAt pw 16) 277 "_law_rules" .none (.str "law_te0071_02" 534) (.ref 276) ["tape"] ["name", "rules", "rule"]
noncomputable def fBegin : Fn := mkFn (stmtAt pw 17) 282 "_law_beginnings" .none (.str "law_te0071_02" 534) (.ref 281) ["rules"] ["s", "t", "first", "vanish", "_", "number", "name", "symbols", "far"]
noncomputable def fGo : Fn := mkFn (stmtAt pw 18) 287 "_law_goings" .none (.str "law_te0071_02" 534) (.ref 286) ["rules", "first", "vanish"] ["name", "t", "follow", "_", "number", "symbols", "place", "s", "far", "other"]
noncomputable def fFront : Fn := mkFn (stmtAt pw 19) 292 "_law_front" .none (.str "law_te0071_02" 534) (.ref 291) ["symbols", "first"] ["opens", "front"]
noncomputable def fNew : Fn := mkFn (stmtAt pw 20) 297 "_law_nothing_new" .none (.str "law_te0071_02" 534) (.ref 296) ["rule", "first", "follow"] ["name", "symbols", "place", "s", "front", "due"]
noncomputable def inCls (i j : Nat) : Stmt := (cBody (stmtAt pw i)).getD j (.Pass default)
noncomputable def fIdent : Fn := mkFn (stmtAt pw 3) 39 "_is_identifier" .none (.str "ply.yacc" 194) (.ref 38) ["s"] []
noncomputable def fRight : Fn := mkFn (stmtAt pw 7) 111 "rightmost_terminal" .none (.str "ply.yacc" 194) (.ref 110) ["symbols", "terminals"] ["i"]
noncomputable def fPInit : Fn := mkFn (inCls 6 2) 62 "Production.__init__" (.ref 55) (.str "ply.yacc" 194) (.ref 61) ["self", "number", "name", "prod", "precedence", "func", "file", "line"] ["s"]
noncomputable def fGInit : Fn := mkFn (inCls 9 0) 137 "Grammar.__init__" .none (.str "ply.yacc" 194) (.ref 136) ["self", "terminals"] ["term"]
noncomputable def fAdd : Fn := mkFn (inCls 9 4) 166 "Grammar.add_production" (.ref 159) (.str "ply.yacc" 194) (.ref 165) ["self", "prodname", "syms", "func", "file", "line"] ["n", "s", "c", "precname", "prodprec", "map", "m", "pnumber", "t", "p"]
noncomputable def fFirst : Fn := mkFn (inCls 9 12) 223 "Grammar._first" .none (.str "ply.yacc" 194) (.ref 222) ["self", "beta"] ["result", "x", "x_produces_empty", "f"]
noncomputable def fCFirst : Fn := mkFn (inCls 9 13) 230 "Grammar.compute_first" .none (.str "ply.yacc" 194) (.ref 229) ["self"] ["t", "n", "some_change", "p", "f"]
noncomputable def fCFollow : Fn := mkFn (inCls 9 14) 238 "Grammar.compute_follow" (.ref 231) (.str "ply.yacc" 194) (.ref 237) ["self", "start"] ["k", "didadd", "p", "i", "B", "fst", "hasempty", "f"]
noncomputable def pNames : List PySem.Str := ["name", "prod", "number", "func", "callable", "file", "line", "prec", "len", "usyms", "lr_items", "lr_next", "str"]
noncomputable def gNames : List PySem.Str := ["Productions", "Prodnames", "Prodmap", "Terminals", "Nonterminals", "First", "Follow", "Precedence", "UsedPrecedence", "Start"]
noncomputable abbrev aP : Addr := 100
noncomputable abbrev aG : Addr := 248
noncomputable def aSyms : Addr := 260
noncomputable def iL (xs : List Int) : List Value := xs.map fun x => .int x 0
noncomputable def NAMES : List PySem.Str := ["S", "A", "B"]
noncomputable def SYM : List PySem.Str := ["S", "A", "B", "a", "b", "c"]
noncomputable def globs2 : List (PySem.Str × Value) := [("_law_NAMES", .ref 259), ("_law_SYMBOLS", .ref 260), ("_law_NEVER", .int 9 0), ("_law_next", .ref 267), ("_law_row", .ref 272), ("_law_rules", .ref 277), ("_law_beginnings", .ref 282), ("_law_goings", .ref 287), ("_law_front", .ref 292), ("_law_nothing_new", .ref 297),
  ("Grammar", .ref 248), ("Production", .ref 100), ("_is_identifier", .ref 39), ("_IDENTIFIER", .str "abcdefghijklmnopqrstuvwxyzABCDEFGHIJKLMNOPQRSTUVWXYZ0123456789_-" 0), ("rightmost_terminal", .ref 111),
  ("len", .builtin "len"), ("range", .type "range"), ("enumerate", .type "enumerate"), ("max", .builtin "max"), ("min", .builtin "min"), ("all", .builtin "all"), ("any", .builtin "any"), ("list", .type "list"), ("tuple", .type "tuple"), ("sorted", .builtin "sorted"), ("set", .type "set"), ("KeyError", .type "KeyError")]
noncomputable def keepAddrs : List Addr := [259, 267, 272, 277, 282, 287, 292, 297, 248, 100, 39, 111, 166, 223, 230, 238]
/-- what the written part gives -/
structure W2 (prog : Program) (w : World) (K : Frag) (globs : List (PySem.Str × Value)) (ro : List (Addr × List Value)) : Prop where
  gl : globs = globs2
  syms : (aSyms, sL SYM) ∈ ro
  keep : ∀ a ∈ keepAddrs, keepIn K (.ref a) = true
  names : FnOk prog w K fNames
  next : FnOk prog w K fNext
  row : FnOkC prog w K fRow
  rules : FnOkC prog w K fRules
  begin_ : FnOk prog w K fBegin
  go : FnOk prog w K fGo
  front : FnOkC prog w K fFront
  new_ : FnOkC prog w K fNew
  ident : FnOk prog w K fIdent
  right : FnOk prog w K fRight
  pinit : FnOk prog w K fPInit
  ginit : FnOk prog w K fGInit
  add : FnOk prog w K fAdd
  first : FnOk prog w K fFirst
  cfirst : FnOk prog w K fCFirst
  cfollow : FnOk prog w K fCFollow
  pcls : ClsOk K aP pNames
  gcls : ClsOk K aG gNames
  pmake : MakeOk K aP 62
  gmake : MakeOk K aG 137
  mAdd : findIn K (.ref aG) "add_production" = some (some (.ref 166)) ∧ typeIn K (.ref 166) = some (.type "function")
  mFirst : findIn K (.ref aG) "_first" = some (some (.ref 223)) ∧ typeIn K (.ref 223) = some (.type "function")
  mCFirst : findIn K (.ref aG) "compute_first" = some (some (.ref 230)) ∧ typeIn K (.ref 230) = some (.type "function")
  mCFollow : findIn K (.ref aG) "compute_follow" = some (some (.ref 238)) ∧ typeIn K (.ref 238) = some (.type "function")
  dP : ∃ n sl, K.lookup 55 = some ⟨.type "tuple", none, .seq #[.ref 54, .none, .str "" 249, .int 0 250] n, sl⟩
  dA : ∃ n sl, K.lookup 159 = some ⟨.type "tuple", none, .seq #[.none, .str "" 395, .int 0 396] n, sl⟩
  dF : ∃ n sl, K.lookup 231 = some ⟨.type "tuple", none, .seq #[.none] n, sl⟩
noncomputable abbrev Ctx (c : Sit) : Prop := W2 c.prog c.w c.K c.globs c.ro
theorem W2.g {c : Sit} (h : Ctx c) {x : PySem.Str} {v : Value} (g : GHas globs2 x v) : GHas c.globs x v := by rw [h.gl]; exact g
theorem TKeep.ctx {c : Sit} {m : Loc} {mh : MH} {a : Addr} {QL : Loc → MH → Prop} (hW : Ctx c) (ha : a ∈ keepAddrs) (h : QL m mh) : TKeep c m mh (.ref a) QL := TKeep.known (hW.keep a ha) h
theorem CHas.intoC {c : Sit} {F : Fn} {L : Addr} {cells : List (PySem.Str × Addr)} {x : PySem.Str} {a : Addr} (h : CHas cells x a) : CHas (c.intoC F L cells).cells x a := h
theorem CHas.comp {c : Sit} {scope : Scope} {L : Addr} {cl cells : List (PySem.Str × Addr)} {x : PySem.Str} {a : Addr} (h : CHas cells x a) : CHas (c.comp scope cl cells L).cells x a := h
theorem iL_len (xs : List Int) : (iL xs).length = xs.length := List.length_map _
theorem iL_get (xs : List Int) (k : Nat) : (iL xs)[k]? = xs[k]?.map fun x => .int x 0 := List.getElem?_map ..
section
variable {c : Sit} {m : Loc} {mh mh' : MH} {Q : Value → Loc → MH → Prop} {QL : Loc → MH → Prop}
theorem TAttr.g {x dx : Addr} {as : List (PySem.Str × Value)} {name : PySem.Str} {v : Value} (hW : Ctx c) (hn : SHas gNames name) (h1 : MHas mh x (.inst aG dx)) (h2 : MHas mh dx (.dict as)) (hv : VHas as name v)
    (hb : notB v = true) (hq : Q v m mh) : TAttr c m mh (.ref x) name Q := TAttr.at_ hW.gcls hn h1 h2 hv hb hq
theorem TAttr.p {x dx : Addr} {as : List (PySem.Str × Value)} {name : PySem.Str} {v : Value} (hW : Ctx c) (hn : SHas pNames name) (h1 : MHas mh x (.inst aP dx)) (h2 : MHas mh dx (.dict as)) (hv : VHas as name v)
    (hb : notB v = true) (hq : Q v m mh) : TAttr c m mh (.ref x) name Q := TAttr.at_ hW.pcls hn h1 h2 hv hb hq
theorem TSetAttr.g {x dx : Addr} {as as' : List (PySem.Str × Value)} {name : PySem.Str} {v : Value} (hW : Ctx c) (hn : SHas gNames name) (h1 : MHas mh x (.inst aG dx)) (_h0 : MHas mh dx (.dict as)) (ha : VApp as name v as') (h2 : MPut mh dx (.dict as) (.dict as') mh')
    (hs : as.length ≤ slim) (hq : QL m mh') : TSetAttr c m mh (.ref x) name v QL := TSetAttr.new hW.gcls hn h1 ha h2 hs hq
theorem TSetAttr.p {x dx : Addr} {as as' : List (PySem.Str × Value)} {name : PySem.Str} {v : Value} (hW : Ctx c) (hn : SHas pNames name) (h1 : MHas mh x (.inst aP dx)) (_h0 : MHas mh dx (.dict as)) (ha : VApp as name v as') (h2 : MPut mh dx (.dict as) (.dict as') mh')
    (hs : as.length ≤ slim) (hq : QL m mh') : TSetAttr c m mh (.ref x) name v QL := TSetAttr.new hW.pcls hn h1 ha h2 hs hq
end
end
section Walks
open PySem PySem.W PySem.Calls PyProof.Rows
-- the names of the locals, the abstract heap
local macro_rules | `(tactic| walk_at "has") => `(tactic| first | with_reducible exact LHas.here | ((with_reducible apply LHas.there); walk_at "has"))
local macro_rules | `(tactic| walk_at "put") => `(tactic| first | with_reducible exact LPut.here | ((with_reducible apply LPut.there); walk_at "put"))
local macro_rules | `(tactic| walk_at "ghas") => `(tactic| first | ((with_reducible apply W2.g); (focus assumption); (unfold globs2); (walk_at "gin")))
local macro_rules | `(tactic| walk_at "gin") => `(tactic| first | with_reducible exact GHas.here | (with_reducible apply GHas.there; walk_at "gin"))
local macro_rules | `(tactic| walk_at "chas") => `(tactic| first | ((with_reducible apply CHas.intoC); walk_at "chas") | ((with_reducible apply CHas.comp); walk_at "chas") | with_reducible exact CHas.here | ((with_reducible apply CHas.there); walk_at "chas"))
local macro_rules | `(tactic| walk_at "mhas") => `(tactic| first | with_reducible assumption | with_reducible exact MHas.here | ((with_reducible apply MHas.of_mem); (with_reducible apply MPut.has); with_reducible assumption) | ((with_reducible apply MHas.there); walk_at "mhas") | ((with_reducible apply MHas.left); with_reducible assumption) | ((with_reducible apply MHas.right); walk_at "mhas"))
local macro_rules | `(tactic| walk_at "mput") => `(tactic| first | with_reducible assumption | with_reducible exact MPut.here | ((with_reducible apply MPut.there); walk_at "mput") | ((with_reducible apply MPut.left); with_reducible assumption) | ((with_reducible apply MPut.right); walk_at "mput"))
local macro_rules | `(tactic| walk_at "lat") => `(tactic| first | ((with_reducible apply LAt.own); walk_at "mhas") | ((with_reducible apply LAt.ro); assumption))
local macro_rules | `(tactic| walk_at "sl") => `(tactic| first | exact List.Sublist.refl _ | ((apply List.Sublist.cons_cons); (walk_at "sl")) | ((apply List.Sublist.cons); (walk_at "sl")))
local macro_rules | `(tactic| walk_at "pull0") => `(tactic| first | exact Pull.here | ((apply Pull.there); (walk_at "pull0")) | ((apply Pull.app); (walk_at "pull0")))
local macro_rules | `(tactic| walk_at "pull") => `(tactic| first | with_reducible exact Pull.here | ((with_reducible apply Pull.there); (walk_at "pull")) | ((with_reducible apply Pull.app); (walk_at "pull")))
local macro_rules | `(tactic| walk_at "pullb0") => `(tactic| first | exact PullB.here | ((apply PullB.there); (walk_at "pullb0")) | ((apply PullB.app); (walk_at "pullb0")))
local macro_rules | `(tactic| walk_at "pullb") => `(tactic| first | with_reducible exact PullB.here | ((with_reducible apply PullB.there); (walk_at "pullb")) | ((with_reducible apply PullB.app); (walk_at "pullb")))
local macro_rules | `(tactic| walk_at "s20") => `(tactic| first | exact Sub2.refl | ((apply Sub2.cons); (focus (walk_at "pull0")); (walk_at "s20")) | ((apply Sub2.app); (focus (walk_at "pullb0")); (walk_at "s20")) | ((apply Sub2.skip); (walk_at "s20")) | ((apply Sub2.skipB); (walk_at "s20")))
local macro_rules | `(tactic| walk_at "s21") => `(tactic| first | with_reducible exact Sub2.refl | ((with_reducible apply Sub2.cons); (focus (walk_at "pull")); (walk_at "s21")) | ((with_reducible apply Sub2.app); (focus (walk_at "pullb")); (walk_at "s21")) | ((with_reducible apply Sub2.skip); (walk_at "s21")) | ((with_reducible apply Sub2.skipB); (walk_at "s21")))
local macro_rules | `(tactic| walk_at "s2") => `(tactic| first | (walk_at "s21"; done) | walk_at "s20")
local macro_rules | `(tactic| walk_at "vhas") => `(tactic| first | with_reducible assumption | with_reducible exact VHas.here | ((with_reducible apply VHas.there); (focus (decide +kernel)); (walk_at "vhas")))
local macro_rules | `(tactic| walk_at "vapp") => `(tactic| first | with_reducible exact VApp.nil | ((with_reducible apply VApp.cons); (focus (decide +kernel)); (walk_at "vapp")))
local macro_rules | `(tactic| walk_at "vno") => `(tactic| first | with_reducible exact VNo.nil | ((with_reducible apply VNo.cons); (focus (decide +kernel)); (walk_at "vno")))
local macro_rules | `(tactic| walk_at "sin") => `(tactic| first | with_reducible exact SHas.here | ((with_reducible apply SHas.there); (walk_at "sin")))
local macro_rules | `(tactic| walk_at "gshas") => `(tactic| ((unfold gNames); (walk_at "sin")))
local macro_rules | `(tactic| walk_at "pshas") => `(tactic| ((unfold pNames); (walk_at "sin")))
-- one step by the shape of the text
local macro_rules | `(tactic| walk_at "xe") => do
  let a ← [``TE.int, ``TE.str, ``TE.bool, ``TE.none, ``TE.ifExp, ``TE.bin, ``TE.cutL, ``TE.list, ``TE.tuple, ``TE.dict0].mapM fun n => `(tacticSeq| with_reducible refine $(Lean.mkIdent n) ?_)
  let a := a.toArray
  `(tactic| first
    | ((fail_if_success (fail_if_success (with_reducible refine Gd.name ?_))); (first
      | ((with_reducible apply TE.local); (focus (walk_at "has")))
      | ((with_reducible apply TE.glob); (focus (walk_at "ghas")); (focus rfl); (focus rfl))
      | ((with_reducible apply TE.cell); (focus (walk_at "chas")); (focus (walk_at "mhas")))))
    | ((with_reducible refine' TE.call ?ka ?kb); (case kb => intro _; rfl))
    | ((with_reducible refine' TE.attr ?ka ?kb); (case kb => rfl))
    | ((with_reducible refine' TE.sub ?ka ?kb); (case kb => intro _ _; rfl))
    | ((with_reducible refine' TE.meth ?ka ?kb ?kc ?kd ?ke); (case kb => rfl); (case kc => rfl); (case kd => rfl); (case ke => intro _; rfl))
    | ((with_reducible refine' TE.cmp ?ka ?kb); (case kb => with_unfolding_all rfl))
    $[| $a]*
    | ((with_reducible refine' TE.and2 ?ka ?kb); (case kb => rfl))
    | ((with_reducible refine' TE.shown2 ?ka ?kb ?kc); (case ka => decide +kernel); (case kc => rfl)))
local macro_rules | `(tactic| walk_at "xs") => do
  let a ← [``TS1.ret, ``TS1.ite, ``TS1.brk, ``TS1.cont, ``TS1.pass, ``TS1.ret0].mapM fun n => `(tacticSeq| with_reducible refine $(Lean.mkIdent n) ?_)
  let a := a.toArray
  `(tactic| first
    | ((with_reducible refine' TS1.assign ?ka ?kb ?kc ?kd); (case kb => rfl); (case kc => rfl); (case kd => rfl))
    $[| $a]*
    | ((with_reducible refine' TS1.expr ?ka ?kb ?kc); (case kb => rfl); (case kc => rfl))
    | ((with_reducible refine' TS1.for_ ?ka ?kb); (case kb => intro _; rfl)))
local macro_rules | `(tactic| walk_at "xo") => do
  let a ← [``Aft.next, ``Aft.ret, ``Aft.brk, ``Aft.cont, ``Turn.next, ``Turn.cont, ``Turn.brk, ``Turn.ret, ``TPart.none, ``TPart.some, ``TCallW.of, ``TKeep.builtin, ``TKeep.type, ``TB.not, ``TB.bop, ``TAnd.nilA, ``TAnd.nilO, ``TEs.nil].mapM fun n => `(tacticSeq| with_reducible refine $(Lean.mkIdent n) ?_)
  let b ← [``TAnd.and, ``TAnd.or, ``TV.bool, ``TS.nil, ``TAs.nil, ``TEm.list, ``TEm.dict, ``TBin.add, ``TBin.sub, ``TA.attr, ``TA.sub].mapM fun n => `(tacticSeq| with_reducible refine $(Lean.mkIdent n) ?_)
  let d ← [``TCmp.eqI, ``TCmp.neI, ``TCmp.ltI, ``TCmp.leI, ``TCmp.gtI, ``TCmp.geI, ``TCmp.eqS, ``TCmp.neS, ``TCmp.neB].mapM fun n => `(tacticSeq| with_reducible refine $(Lean.mkIdent n) ?_)
  let (a, b, d) := (a.toArray, b.toArray, d.toArray)
  `(tactic| first
    | ((fail_if_success (fail_if_success (with_reducible refine Gd.ta ?_))); (first
      | ((with_reducible apply TA.name); (focus (walk_at "put")))
      | ((with_reducible apply TA.cell); (focus (walk_at "chas")); (focus rfl); (focus (walk_at "mput")))))
    | with_reducible refine TS.consH (by with_reducible assumption) ?_
    | ((with_reducible refine TS.consA ?_); (intro QH hid))
    | ((with_reducible refine' TEs.cons ?ka ?kb); (case kb => rfl))
    $[| $a]*
    | ((fail_if_success (fail_if_success (with_reducible refine Gd.keep ?_))); (with_reducible apply TKeep.ctx); (focus assumption); (focus decide))
    | ((with_reducible refine' TB.cmp ?ka ?kb); (case kb => with_unfolding_all rfl))
    | with_reducible refine And.intro (fun _ => ?_) (fun h => Bool.noConfusion h)
    | with_reducible refine And.intro (fun h => Bool.noConfusion h) (fun _ => ?_)
    $[| $b]*
    | ((with_reducible refine' TB.value ?ka ?kb); (case kb => intro _; rfl))
    | ((with_reducible refine' TAs.cons ?ka ?kb); (case kb => rfl))
    | ((with_reducible refine TBin.mod ?_ ?_); decide)
    $[| $d]*
    | ((fail_if_success (fail_if_success (with_reducible refine Gd.attr ?_))); (first
      | ((with_reducible apply TAttr.g); (focus assumption); (focus (walk_at "gshas")); (focus (walk_at "mhas")); (focus (walk_at "mhas")); (focus (walk_at "vhas")); (focus rfl))
      | ((with_reducible apply TAttr.p); (focus assumption); (focus (walk_at "pshas")); (focus (walk_at "mhas")); (focus (walk_at "mhas")); (focus (walk_at "vhas")); (focus rfl))))
    | ((fail_if_success (fail_if_success (with_reducible refine Gd.sattr ?_))); (first
      | ((with_reducible apply TSetAttr.g); (focus assumption); (focus (walk_at "gshas")); (focus (walk_at "mhas")); (focus (walk_at "mhas")); (focus (walk_at "vapp")); (focus (walk_at "mput")); (focus (exact Nat.le_of_ble_eq_true rfl)))
      | ((with_reducible apply TSetAttr.p); (focus assumption); (focus (walk_at "pshas")); (focus (walk_at "mhas")); (focus (walk_at "mhas")); (focus (walk_at "vapp")); (focus (walk_at "mput")); (focus (exact Nat.le_of_ble_eq_true rfl)))))
    | with_reducible refine Hid.use (by with_reducible assumption) ?_
    | with_reducible refine HidI.use (by with_reducible assumption) ?_)
local macro_rules | `(tactic| walk_at "x") => `(tactic| first
  | ((fail_if_success (fail_if_success (with_reducible refine Gd.te ?_))); (walk_at "xe"))
  | ((fail_if_success (fail_if_success (with_reducible refine Gd.ts1 ?_))); (walk_at "xs"))
  | ((fail_if_success (with_reducible refine Gd.te ?_)); (fail_if_success (with_reducible refine Gd.ts1 ?_)); (walk_at "xo")))
section
open PySem PySem.W PySem.Calls PyProof.Rows
variable {c : Sit} {m : Loc} {mh mh' : MH} {Q : Value → Loc → MH → Prop}
theorem names_spec (hn : 0 < c.n) (hQ : ∀ r, Q (.ref r) m ((r, .list (sL NAMES)) :: mh)) (hW : Ctx c := by assumption) : TCall c m mh (.ref fNames.f) [] [] Q := by
  refine TCall.def_ fNames hW.names hn [] [] ?_ rfl rfl (by decide) fun L => ?_
  · intro as' e s X
    rw [List.length_eq_zero_iff.mp e]
    exact BindsTo.of_eq rfl
  with_unfolding_all refine TS.consA ?_
  intro QH hid
  repeat (walk_at "x")
  refine ⟨by decide, fun r => ?_⟩
  repeat (walk_at "x")
  exact hQ r
theorem next_spec (hn : 0 < c.n) {t : Addr} {xs : List Int} (ht : MPut mh t (.list (iL xs)) (.list (iL xs.tail)) mh') (hs : xs.length ≤ slim)
    (hQ : Q (.int (xs.headD 0) 0) m mh') (hW : Ctx c := by assumption) : TCall c m mh (.ref fNext.f) [.ref t] [] Q := by
  refine TCall.def_ fNext hW.next hn [("tape", some (.ref t))] [] ?_ rfl rfl (by decide) fun L => ?_
  · intro as' e s X
    obtain ⟨a, rfl⟩ := List.length_eq_one_iff.mp e
    exact BindsTo.of_eq rfl
  with_unfolding_all refine TS.consA ?_
  intro QH hid
  walk_at "x"
  walk_at "x"
  walk_at "x"
  walk_at "x"
  refine TV.list (.own (by walk_at "mhas")) (by rw [iL_len]; exact hs) ⟨fun h => ?_, fun h => ?_⟩
  · cases xs with
    | nil => cases h
    | cons x xs =>
      walk_at "x"
      walk_at "x"
      refine TGet.pop (by walk_at "mhas") ?_
      repeat (walk_at "x")
      refine TCall.pop0 ht (by simpa [iL_len] using hs) ?_
      repeat (walk_at "x")
      exact hQ
  · cases xs with
    | nil =>
      walk_at "x"
      have : mh' = mh := by
        obtain ⟨l1, l2, rfl, rfl⟩ := ht.split; rfl
      rw [this] at hQ
      repeat (walk_at "x")
      exact hQ
    | cons x xs => cases h
/-! one row -/
noncomputable def rowN (xs : List Int) : Nat := (xs.headD 0 % 3).toNat
noncomputable def symAt (xs : List Int) (k : Nat) : PySem.Str := SYM.getD (((xs.drop (k + 1)).headD 0 % 6).toNat) default
noncomputable def rowOf (xs : List Int) : List PySem.Str := (List.range (rowN xs)).map (symAt xs)
noncomputable def rowRest (xs : List Int) : List Int := xs.drop (rowN xs + 1)
theorem row_spec (hn : 1 < c.n) {t : Addr} {xs : List Int} (hs : xs.length ≤ slim)
    (hQ : ∀ r, Q (.ref r) m ((r, .list (sL (rowOf xs))) :: (t, .list (iL (rowRest xs))) :: mh)) (hW : Ctx c := by assumption) : TCall c m ((t, .list (iL xs)) :: mh) (.ref fRow.f) [.ref t] [] Q := by
  refine TCall.defC fRow hW.row (by omega) [("count", none)] [some (.ref t)] (fun L => [("tape", L + 1)]) ?_ rfl rfl rfl (fun _ => rfl) fun L => ?_
  · intro as' e
    obtain ⟨a, rfl⟩ := List.length_eq_one_iff.mp e
    rfl
  have hW' : Ctx (c.intoC fRow L [("tape", L + 1)]) := hW
  refine TS.drop ?_
  show TS _ _ ((L + 1, .cell (some (.ref t))) :: (t, .list (iL xs)) :: mh) _ _
  with_unfolding_all refine TS.consA ?_
  intro QH hid
  repeat (walk_at "x")
  refine next_spec (by show 0 < c.n - 1; omega) (.there .here) hs ?_
  repeat (walk_at "x")
  refine TE.listComp [("tape", L + 1)] [("tape", L + 1)] ["_"] (by unfold CompNames; decide) (CC.cons (CC.nil rfl) (.inl rfl) rfl rfl rfl) (fun _ => rfl) ?_
  repeat (walk_at "x")
  have hr : (xs.headD 0).fmod 3 = (rowN xs : Int) := by
    unfold rowN; rw [Int.fmod_eq_emod_of_nonneg _ (by decide)]; omega
  rw [hr]
  refine TCall.range ?_
  intro rg
  refine TSrc.range (n := rowN xs) .here (by unfold rowN slim; omega) ?_
  intro it r L'
  refine CompBlock.range (fun k m' mh' => k ≤ rowN xs ∧ ∃ v, IsM m' [("_", v)] ∧ IsH mh' ((r, .list (sL ((List.range k).map (symAt xs)))) :: (rg, .range 0 (rowN xs) 1) :: (L + 1, .cell (some (.ref t))) :: (t, .list (iL (xs.drop (k + 1)))) :: mh)) ⟨rfl, rfl⟩ ⟨Nat.zero_le _, _, rfl, by simp [sL]⟩ ?_
  rintro k _ _ ⟨hk0, v, rfl, rfl⟩
  refine ⟨fun hk => ?_, fun hk => ?_⟩
  · obtain rfl : k = rowN xs := by omega
    repeat (walk_at "x")
    exact Drop.sub (hQ r) (by walk_at "sl")
  · walk_at "x"
    refine TRun.last ?_ rfl rfl
    repeat (walk_at "x")
    refine next_spec (xs := xs.drop (k + 1)) (by show 0 < c.n - 1; omega) (by walk_at "mput") (by simp; omega) ?_
    repeat (walk_at "x")
    refine TSub.list (.ro hW.syms) ?_
    have h6 : ((xs.drop (k + 1)).headD 0).fmod 6 = (xs.drop (k + 1)).headD 0 % 6 := Int.fmod_eq_emod_of_nonneg _ (by decide)
    rw [h6]
    refine TItem.list (.ro hW.syms) (by omega) (by omega) (v := .str (symAt xs k) 0) ?_ ?_
    · rw [sL_get, symAt]
      have : ((xs.drop (k + 1)).headD 0 % 6).toNat < SYM.length := by show _ < 6; omega
      rw [List.getD_eq_getElem?_getD, List.getElem?_eq_getElem this]
      rfl
    · refine TApp.mk .here (by rw [sL_len]; simp; unfold rowN at hk; unfold slim; omega) ⟨by omega, _, rfl, ?_⟩
      rw [List.range_succ, List.map_append, sL_app, List.tail_drop]
      rfl
end
section
open PySem PySem.W PySem.Calls PyProof.Rows
variable {c : Sit} {m : Loc} {mh mh' : MH} {Q : Value → Loc → MH → Prop}
noncomputable abbrev Rule := PySem.Str × List PySem.Str
inductive RulesAt (mh : MH) : List Value → List Rule → Prop
  | nil : RulesAt mh [] []
  | cons {p l n ss ps rs} : MHas mh p (.tup [.str n 0, .ref l]) → MHas mh l (.list (sL ss)) → RulesAt mh ps rs → RulesAt mh (.ref p :: ps) ((n, ss) :: rs)
theorem RulesAt.mono {mh mh' : MH} {ps : List Value} {rs : List Rule} (x : RulesAt mh ps rs) (k : ∀ a o, MHas mh a o → MHas mh' a o) : RulesAt mh' ps rs := by
  induction x with
  | nil => exact .nil
  | cons h1 h2 _ ih => exact .cons (k _ _ h1) (k _ _ h2) ih
theorem RulesAt.snoc {mh : MH} {ps : List Value} {rs : List Rule} {p l : Addr} {n : PySem.Str} {ss : List PySem.Str} (x : RulesAt mh ps rs) (h1 : MHas mh p (.tup [.str n 0, .ref l])) (h2 : MHas mh l (.list (sL ss))) : RulesAt mh (ps ++ [.ref p]) (rs ++ [(n, ss)]) := by
  induction x with
  | nil => exact .cons h1 h2 .nil
  | cons a b _ ih => exact .cons a b ih
theorem RulesAt.len {mh : MH} {ps : List Value} {rs : List Rule} (x : RulesAt mh ps rs) : ps.length = rs.length := by
  induction x with
  | nil => rfl
  | cons _ _ _ ih => simp [ih]
theorem RulesAt.get {mh : MH} {ps : List Value} {rs : List Rule} (x : RulesAt mh ps rs) : ∀ {k : Nat} {v : Value}, ps[k]? = some v → ∃ p l n ss, v = .ref p ∧ rs[k]? = some (n, ss) ∧ MHas mh p (.tup [.str n 0, .ref l]) ∧ MHas mh l (.list (sL ss)) := by
  induction x with
  | nil => intro k v e; simp at e
  | cons a b _ ih =>
    intro k v e
    cases k with
    | zero => simp at e; subst e; exact ⟨_, _, _, _, rfl, rfl, a, b⟩
    | succ k => simpa using ih (by simpa using e)
structure RuleOk (p : Rule) : Prop where
  name : p.1 ∈ NAMES
  len : p.2.length ≤ 2
  syms : ∀ s ∈ p.2, s ∈ SYM
structure RulesOk (rs : List Rule) : Prop where
  lo : 3 ≤ rs.length
  hi : rs.length ≤ 6
  nd : rs.Nodup
  first : (rs.take 3).map (·.1) = NAMES
  each : ∀ p ∈ rs, RuleOk p
theorem symAt_mem (xs : List Int) (k : Nat) : symAt xs k ∈ SYM := by
  unfold symAt
  have : ((xs.drop (k + 1)).headD 0 % 6).toNat < SYM.length := by show _ < 6; omega
  rw [List.getD_eq_getElem?_getD, List.getElem?_eq_getElem this]
  exact List.getElem_mem this
theorem rowOf_ok (xs : List Int) : (rowOf xs).length ≤ 2 ∧ ∀ s ∈ rowOf xs, s ∈ SYM := by
  unfold rowOf
  constructor
  · rw [List.length_map, List.length_range]; unfold rowN; omega
  · intro s hs
    obtain ⟨k, _, rfl⟩ := List.mem_map.mp hs
    exact symAt_mem xs k
noncomputable def nameAt (i : Int) : PySem.Str := NAMES.getD (i % 3).toNat default
theorem nameAt_get (i : Int) : NAMES[(i % 3).toNat]? = some (nameAt i) := by
  unfold nameAt
  have : (i % 3).toNat < NAMES.length := by show _ < 3; omega
  rw [List.getD_eq_getElem?_getD, List.getElem?_eq_getElem this]; rfl
noncomputable def dat (p : Rule) : PyData := .tuple [.str p.1, .list (p.2.map .str)]
theorem eqvAll_strs : ∀ xs ys : List PySem.Str, PyData.eqvAll (xs.map .str) (ys.map .str) = decide (xs = ys)
  | [], [] => rfl
  | [], _ :: _ => rfl
  | _ :: _, [] => rfl
  | x :: xs, y :: ys => by
    simp only [List.map_cons, PyData.eqvAll, PyData.eqv, eqvAll_strs xs ys, List.cons.injEq]
    by_cases h : x = y <;> by_cases h2 : xs = ys <;> simp [h, h2]
theorem eqv_dat (p q : Rule) : PyData.eqv (dat p) (dat q) = decide (p = q) := by
  obtain ⟨a, b⟩ := p; obtain ⟨c, d⟩ := q
  simp only [dat, PyData.eqv, PyData.eqvAll, eqvAll_strs, Prod.mk.injEq, Bool.and_true]
  by_cases h : a = c <;> by_cases h2 : b = d <;> simp [h, h2]
theorem any_dat (rs : List Rule) (p : Rule) : ((rs.map dat).any fun y => PyData.eqv y (dat p)) = decide (p ∈ rs) := by
  rw [List.any_map, Bool.eq_iff_iff, List.any_eq_true, decide_eq_true_iff]
  constructor
  · rintro ⟨q, hq, e⟩
    have e' : PyData.eqv (dat q) (dat p) = true := e
    rw [eqv_dat, decide_eq_true_iff] at e'
    exact e' ▸ hq
  · intro hp
    exact ⟨p, hp, show PyData.eqv (dat p) (dat p) = true by rw [eqv_dat]; simp⟩
theorem RulesAt.deep {c : Sit} {mh : MH} {ps : List Value} {rs : List Rule} (x : RulesAt mh ps rs) : DeepAll c mh ps (rs.map dat) := by
  induction x with
  | nil => exact .nil
  | cons h1 h2 _ ih => exact .cons (.tup h1 (.cons .str (.cons (.list (.own h2) (DeepAll.sL _)) .nil))) ih
theorem lay_strs {xs : List PySem.Str} (h : ∀ s ∈ xs, s ∈ SYM) : PyData.canLayAll0 (xs.map .str) = true := by
  induction xs with
  | nil => rfl
  | cons x xs ih =>
    have h1 : ∀ s ∈ SYM, PyData.canLay0 (.str s) = true := by decide +kernel
    simp only [List.map_cons, PyData.canLayAll0, Bool.and_eq_true]
    exact ⟨h1 x (h x (.head _)), ih fun s hs => h s (.tail _ hs)⟩
theorem RuleOk.lay {p : Rule} (h : RuleOk p) : (dat p).canLay0 = true := by
  have h1 : ∀ s ∈ NAMES, PyData.canLay0 (.str s) = true := by decide +kernel
  simp only [dat, PyData.canLay0, PyData.canLayAll0, Bool.and_eq_true]
  exact ⟨h1 _ h.name, lay_strs h.syms, trivial⟩
theorem lay_dats : ∀ {rs : List Rule}, (∀ p ∈ rs, RuleOk p) → PyData.canLayAll0 (rs.map dat) = true
  | [], _ => rfl
  | p :: rs, h => by
    simp only [List.map_cons, PyData.canLayAll0, Bool.and_eq_true]
    exact ⟨(h p (.head _)).lay, lay_dats fun q hq => h q (.tail _ hq)⟩
theorem depth_strs : ∀ xs : List PySem.Str, PyData.depthAll (xs.map .str) ≤ 1
  | [] => by simp [PyData.depthAll]
  | x :: xs => by
    have := depth_strs xs
    simp only [List.map_cons, PyData.depthAll, PyData.depth]; omega
theorem depth_dat (p : Rule) : (dat p).depth ≤ 100 := by
  have := depth_strs p.2
  simp only [dat, PyData.depth, PyData.depthAll]; omega
theorem rulesOk0 {rs : List Rule} (h : rs.map (·.1) = NAMES) (hok : ∀ p ∈ rs, RuleOk p) : RulesOk rs := by
  have l : rs.length = 3 := by have := congrArg List.length h; simpa [NAMES] using this
  refine ⟨by omega, by omega, ?_, ?_, hok⟩
  · have : (rs.map (·.1)).Nodup := by rw [h]; decide
    exact List.Pairwise.of_map (·.1) (fun a b ne e => ne (by rw [e])) this
  · rw [List.take_of_length_le (by omega), h]
theorem rulesOk1 {rs : List Rule} (h : RulesOk rs) (hl : rs.length < 6) {p : Rule} (hp : RuleOk p) (hn : p ∉ rs) : RulesOk (rs ++ [p]) := by
  have := h.lo
  refine ⟨by simp; omega, by simp; omega, ?_, ?_, fun q hq => ?_⟩
  · rw [List.nodup_append]
    exact ⟨h.nd, by simp, fun a ha b hb e => hn (by rw [List.mem_singleton.mp hb] at e; exact e ▸ ha)⟩
  · rw [List.take_append_of_le_length this]; exact h.first
  · rcases List.mem_append.mp hq with hq | hq
    · exact h.each q hq
    · rw [List.mem_singleton.mp hq]; exact hp
theorem rules_spec (hn : 2 < c.n) {t : Addr} {xs : List Int} (hs : xs.length ≤ slim)
    (hQ : ∀ r ps rs blk, RulesOk rs → RulesAt blk ps rs → Q (.ref r) m ((r, .list ps) :: (blk ++ mh))) (hW : Ctx c := by assumption) : TCall c m ((t, .list (iL xs)) :: mh) (.ref fRules.f) [.ref t] [] Q := by
  refine TCall.defC fRules hW.rules (by omega) [("name", none), ("rules", none), ("rule", none)] [some (.ref t)] (fun L => [("tape", L + 1)]) ?_ rfl rfl rfl (fun _ => rfl) fun L => ?_
  · intro as' e
    obtain ⟨a, rfl⟩ := List.length_eq_one_iff.mp e
    rfl
  have hW' : Ctx (c.intoC fRules L [("tape", L + 1)]) := hW
  refine TS.drop ?_
  show TS _ _ ((L + 1, .cell (some (.ref t))) :: (t, .list (iL xs)) :: mh) _ _
  with_unfolding_all refine TS.consA ?_
  intro QH hid
  refine TS1.assignList [("tape", L + 1)] [("tape", L + 1)] ["name"] rfl rfl (by unfold CompNames; decide) (CC.cons (CC.nil rfl) (.inl rfl) rfl rfl rfl) (fun _ => rfl) ?_
  repeat (walk_at "x")
  refine names_spec (by show 0 < c.n - 1; omega) ?_
  intro nl
  refine TSrc.list (.own .here) ?_
  intro it r L'
  refine CompBlock.list (fun k m' mh' => k ≤ 3 ∧ Ex2 fun v ps => Ex3 fun rs xs' blk => IsM m' [("name", v)] ∧ IsH mh' ((r, .list ps) :: (blk ++ (nl, .list (sL NAMES)) :: (L + 1, .cell (some (.ref t))) :: (t, .list (iL xs')) :: mh)) ∧ RulesAt blk ps rs ∧ rs.map (·.1) = NAMES.take k ∧ (∀ p ∈ rs, RuleOk p) ∧ xs'.length ≤ xs.length) 3 ⟨rfl, rfl⟩
    ⟨by decide, _, [], [], xs, [], rfl, rfl, .nil, rfl, (fun _ q => nomatch q), Nat.le_refl _⟩ ?_
  rintro k _ _ ⟨hk, v, ps, rs, xs', blk, rfl, rfl, hR, hnm, hok, hx⟩
  refine ⟨sL NAMES, .own (by walk_at "mhas"), fun hz => ?_, fun x hz => ?_⟩
  · rw [sL_get, Option.map_eq_none_iff, List.getElem?_eq_none_iff] at hz
    obtain rfl : k = 3 := by have : NAMES.length = 3 := rfl; omega
    repeat (walk_at "x")
    refine TS1.sub2 (mh' := (r, .list ps) :: (blk ++ (L + 1, .cell (some (.ref t))) :: (t, .list (iL xs')) :: mh)) ?_ (by walk_at "s2")
    refine TS1.while_ (fun n m' mh' => Ex3 fun v w ps => Ex3 fun rs xs' blk => IsM m' [("name", v), ("rules", some (.ref r)), ("rule", w)] ∧ IsH mh' ((r, .list ps) :: (blk ++ (L + 1, .cell (some (.ref t))) :: (t, .list (iL xs')) :: mh)) ∧ RulesAt blk ps rs ∧ RulesOk rs ∧ xs'.length = n ∧ n ≤ slim) xs'.length ?_ ?_
    · exact ⟨none, none, ps, rs, xs', blk, rfl, rfl, hR, rulesOk0 hnm hok, rfl, by omega⟩
    · clear hR hok hx hnm ps rs xs' blk
      rintro n _ _ ⟨v, w, ps, rs, xs', blk, rfl, rfl, hR, hok, rfl, hx⟩
      have hpl := hR.len
      have h6 := hok.hi
      repeat (walk_at "x")
      refine TV.list (.own (by walk_at "mhas")) (by rw [iL_len]; omega) ⟨fun h => ?_, fun h => ?_⟩
      · repeat (walk_at "x")
        refine TCall.len (by walk_at "lat") (by unfold slim; omega) ?_
        repeat (walk_at "x")
        refine ⟨fun h2 => ?_, fun h2 => ?_⟩
        · walk_at "x"
          refine And.intro (fun _ => TS.drop ?_) (fun h => Bool.noConfusion h)
          repeat (walk_at "x")
          refine names_spec (by show 0 < c.n - 1; omega) ?_
          intro nl2
          repeat (walk_at "x")
          refine next_spec (xs := xs') (by show 0 < c.n - 1; omega) (by walk_at "mput") hx ?_
          repeat (walk_at "x")
          refine TSub.list (xs := sL NAMES) (.own (by walk_at "mhas")) ?_
          have h3 : (xs'.headD 0).fmod 3 = xs'.headD 0 % 3 := Int.fmod_eq_emod_of_nonneg _ (by decide)
          rw [h3]
          refine TItem.list (xs := sL NAMES) (.own (by walk_at "mhas")) (by omega) (by omega) (v := .str (nameAt (xs'.headD 0)) 0) (by rw [sL_get, nameAt_get]; rfl) ?_
          repeat (walk_at "x")
          refine TCall.pull (a := (t, .list (iL xs'.tail))) (by walk_at "pull") ?_
          refine row_spec (by show 1 < c.n - 1; omega) (by simp; omega) ?_
          intro rr
          repeat (walk_at "x")
          refine ⟨(show 2 ≤ slim by decide), fun tp => ?_⟩
          repeat (walk_at "x")
          have hp : RuleOk (nameAt (xs'.headD 0), rowOf xs'.tail) := ⟨List.mem_of_getElem? (nameAt_get _), (rowOf_ok _).1, (rowOf_ok _).2⟩
          refine TCmp.ninDeep (ds := rs.map dat) (d := dat (nameAt (xs'.headD 0), rowOf xs'.tail)) (.list (.own (by walk_at "mhas")) (RulesAt.deep (hR.mono fun a o x => (by walk_at "mhas")))) (.tup .here (.cons .str (.cons (.list (.own (.there .here)) (DeepAll.sL _)) .nil))) (lay_dats hok.each) hp.lay (depth_dat _) ?_
          rw [any_dat]
          repeat (walk_at "x")
          have hlt : (rowRest xs'.tail).length < xs'.length := by
            have : xs' ≠ [] := fun e => by rw [e] at h; cases h
            have := List.length_pos_iff.mpr this
            unfold rowRest; rw [List.length_drop, List.length_tail]; omega
          refine ⟨fun hnot => ?_, fun hin => ?_⟩
          · have hnm : (nameAt (xs'.headD 0), rowOf xs'.tail) ∉ rs := by simpa using hnot
            have hl6 : rs.length < 6 := by have := of_decide_eq_true h2; omega
            repeat (walk_at "x")
            refine TGet.append (by walk_at "mhas") ?_
            repeat (walk_at "x")
            refine TCall.append (by walk_at "mput") (by unfold slim; omega) ?_
            repeat (walk_at "x")
            refine Drop.of ⟨_, hlt, _, _, ps ++ [.ref tp], rs ++ [(nameAt (xs'.headD 0), rowOf xs'.tail)], rowRest xs'.tail, (tp, .tup [.str (nameAt (xs'.headD 0)) 0, .ref rr]) :: (rr, .list (sL (rowOf xs'.tail))) :: blk, rfl, rfl, ?_, rulesOk1 hok hl6 hp hnm, rfl, by omega⟩ (by walk_at "s2")
            exact (hR.mono fun a o x => .there (.there x)).snoc .here (.there .here)
          · repeat (walk_at "x")
            exact Drop.of ⟨_, hlt, _, _, ps, rs, rowRest xs'.tail, blk, rfl, rfl, hR, hok, rfl, by omega⟩ (by walk_at "s2")
        · repeat (walk_at "x")
          exact Drop.of (hQ r ps rs blk hok hR) (by walk_at "s2")
      · repeat (walk_at "x")
        exact Drop.of (hQ r ps rs blk hok hR) (by walk_at "s2")
  · rw [sL_get] at hz
    obtain ⟨n, hn1, rfl⟩ := Option.map_eq_some_iff.mp hz
    have hk3 : k < 3 := (List.getElem?_eq_some_iff.mp hn1).1
    refine ⟨hk3, ?_⟩
    walk_at "x"
    refine TRun.last (TT.drop ?_) rfl rfl
    show TEm _ _ _ _ _ _
    repeat (walk_at "x")
    refine TCall.pull (a := (t, .list (iL xs'))) (by walk_at "pull") ?_
    refine row_spec (by show 1 < c.n - 1; omega) (by omega) ?_
    intro rr
    repeat (walk_at "x")
    refine ⟨(show 2 ≤ slim by decide), fun tp => ?_⟩
    have hlen : ps.length = k := by
      have := congrArg List.length hnm
      rw [List.length_map, List.length_take] at this
      rw [hR.len]; have : NAMES.length = 3 := rfl; omega
    refine TApp.mk (by walk_at "mput") (by unfold slim; omega) ?_
    repeat (walk_at "x")
    refine Drop.of ⟨by omega, _, ps ++ [.ref tp], rs ++ [(n, rowOf xs')], rowRest xs', (tp, .tup [.str n 0, .ref rr]) :: (rr, .list (sL (rowOf xs'))) :: blk, rfl, rfl, ?_, ?_, ?_, ?_⟩ (by walk_at "s2")
    · exact (hR.mono fun a o x => .there (.there x)).snoc .here (.there .here)
    · rw [List.map_append, hnm, List.take_add_one, hn1]; rfl
    · intro p hp
      rcases List.mem_append.mp hp with hp | hp
      · exact hok p hp
      · rw [List.mem_singleton.mp hp]
        exact ⟨List.mem_of_getElem? hn1, (rowOf_ok xs').1, (rowOf_ok xs').2⟩
    · unfold rowRest; rw [List.length_drop]; omega
end
section
open PySem PySem.W PySem.Calls PyProof.Rows
variable {c : Sit} {m : Loc} {mh mh' : MH} {Q : Value → Loc → MH → Prop}
noncomputable abbrev Pair := PySem.Str × PySem.Str
noncomputable def ABC : List PySem.Str := ["a", "b", "c"]
noncomputable def pairs (ss : List PySem.Str) : List Pair := ss.flatMap fun s => ABC.map fun t => (s, t)
noncomputable abbrev FT := Pair → Int
noncomputable abbrev VT := PySem.Str → Int
noncomputable def stepT (name s : PySem.Str) (far : Int) (F : FT) (t : PySem.Str) : FT := upd F (name, t) (min (F (name, t)) (max far (F (s, t))))
noncomputable def symStep (name : PySem.Str) (V : VT) (st : FT × Int) (s : PySem.Str) : FT × Int := (ABC.foldl (stepT name s st.2) st.1, max st.2 (V s))
noncomputable def ruleSyms (st : FT × VT) (p : Rule × Nat) : FT × Int := p.1.2.foldl (symStep p.1.1 st.2) (st.1, max ((p.2 : Int) - 2) 0)
noncomputable def ruleStep (st : FT × VT) (p : Rule × Nat) : FT × VT := ((ruleSyms st p).1, upd st.2 p.1.1 (min (st.2 p.1.1) (ruleSyms st p).2))
noncomputable def roundB (rs : List Rule) (st : FT × VT) : FT × VT := rs.zipIdx.foldl ruleStep st
noncomputable def roundsB (rs : List Rule) (k : Nat) : FT × VT := (List.range k).foldl (fun st _ => roundB rs st) (fun p => if p.1 = p.2 then 0 else 9, fun _ => 9)
noncomputable def XF (ks : List Pair) (F : FT) : MO := .tdict (enc key2 ks fun p => .int (F p) 0)
noncomputable def XV (ks : List PySem.Str) (V : VT) : MO := .dict (enc (fun s => s) ks fun s => .int (V s) 0)
noncomputable def F0 : FT := fun p => if p.1 = p.2 then 0 else 9
noncomputable def V0 : VT := fun _ => 9
theorem mem_pairs {ss : List PySem.Str} {s t : PySem.Str} : (s, t) ∈ pairs ss ↔ s ∈ ss ∧ t ∈ ABC := by
  unfold pairs
  simp only [List.mem_flatMap, List.mem_map, Prod.mk.injEq]
  constructor
  · rintro ⟨a, h1, b, h2, rfl, rfl⟩; exact ⟨h1, h2⟩
  · rintro ⟨h1, h2⟩; exact ⟨s, h1, t, h2, rfl, rfl⟩
theorem pairs_len (ss : List PySem.Str) : (pairs ss).length = 3 * ss.length := by
  unfold pairs
  induction ss with
  | nil => rfl
  | cons s ss ih => rw [List.flatMap_cons, List.length_append, ih, List.length_map]; show 3 + _ = 3 * (ss.length + 1); omega
section
variable {QL : Loc → MH → Prop} {d t : Addr} {F : FT} {V : VT} {p : Pair} {x : PySem.Str} {v : Int}
theorem int_upd {κ : Type} [DecidableEq κ] (f : κ → Int) (k : κ) (v : Int) : upd (fun p => Value.int (f p) 0) k (.int v 0) = fun p => Value.int (upd f k v p) 0 := by
  funext q; unfold upd; split <;> rfl
theorem TDSet.ofF {ks : List Pair} (ha : MPut mh d (XF ks F) (XF (ks ++ [p]) F) mh') (hk : MHas mh t (.tup [.str p.1 0, .str p.2 0])) (hp : p ∉ ks) (hs : ks.length ≤ 100) (hq : QL m mh') : TDSet c m mh d (.ref t) (.int (F p) 0) QL := by
  refine TDSet.tup (kvs := enc key2 ks fun p => .int (F p) 0) (key2 p) ?_ hk (by rw [enc_len]; unfold slim; omega) hq
  rw [tPut_k, kPut_new key2_inj (f := fun p => Value.int (F p) 0) hp]; exact ha
theorem TItem.ofF {ks : List Pair} (ha : MHas mh d (XF ks F)) (hk : MHas mh t (.tup [.str p.1 0, .str p.2 0])) (hp : p ∈ ks) (hq : Q (.int (F p) 0) m mh) : TSub c m mh (.ref d) (.ref t) Q :=
  TSub.tdict ha (TItem.tdict (key2 p) ha hk (by rw [tAt_k, kAt_enc key2_inj hp]) hq)
theorem TSetItem.ofF {ks : List Pair} (ha : MPut mh d (XF ks F) (XF ks (upd F p v)) mh') (hk : MHas mh t (.tup [.str p.1 0, .str p.2 0])) (hp : p ∈ ks) (hs : ks.length ≤ 100) (hq : QL m mh') : TSetItem c m mh (.ref d) (.ref t) (.int v 0) QL := by
  refine TSetItem.tdict (kvs := enc key2 ks fun p => .int (F p) 0) (key2 p) ?_ hk (by rw [enc_len]; unfold slim; omega) hq
  rw [tPut_k, kPut_old key2_inj hp, int_upd]; exact ha
theorem TDSet.ofV {ks : List PySem.Str} (ha : MPut mh d (XV ks V) (XV (ks ++ [x]) V) mh') (hp : x ∉ ks) (hs : ks.length ≤ 100) (hq : QL m mh') : TDSet c m mh d (.str x 0) (.int (V x) 0) QL := by
  refine TDSet.str (kvs := enc (fun s => s) ks fun p => .int (V p) 0) ?_ (by rw [enc_len]; unfold slim; omega) hq
  rw [vPut_k, kPut_new (g := fun s => s) (fun _ _ e => e) (f := fun p => Value.int (V p) 0) hp]; exact ha
theorem TItem.ofV {ks : List PySem.Str} (ha : MHas mh d (XV ks V)) (hp : x ∈ ks) (hq : Q (.int (V x) 0) m mh) : TSub c m mh (.ref d) (.str x 0) Q :=
  TSub.dict ha (.inl rfl) (TItem.dict ha (.inl rfl) (by rw [vAt_k, kAt_enc (g := fun s => s) (fun _ _ e => e) hp]) hq)
theorem TSetItem.ofV {ks : List PySem.Str} (ha : MPut mh d (XV ks V) (XV ks (upd V x v)) mh') (hp : x ∈ ks) (hs : ks.length ≤ 100) (hq : QL m mh') : TSetItem c m mh (.ref d) (.str x 0) (.int v 0) QL := by
  refine TSetItem.dict (kvs := enc (fun s => s) ks fun p => .int (V p) 0) ?_ (by rw [enc_len]; unfold slim; omega) hq
  rw [vPut_k, kPut_old (g := fun s => s) (fun _ _ e => e) hp, int_upd]; exact ha
end
noncomputable def stB (rs : List Rule) (k n : Nat) : FT × VT := (rs.zipIdx.take n).foldl ruleStep (roundsB rs k)
theorem stB_succ {rs : List Rule} {k n : Nat} {p : Rule} (h : rs[n]? = some p) : stB rs k (n + 1) = ruleStep (stB rs k n) (p, n) := by
  unfold stB
  rw [foldl_take (x := (p, n))]
  rw [List.getElem?_zipIdx, h]; simp
theorem roundsB_succ (rs : List Rule) (k : Nat) : roundsB rs (k + 1) = stB rs k rs.length := by
  unfold roundsB stB
  rw [List.range_succ, List.foldl_append, List.take_of_length_le (by simp)]
  rfl
theorem not_in_take {α : Type} {l : List α} (nd : l.Nodup) {k : Nat} {x : α} (h : l[k]? = some x) : x ∉ l.take k := by
  intro hx
  obtain ⟨i, hi⟩ := List.mem_iff_getElem?.mp hx
  rw [List.getElem?_take] at hi
  split at hi
  · rename_i lt
    obtain ⟨h1, h2⟩ := List.getElem?_eq_some_iff.mp h
    obtain ⟨h3, h4⟩ := List.getElem?_eq_some_iff.mp hi
    have := (List.nodup_iff_pairwise_ne.mp nd)
    have := List.pairwise_iff_getElem.mp this i k h3 h1 lt
    exact this (h4.trans h2.symm)
  · cases hi
set_option maxHeartbeats 4000000 in
theorem begin_spec (hn : 2 < c.n) {r : Addr} {ps : List Value} {rs : List Rule} (hr : MHas mh r (.list ps)) (hR : RulesAt mh ps rs) (hok : RulesOk rs)
    (hQ : ∀ p d e, Q (.ref p) m ((p, .tup [.ref d, .ref e]) :: (d, XF (pairs SYM) (roundsB rs 6).1) :: (e, XV SYM (roundsB rs 6).2) :: mh)) (hW : Ctx c := by assumption) : TCall c m mh (.ref fBegin.f) [.ref r] [] Q := by
  refine TCall.def_ fBegin hW.begin_ (by omega) [("rules", some (.ref r)), ("s", none), ("t", none), ("first", none), ("vanish", none), ("_", none), ("number", none), ("name", none), ("symbols", none), ("far", none)] [] ?_ rfl rfl (by decide) fun L => ?_
  · intro as' e s X
    obtain ⟨a, rfl⟩ := List.length_eq_one_iff.mp e
    exact BindsTo.of_eq rfl
  have hW' : Ctx (c.into fBegin L) := hW
  refine TS.drop ?_
  with_unfolding_all refine TS.consA ?_
  intro QH hid
  refine TS1.assignDict [] [] ["s", "t"] rfl rfl (by unfold CompNames; decide) (CC.nil rfl) (fun _ => rfl) ?_
  walk_at "x"
  refine TSrc.list (.ro hW.syms) ?_
  intro it d L'
  refine CompBlock.asT .here ?_
  refine CompBlock.list (fun k m' mh' => k ≤ 6 ∧ Ex2 fun v w => IsM m' [("s", v), ("t", w)] ∧ IsH mh' ((d, XF (pairs (SYM.take k)) F0) :: mh)) 6 ⟨rfl, rfl, rfl⟩ ⟨by decide, _, _, rfl, rfl⟩ ?_
  rintro k _ _ ⟨hk, v, w, rfl, rfl⟩
  refine ⟨sL SYM, .ro hW.syms, fun hz => ?_, fun x hz => ?_⟩
  · rw [sL_get, Option.map_eq_none_iff, List.getElem?_eq_none_iff] at hz
    obtain rfl : k = 6 := by have : SYM.length = 6 := rfl; omega
    repeat (walk_at "x")
    have e6 : SYM.take 6 = SYM := rfl
    rw [e6]
    clear hz hk w v
    refine TS1.assignDict [] [] ["s"] rfl rfl (by unfold CompNames; decide) (CC.nil rfl) (fun _ => rfl) ?_
    walk_at "x"
    refine TSrc.list (.ro hW.syms) ?_
    intro it e L'
    refine CompBlock.list (fun k m' mh' => k ≤ 6 ∧ ∃ v, IsM m' [("s", v)] ∧ IsH mh' ((e, XV (SYM.take k) V0) :: (d, XF (pairs SYM) F0) :: mh)) 6 ⟨rfl, rfl⟩ ⟨by decide, _, rfl, rfl⟩ ?_
    rintro k _ _ ⟨hk, v, rfl, rfl⟩
    refine ⟨sL SYM, .ro hW.syms, fun hz => ?_, fun x hz => ?_⟩
    · rw [sL_get, Option.map_eq_none_iff, List.getElem?_eq_none_iff] at hz
      obtain rfl : k = 6 := by have : SYM.length = 6 := rfl; omega
      repeat (walk_at "x")
      rw [e6]
      refine TCall.range (n := 6) ?_
      intro rg
      clear hz hk v
      have hpl := hR.len
      have h6 := hok.hi
      refine TLoop.range0 (n := 6) (fun k m' mh' => k ≤ 6 ∧ Ex3 fun v1 v2 v3 => Ex4 fun v4 v5 v6 v7 => IsM m' [("rules", some (.ref r)), ("s", v1), ("t", v2), ("first", some (.ref d)), ("vanish", some (.ref e)), ("_", v3), ("number", v4), ("name", v5), ("symbols", v6), ("far", v7)] ∧
        IsH mh' ((rg, .range 0 6 1) :: (e, XV SYM (roundsB rs k).2) :: (d, XF (pairs SYM) (roundsB rs k).1) :: mh)) .here (by decide) ⟨by decide, _, _, _, _, _, _, _, rfl, rfl⟩ ?_
      rintro k _ _ ⟨hk, v1, v2, v3, v4, v5, v6, v7, rfl, rfl⟩
      refine ⟨fun hz => ?_, fun hz => ?_⟩
      · obtain rfl : k = 6 := by omega
        repeat (walk_at "x")
        refine ⟨(show 2 ≤ slim by decide), fun p => ?_⟩
        repeat (walk_at "x")
        exact Drop.of (hQ p d e) (by walk_at "s2")
      · walk_at "x"
        repeat (walk_at "x")
        refine TCall.enumL (by walk_at "lat") ?_
        intro en ei eo heo
        refine TLoop.enum0 (.enumL r) (seqK_list _ r) rfl heo (fun n m' mh' => n ≤ rs.length ∧ Ex3 fun v1 v2 v4 => Ex3 fun v5 v6 v7 => IsM m' [("rules", some (.ref r)), ("s", v1), ("t", v2), ("first", some (.ref d)), ("vanish", some (.ref e)), ("_", some (.int k 0)), ("number", v4), ("name", v5), ("symbols", v6), ("far", v7)] ∧
          IsH mh' ((rg, .range 0 6 1) :: (e, XV SYM (stB rs k n).2) :: (d, XF (pairs SYM) (stB rs k n).1) :: mh)) 6 ⟨Nat.zero_le _, _, _, _, _, _, _, rfl, rfl⟩ ?_
        rintro n _ _ ⟨hn2, v1, v2, v4, v5, v6, v7, rfl, rfl⟩
        refine ⟨ps, by walk_at "lat", by omega, fun hz => ?_, fun x hz => ?_⟩
        · obtain rfl : n = rs.length := by omega
          repeat (walk_at "x")
          exact ⟨by omega, _, _, _, _, _, _, _, rfl, by rw [roundsB_succ]⟩
        · obtain ⟨p, l, nm, ss, rfl, hrs, hp, hl⟩ := hR.get hz
          have hnlt : n < rs.length := (List.getElem?_eq_some_iff.mp hrs).1
          have hro := hok.each _ (List.mem_of_getElem? hrs)
          refine ⟨by omega, fun tt => ?_⟩
          refine TA.tuple .here ?_ rfl rfl
          repeat (walk_at "x")
          refine TA.tuple (by walk_at "mhas") ?_ rfl rfl
          repeat (walk_at "x")
          refine Drop.of (mh' := (rg, .range 0 6 1) :: (e, XV SYM (stB rs k n).2) :: (d, XF (pairs SYM) (stB rs k n).1) :: mh) ?_ (by walk_at "s2")
          repeat (walk_at "x")
          refine TCall.max2 ?_
          repeat (walk_at "x")
          have hnmS : nm ∈ SYM := by have : ∀ x ∈ NAMES, x ∈ SYM := by decide
                                     exact this _ hro.name
          refine TLoop.list0 (xs0 := sL ss) (fun j m' mh' => j ≤ ss.length ∧ Ex2 fun v1 v2 => IsM m' [("rules", some (.ref r)), ("s", v1), ("t", v2), ("first", some (.ref d)), ("vanish", some (.ref e)), ("_", some (.int k 0)), ("number", some (.int n 0)), ("name", some (.str nm 0)), ("symbols", some (.ref l)), ("far", some (.int ((ss.take j).foldl (symStep nm (stB rs k n).2) ((stB rs k n).1, max ((n : Int) - 2) 0)).2 0))] ∧
            IsH mh' ((rg, .range 0 6 1) :: (e, XV SYM (stB rs k n).2) :: (d, XF (pairs SYM) ((ss.take j).foldl (symStep nm (stB rs k n).2) ((stB rs k n).1, max ((n : Int) - 2) 0)).1) :: mh)) ss.length (by walk_at "lat") ⟨Nat.zero_le _, _, _, rfl, rfl⟩ ?_
          clear v1 v2 v4 v5 v6 v7
          rintro j _ _ ⟨hj, v1, v2, rfl, rfl⟩
          refine ⟨sL ss, by walk_at "lat", fun hz => ?_, fun x hz => ?_⟩
          · rw [sL_get, Option.map_eq_none_iff, List.getElem?_eq_none_iff] at hz
            obtain rfl : j = ss.length := by omega
            rw [List.take_length]
            repeat (walk_at "x")
            refine TItem.ofV (by walk_at "mhas") hnmS ?_
            repeat (walk_at "x")
            refine TCall.min2 ?_
            refine TA.sub ?_
            repeat (walk_at "x")
            refine TSetItem.ofV (by walk_at "mput") hnmS (by decide) ?_
            repeat (walk_at "x")
            exact ⟨by omega, _, _, _, _, _, _, rfl, by rw [stB_succ hrs]; rfl⟩
          · rw [sL_get] at hz
            obtain ⟨s, hs1, rfl⟩ := Option.map_eq_some_iff.mp hz
            have hsS : s ∈ SYM := hro.syms _ (List.mem_of_getElem? hs1)
            refine ⟨(List.getElem?_eq_some_iff.mp hs1).1, ?_⟩
            rw [foldl_take hs1]
            generalize (ss.take j).foldl (symStep nm (stB rs k n).2) ((stB rs k n).1, max ((n : Int) - 2) 0) = S
            repeat (walk_at "x")
            refine ⟨(show 3 ≤ slim by decide), fun q => ?_⟩
            refine TLoop.list0 (xs0 := sL ABC) (fun i m' mh' => i ≤ 3 ∧ ∃ v2, IsM m' [("rules", some (.ref r)), ("s", some (.str s 0)), ("t", v2), ("first", some (.ref d)), ("vanish", some (.ref e)), ("_", some (.int k 0)), ("number", some (.int n 0)), ("name", some (.str nm 0)), ("symbols", some (.ref l)), ("far", some (.int S.2 0))] ∧
              IsH mh' ((q, .list (sL ABC)) :: (rg, .range 0 6 1) :: (e, XV SYM (stB rs k n).2) :: (d, XF (pairs SYM) ((ABC.take i).foldl (stepT nm s S.2) S.1)) :: mh)) 3 (.own .here) ⟨Nat.zero_le _, _, rfl, rfl⟩ ?_
            clear v1 v2
            rintro i _ _ ⟨hi, v2, rfl, rfl⟩
            refine ⟨sL ABC, .own .here, fun hz => ?_, fun x hz => ?_⟩
            · rw [sL_get, Option.map_eq_none_iff, List.getElem?_eq_none_iff] at hz
              obtain rfl : i = 3 := by have : ABC.length = 3 := rfl; omega
              refine TS.sub2 (mh' := (rg, .range 0 6 1) :: (e, XV SYM (stB rs k n).2) :: (d, XF (pairs SYM) ((ABC.take 3).foldl (stepT nm s S.2) S.1)) :: mh) ?_ (by walk_at "s2")
              repeat (walk_at "x")
              refine TItem.ofV (by walk_at "mhas") hsS ?_
              repeat (walk_at "x")
              refine TCall.max2 ?_
              repeat (walk_at "x")
              exact ⟨by have := (List.getElem?_eq_some_iff.mp hs1).1; omega, _, _, rfl, rfl⟩
            · rw [sL_get] at hz
              obtain ⟨t, ht1, rfl⟩ := Option.map_eq_some_iff.mp hz
              have htA : t ∈ ABC := List.mem_of_getElem? ht1
              refine ⟨(List.getElem?_eq_some_iff.mp ht1).1, ?_⟩
              rw [foldl_take ht1]
              generalize (ABC.take i).foldl (stepT nm s S.2) S.1 = F
              walk_at "x"
              refine TS.drop ?_
              repeat (walk_at "x")
              refine ⟨(show 2 ≤ slim by decide), fun k1 => ?_⟩
              refine TItem.ofF (p := (nm, t)) (by walk_at "mhas") .here (mem_pairs.mpr ⟨hnmS, htA⟩) ?_
              repeat (walk_at "x")
              refine ⟨(show 2 ≤ slim by decide), fun k2 => ?_⟩
              refine TItem.ofF (p := (s, t)) (by walk_at "mhas") .here (mem_pairs.mpr ⟨hsS, htA⟩) ?_
              repeat (walk_at "x")
              refine TCall.max2 ?_
              repeat (walk_at "x")
              refine TCall.min2 ?_
              refine TA.sub ?_
              repeat (walk_at "x")
              refine ⟨(show 2 ≤ slim by decide), fun k3 => ?_⟩
              refine TSetItem.ofF (p := (nm, t)) (by walk_at "mput") .here (mem_pairs.mpr ⟨hnmS, htA⟩) (by decide) ?_
              repeat (walk_at "x")
              exact Drop.of ⟨by have := (List.getElem?_eq_some_iff.mp ht1).1; have : ABC.length = 3 := rfl; omega, _, rfl, rfl⟩ (by walk_at "s2")
    · rw [sL_get] at hz
      obtain ⟨s, hs1, rfl⟩ := Option.map_eq_some_iff.mp hz
      have hk6 : k < 6 := (List.getElem?_eq_some_iff.mp hs1).1
      refine ⟨hk6, ?_⟩
      walk_at "x"
      refine TRun.drop (TRun.last ?_ rfl rfl)
      repeat (walk_at "x")
      have hst : SYM.take (k + 1) = SYM.take k ++ [s] := by rw [List.take_add_one, hs1]; rfl
      refine TDSet.ofV (V := V0) .here (not_in_take (by decide) hs1) (by rw [List.length_take]; omega) ?_
      repeat (walk_at "x")
      refine Drop.of ⟨by omega, _, rfl, rfl⟩ ?_
      rw [hst]
      walk_at "s2"
  · rw [sL_get] at hz
    obtain ⟨s, hs1, rfl⟩ := Option.map_eq_some_iff.mp hz
    have hk6 : k < 6 := (List.getElem?_eq_some_iff.mp hs1).1
    refine ⟨hk6, ?_⟩
    walk_at "x"
    refine TRun.drop (TRun.next rfl rfl rfl (fun _ => rfl) ?_)
    repeat (walk_at "x")
    refine ⟨(show 3 ≤ slim by decide), fun q => ?_⟩
    refine TSrc.list (xs := sL ABC) (.own .here) ?_
    intro it2
    refine CompBlock.list (fun j m' mh' => j ≤ 3 ∧ ∃ w, IsM m' [("s", some (.str s 0)), ("t", w)] ∧ IsH mh' ((q, .list (sL ABC)) :: (d, XF (pairs (SYM.take k) ++ (ABC.take j).map fun t => (s, t)) F0) :: mh)) 3 ⟨rfl, rfl⟩ ⟨by decide, _, rfl, by rw [List.take_zero, List.map_nil, List.append_nil]; rfl⟩ ?_
    rintro j _ _ ⟨hj, w, rfl, rfl⟩
    refine ⟨sL ABC, .own .here, fun hz => ?_, fun x hz => ?_⟩
    · rw [sL_get, Option.map_eq_none_iff, List.getElem?_eq_none_iff] at hz
      obtain rfl : j = 3 := by have : ABC.length = 3 := rfl; omega
      repeat (walk_at "x")
      refine Drop.of (mh' := (d, XF (pairs (SYM.take (k + 1))) F0) :: mh) ⟨by omega, _, _, rfl, rfl⟩ ?_
      have : pairs (SYM.take (k + 1)) = pairs (SYM.take k) ++ (ABC.take 3).map fun t => (s, t) := by
        rw [List.take_add_one, hs1]; simp [pairs, ABC]
      rw [this]
      walk_at "s2"
    · rw [sL_get] at hz
      obtain ⟨t, ht1, rfl⟩ := Option.map_eq_some_iff.mp hz
      have hj3 : j < 3 := (List.getElem?_eq_some_iff.mp ht1).1
      refine ⟨hj3, ?_⟩
      walk_at "x"
      refine TRun.drop (TRun.last ?_ rfl rfl)
      repeat (walk_at "x")
      refine ⟨(show 2 ≤ slim by decide), fun kt => ?_⟩
      have hnew : (s, t) ∉ pairs (SYM.take k) ++ (ABC.take j).map fun t => (s, t) := by
        rw [List.mem_append, not_or, mem_pairs]
        refine ⟨fun h => not_in_take (by decide) hs1 h.1, fun h => ?_⟩
        obtain ⟨t', h1, h2⟩ := List.mem_map.mp h
        cases h2
        exact not_in_take (by decide) ht1 h1
      have hlen : (pairs (SYM.take k) ++ (ABC.take j).map fun t => (s, t)).length ≤ 100 := by
        rw [List.length_append, pairs_len, List.length_map, List.length_take, List.length_take]; omega
      have hst : ABC.take (j + 1) = ABC.take j ++ [t] := by rw [List.take_add_one, ht1]; rfl
      have done_ : ∀ (c' : Sit) (z : Int), z = F0 (s, t) → TDSet c' [("s", some (.str s 0)), ("t", some (.str t 0))] ((kt, .tup [.str s 0, .str t 0]) :: (q, .list (sL ABC)) :: (d, XF (pairs (SYM.take k) ++ (ABC.take j).map fun t => (s, t)) F0) :: mh) d (.ref kt) (.int z 0) fun m' mh' => Drop mh' fun mh' => j + 1 ≤ 3 ∧ ∃ w, IsM m' [("s", some (.str s 0)), ("t", w)] ∧ IsH mh' ((q, .list (sL ABC)) :: (d, XF (pairs (SYM.take k) ++ (ABC.take (j + 1)).map fun t => (s, t)) F0) :: mh) := by
        rintro c' z rfl
        refine TDSet.ofF (p := (s, t)) (.there (.there .here)) .here hnew hlen ?_
        repeat (walk_at "x")
        refine Drop.of ⟨by omega, _, rfl, rfl⟩ ?_
        rw [hst, List.map_append, ← List.append_assoc]
        walk_at "s2"
      repeat (walk_at "x")
      refine ⟨fun h => ?_, fun h => ?_⟩
      · repeat (walk_at "x")
        exact done_ _ _ (by unfold F0; rw [if_pos (of_decide_eq_true h)])
      · repeat (walk_at "x")
        exact done_ _ _ (by unfold F0; rw [if_neg (of_decide_eq_false h)])
end
section
open PySem PySem.W PySem.Calls PyProof.Rows
variable {c : Sit} {m : Loc} {mh mh' : MH} {Q : Value → Loc → MH → Prop}
noncomputable def ABCE : List PySem.Str := ["a", "b", "c", "$end"]
noncomputable def pairs4 (ss : List PySem.Str) : List Pair := ss.flatMap fun s => ABCE.map fun t => (s, t)
theorem mem_pairs4 {ss : List PySem.Str} {s t : PySem.Str} : (s, t) ∈ pairs4 ss ↔ s ∈ ss ∧ t ∈ ABCE := by
  unfold pairs4
  simp only [List.mem_flatMap, List.mem_map, Prod.mk.injEq]
  constructor
  · rintro ⟨a, h1, b, h2, rfl, rfl⟩; exact ⟨h1, h2⟩
  · rintro ⟨h1, h2⟩; exact ⟨s, h1, t, h2, rfl, rfl⟩
theorem pairs4_len (ss : List PySem.Str) : (pairs4 ss).length = 4 * ss.length := by
  unfold pairs4
  induction ss with
  | nil => rfl
  | cons s ss ih => rw [List.flatMap_cons, List.length_append, ih, List.length_map]; show 4 + _ = 4 * (ss.length + 1); omega
noncomputable def G9 : FT := fun _ => 9
noncomputable def G0 : FT := upd G9 ("S", "$end") 0
noncomputable def gStep (first : FT) (s other : PySem.Str) (far : Int) (G : FT) (t : PySem.Str) : FT := upd G (s, t) (min (G (s, t)) (max far (first (other, t))))
noncomputable def gOther (first : FT) (V : VT) (s : PySem.Str) (st : FT × Int) (other : PySem.Str) : FT × Int := (ABC.foldl (gStep first s other st.2) st.1, max st.2 (V other))
noncomputable def gEnd (s name : PySem.Str) (far : Int) (G : FT) (t : PySem.Str) : FT := upd G (s, t) (min (G (s, t)) (max far (G (name, t))))
noncomputable def gTail (first : FT) (V : VT) (number : Nat) (ss : List PySem.Str) (G : FT) (p : PySem.Str × Nat) : FT × Int := (ss.drop (p.2 + 1)).foldl (gOther first V p.1) (G, max ((number : Int) - 2) 0)
noncomputable def gPlace (first : FT) (V : VT) (number : Nat) (name : PySem.Str) (ss : List PySem.Str) (G : FT) (p : PySem.Str × Nat) : FT :=
  if p.1 ∈ NAMES then ABCE.foldl (gEnd p.1 name (gTail first V number ss G p).2) (gTail first V number ss G p).1 else G
noncomputable def gRule (first : FT) (V : VT) (G : FT) (p : Rule × Nat) : FT := p.1.2.zipIdx.foldl (gPlace first V p.2 p.1.1 p.1.2) G
noncomputable def roundsG (rs : List Rule) (first : FT) (V : VT) (k : Nat) : FT := (List.range k).foldl (fun G _ => rs.zipIdx.foldl (gRule first V) G) G0
noncomputable def stG (rs : List Rule) (first : FT) (V : VT) (k n : Nat) : FT := (rs.zipIdx.take n).foldl (gRule first V) (roundsG rs first V k)
theorem stG_succ {rs : List Rule} {first : FT} {V : VT} {k n : Nat} {p : Rule} (h : rs[n]? = some p) : stG rs first V k (n + 1) = gRule first V (stG rs first V k n) (p, n) := by
  unfold stG
  rw [foldl_take (x := (p, n))]
  rw [List.getElem?_zipIdx, h]; simp
theorem roundsG_succ (rs : List Rule) (first : FT) (V : VT) (k : Nat) : roundsG rs first V (k + 1) = stG rs first V k rs.length := by
  unfold roundsG stG
  rw [List.range_succ, List.foldl_append, List.take_of_length_le (by simp)]
  rfl
noncomputable abbrev gL (r fd vd d : Addr) (nm t us num sy pl s far oth : Option Value) : Loc := [("rules", some (.ref r)), ("first", some (.ref fd)), ("vanish", some (.ref vd)), ("name", nm), ("t", t), ("follow", some (.ref d)), ("_", us), ("number", num), ("symbols", sy), ("place", pl), ("s", s), ("far", far), ("other", oth)]
set_option maxHeartbeats 8000000 in
theorem goings_spec (hn : 2 < c.n) {r fd vd : Addr} {ps : List Value} {rs : List Rule} {first : FT} {V : VT} (hr : MHas mh r (.list ps)) (hR : RulesAt mh ps rs) (hok : RulesOk rs) (hf : MHas mh fd (XF (pairs SYM) first)) (hv : MHas mh vd (XV SYM V))
    (hQ : ∀ g, Q (.ref g) m ((g, XF (pairs4 NAMES) (roundsG rs first V 3)) :: mh)) (hW : Ctx c := by assumption) : TCall c m mh (.ref fGo.f) [.ref r, .ref fd, .ref vd] [] Q := by
  refine TCall.def_ fGo hW.go (by omega) [("rules", some (.ref r)), ("first", some (.ref fd)), ("vanish", some (.ref vd)), ("name", none), ("t", none), ("follow", none), ("_", none), ("number", none), ("symbols", none), ("place", none), ("s", none), ("far", none), ("other", none)] [] ?_ rfl rfl (by decide) fun L => ?_
  · intro as' e s X
    obtain ⟨a, b, d, rfl⟩ := len_three e
    exact BindsTo.of_eq rfl
  have hW' : Ctx (c.into fGo L) := hW
  refine TS.drop ?_
  with_unfolding_all refine TS.consA ?_
  intro QH hid
  refine TS1.assignDict [] [] ["name", "t"] rfl rfl (by unfold CompNames; decide) (CC.nil rfl) (fun _ => rfl) ?_
  repeat (walk_at "x")
  refine names_spec (by show 0 < c.n - 1; omega) ?_
  intro nl
  refine TSrc.list (.own .here) ?_
  intro it d L'
  refine CompBlock.asT .here ?_
  refine CompBlock.list (fun k m' mh' => k ≤ 3 ∧ Ex2 fun v w => IsM m' [("name", v), ("t", w)] ∧ IsH mh' ((d, XF (pairs4 (NAMES.take k)) G9) :: (nl, .list (sL NAMES)) :: mh)) 3 ⟨rfl, rfl, rfl⟩ ⟨by decide, _, _, rfl, rfl⟩ ?_
  rintro k _ _ ⟨hk, v, w, rfl, rfl⟩
  refine ⟨sL NAMES, by walk_at "lat", fun hz => ?_, fun x hz => ?_⟩
  · rw [sL_get, Option.map_eq_none_iff, List.getElem?_eq_none_iff] at hz
    obtain rfl : k = 3 := by have : NAMES.length = 3 := rfl; omega
    have e3 : NAMES.take 3 = NAMES := rfl
    rw [e3]
    repeat (walk_at "x")
    refine ⟨(show 2 ≤ slim by decide), fun k3 => ?_⟩
    refine TSetItem.ofF (p := ("S", "$end")) (by walk_at "mput") .here (by decide) (by decide) ?_
    clear hz hk w v
    refine TS.sub2 (mh' := (d, XF (pairs4 NAMES) G0) :: mh) ?_ (by walk_at "s2")
    repeat (walk_at "x")
    refine TCall.range (n := 3) ?_
    intro rg
    have hpl := hR.len
    have h6 := hok.hi
    refine TLoop.range0 (n := 3) (fun k m' mh' => k ≤ 3 ∧ Ex3 fun v1 v2 v3 => Ex3 fun v4 v5 v6 => Ex3 fun v7 v8 v9 => IsM m' [("rules", some (.ref r)), ("first", some (.ref fd)), ("vanish", some (.ref vd)), ("name", v1), ("t", v2), ("follow", some (.ref d)), ("_", v3), ("number", v4), ("symbols", v5), ("place", v6), ("s", v7), ("far", v8), ("other", v9)] ∧
      IsH mh' ((rg, .range 0 3 1) :: (d, XF (pairs4 NAMES) (roundsG rs first V k)) :: mh)) .here (by decide) ⟨by decide, _, _, _, _, _, _, _, _, _, rfl, rfl⟩ ?_
    rintro k _ _ ⟨hk, v1, v2, v3, v4, v5, v6, v7, v8, v9, rfl, rfl⟩
    refine ⟨fun hz => ?_, fun hz => ?_⟩
    · obtain rfl : k = 3 := by omega
      repeat (walk_at "x")
      exact Drop.of (hQ d) (by walk_at "s2")
    · walk_at "x"
      repeat (walk_at "x")
      refine TCall.enumL (by walk_at "lat") ?_
      intro en ei eo heo
      refine TLoop.enum0 (.enumL r) (seqK_list _ r) rfl heo (fun n m' mh' => n ≤ rs.length ∧ Ex4 fun v1 v2 v4 v5 => Ex4 fun v6 v7 v8 v9 => IsM m' (gL r fd vd d v1 v2 (some (.int k 0)) v4 v5 v6 v7 v8 v9) ∧
        IsH mh' ((rg, .range 0 3 1) :: (d, XF (pairs4 NAMES) (stG rs first V k n)) :: mh)) 6 ⟨Nat.zero_le _, _, _, _, _, _, _, _, _, rfl, rfl⟩ ?_
      clear v1 v2 v3 v4 v5 v6 v7 v8 v9
      rintro n _ _ ⟨hn2, v1, v2, v4, v5, v6, v7, v8, v9, rfl, rfl⟩
      refine ⟨ps, by walk_at "lat", by omega, fun hz => ?_, fun x hz => ?_⟩
      · obtain rfl : n = rs.length := by omega
        repeat (walk_at "x")
        exact ⟨by omega, _, _, _, _, _, _, _, _, _, rfl, by rw [roundsG_succ]⟩
      · obtain ⟨p, l, nm, ss, rfl, hrs, hp, hl⟩ := hR.get hz
        have hnlt : n < rs.length := (List.getElem?_eq_some_iff.mp hrs).1
        have hro := hok.each _ (List.mem_of_getElem? hrs)
        refine ⟨by omega, fun tt => ?_⟩
        refine TA.tuple .here ?_ rfl rfl
        repeat (walk_at "x")
        refine TA.tuple (by walk_at "mhas") ?_ rfl rfl
        repeat (walk_at "x")
        refine Drop.of (mh' := (rg, .range 0 3 1) :: (d, XF (pairs4 NAMES) (stG rs first V k n)) :: mh) ?_ (by walk_at "s2")
        repeat (walk_at "x")
        refine TCall.enumL (by walk_at "lat") ?_
        clear en ei eo heo
        intro en ei eo heo
        (with_reducible rename Hid _ _ => hq)
        rw [stG_succ hrs] at hq
        generalize stG rs first V k n = G1 at hq ⊢
        refine TLoop.enum0 (.enumL l) (seqK_list _ l) rfl heo (fun j m' mh' => j ≤ ss.length ∧ Ex2 fun v2 v6 => Ex3 fun v7 v8 v9 => IsM m' (gL r fd vd d (some (.str nm 0)) v2 (some (.int k 0)) (some (.int n 0)) (some (.ref l)) v6 v7 v8 v9) ∧
          IsH mh' ((rg, .range 0 3 1) :: (d, XF (pairs4 NAMES) ((ss.zipIdx.take j).foldl (gPlace first V n nm ss) G1)) :: mh)) ss.length ⟨Nat.zero_le _, _, _, _, _, _, rfl, rfl⟩ ?_
        clear v1 v2 v4 v5 v6 v7 v8 v9
        rintro j _ _ ⟨hj, v2, v6, v7, v8, v9, rfl, rfl⟩
        refine ⟨sL ss, by walk_at "lat", by rw [sL_len]; omega, fun hz => ?_, fun x hz => ?_⟩
        · rw [sL_len] at hz
          obtain rfl : j = ss.length := by omega
          repeat (walk_at "x")
          refine ⟨by omega, _, _, _, _, _, _, _, _, rfl, ?_⟩
          rw [List.take_of_length_le (by simp)]; rfl
        · rw [sL_get] at hz
          obtain ⟨s, hs1, rfl⟩ := Option.map_eq_some_iff.mp hz
          have hjl := (List.getElem?_eq_some_iff.mp hs1).1
          refine ⟨hjl, fun t2 => ?_⟩
          refine TA.tuple .here ?_ rfl rfl
          repeat (walk_at "x")
          have hzi : (ss.zipIdx)[j]? = some (s, j) := by rw [List.getElem?_zipIdx, hs1]; simp
          rw [foldl_take hzi]
          generalize (ss.zipIdx.take j).foldl (gPlace first V n nm ss) G1 = G2
          repeat (walk_at "x")
          refine Drop.of (mh' := (rg, .range 0 3 1) :: (d, XF (pairs4 NAMES) G2) :: mh) ?_ (by walk_at "s2")
          refine TS.drop ?_
          repeat (walk_at "x")
          refine names_spec (by show 0 < c.n - 1; omega) ?_
          intro nl2
          refine TCmp.inL (xs := NAMES) (by walk_at "lat") ?_
          repeat (walk_at "x")
          refine ⟨fun hin => ?_, fun hin => ?_⟩
          · have hsN : s ∈ NAMES := of_decide_eq_true hin
            refine TS.sub2 (mh' := (rg, .range 0 3 1) :: (d, XF (pairs4 NAMES) G2) :: mh) ?_ (by walk_at "s2")
            repeat (walk_at "x")
            refine TCall.max2 ?_
            repeat (walk_at "x")
            refine ⟨((j + 1 : Nat) : Int), rfl, ?_⟩
            walk_at "x"
            have hsl : ss.length ≤ 2 := hro.len
            have hsS : ∀ x ∈ NAMES, x ∈ SYM := by decide
            refine ⟨l, sL ss, rfl, by walk_at "lat", by rw [sL_len]; unfold slim; omega, fun cu => ?_⟩
            have ec : cut (sL ss) (some ((j + 1 : Nat) : Int)) none = sL (ss.drop (j + 1)) := by rw [cut_from]; unfold sL; rw [List.map_drop]
            rw [ec]
            have hos : ∀ x ∈ ss.drop (j + 1), x ∈ SYM := fun x hx => hro.syms x (List.mem_of_mem_drop hx)
            refine TLoop.list0 (xs0 := sL (ss.drop (j + 1))) (fun i m' mh' => i ≤ (ss.drop (j + 1)).length ∧ Ex2 fun v2 v9 => IsM m' (gL r fd vd d (some (.str nm 0)) v2 (some (.int k 0)) (some (.int n 0)) (some (.ref l)) (some (.int j 0)) (some (.str s 0)) (some (.int (((ss.drop (j + 1)).take i).foldl (gOther first V s) (G2, max ((n : Int) - 2) 0)).2 0)) v9) ∧
              IsH mh' ((cu, .list (sL (ss.drop (j + 1)))) :: (rg, .range 0 3 1) :: (d, XF (pairs4 NAMES) (((ss.drop (j + 1)).take i).foldl (gOther first V s) (G2, max ((n : Int) - 2) 0)).1) :: mh)) (ss.drop (j + 1)).length (.own .here) ⟨Nat.zero_le _, _, _, rfl, rfl⟩ ?_
            clear v2 v6 v7 v8 v9
            rintro i _ _ ⟨hi, v2, v9, rfl, rfl⟩
            refine ⟨sL (ss.drop (j + 1)), .own .here, fun hz => ?_, fun x hz => ?_⟩
            · rw [sL_get, Option.map_eq_none_iff, List.getElem?_eq_none_iff] at hz
              obtain rfl : i = (ss.drop (j + 1)).length := by omega
              rw [List.take_length]
              have eT : (ss.drop (j + 1)).foldl (gOther first V s) (G2, max ((n : Int) - 2) 0) = gTail first V n ss G2 (s, j) := rfl
              rw [eT]
              have eP : gPlace first V n nm ss G2 (s, j) = ABCE.foldl (gEnd s nm (gTail first V n ss G2 (s, j)).2) (gTail first V n ss G2 (s, j)).1 := by unfold gPlace; rw [if_pos hsN]
              generalize gTail first V n ss G2 (s, j) = S at eP ⊢
              repeat (walk_at "x")
              refine ⟨(show 4 ≤ slim by decide), fun q => ?_⟩
              refine TLoop.list0 (xs0 := sL ABCE) (fun u m' mh' => u ≤ 4 ∧ Ex2 fun v2 v9 => IsM m' (gL r fd vd d (some (.str nm 0)) v2 (some (.int k 0)) (some (.int n 0)) (some (.ref l)) (some (.int j 0)) (some (.str s 0)) (some (.int S.2 0)) v9) ∧
                IsH mh' ((q, .list (sL ABCE)) :: (cu, .list (sL (ss.drop (j + 1)))) :: (rg, .range 0 3 1) :: (d, XF (pairs4 NAMES) ((ABCE.take u).foldl (gEnd s nm S.2) S.1)) :: mh)) 4 (.own .here) ⟨Nat.zero_le _, _, _, rfl, rfl⟩ ?_
              clear v2 v9
              rintro u _ _ ⟨hu, v2, v9, rfl, rfl⟩
              refine ⟨sL ABCE, .own .here, fun hz => ?_, fun x hz => ?_⟩
              · rw [sL_get, Option.map_eq_none_iff, List.getElem?_eq_none_iff] at hz
                obtain rfl : u = 4 := by have : ABCE.length = 4 := rfl; omega
                repeat (walk_at "x")
                exact Drop.of ⟨by omega, _, _, _, _, _, rfl, by (rw [eP]); try rfl⟩ (by walk_at "s2")
              · rw [sL_get] at hz
                obtain ⟨t, ht1, rfl⟩ := Option.map_eq_some_iff.mp hz
                have ht4 : t ∈ ABCE := List.mem_of_getElem? ht1
                refine ⟨(List.getElem?_eq_some_iff.mp ht1).1, ?_⟩
                rw [foldl_take ht1]
                generalize (ABCE.take u).foldl (gEnd s nm S.2) S.1 = G3
                walk_at "x"
                refine TS.drop ?_
                repeat (walk_at "x")
                refine ⟨(show 2 ≤ slim by decide), fun k1 => ?_⟩
                refine TItem.ofF (p := (s, t)) (by walk_at "mhas") .here (mem_pairs4.mpr ⟨hsN, ht4⟩) ?_
                repeat (walk_at "x")
                refine ⟨(show 2 ≤ slim by decide), fun k2 => ?_⟩
                refine TItem.ofF (p := (nm, t)) (by walk_at "mhas") .here (mem_pairs4.mpr ⟨hro.name, ht4⟩) ?_
                repeat (walk_at "x")
                refine TCall.max2 ?_
                repeat (walk_at "x")
                refine TCall.min2 ?_
                refine TA.sub ?_
                repeat (walk_at "x")
                refine ⟨(show 2 ≤ slim by decide), fun k3 => ?_⟩
                refine TSetItem.ofF (p := (s, t)) (by walk_at "mput") .here (mem_pairs4.mpr ⟨hsN, ht4⟩) (by decide) ?_
                repeat (walk_at "x")
                exact Drop.of ⟨by have := (List.getElem?_eq_some_iff.mp ht1).1; have : ABCE.length = 4 := rfl; omega, _, _, rfl, rfl⟩ (by walk_at "s2")
            · rw [sL_get] at hz
              obtain ⟨o, ho1, rfl⟩ := Option.map_eq_some_iff.mp hz
              have hoS : o ∈ SYM := hos _ (List.mem_of_getElem? ho1)
              refine ⟨(List.getElem?_eq_some_iff.mp ho1).1, ?_⟩
              rw [foldl_take ho1]
              generalize ((ss.drop (j + 1)).take i).foldl (gOther first V s) (G2, max ((n : Int) - 2) 0) = S
              repeat (walk_at "x")
              refine ⟨(show 3 ≤ slim by decide), fun q => ?_⟩
              refine TLoop.list0 (xs0 := sL ABC) (fun u m' mh' => u ≤ 3 ∧ ∃ v2, IsM m' (gL r fd vd d (some (.str nm 0)) v2 (some (.int k 0)) (some (.int n 0)) (some (.ref l)) (some (.int j 0)) (some (.str s 0)) (some (.int S.2 0)) (some (.str o 0))) ∧
                IsH mh' ((q, .list (sL ABC)) :: (cu, .list (sL (ss.drop (j + 1)))) :: (rg, .range 0 3 1) :: (d, XF (pairs4 NAMES) ((ABC.take u).foldl (gStep first s o S.2) S.1)) :: mh)) 3 (.own .here) ⟨Nat.zero_le _, _, rfl, rfl⟩ ?_
              clear v2 v9
              rintro u _ _ ⟨hu, v2, rfl, rfl⟩
              refine ⟨sL ABC, .own .here, fun hz => ?_, fun x hz => ?_⟩
              · rw [sL_get, Option.map_eq_none_iff, List.getElem?_eq_none_iff] at hz
                obtain rfl : u = 3 := by have : ABC.length = 3 := rfl; omega
                refine TS.sub2 (mh' := (cu, .list (sL (ss.drop (j + 1)))) :: (rg, .range 0 3 1) :: (d, XF (pairs4 NAMES) ((ABC.take 3).foldl (gStep first s o S.2) S.1)) :: mh) ?_ (by walk_at "s2")
                repeat (walk_at "x")
                refine TItem.ofV (by walk_at "mhas") hoS ?_
                repeat (walk_at "x")
                refine TCall.max2 ?_
                repeat (walk_at "x")
                exact ⟨by have := (List.getElem?_eq_some_iff.mp ho1).1; omega, _, _, rfl, rfl⟩
              · rw [sL_get] at hz
                obtain ⟨t, ht1, rfl⟩ := Option.map_eq_some_iff.mp hz
                have htA : t ∈ ABC := List.mem_of_getElem? ht1
                have ht4 : t ∈ ABCE := by have : ∀ x ∈ ABC, x ∈ ABCE := by decide
                                          exact this _ htA
                refine ⟨(List.getElem?_eq_some_iff.mp ht1).1, ?_⟩
                rw [foldl_take ht1]
                generalize (ABC.take u).foldl (gStep first s o S.2) S.1 = G3
                walk_at "x"
                refine TS.drop ?_
                repeat (walk_at "x")
                refine ⟨(show 2 ≤ slim by decide), fun k1 => ?_⟩
                refine TItem.ofF (p := (s, t)) (by walk_at "mhas") .here (mem_pairs4.mpr ⟨hsN, ht4⟩) ?_
                repeat (walk_at "x")
                refine ⟨(show 2 ≤ slim by decide), fun k2 => ?_⟩
                refine TItem.ofF (p := (o, t)) (by walk_at "mhas") .here (mem_pairs.mpr ⟨hoS, htA⟩) ?_
                repeat (walk_at "x")
                refine TCall.max2 ?_
                repeat (walk_at "x")
                refine TCall.min2 ?_
                refine TA.sub ?_
                repeat (walk_at "x")
                refine ⟨(show 2 ≤ slim by decide), fun k3 => ?_⟩
                refine TSetItem.ofF (p := (s, t)) (by walk_at "mput") .here (mem_pairs4.mpr ⟨hsN, ht4⟩) (by decide) ?_
                repeat (walk_at "x")
                exact Drop.of ⟨by have := (List.getElem?_eq_some_iff.mp ht1).1; have : ABC.length = 3 := rfl; omega, _, rfl, rfl⟩ (by walk_at "s2")
          · have hsN : s ∉ NAMES := of_decide_eq_false hin
            repeat (walk_at "x")
            exact Drop.of ⟨by omega, _, _, _, _, _, rfl, by unfold gPlace; rw [if_neg hsN]⟩ (by walk_at "s2")
  · rw [sL_get] at hz
    obtain ⟨s, hs1, rfl⟩ := Option.map_eq_some_iff.mp hz
    have hk3 : k < 3 := (List.getElem?_eq_some_iff.mp hs1).1
    refine ⟨hk3, ?_⟩
    walk_at "x"
    refine TRun.drop (TRun.next rfl rfl rfl (fun _ => rfl) ?_)
    repeat (walk_at "x")
    refine ⟨(show 4 ≤ slim by decide), fun q => ?_⟩
    refine TSrc.list (xs := sL ABCE) (.own .here) ?_
    intro it2
    refine CompBlock.list (fun j m' mh' => j ≤ 4 ∧ ∃ w, IsM m' [("name", some (.str s 0)), ("t", w)] ∧ IsH mh' ((q, .list (sL ABCE)) :: (d, XF (pairs4 (NAMES.take k) ++ (ABCE.take j).map fun t => (s, t)) G9) :: (nl, .list (sL NAMES)) :: mh)) 4 ⟨rfl, rfl⟩ ⟨by decide, _, rfl, by rw [List.take_zero, List.map_nil, List.append_nil]; rfl⟩ ?_
    rintro j _ _ ⟨hj, w, rfl, rfl⟩
    refine ⟨sL ABCE, .own .here, fun hz => ?_, fun x hz => ?_⟩
    · rw [sL_get, Option.map_eq_none_iff, List.getElem?_eq_none_iff] at hz
      obtain rfl : j = 4 := by have : ABCE.length = 4 := rfl; omega
      repeat (walk_at "x")
      refine Drop.of (mh' := (d, XF (pairs4 (NAMES.take (k + 1))) G9) :: (nl, .list (sL NAMES)) :: mh) ⟨by omega, _, _, rfl, rfl⟩ ?_
      have : pairs4 (NAMES.take (k + 1)) = pairs4 (NAMES.take k) ++ (ABCE.take 4).map fun t => (s, t) := by
        rw [List.take_add_one, hs1]; simp [pairs4, ABCE]
      rw [this]
      walk_at "s2"
    · rw [sL_get] at hz
      obtain ⟨t, ht1, rfl⟩ := Option.map_eq_some_iff.mp hz
      have hj4 : j < 4 := (List.getElem?_eq_some_iff.mp ht1).1
      refine ⟨hj4, ?_⟩
      walk_at "x"
      refine TRun.drop (TRun.last ?_ rfl rfl)
      repeat (walk_at "x")
      refine ⟨(show 2 ≤ slim by decide), fun kt => ?_⟩
      have hnew : (s, t) ∉ pairs4 (NAMES.take k) ++ (ABCE.take j).map fun t => (s, t) := by
        rw [List.mem_append, not_or, mem_pairs4]
        refine ⟨fun h => not_in_take (by decide) hs1 h.1, fun h => ?_⟩
        obtain ⟨t', h1, h2⟩ := List.mem_map.mp h
        cases h2
        exact not_in_take (by decide) ht1 h1
      have hlen : (pairs4 (NAMES.take k) ++ (ABCE.take j).map fun t => (s, t)).length ≤ 100 := by
        rw [List.length_append, pairs4_len, List.length_map, List.length_take, List.length_take]; omega
      have hst : ABCE.take (j + 1) = ABCE.take j ++ [t] := by rw [List.take_add_one, ht1]; rfl
      repeat (walk_at "x")
      refine TDSet.ofF (F := G9) (p := (s, t)) (.there (.there .here)) .here hnew hlen ?_
      repeat (walk_at "x")
      refine Drop.of ⟨by omega, _, rfl, rfl⟩ ?_
      rw [hst, List.map_append, ← List.append_assoc]
      walk_at "s2"
end
section
open PySem PySem.W PySem.Calls PyProof.Rows
variable {c : Sit} {m : Loc} {mh mh' : MH} {Q : Value → Loc → MH → Prop}
noncomputable def EMPTY : PySem.Str := "<empty>"
/-- a dict from strs to lists of strs -/
noncomputable def TabAt (mh : MH) (d : Addr) (keys : List PySem.Str) (A : PySem.Str → Addr) (T : PySem.Str → List PySem.Str) : Prop :=
  MHas mh d (.dict (enc (fun s => s) keys fun s => .ref (A s))) ∧ ∀ s ∈ keys, MHas mh (A s) (.list (sL (T s)))
theorem TabAt.mono {mh mh' : MH} {d : Addr} {keys : List PySem.Str} {A : PySem.Str → Addr} {T : PySem.Str → List PySem.Str} (x : TabAt mh d keys A T) (k : ∀ a o, MHas mh a o → MHas mh' a o) : TabAt mh' d keys A T :=
  ⟨k _ _ x.1, fun s hs => k _ _ (x.2 s hs)⟩
theorem TabAt.sub {d : Addr} {keys : List PySem.Str} {A : PySem.Str → Addr} {T : PySem.Str → List PySem.Str} {s : PySem.Str} (x : TabAt mh d keys A T) (hs : s ∈ keys) (h : Q (.ref (A s)) m mh) : TSub c m mh (.ref d) (.str s 0) Q :=
  TSub.dict x.1 (.inl rfl) (TItem.dict x.1 (.inl rfl) (by rw [vAt_k, kAt_enc (g := fun s => s) (fun _ _ e => e) hs]) h)
noncomputable def opensOf (ss : List PySem.Str) (T : PySem.Str → List PySem.Str) : List PySem.Str := (ss.zipIdx.filter fun p => (ss.take p.2).all fun o => decide (EMPTY ∈ T o)).map (·.1)
noncomputable def frontOf (ss : List PySem.Str) (T : PySem.Str → List PySem.Str) : List PySem.Str :=
  ((opensOf ss T).flatMap fun s => (T s).filter fun t => !decide (t = EMPTY)) ++ if ss.all (fun s => decide (EMPTY ∈ T s)) then [EMPTY] else []
theorem flat_len {f : PySem.Str → List PySem.Str} : ∀ {l : List PySem.Str}, (∀ s ∈ l, (f s).length ≤ 10) → (l.flatMap f).length ≤ 10 * l.length
  | [], _ => by simp
  | a :: l, h => by
    have h1 := h a (.head _)
    have h2 := flat_len (l := l) fun s hs => h s (.tail _ hs)
    rw [List.flatMap_cons, List.length_append, List.length_cons]; omega
set_option maxHeartbeats 8000000 in
theorem front_spec (hn : 2 < c.n) {sy fd : Addr} {ss keys : List PySem.Str} {A : PySem.Str → Addr} {T : PySem.Str → List PySem.Str} (hs : MHas mh sy (.list (sL ss))) (hlen : ss.length ≤ 2) (hT : TabAt mh fd keys A T) (hk : ∀ s ∈ ss, s ∈ keys) (hl : ∀ s ∈ keys, (T s).length ≤ 10)
    (hQ : ∀ r, Q (.ref r) m ((r, .list (sL (frontOf ss T))) :: mh)) (hW : Ctx c := by assumption) : TCall c m mh (.ref fFront.f) [.ref sy, .ref fd] [] Q := by
  refine TCall.defC fFront hW.front (by omega) [("opens", none), ("front", none)] [some (.ref sy), some (.ref fd)] (fun L => [("first", L + 2), ("symbols", L + 1)]) ?_ rfl rfl rfl (fun _ => rfl) fun L => ?_
  · intro as' e
    obtain ⟨a, b, rfl⟩ := len_two e
    rfl
  have hW' : Ctx (c.intoC fFront L [("first", L + 2), ("symbols", L + 1)]) := hW
  refine TS.drop ?_
  show TS _ _ ((L + 1, .cell (some (.ref sy))) :: (L + 2, .cell (some (.ref fd))) :: mh) _ _
  with_unfolding_all refine TS.consA ?_
  intro QH hid
  refine TS1.assignList [("symbols", L + 1), ("first", L + 2)] [("symbols", L + 1), ("first", L + 2)] ["place", "s"] rfl rfl (by unfold CompNames; decide) (CC.cons (CC.cons (CC.nil rfl) (.inl rfl) rfl rfl rfl) (.inl rfl) rfl rfl rfl) (fun _ => rfl) ?_
  repeat (walk_at "x")
  refine TCall.enumL (by walk_at "lat") ?_
  intro en ei eo heo
  refine TSrc.enum (src := .enumL sy) rfl heo ?_
  intro r L'
  refine CompBlock.enum (.enumL sy) (seqK_list _ sy) rfl (fun k m' mh' => k ≤ ss.length ∧ Ex2 fun v w => IsM m' [("place", v), ("s", w)] ∧ IsH mh' ((r, .list (sL (((ss.zipIdx.take k).filter fun p => (ss.take p.2).all fun o => decide (EMPTY ∈ T o)).map (·.1)))) :: (L + 1, .cell (some (.ref sy))) :: (L + 2, .cell (some (.ref fd))) :: mh)) 2 ⟨rfl, rfl⟩ ⟨Nat.zero_le _, _, _, rfl, rfl⟩ ?_
  rintro k _ _ ⟨hk0, v, w, rfl, rfl⟩
  refine ⟨sL ss, by walk_at "lat", by rw [sL_len]; exact hk0, fun hz => ?_, fun x hz => ?_⟩
  · rw [sL_len] at hz
    subst hz
    repeat (walk_at "x")
    have eo2 : (((ss.zipIdx.take ss.length).filter fun p => (ss.take p.2).all fun o => decide (EMPTY ∈ T o)).map (·.1)) = opensOf ss T := by
      rw [List.take_of_length_le (by simp)]; rfl
    rw [eo2]
    have hol : (opensOf ss T).length ≤ 2 := by
      unfold opensOf
      rw [List.length_map]
      have := List.length_filter_le (fun p : PySem.Str × Nat => (ss.take p.2).all fun o => decide (EMPTY ∈ T o)) ss.zipIdx
      rw [List.length_zipIdx] at this; omega
    have hos : ∀ s ∈ opensOf ss T, s ∈ keys := by
      intro s hs
      unfold opensOf at hs
      obtain ⟨⟨a, i⟩, h1, rfl⟩ := List.mem_map.mp hs
      have h2 := (List.mem_filter.mp h1).1
      exact hk _ (List.mem_of_getElem? (List.mem_zipIdx_iff_getElem?.mp h2))
    unfold frontOf at hQ
    generalize opensOf ss T = os at hol hos hQ
    refine TS1.assignList [("first", L + 2)] [("first", L + 2)] ["s", "t"] rfl rfl (by unfold CompNames; decide) (CC.cons (CC.nil rfl) (by first | exact .inl rfl | exact .inr rfl) rfl rfl rfl) (fun _ => rfl) ?_
    repeat (walk_at "x")
    refine TSrc.list (xs := sL os) (.own .here) ?_
    intro it3 r3 L3
    refine CompBlock.list (fun k m' mh' => k ≤ os.length ∧ Ex2 fun v w => IsM m' [("s", v), ("t", w)] ∧ IsH mh' ((r3, .list (sL ((os.take k).flatMap fun s => (T s).filter fun t => !decide (t = EMPTY)))) :: (r, .list (sL os)) :: (L + 1, .cell (some (.ref sy))) :: (L + 2, .cell (some (.ref fd))) :: mh)) 2 ⟨rfl, rfl, rfl⟩ ⟨Nat.zero_le _, _, _, rfl, rfl⟩ ?_
    rintro k _ _ ⟨hk0, v, w, rfl, rfl⟩
    refine ⟨sL os, by walk_at "lat", fun hz => ?_, fun x hz => ?_⟩
    · rw [sL_get, Option.map_eq_none_iff, List.getElem?_eq_none_iff] at hz
      obtain rfl : k = os.length := by omega
      rw [List.take_length]
      repeat (walk_at "x")
      have hfr : (os.flatMap fun s => (T s).filter fun t => !decide (t = EMPTY)).length ≤ 20 := by
        have := flat_len (f := fun s => (T s).filter fun t => !decide (t = EMPTY)) (l := os) (fun s hs => Nat.le_trans (List.length_filter_le _ _) (hl s (hos s hs)))
        omega
      generalize (os.flatMap fun s => (T s).filter fun t => !decide (t = EMPTY)) = fr at hfr hQ
      refine TE.listComp [("first", L + 2)] [("first", L + 2)] ["s"] (by unfold CompNames; decide) (CC.cons (CC.nil rfl) (by first | exact .inl rfl | exact .inr rfl) rfl rfl rfl) (fun _ => rfl) ?_
      repeat (walk_at "x")
      refine TSrc.list (xs := sL ss) (by walk_at "lat") ?_
      intro it5 r5 L5
      refine CompBlock.list (fun j m' mh' => j ≤ ss.length ∧ ∃ v, IsM m' [("s", v)] ∧ IsH mh' ((r5, .list (bL ((ss.take j).map fun o => decide (EMPTY ∈ T o)))) :: (r3, .list (sL fr)) :: (r, .list (sL os)) :: (L + 1, .cell (some (.ref sy))) :: (L + 2, .cell (some (.ref fd))) :: mh)) 2 ⟨rfl, rfl⟩ ⟨Nat.zero_le _, _, rfl, rfl⟩ ?_
      rintro j _ _ ⟨hj, v, rfl, rfl⟩
      refine ⟨sL ss, by walk_at "lat", fun hz => ?_, fun x hz => ?_⟩
      · rw [sL_get, Option.map_eq_none_iff, List.getElem?_eq_none_iff] at hz
        obtain rfl : j = ss.length := by omega
        rw [List.take_length]
        repeat (walk_at "x")
        refine TCall.all (by walk_at "lat") ?_
        repeat (walk_at "x")
        have ea : (ss.map fun o => decide (EMPTY ∈ T o)).all id = ss.all fun o => decide (EMPTY ∈ T o) := by rw [List.all_map]; rfl
        rw [ea]
        refine ⟨fun h => ?_, fun h => ?_⟩
        · rw [if_pos h] at hQ
          repeat (walk_at "x")
          refine ⟨(show 1 ≤ slim by decide), fun e1 => ?_⟩
          refine TBin.addL (xs := sL fr) (ys := sL [EMPTY]) (by walk_at "lat") (.own .here) (by rw [sL_len]; show _ + 1 ≤ slim; unfold slim; omega) ?_
          intro rr
          rw [← sL_app]
          repeat (walk_at "x")
          exact Drop.of (hQ rr) (by walk_at "s2")
        · rw [if_neg (by rw [h]; decide)] at hQ
          repeat (walk_at "x")
          refine ⟨(show 0 ≤ slim by decide), fun e1 => ?_⟩
          refine TBin.addL (xs := sL fr) (ys := sL []) (by walk_at "lat") (.own .here) (by rw [sL_len]; show _ + 0 ≤ slim; unfold slim; omega) ?_
          intro rr
          rw [← sL_app]
          repeat (walk_at "x")
          exact Drop.of (hQ rr) (by walk_at "s2")
      · rw [sL_get] at hz
        obtain ⟨o, ho1, rfl⟩ := Option.map_eq_some_iff.mp hz
        have hok := hk _ (List.mem_of_getElem? ho1)
        have hjl := (List.getElem?_eq_some_iff.mp ho1).1
        refine ⟨by omega, ?_⟩
        walk_at "x"
        refine TRun.last ?_ rfl rfl
        repeat (walk_at "x")
        have hTo := hT.2 o hok
        refine TabAt.sub (hT.mono fun a o x => (by walk_at "mhas")) hok ?_
        refine TCmp.inL (xs := T o) (by walk_at "lat") ?_
        refine TApp.mk .here (by unfold bL; rw [List.length_map, List.length_map, List.length_take]; unfold slim; omega) ⟨by omega, _, rfl, ?_⟩
        rw [List.take_add_one (i := j), ho1, List.map_append]
        unfold bL
        rw [List.map_append]
        rfl
    · rw [sL_get] at hz
      obtain ⟨s, hs1, rfl⟩ := Option.map_eq_some_iff.mp hz
      have hkl := (List.getElem?_eq_some_iff.mp hs1).1
      have hsK := hos _ (List.mem_of_getElem? hs1)
      have hTs := hT.2 s hsK
      have hl10 := hl s hsK
      refine ⟨by omega, ?_⟩
      walk_at "x"
      refine TRun.next rfl rfl rfl (fun _ => rfl) ?_
      repeat (walk_at "x")
      refine TabAt.sub (hT.mono fun a o x => (by walk_at "mhas")) hsK ?_
      refine TSrc.list (xs := sL (T s)) (by walk_at "lat") ?_
      intro it4
      have hacc : ((os.take k).flatMap fun s => (T s).filter fun t => !decide (t = EMPTY)).length ≤ 1000 := by
        have := flat_len (f := fun s => (T s).filter fun t => !decide (t = EMPTY)) (l := os.take k) (fun s hs => Nat.le_trans (List.length_filter_le _ _) (hl s (hos s (List.mem_of_mem_take hs))))
        rw [List.length_take] at this; omega
      have hst : ((os.take (k + 1)).flatMap fun s => (T s).filter fun t => !decide (t = EMPTY)) = ((os.take k).flatMap fun s => (T s).filter fun t => !decide (t = EMPTY)) ++ (T s).filter fun t => !decide (t = EMPTY) := by
        rw [List.take_add_one, hs1, List.flatMap_append]; simp
      rw [hst]
      generalize ((os.take k).flatMap fun s => (T s).filter fun t => !decide (t = EMPTY)) = acc at hacc
      refine CompBlock.list (fun j m' mh' => j ≤ (T s).length ∧ ∃ w, IsM m' [("s", some (.str s 0)), ("t", w)] ∧ IsH mh' ((r3, .list (sL (acc ++ ((T s).take j).filter fun t => !decide (t = EMPTY)))) :: (r, .list (sL os)) :: (L + 1, .cell (some (.ref sy))) :: (L + 2, .cell (some (.ref fd))) :: mh)) 10 ⟨rfl, rfl⟩ ⟨Nat.zero_le _, _, rfl, by rw [List.take_zero, List.filter_nil, List.append_nil]⟩ ?_
      rintro j _ _ ⟨hj, w, rfl, rfl⟩
      refine ⟨sL (T s), by walk_at "lat", fun hz => ?_, fun x hz => ?_⟩
      · rw [sL_get, Option.map_eq_none_iff, List.getElem?_eq_none_iff] at hz
        obtain rfl : j = (T s).length := by omega
        exact ⟨by omega, _, _, rfl, by rw [List.take_length]⟩
      · rw [sL_get] at hz
        obtain ⟨t, ht1, rfl⟩ := Option.map_eq_some_iff.mp hz
        have hjl := (List.getElem?_eq_some_iff.mp ht1).1
        refine ⟨by omega, ?_⟩
        walk_at "x"
        refine TRun.test ?_ rfl rfl
        repeat (walk_at "x")
        have hfl := List.length_filter_le (fun t => !decide (t = EMPTY)) ((T s).take j)
        rw [List.length_take] at hfl
        refine ⟨fun h => ?_, fun h => ?_⟩
        · repeat (walk_at "x")
          refine TApp.mk .here (by rw [sL_len, List.length_append]; unfold slim; omega) ⟨by omega, _, rfl, ?_⟩
          have ef : (T s).take (j + 1) = (T s).take j ++ [t] := by rw [List.take_add_one, ht1]; rfl
          have eg : ([t].filter fun t => !decide (t = EMPTY)) = [t] := by rw [List.filter_cons_of_pos (by exact h), List.filter_nil]
          rw [ef, List.filter_append, eg, ← List.append_assoc, sL_app (acc ++ _)]
          rfl
        · refine ⟨by omega, _, rfl, ?_⟩
          have ef : (T s).take (j + 1) = (T s).take j ++ [t] := by rw [List.take_add_one, ht1]; rfl
          have eg : ([t].filter fun t => !decide (t = EMPTY)) = [] := by rw [List.filter_cons_of_neg (by intro q; exact absurd (h.symm.trans q) (by decide)), List.filter_nil]
          rw [ef, List.filter_append, eg, List.append_nil]
  · rw [sL_get] at hz
    obtain ⟨s, hs1, rfl⟩ := Option.map_eq_some_iff.mp hz
    have hkl := (List.getElem?_eq_some_iff.mp hs1).1
    refine ⟨by omega, fun tt => ?_⟩
    refine TA.tuple .here ?_ rfl rfl
    repeat (walk_at "x")
    have hzi : (ss.zipIdx)[k]? = some (s, k) := by rw [List.getElem?_zipIdx, hs1]; simp
    have hst : ss.zipIdx.take (k + 1) = ss.zipIdx.take k ++ [(s, k)] := by rw [List.take_add_one, hzi]; rfl
    rw [hst, List.filter_append, List.map_append, sL_app]
    have hal : (((ss.zipIdx.take k).filter fun p => (ss.take p.2).all fun o => decide (EMPTY ∈ T o)).map (·.1)).length ≤ 2 := by
      rw [List.length_map]
      have := List.length_filter_le (fun p : PySem.Str × Nat => (ss.take p.2).all fun o => decide (EMPTY ∈ T o)) (ss.zipIdx.take k)
      rw [List.length_take] at this; omega
    generalize (((ss.zipIdx.take k).filter fun p => (ss.take p.2).all fun o => decide (EMPTY ∈ T o)).map (·.1)) = acc at hal ⊢
    repeat (walk_at "x")
    refine Drop.of (mh' := (r, .list (sL acc)) :: (L + 1, .cell (some (.ref sy))) :: (L + 2, .cell (some (.ref fd))) :: mh) ?_ (by walk_at "s2")
    refine TRun.drop (TRun.test ?_ rfl rfl)
    repeat (walk_at "x")
    refine TE.listComp [("first", L + 2)] [("first", L + 2)] ["other"] (by unfold CompNames; decide) (CC.cons (CC.nil rfl) (by first | exact .inl rfl | exact .inr rfl) rfl rfl rfl) (fun _ => rfl) ?_
    repeat (walk_at "x")
    refine ⟨(k : Int), rfl, ?_⟩
    refine ⟨sy, sL ss, rfl, by walk_at "lat", by rw [sL_len]; unfold slim; omega, fun cu => ?_⟩
    have ec : cut (sL ss) none (some (k : Int)) = sL (ss.take k) := by rw [cut_to]; unfold sL; rw [List.map_take]
    rw [ec]
    refine TSrc.list (.own .here) ?_
    intro it2 r2 L2
    refine CompBlock.list (fun j m' mh' => j ≤ (ss.take k).length ∧ ∃ v, IsM m' [("other", v)] ∧ IsH mh' ((r2, .list (bL (((ss.take k).take j).map fun o => decide (EMPTY ∈ T o)))) :: (cu, .list (sL (ss.take k))) :: (r, .list (sL acc)) :: (L + 1, .cell (some (.ref sy))) :: (L + 2, .cell (some (.ref fd))) :: mh)) 2 ⟨rfl, rfl⟩ ⟨Nat.zero_le _, _, rfl, rfl⟩ ?_
    rintro j _ _ ⟨hj, v, rfl, rfl⟩
    refine ⟨sL (ss.take k), by walk_at "lat", fun hz => ?_, fun x hz => ?_⟩
    · rw [sL_get, Option.map_eq_none_iff, List.getElem?_eq_none_iff] at hz
      obtain rfl : j = (ss.take k).length := by omega
      rw [List.take_length]
      repeat (walk_at "x")
      refine TCall.all (by walk_at "lat") ?_
      repeat (walk_at "x")
      have ea : ((ss.take k).map fun o => decide (EMPTY ∈ T o)).all id = (ss.take k).all fun o => decide (EMPTY ∈ T o) := by rw [List.all_map]; rfl
      rw [ea]
      refine ⟨fun h => ?_, fun h => ?_⟩
      · repeat (walk_at "x")
        refine TApp.mk (by walk_at "mput") (by rw [sL_len]; unfold slim; omega) ?_
        repeat (walk_at "x")
        refine Drop.of ⟨by omega, _, _, rfl, rfl⟩ ?_
        have ef : ([(s, k)].filter fun p => (ss.take p.2).all fun o => decide (EMPTY ∈ T o)) = [(s, k)] := by rw [List.filter_cons_of_pos (by exact h), List.filter_nil]
        rw [ef]
        walk_at "s2"
      · repeat (walk_at "x")
        refine Drop.of ⟨by omega, _, _, rfl, rfl⟩ ?_
        have ef : ([(s, k)].filter fun p => (ss.take p.2).all fun o => decide (EMPTY ∈ T o)) = [] := by rw [List.filter_cons_of_neg (by show ¬ ((ss.take k).all fun o => decide (EMPTY ∈ T o)) = true; rw [h]; decide), List.filter_nil]
        rw [ef, List.map_nil, show sL [] = [] from rfl, List.append_nil]
        walk_at "s2"
    · rw [sL_get] at hz
      obtain ⟨o, ho1, rfl⟩ := Option.map_eq_some_iff.mp hz
      have hok : o ∈ keys := hk _ (List.mem_of_mem_take (List.mem_of_getElem? ho1))
      have hjl := (List.getElem?_eq_some_iff.mp ho1).1
      refine ⟨by rw [List.length_take] at hjl; omega, ?_⟩
      walk_at "x"
      refine TRun.last ?_ rfl rfl
      repeat (walk_at "x")
      have hTo := hT.2 o hok
      refine TabAt.sub (hT.mono fun a o x => (by walk_at "mhas")) hok ?_
      refine TCmp.inL (xs := T o) (by walk_at "lat") ?_
      refine TApp.mk .here (by unfold bL; rw [List.length_map, List.length_map, List.length_take, List.length_take]; unfold slim; omega) ⟨by omega, _, rfl, ?_⟩
      rw [List.take_add_one (i := j), ho1, List.map_append]
      unfold bL
      rw [List.map_append]
      rfl
end
section
open PySem PySem.W PySem.Calls PyProof.Rows
variable {c : Sit} {m : Loc} {mh mh' : MH} {Q : Value → Loc → MH → Prop}
noncomputable def dueOf (front follow : List PySem.Str) : List PySem.Str := (front.filter fun t => !decide (t = EMPTY)) ++ if EMPTY ∈ front then follow else []
noncomputable def newAt (p : Rule) (T W : PySem.Str → List PySem.Str) (q : PySem.Str × Nat) : Bool := !decide (q.1 ∈ NAMES) || (dueOf (frontOf (p.2.drop (q.2 + 1)) T) (W p.1)).all fun t => decide (t ∈ W q.1)
noncomputable def newOf (p : Rule) (T W : PySem.Str → List PySem.Str) : Bool :=
  (frontOf p.2 T).all (fun t => decide (t ∈ T p.1)) && p.2.zipIdx.all (newAt p T W)
theorem front_len {ss : List PySem.Str} {T : PySem.Str → List PySem.Str} (h2 : ss.length ≤ 2) (h : ∀ s ∈ ss, (T s).length ≤ 10) : (frontOf ss T).length ≤ 21 := by
  have h1 : (opensOf ss T).length ≤ 2 := by
    unfold opensOf
    rw [List.length_map]
    have := List.length_filter_le (fun p : PySem.Str × Nat => (ss.take p.2).all fun o => decide (EMPTY ∈ T o)) ss.zipIdx
    rw [List.length_zipIdx] at this; omega
  have h3 : ∀ s ∈ opensOf ss T, ((T s).filter fun t => !decide (t = EMPTY)).length ≤ 10 := by
    intro s hs
    unfold opensOf at hs
    obtain ⟨⟨a, i⟩, q1, rfl⟩ := List.mem_map.mp hs
    have q2 := (List.mem_filter.mp q1).1
    exact Nat.le_trans (List.length_filter_le _ _) (h _ (List.mem_of_getElem? (List.mem_zipIdx_iff_getElem?.mp q2)))
  have h4 := flat_len h3
  unfold frontOf
  rw [List.length_append]
  split <;> simp only [List.length_cons, List.length_nil] <;> omega
theorem RuleOk.nameS {p : Rule} (h : RuleOk p) : p.1 ∈ SYM := by
  have : ∀ s ∈ NAMES, s ∈ SYM := by decide
  exact this _ h.name
set_option maxHeartbeats 8000000 in
theorem new_spec (hn : 3 < c.n) {rp fd wd l : Addr} {p : Rule} {kf kw : List PySem.Str} {A B : PySem.Str → Addr} {T W : PySem.Str → List PySem.Str} (hp : MHas mh rp (.tup [.str p.1 0, .ref l])) (hl : MHas mh l (.list (sL p.2))) (hok : RuleOk p)
    (hT : TabAt mh fd kf A T) (hW2 : TabAt mh wd kw B W) (hkf : ∀ s ∈ SYM, s ∈ kf) (hkw : ∀ s ∈ NAMES, s ∈ kw) (hTl : ∀ s ∈ kf, (T s).length ≤ 10) (hWl : ∀ s ∈ kw, (W s).length ≤ 10)
    (hQ : Q (.bool (newOf p T W)) m mh) (hW : Ctx c := by assumption) : TCall c m mh (.ref fNew.f) [.ref rp, .ref fd, .ref wd] [] Q := by
  refine TCall.defC fNew hW.new_ (by omega) [("rule", some (.ref rp)), ("symbols", none), ("place", none), ("front", none), ("due", none)] [some (.ref fd), some (.ref wd), none, none] (fun L => [("s", L + 4), ("name", L + 3), ("follow", L + 2), ("first", L + 1)]) ?_ rfl rfl rfl (fun _ => rfl) fun L => ?_
  · intro as' e
    obtain ⟨a, b, d, rfl⟩ := len_three e
    rfl
  have hW' : Ctx (c.intoC fNew L [("s", L + 4), ("name", L + 3), ("follow", L + 2), ("first", L + 1)]) := hW
  refine TS.drop ?_
  show TS _ _ ((L + 1, .cell (some (.ref fd))) :: (L + 2, .cell (some (.ref wd))) :: (L + 3, .cell none) :: (L + 4, .cell none) :: mh) _ _
  with_unfolding_all refine TS.consA ?_
  intro QH hid
  repeat (walk_at "x")
  refine TA.tuple (by walk_at "mhas") ?_ rfl rfl
  repeat (walk_at "x")
  refine TE.listComp [("name", L + 3), ("first", L + 1)] [("name", L + 3), ("first", L + 1)] ["t"] (by unfold CompNames; decide) (CC.cons (CC.cons (CC.nil rfl) (by first | exact .inl rfl | exact .inr rfl) rfl rfl rfl) (by first | exact .inl rfl | exact .inr rfl) rfl rfl rfl) (fun _ => rfl) ?_
  repeat (walk_at "x")
  refine front_spec (T := T) (keys := kf) (A := A) (by show 2 < c.n - 1; omega) (by walk_at "mhas") hok.len (hT.mono fun a o x => (by walk_at "mhas")) (fun s hs => hkf s (hok.syms s hs)) hTl ?_
  intro fr
  refine TSrc.list (xs := sL (frontOf p.2 T)) (.own .here) ?_
  intro it r L'
  have hfl : (frontOf p.2 T).length ≤ 21 := front_len hok.len fun s hs => hTl s (hkf s (hok.syms s hs))
  unfold newOf at hQ
  generalize frontOf p.2 T = F at hfl hQ
  refine CompBlock.list (fun j m' mh' => j ≤ F.length ∧ ∃ v, IsM m' [("t", v)] ∧ IsH mh' ((r, .list (bL ((F.take j).map fun t => !decide (t ∈ T p.1)))) :: (fr, .list (sL F)) :: (L + 1, .cell (some (.ref fd))) :: (L + 2, .cell (some (.ref wd))) :: (L + 3, .cell (some (.str p.1 0))) :: (L + 4, .cell none) :: mh)) F.length ⟨rfl, rfl⟩ ⟨Nat.zero_le _, _, rfl, rfl⟩ ?_
  rintro j _ _ ⟨hj, v, rfl, rfl⟩
  refine ⟨sL F, by walk_at "lat", fun hz => ?_, fun x hz => ?_⟩
  · rw [sL_get, Option.map_eq_none_iff, List.getElem?_eq_none_iff] at hz
    obtain rfl : j = F.length := by omega
    rw [List.take_length]
    repeat (walk_at "x")
    refine TCall.any (by walk_at "lat") ?_
    repeat (walk_at "x")
    have ea : (F.map fun t => !decide (t ∈ T p.1)).any id = !(F.all fun t => decide (t ∈ T p.1)) := by
      rw [List.any_map, List.not_all_eq_any_not]; rfl
    rw [ea]
    refine ⟨fun h => ?_, fun h => ?_⟩
    · have hf : (F.all fun t => decide (t ∈ T p.1)) = false := by simpa using h
      rw [hf, Bool.false_and] at hQ
      repeat (walk_at "x")
      exact Drop.of hQ (by walk_at "s2")
    · have hf : (F.all fun t => decide (t ∈ T p.1)) = true := by simpa using h
      rw [hf, Bool.true_and] at hQ
      repeat (walk_at "x")
      refine TCall.sub2 (mh' := (L + 1, .cell (some (.ref fd))) :: (L + 2, .cell (some (.ref wd))) :: (L + 3, .cell (some (.str p.1 0))) :: (L + 4, .cell none) :: mh) ?_ (by walk_at "s2")
      refine TCall.enumL (by walk_at "lat") ?_
      intro en ei eo heo
      refine TLoop.enum0 (.enumL l) (seqK_list _ l) rfl heo (fun k m' mh' => k ≤ p.2.length ∧ ((p.2.zipIdx.take k).all (newAt p T W)) = true ∧ Ex4 fun v1 v2 v3 v4 => IsM m' [("rule", some (.ref rp)), ("symbols", some (.ref l)), ("place", v1), ("front", v2), ("due", v3)] ∧
        IsH mh' ((L + 1, .cell (some (.ref fd))) :: (L + 2, .cell (some (.ref wd))) :: (L + 3, .cell (some (.str p.1 0))) :: (L + 4, .cell v4) :: mh)) p.2.length ⟨Nat.zero_le _, rfl, _, _, _, _, rfl, rfl⟩ ?_
      rintro k _ _ ⟨hk, hall, v1, v2, v3, v4, rfl, rfl⟩
      refine ⟨sL p.2, by walk_at "lat", by rw [sL_len]; exact hk, fun hz => ?_, fun x hz => ?_⟩
      · rw [sL_len] at hz
        subst hz
        rw [List.take_of_length_le (by simp)] at hall
        rw [hall] at hQ
        repeat (walk_at "x")
        exact Drop.of hQ (by walk_at "s2")
      · rw [sL_get] at hz
        obtain ⟨s, hs1, rfl⟩ := Option.map_eq_some_iff.mp hz
        have hkl := (List.getElem?_eq_some_iff.mp hs1).1
        refine ⟨hkl, fun tt => ?_⟩
        refine TA.tuple .here ?_ rfl rfl
        repeat (walk_at "x")
        have hzi : (p.2.zipIdx)[k]? = some (s, k) := by rw [List.getElem?_zipIdx, hs1]; simp
        have hst : ((p.2.zipIdx.take (k + 1)).all (newAt p T W)) = newAt p T W (s, k) := by
          rw [List.take_add_one, hzi, List.all_append, hall]; simp
        repeat (walk_at "x")
        refine Drop.of (mh' := (L + 1, .cell (some (.ref fd))) :: (L + 2, .cell (some (.ref wd))) :: (L + 3, .cell (some (.str p.1 0))) :: (L + 4, .cell (some (.str s 0))) :: mh) ?_ (by walk_at "s2")
        refine TS.drop ?_
        repeat (walk_at "x")
        refine names_spec (by show 0 < c.n - 1; omega) ?_
        intro nl2
        refine TCmp.inL (xs := NAMES) (by walk_at "lat") ?_
        repeat (walk_at "x")
        refine ⟨fun hin => ?_, fun hin => ?_⟩
        · have hsN : s ∈ NAMES := of_decide_eq_true hin
          refine TS.sub2 (mh' := (L + 1, .cell (some (.ref fd))) :: (L + 2, .cell (some (.ref wd))) :: (L + 3, .cell (some (.str p.1 0))) :: (L + 4, .cell (some (.str s 0))) :: mh) ?_ (by walk_at "s2")
          repeat (walk_at "x")
          refine ⟨((k + 1 : Nat) : Int), rfl, ?_⟩
          walk_at "x"
          refine ⟨l, sL p.2, rfl, by walk_at "lat", by rw [sL_len]; have := hok.len; unfold slim; omega, fun cu => ?_⟩
          have ec : cut (sL p.2) (some ((k + 1 : Nat) : Int)) none = sL (p.2.drop (k + 1)) := by rw [cut_from]; unfold sL; rw [List.map_drop]
          rw [ec]
          have hos : ∀ x ∈ p.2.drop (k + 1), x ∈ SYM := fun x hx => hok.syms x (List.mem_of_mem_drop hx)
          have hol : (p.2.drop (k + 1)).length ≤ 2 := by rw [List.length_drop]; have := hok.len; omega
          repeat (walk_at "x")
          refine front_spec (T := T) (keys := kf) (A := A) (by show 2 < c.n - 1; omega) (by walk_at "mhas") hol (hT.mono fun a o x => (by walk_at "mhas")) (fun s hs => hkf s (hos s hs)) hTl ?_
          intro f2
          have hfl2 : (frontOf (p.2.drop (k + 1)) T).length ≤ 21 := front_len hol fun s hs => hTl s (hkf s (hos s hs))
          unfold newAt at hst
          dsimp only at hst
          rw [hin, Bool.not_true, Bool.false_or] at hst
          generalize frontOf (p.2.drop (k + 1)) T = F2 at hfl2 hst
          repeat (walk_at "x")
          refine TE.listComp [] [] ["t"] (by unfold CompNames; decide) (CC.nil rfl) (fun _ => rfl) ?_
          repeat (walk_at "x")
          refine TSrc.list (xs := sL F2) (by walk_at "lat") ?_
          intro it3 r3 L3
          refine CompBlock.list (fun j m' mh' => j ≤ F2.length ∧ ∃ v, IsM m' [("t", v)] ∧ IsH mh' ((r3, .list (sL ((F2.take j).filter fun t => !decide (t = EMPTY)))) :: (f2, .list (sL F2)) :: (cu, .list (sL (p.2.drop (k + 1)))) :: (L + 1, .cell (some (.ref fd))) :: (L + 2, .cell (some (.ref wd))) :: (L + 3, .cell (some (.str p.1 0))) :: (L + 4, .cell (some (.str s 0))) :: mh)) F2.length ⟨rfl, rfl⟩ ⟨Nat.zero_le _, _, rfl, rfl⟩ ?_
          rintro j _ _ ⟨hj, v, rfl, rfl⟩
          refine ⟨sL F2, by walk_at "lat", fun hz => ?_, fun x hz => ?_⟩
          · rw [sL_get, Option.map_eq_none_iff, List.getElem?_eq_none_iff] at hz
            obtain rfl : j = F2.length := by omega
            rw [List.take_length]
            have hfr : (F2.filter fun t => !decide (t = EMPTY)).length ≤ 21 := Nat.le_trans (List.length_filter_le _ _) hfl2
            refine TE.ext (fun v h' => ∃ b, v = .ref b ∧ LAt (c.intoC fNew L [("s", L + 4), ("name", L + 3), ("follow", L + 2), ("first", L + 1)]) h' b (sL (if EMPTY ∈ F2 then W p.1 else []))) ?_ ?_
            · repeat (walk_at "x")
              refine TCmp.inL (xs := F2) (by walk_at "lat") ?_
              repeat (walk_at "x")
              refine ⟨fun h => ?_, fun h => ?_⟩
              · have hWo := hW2.2 p.1 (hkw p.1 hok.name)
                repeat (walk_at "x")
                refine TabAt.sub (hW2.mono fun a o x => (by walk_at "mhas")) (hkw p.1 hok.name) ?_
                refine ⟨rfl, [], rfl, _, rfl, ?_⟩
                rw [if_pos (show EMPTY ∈ F2 from of_decide_eq_true h)]
                walk_at "lat"
              · repeat (walk_at "x")
                refine ⟨(show 0 ≤ slim by decide), fun e1 => ?_⟩
                refine ⟨rfl, [(e1, .list [])], rfl, _, rfl, ?_⟩
                rw [if_neg (show ¬ EMPTY ∈ F2 from of_decide_eq_false h)]
                exact .own .here
            · rintro _ pre ⟨b, rfl, hb⟩
              have hwl : (if EMPTY ∈ F2 then W p.1 else []).length ≤ 10 := by
                split
                · exact hWl _ (hkw _ hok.name)
                · exact Nat.zero_le _
              unfold dueOf at hst
              generalize (if EMPTY ∈ F2 then W p.1 else []) = ys at hb hwl hst
              generalize (F2.filter fun t => !decide (t = EMPTY)) = xs at hfr hst hb ⊢
              refine TBin.addL (xs := sL xs) (ys := sL ys) (by walk_at "lat") hb (by rw [sL_len, sL_len]; unfold slim; omega) ?_
              intro dd
              rw [← sL_app]
              have hdl : (xs ++ ys).length ≤ 31 := by rw [List.length_append]; omega
              generalize xs ++ ys = D at hst hdl
              walk_at "x"
              refine TS.sub2 (mh' := (dd, .list (sL D)) :: (L + 1, .cell (some (.ref fd))) :: (L + 2, .cell (some (.ref wd))) :: (L + 3, .cell (some (.str p.1 0))) :: (L + 4, .cell (some (.str s 0))) :: mh) ?_ (by walk_at "s2")
              clear hb
              repeat (walk_at "x")
              refine TE.listComp [("s", L + 4), ("follow", L + 2)] [("s", L + 4), ("follow", L + 2)] ["t"] (by unfold CompNames; decide) (CC.cons (CC.cons (CC.nil rfl) (by first | exact .inl rfl | exact .inr rfl) rfl rfl rfl) (by first | exact .inl rfl | exact .inr rfl) rfl rfl rfl) (fun _ => rfl) ?_
              repeat (walk_at "x")
              refine TSrc.list (xs := sL D) (by walk_at "lat") ?_
              intro it4 r4 L4
              refine CompBlock.list (fun j m' mh' => j ≤ D.length ∧ ∃ v, IsM m' [("t", v)] ∧ IsH mh' ((r4, .list (bL ((D.take j).map fun t => !decide (t ∈ W s)))) :: (dd, .list (sL D)) :: (L + 1, .cell (some (.ref fd))) :: (L + 2, .cell (some (.ref wd))) :: (L + 3, .cell (some (.str p.1 0))) :: (L + 4, .cell (some (.str s 0))) :: mh)) D.length ⟨rfl, rfl⟩ ⟨Nat.zero_le _, _, rfl, rfl⟩ ?_
              rintro j _ _ ⟨hj, v, rfl, rfl⟩
              refine ⟨sL D, by walk_at "lat", fun hz => ?_, fun x hz => ?_⟩
              · rw [sL_get, Option.map_eq_none_iff, List.getElem?_eq_none_iff] at hz
                obtain rfl : j = D.length := by omega
                rw [List.take_length]
                repeat (walk_at "x")
                refine TCall.any (by walk_at "lat") ?_
                repeat (walk_at "x")
                have ea2 : (D.map fun t => !decide (t ∈ W s)).any id = !(D.all fun t => decide (t ∈ W s)) := by
                  rw [List.any_map, List.not_all_eq_any_not]; rfl
                rw [ea2]
                refine ⟨fun h => ?_, fun h => ?_⟩
                · have hf2 : (D.all fun t => decide (t ∈ W s)) = false := by simpa using h
                  rw [hf2] at hst
                  have : p.2.zipIdx.all (newAt p T W) = false := by
                    rw [← Bool.not_eq_true]
                    intro q
                    have : (p.2.zipIdx.take (k + 1)).all (newAt p T W) = true := List.all_eq_true.mpr fun x hx => List.all_eq_true.mp q x (List.mem_of_mem_take hx)
                    exact absurd (hst.symm.trans this) (by decide)
                  rw [this] at hQ
                  repeat (walk_at "x")
                  refine Drop.of ?_ Sub2.refl
                  repeat (walk_at "x")
                  exact Drop.of hQ (by walk_at "s2")
                · have hf2 : (D.all fun t => decide (t ∈ W s)) = true := by simpa using h
                  rw [hf2] at hst
                  repeat (walk_at "x")
                  exact Drop.of ⟨hkl, hst, _, _, _, _, rfl, rfl⟩ (by walk_at "s2")
              · rw [sL_get] at hz
                obtain ⟨t, ht1, rfl⟩ := Option.map_eq_some_iff.mp hz
                have hjl := (List.getElem?_eq_some_iff.mp ht1).1
                refine ⟨by omega, ?_⟩
                walk_at "x"
                refine TRun.last ?_ rfl rfl
                repeat (walk_at "x")
                have hWo := hW2.2 s (hkw s hsN)
                refine TabAt.sub (hW2.mono fun a o x => (by walk_at "mhas")) (hkw s hsN) ?_
                refine TCmp.ninL (xs := W s) (by walk_at "lat") ?_
                refine TApp.mk .here (by unfold bL; rw [List.length_map, List.length_map, List.length_take]; unfold slim; omega) ⟨by omega, _, rfl, ?_⟩
                rw [List.take_add_one (i := j), ht1, List.map_append]
                unfold bL
                rw [List.map_append]
                rfl
          · rw [sL_get] at hz
            obtain ⟨t, ht1, rfl⟩ := Option.map_eq_some_iff.mp hz
            have hjl := (List.getElem?_eq_some_iff.mp ht1).1
            have ef : F2.take (j + 1) = F2.take j ++ [t] := by rw [List.take_add_one, ht1]; rfl
            have hfl3 := List.length_filter_le (fun t => !decide (t = EMPTY)) (F2.take j)
            rw [List.length_take] at hfl3
            refine ⟨by omega, ?_⟩
            walk_at "x"
            refine TRun.test ?_ rfl rfl
            repeat (walk_at "x")
            refine ⟨fun h => ?_, fun h => ?_⟩
            · repeat (walk_at "x")
              refine TApp.mk .here (by rw [sL_len]; unfold slim; omega) ⟨by omega, _, rfl, ?_⟩
              have eg : ([t].filter fun t => !decide (t = EMPTY)) = [t] := by rw [List.filter_cons_of_pos (by exact h), List.filter_nil]
              rw [ef, List.filter_append, eg, sL_app]
              rfl
            · refine ⟨by omega, _, rfl, ?_⟩
              have eg : ([t].filter fun t => !decide (t = EMPTY)) = [] := by rw [List.filter_cons_of_neg (by intro q; exact absurd (h.symm.trans q) (by decide)), List.filter_nil]
              rw [ef, List.filter_append, eg, List.append_nil]
        · repeat (walk_at "x")
          refine Drop.of ⟨hkl, ?_, _, _, _, _, rfl, rfl⟩ (by walk_at "s2")
          rw [hst]; unfold newAt; dsimp only; rw [hin]; rfl
  · rw [sL_get] at hz
    obtain ⟨t, ht1, rfl⟩ := Option.map_eq_some_iff.mp hz
    have hjl := (List.getElem?_eq_some_iff.mp ht1).1
    refine ⟨by omega, ?_⟩
    walk_at "x"
    refine TRun.last ?_ rfl rfl
    repeat (walk_at "x")
    have hTo := hT.2 p.1 (hkf p.1 hok.nameS)
    refine TabAt.sub (hT.mono fun a o x => (by walk_at "mhas")) (hkf p.1 hok.nameS) ?_
    refine TCmp.ninL (xs := T p.1) (by walk_at "lat") ?_
    refine TApp.mk .here (by unfold bL; rw [List.length_map, List.length_map, List.length_take]; unfold slim; omega) ⟨by omega, _, rfl, ?_⟩
    rw [List.take_add_one (i := j), ht1, List.map_append]
    unfold bL
    rw [List.map_append]
    rfl
end
section
open PySem PySem.W PySem.Calls PyProof.Rows
variable {c : Sit} {m : Loc} {mh mh' : MH} {Q : Value → Loc → MH → Prop}
theorem sym_facts : ∀ s ∈ SYM, s.length = 1 ∧ s.cps.size = 1 ∧ (s.cps.all (· < 128)) = true ∧ (∀ ch ∈ s.cps, (Builtin.Str.occurrences (PySem.Str.ofString "abcdefghijklmnopqrstuvwxyzABCDEFGHIJKLMNOPQRSTUVWXYZ0123456789_-") ⟨#[ch]⟩ 0 (PySem.Str.ofString "abcdefghijklmnopqrstuvwxyzABCDEFGHIJKLMNOPQRSTUVWXYZ0123456789_-").length 1).isEmpty = false) := by decide +kernel
theorem ident_spec (hn : 0 < c.n) {s : PySem.Str} (hs : s ∈ SYM) (hQ : Q (.bool true) m mh) (hW : Ctx c := by assumption) : TCall c m mh (.ref fIdent.f) [.str s 0] [] Q := by
  obtain ⟨f1, f2, f3, f4⟩ := sym_facts s hs
  refine TCall.def_ fIdent hW.ident hn [("s", some (.str s 0))] [] ?_ rfl rfl (by decide) fun L => ?_
  · intro as' e s X
    obtain ⟨a, rfl⟩ := List.length_eq_one_iff.mp e
    exact BindsTo.of_eq rfl
  refine TS.drop ?_
  with_unfolding_all refine TS.consA ?_
  intro QH hid
  repeat (walk_at "x")
  refine TCall.lenS (by rw [f1]; decide) ?_
  repeat (walk_at "x")
  rw [f1]
  refine ⟨fun _ => ?_, fun h => by cases h⟩
  repeat (walk_at "x")
  refine TE.listComp [] [] ["c"] (by unfold CompNames; decide) (CC.nil rfl) (fun _ => rfl) ?_
  repeat (walk_at "x")
  refine TSrc.str f3 ?_
  intro it t r L'
  refine CompBlock.str (fun k m' mh' => k ≤ s.cps.size ∧ ∃ v, IsM m' [("c", v)] ∧ IsH mh' ((r, .list (bL (List.replicate k true))) :: mh)) ⟨rfl, rfl⟩ ⟨Nat.zero_le _, _, rfl, rfl⟩ ?_
  rintro k _ _ ⟨hk, v, rfl, rfl⟩
  refine ⟨fun hz => ?_, fun ch hz => ?_⟩
  · repeat (walk_at "x")
    refine TCall.all (by walk_at "lat") ?_
    have ea : (List.replicate k true).all id = true := by simp
    rw [ea]
    repeat (walk_at "x")
    exact Drop.of hQ (by walk_at "s2")
  · have hkl := (Array.getElem?_eq_some_iff.mp hz).1
    walk_at "x"
    refine TRun.last ?_ rfl rfl
    repeat (walk_at "x")
    refine TCmp.inS ?_
    rw [f4 ch (Array.mem_of_getElem? hz)]
    refine TApp.mk .here (by unfold bL; simp; unfold slim; omega) ⟨by omega, _, rfl, ?_⟩
    rw [List.replicate_succ', bL, bL, List.map_append]
    rfl
end
section
open PySem PySem.W PySem.Calls PyProof.Rows
variable {c : Sit} {m : Loc} {mh mh' : MH} {Q : Value → Loc → MH → Prop}
theorem right_spec (hn : 0 < c.n) {sy td : Addr} {ss : List PySem.Str} {kvs : List (PySem.Str × Value)} (hs : MHas mh sy (.list (sL ss))) (hlen : ss.length ≤ 2) (ht : MHas mh td (.dict kvs)) (hQ : ∀ v, (v = .none ∨ ∃ x, v = .str x 0) → Q v m mh) (hW : Ctx c := by assumption) :
    TCall c m mh (.ref fRight.f) [.ref sy, .ref td] [] Q := by
  refine TCall.def_ fRight hW.right hn [("symbols", some (.ref sy)), ("terminals", some (.ref td)), ("i", none)] [] ?_ rfl rfl (by decide) fun L => ?_
  · intro as' e s X
    obtain ⟨a, b, rfl⟩ := len_two e
    exact BindsTo.of_eq rfl
  with_unfolding_all refine TS.consA ?_
  intro QH hid
  repeat (walk_at "x")
  refine TCall.len (by walk_at "lat") (by rw [sL_len]; unfold slim; omega) ?_
  rw [sL_len]
  repeat (walk_at "x")
  refine TS1.while_ (fun n m' mh' => n ≤ ss.length ∧ IsM m' [("symbols", some (.ref sy)), ("terminals", some (.ref td)), ("i", some (.int ((n : Int) - 1) 0))] ∧ IsH mh' mh) ss.length ⟨Nat.le_refl _, rfl, rfl⟩ ?_
  rintro n _ _ ⟨hk, rfl, rfl⟩
  repeat (walk_at "x")
  refine ⟨fun h => ?_, fun h => ?_⟩
  · have hn1 : 1 ≤ n := by have := of_decide_eq_true h; omega
    obtain ⟨k, rfl⟩ : ∃ k, n = k + 1 := ⟨n - 1, by omega⟩
    have ek : ((k + 1 : Nat) : Int) - 1 = (k : Int) := by omega
    rw [ek]
    have hg : (sL ss)[((k : Int)).toNat]? = some (.str ss[k] 0) := by rw [sL_get]; simp
    repeat (walk_at "x")
    refine TSub.list (by walk_at "lat") (TItem.list (by walk_at "lat") (by omega) (by omega) hg ?_)
    repeat (walk_at "x")
    refine TCmp.inD (by walk_at "mhas") (.inl rfl) ?_
    repeat (walk_at "x")
    refine ⟨fun h2 => ?_, fun h2 => ?_⟩
    · repeat (walk_at "x")
      refine TSub.list (by walk_at "lat") (TItem.list (by walk_at "lat") (by omega) (by omega) hg ?_)
      repeat (walk_at "x")
      exact hQ _ (.inr ⟨_, rfl⟩)
    · repeat (walk_at "x")
      refine TS1.subI (j := 1) (by walk_at "has") ?_
      repeat (walk_at "x")
      refine ⟨rfl, _, by walk_at "put", ?_⟩
      repeat (walk_at "x")
      exact ⟨k, Nat.lt_succ_self _, by omega, rfl, rfl⟩
  · repeat (walk_at "x")
    repeat (walk_at "x")
    exact hQ _ (.inl rfl)
/-! a production -/
/-- what is kept of a production: its name and its symbols -/
structure ProdAt (mh : MH) (p : Addr) (r : Rule) : Prop where
  at_ : ∃ dx tp as, MHas mh p (.inst aP dx) ∧ MHas mh dx (.dict as) ∧ VHas as "name" (.str r.1 0) ∧ VHas as "prod" (.ref tp) ∧ MHas mh tp (.tup (sL r.2))
theorem ProdAt.mono {p : Addr} {r : Rule} (x : ProdAt mh p r) (k : ∀ a o, MHas mh a o → MHas mh' a o) : ProdAt mh' p r := by
  obtain ⟨dx, tp, as, h1, h2, h3, h4, h5⟩ := x.at_
  exact ⟨dx, tp, as, k _ _ h1, k _ _ h2, h3, h4, k _ _ h5⟩
theorem join_facts : ∀ ss : List PySem.Str, ss.length ≤ 2 → (∀ s ∈ ss, s ∈ SYM) → JoinOk (PySem.Str.ofString " ") ss = true ∧ (Txt.join (PySem.Str.ofString " ") ss).length ≤ 1000000 := by
  have h1 : JoinOk (PySem.Str.ofString " ") [] = true ∧ (Txt.join (PySem.Str.ofString " ") []).length ≤ 1000000 := by decide +kernel
  have h2 : ∀ a ∈ SYM, JoinOk (PySem.Str.ofString " ") [a] = true ∧ (Txt.join (PySem.Str.ofString " ") [a]).length ≤ 1000000 := by decide +kernel
  have h3 : ∀ a ∈ SYM, ∀ b ∈ SYM, JoinOk (PySem.Str.ofString " ") [a, b] = true ∧ (Txt.join (PySem.Str.ofString " ") [a, b]).length ≤ 1000000 := by decide +kernel
  intro ss hl hs
  match ss, hl, hs with
  | [], _, _ => exact h1
  | [a], _, hs => exact h2 a (hs a (by simp))
  | [a, b], _, hs => exact h3 a (hs a (by simp)) b (hs b (by simp))
set_option maxHeartbeats 8000000 in
theorem pinit_spec (hn : 0 < c.n) {x dx sy : Addr} {nm : PySem.Str} {ss : List PySem.Str} {num prec func file line : Value} (hok : RuleOk (nm, ss)) (hs : MHas mh sy (.list (sL ss)))
    (hQ : ∀ b p, ProdAt b p (nm, ss) → p = x → Q .none m (b ++ mh)) (hW : Ctx c := by assumption) :
    TCode c m ((x, .inst aP dx) :: (dx, .dict []) :: mh) (.ref fPInit.f) [.ref x, num, .str nm 0, .ref sy, prec, func, file, line] Q := by
  refine TCode.def_ fPInit hW.pinit hn [("self", some (.ref x)), ("number", some num), ("name", some (.str nm 0)), ("prod", some (.ref sy)), ("precedence", some prec), ("func", some func), ("file", some file), ("line", some line), ("s", none)] [] ?_ rfl rfl (by decide) fun L => ?_
  · intro as' e s X
    obtain ⟨a1, a2, a3, a4, a5, a6, a7, a8, rfl⟩ := len_eight e
    obtain ⟨nd, sld, hdP⟩ := hW.dP
    exact BindsTo.of_defaults rfl (X _ _ hdP) rfl rfl rfl
  have hW' : Ctx (c.into fPInit L) := hW
  have hsl : ss.length ≤ 2 := hok.len
  refine TS.drop ?_
  with_unfolding_all refine TS.consA ?_
  intro QH hid
  repeat (walk_at "x")
  refine TCall.tupleL (by walk_at "lat") (by rw [sL_len]; unfold slim; omega) ?_
  intro tp
  repeat (walk_at "x")
  refine TCall.lenT (by walk_at "mhas") (by rw [sL_len]; unfold slim; omega) ?_
  rw [sL_len]
  repeat (walk_at "x")
  refine ⟨(show 0 ≤ slim by decide), fun us => ?_⟩
  repeat (walk_at "x")
  refine TLoop.tup (xs0 := sL ss) (fun k m' mh' => k ≤ ss.length ∧ Ex2 fun v vs => IsM m' [("self", some (.ref x)), ("number", some num), ("name", some (.str nm 0)), ("prod", some (.ref sy)), ("precedence", some prec), ("func", some func), ("file", some file), ("line", some line), ("s", v)] ∧ vs.length ≤ k ∧
    IsH mh' ((us, .list (sL vs)) :: (tp, .tup (sL ss)) :: (x, .inst aP dx) :: (dx, .dict [("name", .str nm 0), ("prod", .ref tp), ("number", num), ("func", func), ("callable", .none), ("file", file), ("line", line), ("prec", prec), ("len", .int ss.length 0), ("usyms", .ref us)]) :: mh)) (by walk_at "mhas") ⟨Nat.zero_le _, _, [], rfl, Nat.le_refl _, rfl⟩ ?_
  rintro J hJ k _ _ ⟨hk, v, vs, rfl, hv, rfl⟩
  refine ⟨by walk_at "mhas", fun hz => ?_, fun x' hz => ?_⟩
  · repeat (walk_at "x")
    refine ⟨(show 0 ≤ slim by decide), fun li => ?_⟩
    repeat (walk_at "x")
    refine TV.tup (xs := sL ss) (by walk_at "mhas") (by rw [sL_len]; unfold slim; omega) ?_
    have fin : ∀ us' lr z, Drop ((lr, .list []) :: (us, .list us') :: (tp, .tup (sL ss)) :: (x, .inst aP dx) :: (dx, .dict [("name", .str nm 0), ("prod", .ref tp), ("number", num), ("func", func), ("callable", .none), ("file", file), ("line", line), ("prec", prec), ("len", .int ss.length 0), ("usyms", .ref us), ("lr_items", .ref lr), ("lr_next", .none), ("str", z)]) :: mh) (fun mh' => Q .none m mh') := by
      intro us' lr z
      repeat (walk_at "x")
      refine Drop.of (hQ [(lr, .list []), (us, .list us'), (tp, .tup (sL ss)), (x, .inst aP dx), (dx, .dict [("name", .str nm 0), ("prod", .ref tp), ("number", num), ("func", func), ("callable", .none), ("file", file), ("line", line), ("prec", prec), ("len", .int ss.length 0), ("usyms", .ref us), ("lr_items", .ref lr), ("lr_next", .none), ("str", z)])] x ⟨dx, tp, _, by walk_at "mhas", by walk_at "mhas", by walk_at "vhas", by walk_at "vhas", by walk_at "mhas"⟩ rfl) (by walk_at "s2")
    refine ⟨fun h => ?_, fun h => ?_⟩
    · repeat (walk_at "x")
      refine ⟨nm, .str, Nat.le_trans (Nat.le_of_eq (sym_facts nm hok.nameS).1) (by decide), ?_⟩
      repeat (walk_at "x")
      refine TGet.str PySem.F.slot_str_join PySem.F.type_str_join ?_
      repeat (walk_at "x")
      refine TCall.joinT (xs := ss) (by walk_at "mhas") (join_facts ss hsl hok.syms).1 (fun z hz2 => ?_) (join_facts ss hsl hok.syms).2
      refine ⟨z, .str, hz2, ?_⟩
      repeat (walk_at "x")
      exact fin _ _ _
    · repeat (walk_at "x")
      refine TBin.fmtE (by decide +kernel) (Nat.le_trans (Nat.le_of_eq (sym_facts nm hok.nameS).1) (by decide)) ?_
      intro z
      repeat (walk_at "x")
      exact fin _ _ _
  · rw [sL_get] at hz
    obtain ⟨s, hs1, rfl⟩ := Option.map_eq_some_iff.mp hz
    have hkl := (List.getElem?_eq_some_iff.mp hs1).1
    repeat (walk_at "x")
    refine TCmp.ninL (xs := vs) (by walk_at "lat") ?_
    repeat (walk_at "x")
    refine ⟨fun h => ?_, fun h => ?_⟩
    · repeat (walk_at "x")
      refine TGet.append (by walk_at "mhas") ?_
      repeat (walk_at "x")
      refine TCall.append (by walk_at "mput") (by rw [sL_len]; unfold slim; omega) ?_
      repeat (walk_at "x")
      exact ⟨by omega, _, vs ++ [s], rfl, by rw [List.length_append]; simp; omega, by rw [sL_app]; rfl⟩
    · repeat (walk_at "x")
      exact ⟨by omega, _, vs, rfl, by omega, rfl⟩
end
section
open PySem PySem.W PySem.Calls PyProof.Rows
variable {c : Sit} {m : Loc} {mh mh' : MH} {Q : Value → Loc → MH → Prop}
noncomputable def TERM : List PySem.Str := ["a", "b", "c", "error"]
noncomputable def mapOf (r : Rule) : PySem.Str := r.1 ++ PySem.Str.ofString " -> " ++ (PyData.list (r.2.map .str)).shown
inductive ProdsAt (blk : MH) : List Value → List Rule → Prop
  | nil : ProdsAt blk [] []
  | cons {p r ps rs} : ProdAt blk p r → ProdsAt blk ps rs → ProdsAt blk (.ref p :: ps) (r :: rs)
theorem ProdsAt.mono {b b' : MH} {ps : List Value} {rs : List Rule} (x : ProdsAt b ps rs) (k : ∀ a o, MHas b a o → MHas b' a o) : ProdsAt b' ps rs := by
  induction x with
  | nil => exact .nil
  | cons h _ ih => exact .cons (h.mono k) ih
theorem ProdsAt.snoc {b : MH} {ps : List Value} {rs : List Rule} {p : Addr} {r : Rule} (x : ProdsAt b ps rs) (h : ProdAt b p r) : ProdsAt b (ps ++ [.ref p]) (rs ++ [r]) := by
  induction x with
  | nil => exact .cons h .nil
  | cons a _ ih => exact .cons a ih
theorem ProdsAt.len {b : MH} {ps : List Value} {rs : List Rule} (x : ProdsAt b ps rs) : ps.length = rs.length := by
  induction x with
  | nil => rfl
  | cons _ _ ih => simp [ih]
theorem ProdsAt.get {b : MH} {ps : List Value} {rs : List Rule} (x : ProdsAt b ps rs) : ∀ {k : Nat} {v : Value}, ps[k]? = some v → ∃ p r, v = .ref p ∧ rs[k]? = some r ∧ ProdAt b p r := by
  induction x with
  | nil => intro k v e; simp at e
  | cons a _ ih =>
    intro k v e
    cases k with
    | zero => simp at e; subst e; exact ⟨_, _, rfl, rfl, a⟩
    | succ k => simpa using ih (by simpa using e)
noncomputable def named (ps : List Value) (rs : List Rule) (s : PySem.Str) : List Value := ((ps.zip rs).filter fun q => decide (q.2.1 = s)).map (·.1)
theorem named_snoc {ps : List Value} {rs : List Rule} (h : ps.length = rs.length) (p : Value) (r : Rule) (s : PySem.Str) : named (ps ++ [p]) (rs ++ [r]) s = named ps rs s ++ if r.1 = s then [p] else [] := by
  unfold named
  rw [List.zip_append h, List.filter_append, List.map_append]
  congr 1
  by_cases e : r.1 = s <;> simp [e]
theorem named_none {ps : List Value} {rs : List Rule} {s : PySem.Str} (h : ∀ r ∈ rs, r.1 ≠ s) : named ps rs s = [] := by
  unfold named
  rw [List.map_eq_nil_iff, List.filter_eq_nil_iff]
  intro q hq
  simp only [decide_eq_true_eq]
  exact h _ (List.of_mem_zip hq).2
/-- the fields of a grammar -/
noncomputable def gD (P PN PM Te No Fi Fo Pr UP : Addr) : List (PySem.Str × Value) := [("Productions", .ref P), ("Prodnames", .ref PN), ("Prodmap", .ref PM), ("Terminals", .ref Te), ("Nonterminals", .ref No), ("First", .ref Fi), ("Follow", .ref Fo), ("Precedence", .ref Pr), ("UsedPrecedence", .ref UP), ("Start", .none)]
/-- a grammar with its rules, nothing asked yet -/
inductive Gram (H : MH) (mh : MH) (g : Addr) (rs : List Rule) : Prop
  | mk (dx P PN PM Te No Fi Fo Pr UP : Addr) (o : Obj) (ps : List Value) (mk : List (PySem.Str × Value)) (NK KK : List PySem.Str) (TA NA KA : PySem.Str → Addr) (TT KT : PySem.Str → List Value) (blk : MH) :
    H = (g, .inst aG dx) :: (dx, .dict (gD P PN PM Te No Fi Fo Pr UP)) :: (P, .list (.none :: ps)) :: (PM, .dict mk) :: (Fi, .dict []) :: (Fo, .dict []) :: (Pr, .dict []) :: (UP, .raw o) :: (tabB Te TERM TA TT ++ (tabB No KK KA KT ++ (tabB PN NK NA (named ps rs) ++ (blk ++ mh)))) →
    ProdsAt blk ps rs → mk.map (·.1) = rs.map mapOf → NK.Nodup → KK.Nodup → (∀ s, s ∈ NK ↔ ∃ r ∈ rs, r.1 = s) → (∀ s ∈ KK, s ∈ NAMES) → (∀ r ∈ rs, r.1 ∈ KK ∧ ∀ s ∈ r.2, s ∈ NAMES → s ∈ KK) →
    (∀ s, (TT s).length ≤ 4 * rs.length) → (∀ s, (KT s).length ≤ 4 * rs.length) → Gram H mh g rs
noncomputable def ABCs : List PySem.Str := ["a", "b", "c"]
set_option maxHeartbeats 8000000 in
theorem gmake_spec (hn : 1 < c.n) {l : Addr} (hl : MHas mh l (.list (sL ABCs))) (hQ : ∀ g H, Gram H mh g [] → Q (.ref g) m H) (hW : Ctx c := by assumption) : TCall c m mh (.ref aG) [.ref l] [] Q := by
  refine TCall.drop (TCall.make hW.gmake (by omega) fun g dx => ?_)
  refine TCode.def_ fGInit hW.ginit (by show 0 < c.n - 1; omega) [("self", some (.ref g)), ("terminals", some (.ref l)), ("term", none)] [] ?_ rfl rfl (by decide) fun L => ?_
  · intro as' e s X
    obtain ⟨a, b, rfl⟩ := len_two e
    exact BindsTo.of_eq rfl
  have hW' : Ctx (c.less.into fGInit L) := hW
  with_unfolding_all refine TS.consA ?_
  intro QH hid
  repeat (walk_at "x")
  refine ⟨(show 1 ≤ slim by decide), fun P => ?_⟩
  repeat (walk_at "x")
  intro PN
  repeat (walk_at "x")
  intro PM
  repeat (walk_at "x")
  intro Te
  repeat (walk_at "x")
  refine TLoop.list (xs0 := sL ABCs) (fun k m' mh' => k ≤ 3 ∧ Ex3 fun v A T => IsM m' [("self", some (.ref g)), ("terminals", some (.ref l)), ("term", v)] ∧ (∀ s, T s = []) ∧
    IsH mh' (tabB Te (ABCs.take k) A T ++ ((PM, .dict []) :: (PN, .dict []) :: (P, .list [.none]) :: (g, .inst aG dx) :: (dx, .dict [("Productions", .ref P), ("Prodnames", .ref PN), ("Prodmap", .ref PM), ("Terminals", .ref Te)]) :: mh))) 3 (by walk_at "lat") ⟨by decide, _, fun _ => 0, fun _ => [], rfl, fun _ => rfl, rfl⟩ ?_
  rintro J hJ k _ _ ⟨hk, v, A, T, rfl, hT, rfl⟩
  have hdt := tabB_dict (d := Te) (keys := ABCs.take k) (A := A) (T := T)
  refine ⟨sL ABCs, by walk_at "lat", fun hz => ?_, fun x hz => ?_⟩
  · rw [sL_get, Option.map_eq_none_iff, List.getElem?_eq_none_iff] at hz
    obtain rfl : k = 3 := by have : ABCs.length = 3 := rfl; omega
    repeat (walk_at "x")
    refine ⟨(show 0 ≤ slim by decide), fun e1 => ?_⟩
    repeat (walk_at "x")
    refine TSetItem.tabNew (T := T) (A := A) (keys := ABCs.take 3) (by walk_at "pullb") (by decide +kernel) (by decide) ?_
    repeat (walk_at "x")
    intro No
    repeat (walk_at "x")
    intro Fi
    repeat (walk_at "x")
    intro Fo
    repeat (walk_at "x")
    intro Pr
    repeat (walk_at "x")
    refine TCall.set0 fun UP o => ?_
    repeat (walk_at "x")
    refine ⟨rfl, Drop.of (mh' := (g, .inst aG dx) :: (dx, .dict (gD P PN PM Te No Fi Fo Pr UP)) :: (P, .list [.none]) :: (PM, .dict []) :: (Fi, .dict []) :: (Fo, .dict []) :: (Pr, .dict []) :: (UP, .raw o) :: (tabB Te (ABCs.take 3 ++ [PySem.Str.ofString "error"]) (upd A "error" e1) (upd T "error" []) ++ ((No, .dict []) :: (PN, .dict []) :: mh))) (hQ g _ (.mk dx P PN PM Te No Fi Fo Pr UP o [] [] [] [] (upd A "error" e1) (fun _ => 0) (fun _ => 0) (upd T "error" []) (fun _ => []) [] rfl .nil rfl List.nodup_nil List.nodup_nil (fun s => by simp) (fun s h => by cases h) (fun r h => by cases h) (fun s => ?_) (fun s => Nat.zero_le _))) ?_⟩
    · unfold upd; split
      · exact Nat.zero_le _
      · rw [hT]; exact Nat.zero_le _
    · walk_at "s2"
  · rw [sL_get] at hz
    obtain ⟨t, ht1, rfl⟩ := Option.map_eq_some_iff.mp hz
    have hkl : k < 3 := (List.getElem?_eq_some_iff.mp ht1).1
    have htk : ABCs.take (k + 1) = ABCs.take k ++ [t] := by rw [List.take_add_one, ht1]; rfl
    have hnk : t ∉ ABCs.take k := by
      have nd : (ABCs.take (k + 1)).Nodup := List.Nodup.sublist (List.take_sublist _ _) (by decide)
      rw [htk, List.nodup_append] at nd
      exact fun h => nd.2.2 t h t (by simp) rfl
    refine ⟨hkl, ?_⟩
    repeat (walk_at "x")
    refine ⟨(show 0 ≤ slim by decide), fun e1 => ?_⟩
    repeat (walk_at "x")
    refine TSetItem.tabNew (T := T) (A := A) (keys := ABCs.take k) (by walk_at "pullb") hnk (by rw [List.length_take]; unfold slim; omega) ?_
    repeat (walk_at "x")
    refine ⟨by omega, _, upd A t e1, upd T t [], rfl, ?_, by rw [htk]⟩
    intro s
    unfold upd; split
    · rfl
    · exact hT s
end
section
open PySem PySem.W PySem.Calls PyProof.Rows
variable {c : Sit} {m : Loc} {mh mh' : MH} {Q : Value → Loc → MH → Prop}
noncomputable def allRows : List (List PySem.Str) := [] :: (SYM.map fun a => [a]) ++ SYM.flatMap fun a => SYM.map fun b => [a, b]
theorem sub_len {α : Type} [BEq α] [LawfulBEq α] : ∀ {l s : List α}, l.Nodup → (∀ x ∈ l, x ∈ s) → l.length ≤ s.length
  | [], _, _, _ => Nat.zero_le _
  | a :: l, s, nd, h => by
    rw [List.nodup_cons] at nd
    have ha := h a (.head _)
    have := sub_len (l := l) (s := s.erase a) nd.2 (fun x hx => (List.mem_erase_of_ne (fun e : x = a => nd.1 (by rw [← e]; exact hx))).mpr (h x (.tail _ hx)))
    have l2 := List.length_erase_of_mem ha
    have l3 := List.length_pos_of_mem ha
    rw [List.length_cons]; omega
theorem nodup_len {l : List PySem.Str} (nd : l.Nodup) (h : ∀ s ∈ l, s ∈ NAMES) : l.length ≤ 3 := by
  exact sub_len nd h
theorem row_mem {ss : List PySem.Str} (h : ss.length ≤ 2) (hs : ∀ s ∈ ss, s ∈ SYM) : ss ∈ allRows := by
  unfold allRows
  match ss, h, hs with
  | [], _, _ => simp
  | [a], _, hs => simp [hs a (by simp)]
  | [a, b], _, hs => simp [hs a (by simp), hs b (by simp)]
theorem inj_of_nodup {α β : Type} {f : α → β} : ∀ {l : List α}, (l.map f).Nodup → ∀ x ∈ l, ∀ y ∈ l, f x = f y → x = y
  | [], _, _, h, _, _, _ => by cases h
  | a :: l, nd, x, hx, y, hy, e => by
    rw [List.map_cons, List.nodup_cons] at nd
    rcases List.mem_cons.mp hx with hx | hx <;> rcases List.mem_cons.mp hy with hy | hy
    · rw [hx, hy]
    · exact absurd (by rw [← hx, e]; exact List.mem_map_of_mem (f := f) hy) nd.1
    · exact absurd (by rw [← hy, ← e]; exact List.mem_map_of_mem (f := f) hx) nd.1
    · exact inj_of_nodup nd.2 x hx y hy e
theorem row_nodup : (allRows.map fun ss => (PyData.list (ss.map .str)).shown).Nodup := by decide +kernel
theorem mapOf_inj {p q : Rule} (hp : RuleOk p) (hq : RuleOk q) (e : mapOf p = mapOf q) : p = q := by
  have e1 := congrArg (fun s : PySem.Str => s.cps.toList) e
  unfold mapOf at e1
  simp only [PySem.Str.cps_append, Array.toList_append, List.append_assoc] at e1
  have hl : p.1.cps.toList.length = q.1.cps.toList.length := by rw [Array.length_toList, Array.length_toList, (sym_facts _ hp.nameS).2.1, (sym_facts _ hq.nameS).2.1]
  obtain ⟨e2, e3⟩ := List.append_inj e1 hl
  have e4 := List.append_cancel_left e3
  have cp : ∀ {a b : PySem.Str}, a.cps.toList = b.cps.toList → a = b := fun {a b} h => congrArg PySem.Str.mk (Array.toList_inj.mp h)
  have e5 := inj_of_nodup row_nodup p.2 (row_mem hp.len hp.syms) q.2 (row_mem hq.len hq.syms) (cp e4)
  exact Prod.ext (cp e2) e5
theorem row_facts : ∀ ss ∈ allRows, (PyData.list (ss.map .str)).showable = true ∧ (PyData.list (ss.map .str)).hasDict = false ∧ (PyData.list (ss.map .str)).shown.length ≤ 1000000 := by decide +kernel
theorem sym_quote : ∀ s ∈ SYM, ∃ ch, s.cps[(0 : Int).toNat]? = some ch ∧ (Builtin.Str.occurrences (PySem.Str.ofString "'\"") ⟨#[ch]⟩ 0 (PySem.Str.ofString "'\"").length 1).isEmpty = true := by
  have h : ∀ s ∈ SYM, (s.cps[(0 : Int).toNat]?).any (fun ch => (Builtin.Str.occurrences (PySem.Str.ofString "'\"") ⟨#[ch]⟩ 0 (PySem.Str.ofString "'\"").length 1).isEmpty) = true := by decide +kernel
  intro s hs
  have := h s hs
  cases q : s.cps[(0 : Int).toNat]? with
  | none => rw [q] at this; cases this
  | some ch => rw [q] at this; exact ⟨ch, rfl, this⟩
theorem mk_none {mk : List (PySem.Str × Value)} {x : PySem.Str} (h : x ∉ mk.map (·.1)) : vAt mk x = none := by
  unfold vAt
  rw [Option.map_eq_none_iff, List.find?_eq_none]
  intro p hp
  simp only [decide_eq_true_eq]
  exact fun e => h (e ▸ List.mem_map_of_mem (f := (·.1)) hp)
theorem mk_put {mk : List (PySem.Str × Value)} {x : PySem.Str} {v : Value} (h : x ∉ mk.map (·.1)) : vPut mk x v = mk ++ [(x, v)] := by
  unfold vPut
  rw [if_neg]
  rw [List.any_eq_true]
  rintro ⟨p, hp, e⟩
  exact h (by rw [← of_decide_eq_true e]; exact List.mem_map_of_mem (f := (·.1)) hp)
noncomputable abbrev gHp (g dx P PN PM Te No Fi Fo Pr UP : Addr) (o : Obj) (ps : List Value) (mk : List (PySem.Str × Value)) (R : MH) : MH := (g, .inst aG dx) :: (dx, .dict [("Productions", .ref P), ("Prodnames", .ref PN), ("Prodmap", .ref PM), ("Terminals", .ref Te), ("Nonterminals", .ref No), ("First", .ref Fi), ("Follow", .ref Fo), ("Precedence", .ref Pr), ("UsedPrecedence", .ref UP), ("Start", .none)]) :: (P, .list (.none :: ps)) :: (PM, .dict mk) :: (Fi, .dict []) :: (Fo, .dict []) :: (Pr, .dict []) :: (UP, .raw o) :: R
noncomputable abbrev aL (g sy : Addr) (nm : PySem.Str) (n s c_ pn pp mp m_ pnu t p : Option Value) : Loc := [("self", some (.ref g)), ("prodname", some (.str nm 0)), ("syms", some (.ref sy)), ("func", some .none), ("file", some (.str "" 0)), ("line", some (.int 0 0)), ("n", n), ("s", s), ("c", c_), ("precname", pn), ("prodprec", pp), ("map", mp), ("m", m_), ("pnumber", pnu), ("t", t), ("p", p)]
theorem named_len (ps : List Value) (rs : List Rule) (s : PySem.Str) : (named ps rs s).length ≤ rs.length := by
  unfold named
  rw [List.length_map]
  refine Nat.le_trans (List.length_filter_le _ _) ?_
  rw [List.length_zip]; exact Nat.min_le_right _ _
set_option maxHeartbeats 8000000 in
theorem add_spec (hn : 2 < c.n) {H : MH} {g sy : Addr} {rs : List Rule} {nm : PySem.Str} {ss : List PySem.Str} (hG : Gram H mh g rs) (hsy : MHas mh sy (.list (sL ss))) (hok : RuleOk (nm, ss)) (hoks : ∀ r ∈ rs, RuleOk r) (hnew : (nm, ss) ∉ rs) (hlen : rs.length ≤ 6)
    (hQ : ∀ H', Gram H' mh g (rs ++ [(nm, ss)]) → Q .none m H') (hW : Ctx c := by assumption) : TCall c m H (.ref fAdd.f) [.ref g, .str nm 0, .ref sy] [] Q := by
  obtain ⟨dx, P, PN, PM, Te, No, Fi, Fo, Pr, UP, o, ps, mk, NK, KK, AT, AN, AK, TT, KT, blk, rfl, hps, hmk, ndN, ndK, hNK, hKN, hKr, hTT, hKT⟩ := hG
  refine TCall.drop ?_
  refine TCall.def_ fAdd hW.add (by omega) (aL g sy nm none none none none none none none none none none) [.none, .str "" 395, .int 0 396] ?_ rfl rfl (by decide) fun L => ?_
  · intro as' e s X
    obtain ⟨a1, a2, a3, rfl⟩ := len_three e
    obtain ⟨nd, sld, hdP⟩ := hW.dA
    exact BindsTo.of_defaults rfl (X _ _ hdP) rfl rfl rfl
  have hW' : Ctx (c.into fAdd L) := hW
  have hsl : ss.length ≤ 2 := hok.len
  have hTe := tabB_dict (d := Te) (keys := TERM) (A := AT) (T := TT)
  have hNo := tabB_dict (d := No) (keys := KK) (A := AK) (T := KT)
  have hPNd := tabB_dict (d := PN) (keys := NK) (A := AN) (T := named ps rs)
  have nmT : decide (nm ∈ TERM) = false := by
    have : ∀ n ∈ NAMES, n ∉ TERM := by decide +kernel
    exact decide_eq_false (this nm hok.name)
  have nmE : decide (nm = PySem.Str.ofString "error") = false := by
    have : ∀ n ∈ NAMES, n ≠ PySem.Str.ofString "error" := by decide +kernel
    exact decide_eq_false (this nm hok.name)
  with_unfolding_all refine TS.consA ?_
  intro QH hid
  repeat (walk_at "x")
  unfold gD
  repeat (walk_at "x")
  refine TCmp.inTab (by walk_at "mhas") ?_
  repeat (walk_at "x")
  rw [nmT]
  repeat (walk_at "x")
  rw [nmE]
  repeat (walk_at "x")
  refine ident_spec (by show 0 < c.n - 1; omega) hok.nameS ?_
  repeat (walk_at "x")
  refine TCall.enumL (by walk_at "lat") ?_
  intro en ei eo heo
  refine TLoop.enum (.enumL sy) (seqK_list _ sy) rfl heo (fun k m' mh' => k ≤ ss.length ∧ Ex2 fun v1 v2 => IsM m' (aL g sy nm v1 v2 none none none none none none none none) ∧ IsH mh' ((g, .inst aG dx) :: (dx, .dict (gD P PN PM Te No Fi Fo Pr UP)) :: (P, .list (.none :: ps)) :: (PM, .dict mk) :: (Fi, .dict []) :: (Fo, .dict []) :: (Pr, .dict []) :: (UP, .raw o) :: (tabB Te TERM AT TT ++ (tabB No KK AK KT ++ (tabB PN NK AN (named ps rs) ++ (blk ++ mh)))))) ss.length ⟨Nat.zero_le _, _, _, rfl, rfl⟩ ?_
  rintro J hJ k _ _ ⟨hk, v1, v2, rfl, rfl⟩
  refine ⟨sL ss, by walk_at "lat", by rw [sL_len]; exact hk, fun hz => ?_, fun x hz => ?_⟩
  · rw [sL_len] at hz
    repeat (walk_at "x")
    refine TCmp.inL (xs := ss) (by walk_at "lat") ?_
    have npc : decide (PySem.Str.ofString "%prec" ∈ ss) = false := by
      have : PySem.Str.ofString "%prec" ∉ SYM := by decide +kernel
      exact decide_eq_false fun h => this (hok.syms _ h)
    repeat (walk_at "x")
    rw [npc]
    repeat (walk_at "x")
    unfold gD
    repeat (walk_at "x")
    refine right_spec (by show 0 < c.n - 1; omega) (by walk_at "mhas") hsl (by walk_at "mhas") fun pv hpv => ?_
    repeat (walk_at "x")
    refine TGet.dict (by walk_at "mhas") (.inl rfl) PySem.F.slot_dict_get PySem.F.type_dict_get ?_
    repeat (walk_at "x")
    refine ⟨(show 2 ≤ slim by decide), fun pt => ?_⟩
    repeat (walk_at "x")
    refine TCall.get2E (by walk_at "mhas") hpv ?_
    repeat (walk_at "x")
    obtain ⟨rf1, rf2, rf3⟩ := row_facts ss (row_mem hsl hok.syms)
    refine ⟨nm, .str, Nat.le_trans (Nat.le_of_eq (sym_facts nm hok.nameS).1) (by decide), ?_⟩
    repeat (walk_at "x")
    refine ⟨_, .deep (.list (.own (by walk_at "mhas")) (DeepAll.sL ss)) rf1 rf2 (by have := depth_ss ss; simp only [PyData.depth]; omega) rf3, ?_⟩
    refine ⟨rf3, ?_⟩
    have emap : nm ++ PySem.Str.ofString " -> " ++ (PyData.list (ss.map .str)).shown = mapOf (nm, ss) := rfl
    rw [emap]
    have hmn : mapOf (nm, ss) ∉ mk.map (·.1) := by
      rw [hmk]
      intro h
      obtain ⟨r, hr, e⟩ := List.mem_map.mp h
      exact hnew (mapOf_inj (hoks r hr) hok e ▸ hr)
    repeat (walk_at "x")
    refine TCmp.inD (by walk_at "mhas") (.inl rfl) ?_
    rw [mk_none hmn]
    repeat (walk_at "x")
    have hpl := hps.len
    refine TCall.len (by walk_at "lat") (by rw [List.length_cons]; unfold slim; omega) ?_
    repeat (walk_at "x")
    refine TCmp.ninTab (by walk_at "mhas") ?_
    repeat (walk_at "x")
    refine TS.join (fun m' mh' => Ex3 fun KK' AK' KT' => IsM m' (aL g sy nm v1 v2 none (some pv) (some (.ref pt)) (some (.str (mapOf (nm, ss)) 0)) none (some (.int ((Value.none :: ps).length : Nat) 0)) none none) ∧
      IsH mh' ((pt, .tup [.str "right" 0, .int 0 0]) :: gHp g dx P PN PM Te No Fi Fo Pr UP o ps mk (tabB Te TERM AT TT ++ (tabB No KK' AK' KT' ++ (tabB PN NK AN (named ps rs) ++ (blk ++ mh))))) ∧ KK'.Nodup ∧ (∀ s ∈ KK', s ∈ NAMES) ∧ (∀ s ∈ KK, s ∈ KK') ∧ nm ∈ KK' ∧ ∀ s, (KT' s).length ≤ 4 * rs.length) ?_ ?_ ?_
    · intro h
      have hnk : nm ∉ KK := by simpa using h
      have hkl : KK.length ≤ 3 := nodup_len ndK hKN
      repeat (walk_at "x")
      refine ⟨(show 0 ≤ slim by decide), fun e1 => ?_⟩
      repeat (walk_at "x")
      refine TSetItem.tabNew (T := KT) (A := AK) (keys := KK) (by walk_at "pullb") hnk (by unfold slim; omega) ?_
      repeat (walk_at "x")
      refine Drop.of ⟨rfl, KK ++ [nm], upd AK nm e1, upd KT nm [], rfl, rfl, ?_, ?_, fun s hs => List.mem_append_left _ hs, by simp, ?_⟩ (by walk_at "s2")
      · rw [List.nodup_append]
        exact ⟨ndK, by simp, fun a ha b hb e => hnk (by rw [List.mem_singleton.mp hb] at e; exact e ▸ ha)⟩
      · intro s hs
        rcases List.mem_append.mp hs with hs | hs
        · exact hKN s hs
        · rw [List.mem_singleton.mp hs]; exact hok.name
      · intro s
        unfold upd; split
        · exact Nat.zero_le _
        · exact hKT s
    · intro h
      repeat (walk_at "x")
      exact Drop.keep ⟨rfl, KK, AK, KT, rfl, rfl, ndK, hKN, fun s hs => hs, by simpa using h, hKT⟩
    · clear hNo
      rintro _ _ ⟨KK1, AK1, KT1, rfl, rfl, nd1, hKN1, hsub1, hnm1, hKT1⟩
      repeat (walk_at "x")
      clear hTe
      refine TLoop.list (xs0 := sL ss) (fun k m' mh' => k ≤ ss.length ∧ Ex2 fun v TT' => Ex3 fun KK' AK' KT' => IsM m' (aL g sy nm v1 v2 none (some pv) (some (.ref pt)) (some (.str (mapOf (nm, ss)) 0)) none (some (.int ((Value.none :: ps).length : Nat) 0)) v none) ∧
        IsH mh' ((pt, .tup [.str "right" 0, .int 0 0]) :: gHp g dx P PN PM Te No Fi Fo Pr UP o ps mk (tabB Te TERM AT TT' ++ (tabB No KK' AK' KT' ++ (tabB PN NK AN (named ps rs) ++ (blk ++ mh))))) ∧ KK'.Nodup ∧ (∀ s ∈ KK', s ∈ NAMES) ∧ (∀ s ∈ KK1, s ∈ KK') ∧ (∀ s ∈ ss.take k, s ∈ NAMES → s ∈ KK') ∧
        (∀ s, (TT' s).length ≤ 4 * rs.length + k) ∧ (∀ s, (KT' s).length ≤ 4 * rs.length + k)) ss.length (by walk_at "lat") ⟨Nat.zero_le _, _, TT, KK1, AK1, KT1, rfl, rfl, nd1, hKN1, fun s hs => hs, fun s hs => by simp at hs, hTT, hKT1⟩ ?_
      rintro J hJ k _ _ ⟨hk, v, TT2, KK2, AK2, KT2, rfl, rfl, nd2, hKN2, hsub2, htk2, hTT2, hKT2⟩
      have hTe := tabB_dict (d := Te) (keys := TERM) (A := AT) (T := TT2)
      have hNo := tabB_dict (d := No) (keys := KK2) (A := AK2) (T := KT2)
      refine ⟨sL ss, by walk_at "lat", fun hz => ?_, fun x hz => ?_⟩
      · rw [sL_get, Option.map_eq_none_iff, List.getElem?_eq_none_iff] at hz
        obtain rfl : k = ss.length := by omega
        rw [List.take_length] at htk2
        repeat (walk_at "x")
        refine TCall.make hW.pmake (by show 0 < c.n - 1; omega) fun x xd => ?_
        refine pinit_spec (c := (c.into fAdd L).less) (by show 0 < c.n - 1 - 1; omega) hok (by walk_at "mhas") ?_
        rintro b x hb rfl
        refine ⟨rfl, ?_⟩
        repeat (walk_at "x")
        refine TGet.append (by walk_at "mhas") ?_
        repeat (walk_at "x")
        refine TCall.append (by walk_at "mput") (by rw [List.length_cons]; unfold slim; omega) ?_
        rw [List.cons_append (a := Value.none) (as := ps)]
        repeat (walk_at "x")
        have hmkl : mk.length ≤ slim := by have := congrArg List.length hmk; rw [List.length_map, List.length_map] at this; unfold slim; omega
        refine TSetItem.dict (by walk_at "mput") hmkl ?_
        rw [mk_put hmn]
        repeat (walk_at "x")
        have hbk : ProdsAt (b ++ blk) (ps ++ [.ref x]) (rs ++ [(nm, ss)]) := (hps.mono fun a o x => .right x).snoc (hb.mono fun a o x => .left x)
        have hmk' : (mk ++ [(mapOf (nm, ss), Value.ref x)]).map (·.1) = (rs ++ [(nm, ss)]).map mapOf := by rw [List.map_append, List.map_append, hmk]; rfl
        have hKr' : ∀ r ∈ rs ++ [(nm, ss)], r.1 ∈ KK2 ∧ ∀ s ∈ r.2, s ∈ NAMES → s ∈ KK2 := by
          intro r hr
          rcases List.mem_append.mp hr with hr | hr
          · exact ⟨hsub2 _ (hsub1 _ (hKr r hr).1), fun s hs hsN => hsub2 _ (hsub1 _ ((hKr r hr).2 s hs hsN))⟩
          · rw [List.mem_singleton.mp hr]
            exact ⟨hsub2 _ hnm1, htk2⟩
        have hTT' : ∀ s, (TT2 s).length ≤ 4 * (rs ++ [(nm, ss)]).length := fun s => by have := hTT2 s; rw [List.length_append]; simp only [List.length_cons, List.length_nil]; omega
        have hKT' : ∀ s, (KT2 s).length ≤ 4 * (rs ++ [(nm, ss)]).length := fun s => by have := hKT2 s; rw [List.length_append]; simp only [List.length_cons, List.length_nil]; omega
        by_cases hin : nm ∈ NK
        · have hlt := tabB_list (d := PN) (A := AN) (T := named ps rs) hin
          have hpt := tabB_put (d := PN) (A := AN) (T := named ps rs) (v := named ps rs nm ++ [.ref x]) ndN hin
          have enm : upd (named ps rs) nm (named ps rs nm ++ [.ref x]) = named (ps ++ [.ref x]) (rs ++ [(nm, ss)]) := by
            funext s
            rw [named_snoc hpl]
            unfold upd
            by_cases e : s = nm
            · subst e; simp
            · have : ¬ nm = s := fun q => e q.symm
              simp [e, this]
          rw [enm] at hpt
          refine TS1.tryOk ?_
          repeat (walk_at "x")
          refine TSub.tab (by walk_at "mhas") hin ?_
          refine TGet.append (by walk_at "mhas") ?_
          repeat (walk_at "x")
          refine TCall.append (by walk_at "mput") (by have := named_len ps rs nm; unfold slim; omega) ?_
          repeat (walk_at "x")
          refine Drop.of (mh' := gHp g dx P PN PM Te No Fi Fo Pr UP o (ps ++ [.ref x]) (mk ++ [(mapOf (nm, ss), .ref x)]) (tabB Te TERM AT TT2 ++ (tabB No KK2 AK2 KT2 ++ (tabB PN NK AN (named (ps ++ [.ref x]) (rs ++ [(nm, ss)])) ++ (b ++ (blk ++ mh)))))) (hQ _ ?_) (by walk_at "s2")
          refine .mk dx P PN PM Te No Fi Fo Pr UP o (ps ++ [.ref x]) (mk ++ [(mapOf (nm, ss), .ref x)]) NK KK2 AT AN AK2 TT2 KT2 (b ++ blk) (by rw [List.append_assoc]; rfl) hbk hmk' ndN nd2 ?_ hKN2 hKr' hTT' hKT'
          intro s
          rw [hNK]
          constructor
          · rintro ⟨r, hr, e⟩; exact ⟨r, List.mem_append_left _ hr, e⟩
          · rintro ⟨r, hr, e⟩
            rcases List.mem_append.mp hr with hr | hr
            · exact ⟨r, hr, e⟩
            · rw [List.mem_singleton.mp hr] at e
              exact (hNK s).mp (by rw [← e]; exact hin)
        · have hgk : GHas (c.into fAdd L).globs (PySem.Str.ofString "KeyError") (.type "KeyError") := by walk_at "ghas"
          have hNKn : ∀ s ∈ NK, s ∈ NAMES := by
            intro s hs
            obtain ⟨r, hr, e⟩ := (hNK s).mp hs
            rw [← e]; exact (hoks r hr).name
          have hpm := fun r : Addr => tabB_mput (d := PN) (keys := NK) (A := AN) (T := named ps rs) (o := .dict (vPut (enc (fun s => s) NK fun s => .ref (AN s)) nm (.ref r)))
          refine TS1.tryMiss (TRz.expr (TRz.sub ?_) rfl rfl rfl) hgk rfl rfl ?_
          · repeat (walk_at "x")
            exact ⟨rfl, rfl, PN, _, nm, rfl, rfl, by walk_at "mhas", tabB_none hin⟩
          · refine TTh.store (x := g) (dx := dx) (d := PN) (key := nm) (v := .ref x) (kvs := enc (fun s => s) NK fun s => .ref (AN s)) (mk := fun r => b ++ (pt, .tup [.str "right" 0, .int 0 0]) :: gHp g dx P PN PM Te No Fi Fo Pr UP o (ps ++ [.ref x]) (mk ++ [(mapOf (nm, ss), .ref x)]) (tabB Te TERM AT TT2 ++ (tabB No KK2 AK2 KT2 ++ (((PN, .dict (vPut (enc (fun s => s) NK fun s => .ref (AN s)) nm (.ref r))) :: tb NK AN (named ps rs)) ++ (blk ++ mh))))) hW'.gcls (by walk_at "gshas") (by walk_at "has") (by walk_at "has") (by walk_at "has") (by walk_at "mhas") (by walk_at "mhas") (VHas.at_ (by walk_at "vhas")) (by rw [enc_len]; have := nodup_len ndN hNKn; unfold slim; omega) (fun r => ?_) (fun r => ?_) rfl rfl rfl rfl
            · have hpm := hpm r
              exact .there (by walk_at "mput")
            · have enm : upd (named ps rs) nm [.ref x] = named (ps ++ [.ref x]) (rs ++ [(nm, ss)]) := by
                funext s
                rw [named_snoc hpl]
                unfold upd
                by_cases e : s = nm
                · subst e
                  rw [named_none (fun r hr q => hin ((hNK _).mpr ⟨r, hr, q⟩))]; simp
                · have : ¬ nm = s := fun q => e q.symm
                  simp [e, this]
              refine TS.sub2 (mh' := tabB PN (NK ++ [nm]) (upd AN nm r) (upd (named ps rs) nm [.ref x]) ++ _) ?_ (tabB_grow (by walk_at "pullb") hin)
              rw [enm]
              repeat (walk_at "x")
              refine Drop.of (mh' := gHp g dx P PN PM Te No Fi Fo Pr UP o (ps ++ [.ref x]) (mk ++ [(mapOf (nm, ss), .ref x)]) (tabB Te TERM AT TT2 ++ (tabB No KK2 AK2 KT2 ++ (tabB PN (NK ++ [nm]) (upd AN nm r) (named (ps ++ [.ref x]) (rs ++ [(nm, ss)])) ++ (b ++ (blk ++ mh)))))) (hQ _ ?_) (by walk_at "s2")
              refine .mk dx P PN PM Te No Fi Fo Pr UP o (ps ++ [.ref x]) (mk ++ [(mapOf (nm, ss), .ref x)]) (NK ++ [nm]) KK2 AT (upd AN nm r) AK2 TT2 KT2 (b ++ blk) (by rw [List.append_assoc]; rfl) hbk hmk' ?_ nd2 ?_ hKN2 hKr' hTT' hKT'
              · rw [List.nodup_append]
                exact ⟨ndN, by simp, fun a ha b hb e => hin (by rw [List.mem_singleton.mp hb] at e; exact e ▸ ha)⟩
              · intro s
                rw [List.mem_append, hNK, List.mem_singleton]
                constructor
                · rintro (⟨r, hr, e⟩ | e)
                  · exact ⟨r, List.mem_append_left _ hr, e⟩
                  · exact ⟨(nm, ss), by simp, e.symm⟩
                · rintro ⟨r, hr, e⟩
                  rcases List.mem_append.mp hr with hr | hr
                  · exact .inl ⟨r, hr, e⟩
                  · rw [List.mem_singleton.mp hr] at e
                    exact .inr e.symm
      · rw [sL_get] at hz
        obtain ⟨t, ht1, rfl⟩ := Option.map_eq_some_iff.mp hz
        have hkl := (List.getElem?_eq_some_iff.mp ht1).1
        have htS : t ∈ SYM := hok.syms t (List.mem_of_getElem? ht1)
        have htk : ss.take (k + 1) = ss.take k ++ [t] := by rw [List.take_add_one, ht1]; rfl
        have hsplit : ∀ t ∈ SYM, (t ∈ TERM ∧ t ∉ NAMES) ∨ (t ∉ TERM ∧ t ∈ NAMES) := by decide +kernel
        refine ⟨hkl, ?_⟩
        repeat (walk_at "x")
        refine TCmp.inTab (by walk_at "mhas") ?_
        repeat (walk_at "x")
        refine ⟨fun h => ?_, fun h => ?_⟩
        · have hin : t ∈ TERM := of_decide_eq_true h
          have hlt := tabB_list (d := Te) (A := AT) (T := TT2) hin
          have hpt := tabB_put (d := Te) (A := AT) (T := TT2) (v := TT2 t ++ [.int ((Value.none :: ps).length : Nat) 0]) (by decide) hin
          repeat (walk_at "x")
          refine TSub.tab (by walk_at "mhas") hin ?_
          refine TGet.append (by walk_at "mhas") ?_
          repeat (walk_at "x")
          refine TCall.append (by walk_at "mput") (by have := hTT2 t; unfold slim; omega) ?_
          repeat (walk_at "x")
          refine ⟨by omega, _, upd TT2 t (TT2 t ++ [.int ((Value.none :: ps).length : Nat) 0]), KK2, AK2, KT2, rfl, rfl, nd2, hKN2, hsub2, ?_, ?_, fun s => by have := hKT2 s; omega⟩
          · intro s hs hsN
            rw [htk] at hs
            rcases List.mem_append.mp hs with hs | hs
            · exact htk2 s hs hsN
            · rw [List.mem_singleton.mp hs] at hsN
              rcases hsplit t htS with q | q
              · exact absurd hsN q.2
              · exact absurd hin q.1
          · intro s
            unfold upd; split
            · subst s
              have := hTT2 t
              rw [List.length_append]; simp only [List.length_cons, List.length_nil]; omega
            · have := hTT2 s; omega
        · have hnin : t ∉ TERM := of_decide_eq_false h
          have htN : t ∈ NAMES := by rcases hsplit t htS with q | q; exact absurd q.1 hnin; exact q.2
          repeat (walk_at "x")
          refine TCmp.ninTab (by walk_at "mhas") ?_
          repeat (walk_at "x")
          refine TS.join (fun m' mh' => Ex3 fun KK' AK' KT' => IsM m' (aL g sy nm v1 v2 none (some pv) (some (.ref pt)) (some (.str (mapOf (nm, ss)) 0)) none (some (.int ((Value.none :: ps).length : Nat) 0)) (some (.str t 0)) none) ∧
            IsH mh' ((pt, .tup [.str "right" 0, .int 0 0]) :: gHp g dx P PN PM Te No Fi Fo Pr UP o ps mk (tabB Te TERM AT TT2 ++ (tabB No KK' AK' KT' ++ (tabB PN NK AN (named ps rs) ++ (blk ++ mh))))) ∧ KK'.Nodup ∧ (∀ s ∈ KK', s ∈ NAMES) ∧ (∀ s ∈ KK2, s ∈ KK') ∧ t ∈ KK' ∧ ∀ s, (KT' s).length ≤ 4 * rs.length + k) ?_ ?_ ?_
          · intro h
            have hnk : t ∉ KK2 := by simpa using h
            have hkl2 : KK2.length ≤ 3 := nodup_len nd2 hKN2
            repeat (walk_at "x")
            refine ⟨(show 0 ≤ slim by decide), fun e1 => ?_⟩
            repeat (walk_at "x")
            refine TSetItem.tabNew (T := KT2) (A := AK2) (keys := KK2) (by walk_at "pullb") hnk (by unfold slim; omega) ?_
            repeat (walk_at "x")
            refine Drop.of ⟨rfl, KK2 ++ [t], upd AK2 t e1, upd KT2 t [], rfl, rfl, ?_, ?_, fun s hs => List.mem_append_left _ hs, by simp, ?_⟩ (by walk_at "s2")
            · rw [List.nodup_append]
              exact ⟨nd2, by simp, fun a ha b hb e => hnk (by rw [List.mem_singleton.mp hb] at e; exact e ▸ ha)⟩
            · intro s hs
              rcases List.mem_append.mp hs with hs | hs
              · exact hKN2 s hs
              · rw [List.mem_singleton.mp hs]; exact htN
            · intro s
              unfold upd; split
              · exact Nat.zero_le _
              · exact hKT2 s
          · intro h
            repeat (walk_at "x")
            exact Drop.keep ⟨rfl, KK2, AK2, KT2, rfl, rfl, nd2, hKN2, fun s hs => hs, by simpa using h, hKT2⟩
          · clear hNo
            rintro _ _ ⟨KK3, AK3, KT3, rfl, rfl, nd3, hKN3, hsub3, hin3, hKT3⟩
            have hNo := tabB_dict (d := No) (keys := KK3) (A := AK3) (T := KT3)
            have hlt := tabB_list (d := No) (A := AK3) (T := KT3) hin3
            have hpt := tabB_put (d := No) (A := AK3) (T := KT3) (v := KT3 t ++ [.int ((Value.none :: ps).length : Nat) 0]) nd3 hin3
            repeat (walk_at "x")
            refine TSub.tab (by walk_at "mhas") hin3 ?_
            refine TGet.append (by walk_at "mhas") ?_
            repeat (walk_at "x")
            refine TCall.append (by walk_at "mput") (by have := hKT3 t; unfold slim; omega) ?_
            repeat (walk_at "x")
            refine ⟨by omega, _, TT2, KK3, AK3, upd KT3 t (KT3 t ++ [.int ((Value.none :: ps).length : Nat) 0]), rfl, rfl, nd3, hKN3, fun s hs => hsub3 s (hsub2 s hs), ?_, fun s => by have := hTT2 s; omega, ?_⟩
            · intro s hs hsN
              rw [htk] at hs
              rcases List.mem_append.mp hs with hs | hs
              · exact hsub3 s (htk2 s hs hsN)
              · rw [List.mem_singleton.mp hs]; exact hin3
            · intro s
              unfold upd; split
              · subst s
                have := hKT3 t
                rw [List.length_append]; simp only [List.length_cons, List.length_nil]; omega
              · have := hKT3 s; omega
  · rw [sL_get] at hz
    obtain ⟨s, hs1, rfl⟩ := Option.map_eq_some_iff.mp hz
    have hkl := (List.getElem?_eq_some_iff.mp hs1).1
    have hsS : s ∈ SYM := hok.syms s (List.mem_of_getElem? hs1)
    obtain ⟨ch, hch, hq⟩ := sym_quote s hsS
    refine ⟨hkl, fun tt => ?_⟩
    refine TA.tuple .here ?_ rfl rfl
    repeat (walk_at "x")
    refine Drop.of (mh' := (g, .inst aG dx) :: (dx, .dict (gD P PN PM Te No Fi Fo Pr UP)) :: (P, .list (.none :: ps)) :: (PM, .dict mk) :: (Fi, .dict []) :: (Fo, .dict []) :: (Pr, .dict []) :: (UP, .raw o) :: (tabB Te TERM AT TT ++ (tabB No KK AK KT ++ (tabB PN NK AN (named ps rs) ++ (blk ++ mh))))) ?_ (by walk_at "s2")
    repeat (walk_at "x")
    refine TSub.str (TItem.str (by decide) (by decide) hch ?_)
    repeat (walk_at "x")
    refine TCmp.inS ?_
    rw [hq]
    repeat (walk_at "x")
    refine ident_spec (by show 0 < c.n - 1; omega) hsS ?_
    repeat (walk_at "x")
    exact ⟨hkl, _, _, rfl, rfl⟩
end
section
open PySem PySem.W PySem.Calls PyProof.Rows
variable {c : Sit} {m : Loc} {mh mh' : MH} {Q : Value → Loc → MH → Prop}
/-! Grammar._first -/
/-- one symbol's entries but the empty one are added; was the empty one there? -/
noncomputable def addAll (acc : List PySem.Str) (l : List PySem.Str) : List PySem.Str := l.foldl (fun a f => if f = EMPTY then a else if f ∈ a then a else a ++ [f]) acc
noncomputable def firstOf (T : PySem.Str → List PySem.Str) : List PySem.Str → List PySem.Str → List PySem.Str
  | [], acc => acc ++ [EMPTY]
  | x :: r, acc => if EMPTY ∈ T x then firstOf T r (addAll acc (T x)) else addAll acc (T x)
theorem addAll_mem {l : List PySem.Str} : ∀ {acc : List PySem.Str} (x : PySem.Str), x ∈ addAll acc l ↔ x ∈ acc ∨ (x ∈ l ∧ x ≠ EMPTY) := by
  induction l with
  | nil => intro acc x; simp [addAll]
  | cons a l ih =>
    intro acc x
    have : addAll acc (a :: l) = addAll (if a = EMPTY then acc else if a ∈ acc then acc else acc ++ [a]) l := rfl
    rw [this, ih]
    by_cases h1 : a = EMPTY
    · rw [if_pos h1]
      constructor
      · rintro (h | ⟨h, h2⟩)
        · exact .inl h
        · exact .inr ⟨.tail _ h, h2⟩
      · rintro (h | ⟨h, h2⟩)
        · exact .inl h
        · rcases List.mem_cons.mp h with h | h
          · exact absurd (h.trans h1) h2
          · exact .inr ⟨h, h2⟩
    · rw [if_neg h1]
      by_cases h3 : a ∈ acc
      · rw [if_pos h3]
        constructor
        · rintro (h | ⟨h, h2⟩)
          · exact .inl h
          · exact .inr ⟨.tail _ h, h2⟩
        · rintro (h | ⟨h, h2⟩)
          · exact .inl h
          · rcases List.mem_cons.mp h with h | h
            · exact .inl (h ▸ h3)
            · exact .inr ⟨h, h2⟩
      · rw [if_neg h3, List.mem_append, List.mem_singleton]
        constructor
        · rintro ((h | h) | ⟨h, h2⟩)
          · exact .inl h
          · exact .inr ⟨h ▸ .head _, h ▸ h1⟩
          · exact .inr ⟨.tail _ h, h2⟩
        · rintro (h | ⟨h, h2⟩)
          · exact .inl (.inl h)
          · rcases List.mem_cons.mp h with h | h
            · exact .inl (.inr h)
            · exact .inr ⟨h, h2⟩
theorem addAll_len {l : List PySem.Str} : ∀ {acc : List PySem.Str}, (addAll acc l).length ≤ acc.length + l.length := by
  induction l with
  | nil => intro acc; exact Nat.le_refl _
  | cons a l ih =>
    intro acc
    have : addAll acc (a :: l) = addAll (if a = EMPTY then acc else if a ∈ acc then acc else acc ++ [a]) l := rfl
    rw [this]
    refine Nat.le_trans ih ?_
    rw [List.length_cons]
    split
    · omega
    · split
      · omega
      · rw [List.length_append]; simp only [List.length_cons, List.length_nil]; omega
noncomputable abbrev fL (g bt rl : Addr) (x e f : Option Value) : Loc := [("self", some (.ref g)), ("beta", some (.ref bt)), ("result", some (.ref rl)), ("x", x), ("x_produces_empty", e), ("f", f)]
set_option maxHeartbeats 8000000 in
theorem first_spec (hn : 0 < c.n) {g dx P PN PM Te No Fi Fo Pr UP bt : Addr} {ss keys : List PySem.Str} {A : PySem.Str → Addr} {T : PySem.Str → List PySem.Str} (h1 : MHas mh g (.inst aG dx)) (h2 : MHas mh dx (.dict (gD P PN PM Te No Fi Fo Pr UP)))
    (hF : TabAt mh Fi keys A T) (hb : MHas mh bt (.tup (sL ss))) (hlen : ss.length ≤ 2) (hk : ∀ s ∈ ss, s ∈ keys) (hl : ∀ s ∈ keys, (T s).length ≤ 10)
    (hQ : ∀ r, Q (.ref r) m ((r, .list (sL (firstOf T ss []))) :: mh)) (hW : Ctx c := by assumption) : TCall c m mh (.ref fFirst.f) [.ref g, .ref bt] [] Q := by
  refine TCall.def_ fFirst hW.first hn [("self", some (.ref g)), ("beta", some (.ref bt)), ("result", none), ("x", none), ("x_produces_empty", none), ("f", none)] [] ?_ rfl rfl (by decide) fun L => ?_
  · intro as' e s X
    obtain ⟨a, b, rfl⟩ := len_two e
    exact BindsTo.of_eq rfl
  have hW' : Ctx (c.into fFirst L) := hW
  have hFd := hF.1
  unfold gD at h2
  refine TS.drop ?_
  with_unfolding_all refine TS.consA ?_
  intro QH hid
  repeat (walk_at "x")
  refine ⟨(show 0 ≤ slim by decide), fun rl => ?_⟩
  repeat (walk_at "x")
  refine TLoop.tup (xs0 := sL ss) (fun k m' mh' => k ≤ ss.length ∧ Ex4 fun v1 v2 v3 acc => IsM m' (fL g bt rl v1 v2 v3) ∧ IsH mh' ((rl, .list (sL acc)) :: mh) ∧ acc.length ≤ 10 * k ∧ firstOf T (ss.drop k) acc = firstOf T ss []) (by walk_at "mhas") ⟨Nat.zero_le _, _, _, _, [], rfl, rfl, Nat.le_refl _, rfl⟩ ?_
  rintro J hJ k _ _ ⟨hk0, v1, v2, v3, acc, rfl, rfl, hal, hinv⟩
  refine ⟨by walk_at "mhas", fun hz => ?_, fun x hz => ?_⟩
  · rw [sL_get, Option.map_eq_none_iff, List.getElem?_eq_none_iff] at hz
    obtain rfl : k = ss.length := by omega
    rw [List.drop_length] at hinv
    repeat (walk_at "x")
    refine TGet.append (by walk_at "mhas") ?_
    repeat (walk_at "x")
    refine TCall.append (by walk_at "mput") (by rw [sL_len]; unfold slim; omega) ?_
    repeat (walk_at "x")
    refine Drop.of (hQ rl) ?_
    rw [← hinv]
    show Sub2 ((rl, .list (sL (acc ++ [EMPTY]))) :: mh) _
    rw [sL_app]
    walk_at "s2"
  · rw [sL_get] at hz
    obtain ⟨s, hs1, rfl⟩ := Option.map_eq_some_iff.mp hz
    have hkl := (List.getElem?_eq_some_iff.mp hs1).1
    have hsK := hk s (List.mem_of_getElem? hs1)
    have hTs := hF.2 s hsK
    have hl10 := hl s hsK
    have hdr : ss.drop k = s :: ss.drop (k + 1) := by
      rw [List.drop_eq_getElem_cons hkl]
      have : ss[k] = s := by rw [List.getElem?_eq_getElem hkl] at hs1; exact Option.some.inj hs1
      rw [this]
    rw [hdr] at hinv
    repeat (walk_at "x")
    refine TabAt.sub (hF.mono fun a o x => (by walk_at "mhas")) hsK ?_
    refine TLoop.list (xs0 := sL (T s)) (fun j m' mh' => j ≤ (T s).length ∧ ∃ v3, IsM m' (fL g bt rl (some (.str s 0)) (some (.bool (decide (EMPTY ∈ (T s).take j)))) v3) ∧ IsH mh' ((rl, .list (sL (addAll acc ((T s).take j)))) :: mh)) (T s).length (by walk_at "lat") ⟨Nat.zero_le _, _, rfl, rfl⟩ ?_
    rintro J hJ j _ _ ⟨hj, v3, rfl, rfl⟩
    refine ⟨sL (T s), by walk_at "lat", fun hz => ?_, fun x hz => ?_⟩
    · rw [sL_get, Option.map_eq_none_iff, List.getElem?_eq_none_iff] at hz
      obtain rfl : j = (T s).length := by omega
      rw [List.take_length]
      have hal2 := addAll_len (acc := acc) (l := T s)
      repeat (walk_at "x")
      refine ⟨fun h => ?_, fun h => ?_⟩
      · repeat (walk_at "x")
        refine ⟨by omega, _, _, _, _, rfl, rfl, by omega, ?_⟩
        rw [← hinv]
        show _ = if EMPTY ∈ T s then _ else _
        rw [if_pos (of_decide_eq_true h)]
      · repeat (walk_at "x")
        refine Drop.of (hQ rl) ?_
        rw [← hinv]
        show Sub2 ((rl, .list (sL (if EMPTY ∈ T s then _ else addAll acc (T s)))) :: mh) _
        rw [if_neg (of_decide_eq_false h)]
        walk_at "s2"
    · rw [sL_get] at hz
      obtain ⟨t, ht1, rfl⟩ := Option.map_eq_some_iff.mp hz
      have hjl := (List.getElem?_eq_some_iff.mp ht1).1
      have etk : (T s).take (j + 1) = (T s).take j ++ [t] := by rw [List.take_add_one, ht1]; rfl
      have eadd : addAll acc ((T s).take (j + 1)) = if t = EMPTY then addAll acc ((T s).take j) else if t ∈ addAll acc ((T s).take j) then addAll acc ((T s).take j) else addAll acc ((T s).take j) ++ [t] := by
        rw [etk]; unfold addAll; rw [List.foldl_append]; rfl
      have hal2 := addAll_len (acc := acc) (l := (T s).take j)
      rw [List.length_take] at hal2
      refine ⟨hjl, ?_⟩
      repeat (walk_at "x")
      refine ⟨fun h => ?_, fun h => ?_⟩
      · have ht : t = EMPTY := of_decide_eq_true h
        repeat (walk_at "x")
        refine ⟨by omega, some (.str t 0), ?_, ?_⟩
        · show _ = _
          rw [etk]
          have : decide (EMPTY ∈ (T s).take j ++ [t]) = true := decide_eq_true (by rw [ht]; simp)
          rw [this]
        · rw [eadd, if_pos ht]
      · have ht : ¬ t = EMPTY := of_decide_eq_false h
        have etm : decide (EMPTY ∈ (T s).take (j + 1)) = decide (EMPTY ∈ (T s).take j) := by
          rw [etk]
          have : (EMPTY ∈ (T s).take j ++ [t]) ↔ EMPTY ∈ (T s).take j := by simp [Ne.symm ht]
          exact decide_eq_decide.mpr this
        repeat (walk_at "x")
        refine TCmp.ninL (xs := addAll acc ((T s).take j)) (by walk_at "lat") ?_
        repeat (walk_at "x")
        refine ⟨fun h2 => ?_, fun h2 => ?_⟩
        · have hni : t ∉ addAll acc ((T s).take j) := by simpa using h2
          repeat (walk_at "x")
          refine TGet.append (by walk_at "mhas") ?_
          repeat (walk_at "x")
          refine TCall.append (by walk_at "mput") (by rw [sL_len]; unfold slim; omega) ?_
          repeat (walk_at "x")
          exact ⟨by omega, some (.str t 0), by rw [etm], by rw [eadd, if_neg ht, if_neg hni, sL_app]; rfl⟩
        · have hni : t ∈ addAll acc ((T s).take j) := by simpa using h2
          repeat (walk_at "x")
          exact ⟨by omega, some (.str t 0), by rw [etm], by rw [eadd, if_neg ht, if_pos hni]⟩
end
section
open PySem PySem.W
/-! what a grammar's symbols begin with -/
inductive Fst (rs : List Rule) : PySem.Str → PySem.Str → Prop
  | term {s} : s ∉ NAMES → Fst rs s s
  | head {n pre x post t} : (n, pre ++ x :: post) ∈ rs → (∀ y ∈ pre, Fst rs y EMPTY) → Fst rs x t → t ≠ EMPTY → Fst rs n t
  | empty {n ss} : (n, ss) ∈ rs → (∀ y ∈ ss, Fst rs y EMPTY) → Fst rs n EMPTY
theorem firstOf_mem {T : PySem.Str → List PySem.Str} {f : PySem.Str} : ∀ {ss acc : List PySem.Str}, f ∈ firstOf T ss acc ↔ f ∈ acc ∨ (∃ pre x post, ss = pre ++ x :: post ∧ (∀ y ∈ pre, EMPTY ∈ T y) ∧ f ∈ T x ∧ f ≠ EMPTY) ∨ (f = EMPTY ∧ ∀ y ∈ ss, EMPTY ∈ T y)
  | [], acc => by
    unfold firstOf
    rw [List.mem_append, List.mem_singleton]
    constructor
    · rintro (h | h)
      · exact .inl h
      · exact .inr (.inr ⟨h, fun y hy => by cases hy⟩)
    · rintro (h | ⟨pre, x, post, e, _⟩ | ⟨h, _⟩)
      · exact .inl h
      · simp at e
      · exact .inr h
  | x :: r, acc => by
    unfold firstOf
    by_cases hx : EMPTY ∈ T x
    · rw [if_pos hx, firstOf_mem (ss := r), addAll_mem]
      constructor
      · rintro ((h | ⟨h, h2⟩) | ⟨pre, y, post, e, h1, h2, h3⟩ | ⟨h, h2⟩)
        · exact .inl h
        · exact .inr (.inl ⟨[], x, r, rfl, fun y hy => (by cases hy), h, h2⟩)
        · exact .inr (.inl ⟨x :: pre, y, post, by rw [e]; rfl, fun z hz => by rcases List.mem_cons.mp hz with q | q; exact q ▸ hx; exact h1 z q, h2, h3⟩)
        · exact .inr (.inr ⟨h, fun z hz => by rcases List.mem_cons.mp hz with q | q; exact q ▸ hx; exact h2 z q⟩)
      · rintro (h | ⟨pre, y, post, e, h1, h2, h3⟩ | ⟨h, h2⟩)
        · exact .inl (.inl h)
        · cases pre with
          | nil =>
            simp only [List.nil_append, List.cons.injEq] at e
            obtain ⟨rfl, rfl⟩ := e
            exact .inl (.inr ⟨h2, h3⟩)
          | cons p pre =>
            simp only [List.cons_append, List.cons.injEq] at e
            obtain ⟨rfl, rfl⟩ := e
            exact .inr (.inl ⟨pre, y, post, rfl, fun z hz => h1 z (.tail _ hz), h2, h3⟩)
        · exact .inr (.inr ⟨h, fun z hz => h2 z (.tail _ hz)⟩)
    · rw [if_neg hx, addAll_mem]
      constructor
      · rintro (h | ⟨h, h2⟩)
        · exact .inl h
        · exact .inr (.inl ⟨[], x, r, rfl, fun y hy => (by cases hy), h, h2⟩)
      · rintro (h | ⟨pre, y, post, e, h1, h2, h3⟩ | ⟨h, h2⟩)
        · exact .inl h
        · cases pre with
          | nil =>
            simp only [List.nil_append, List.cons.injEq] at e
            obtain ⟨rfl, rfl⟩ := e
            exact .inr ⟨h2, h3⟩
          | cons p pre =>
            simp only [List.cons_append, List.cons.injEq] at e
            obtain ⟨rfl, rfl⟩ := e
            exact absurd (h1 x (.head _)) hx
        · exact absurd (h2 x (.head _)) hx
noncomputable def UNI : List PySem.Str := [EMPTY, "a", "b", "c"]
/-- the table so far -/
structure FInv (rs : List Rule) (T : PySem.Str → List PySem.Str) : Prop where
  term : ∀ s, s ∉ NAMES → T s = [s]
  nd : ∀ s, (T s).Nodup
  sound : ∀ s, ∀ t ∈ T s, Fst rs s t
  univ : ∀ s ∈ NAMES, ∀ t ∈ T s, t ∈ UNI
theorem FInv.len {rs : List Rule} {T : PySem.Str → List PySem.Str} (h : FInv rs T) (s : PySem.Str) : (T s).length ≤ 4 := by
  by_cases hs : s ∈ NAMES
  · exact sub_len (h.nd s) (h.univ s hs)
  · rw [h.term s hs]; exact Nat.succ_le_succ (Nat.zero_le _)
noncomputable def size (T : PySem.Str → List PySem.Str) : Nat := (T "S").length + (T "A").length + (T "B").length
theorem upd_same {T : PySem.Str → List PySem.Str} {n : PySem.Str} {v : List PySem.Str} : upd T n v n = v := by simp [upd]
theorem upd_other {T : PySem.Str → List PySem.Str} {n s : PySem.Str} {v : List PySem.Str} (h : s ≠ n) : upd T n v s = T s := by simp [upd, h]
theorem size_add {T : PySem.Str → List PySem.Str} {n f : PySem.Str} (hn : n ∈ NAMES) : size (upd T n (T n ++ [f])) = size T + 1 := by
  have h1 : ("S" : PySem.Str) ≠ "A" := by decide +kernel
  have h2 : ("S" : PySem.Str) ≠ "B" := by decide +kernel
  have h3 : ("A" : PySem.Str) ≠ "B" := by decide +kernel
  unfold size
  simp only [NAMES, List.mem_cons, List.not_mem_nil, or_false] at hn
  rcases hn with rfl | rfl | rfl
  · rw [upd_same, upd_other h1.symm, upd_other h2.symm, List.length_append]; simp only [List.length_cons, List.length_nil]; omega
  · rw [upd_same, upd_other h1, upd_other h3.symm, List.length_append]; simp only [List.length_cons, List.length_nil]; omega
  · rw [upd_same, upd_other h2, upd_other h3, List.length_append]; simp only [List.length_cons, List.length_nil]; omega
theorem FInv.size_le {rs : List Rule} {T : PySem.Str → List PySem.Str} (h : FInv rs T) : size T ≤ 12 := by
  have := h.len "S"; have := h.len "A"; have := h.len "B"
  unfold size; omega
theorem FInv.add {rs : List Rule} {T : PySem.Str → List PySem.Str} {n f : PySem.Str} (h : FInv rs T) (hn : n ∈ NAMES) (hf : f ∉ T n) (hF : Fst rs n f) (hu : f ∈ UNI) : FInv rs (upd T n (T n ++ [f])) := by
  refine ⟨fun s hs => ?_, fun s => ?_, fun s t ht => ?_, fun s hs t ht => ?_⟩
  · rw [upd_other (fun e : s = n => hs (by rw [e]; exact hn))]; exact h.term s hs
  · by_cases e : s = n
    · subst e; rw [upd_same, List.nodup_append]
      exact ⟨h.nd s, by simp, fun a ha b hb q => hf (by rw [List.mem_singleton.mp hb] at q; exact q ▸ ha)⟩
    · rw [upd_other e]; exact h.nd s
  · by_cases e : s = n
    · subst e; rw [upd_same] at ht
      rcases List.mem_append.mp ht with ht | ht
      · exact h.sound s t ht
      · rw [List.mem_singleton.mp ht]; exact hF
    · rw [upd_other e] at ht; exact h.sound s t ht
  · by_cases e : s = n
    · subst e; rw [upd_same] at ht
      rcases List.mem_append.mp ht with ht | ht
      · exact h.univ s hs t ht
      · rw [List.mem_singleton.mp ht]; exact hu
    · rw [upd_other e] at ht; exact h.univ s hs t ht
theorem FInv.first {rs : List Rule} {T : PySem.Str → List PySem.Str} {n f : PySem.Str} {ss : List PySem.Str} (h : FInv rs T) (hr : (n, ss) ∈ rs) (hss : ∀ s ∈ ss, s ∈ SYM) (hf : f ∈ firstOf T ss []) : Fst rs n f ∧ f ∈ UNI := by
  rcases firstOf_mem.mp hf with h0 | ⟨pre, x, post, e, h1, h2, h3⟩ | ⟨h1, h2⟩
  · cases h0
  · subst e
    refine ⟨.head hr (fun y hy => h.sound y _ (h1 y hy)) (h.sound x f h2) h3, ?_⟩
    by_cases hx : x ∈ NAMES
    · exact h.univ x hx f h2
    · rw [h.term x hx, List.mem_singleton] at h2
      subst h2
      have : ∀ s ∈ SYM, s ∉ NAMES → s ∈ UNI := by decide +kernel
      exact this f (hss f (by simp)) hx
  · subst h1
    exact ⟨.empty hr fun y hy => h.sound y _ (h2 y hy), .head _⟩
theorem FInv.complete {rs : List Rule} {T : PySem.Str → List PySem.Str} (h : FInv rs T) (hc : ∀ r ∈ rs, ∀ f ∈ firstOf T r.2 [], f ∈ T r.1) {s t : PySem.Str} (hs : Fst rs s t) : t ∈ T s := by
  induction hs with
  | term hn => rw [h.term _ hn]; simp
  | head hr _ _ hne ihp ihx => exact hc _ hr _ (firstOf_mem.mpr (.inr (.inl ⟨_, _, _, rfl, ihp, ihx, hne⟩)))
  | empty hr _ ih => exact hc _ hr _ (firstOf_mem.mpr (.inr (.inr ⟨rfl, ih⟩)))
/-- one run over the rules: what has changed -/
structure FStep (rs : List Rule) (T0 T : PySem.Str → List PySem.Str) (ch : Bool) : Prop where
  inv : FInv rs T
  same : ch = false → T = T0
  more : ch = true → size T0 < size T
theorem FStep.le {rs : List Rule} {T0 T : PySem.Str → List PySem.Str} {ch : Bool} (h : FStep rs T0 T ch) : size T0 ≤ size T := by
  cases ch with
  | false => rw [h.same rfl]; exact Nat.le_refl _
  | true => exact Nat.le_of_lt (h.more rfl)
theorem FStep.add {rs : List Rule} {T0 T : PySem.Str → List PySem.Str} {ch : Bool} {n f : PySem.Str} (h : FStep rs T0 T ch) (hn : n ∈ NAMES) (hf : f ∉ T n) (hs : Fst rs n f) (hu : f ∈ UNI) : FStep rs T0 (upd T n (T n ++ [f])) true :=
  ⟨h.inv.add hn hf hs hu, fun e => (by cases e), fun _ => by rw [size_add hn]; have := h.le; omega⟩
noncomputable def Tinit (s : PySem.Str) : List PySem.Str := if s ∈ NAMES then [] else [s]
theorem FInv.init (rs : List Rule) : FInv rs Tinit := by
  refine ⟨fun s hs => if_neg hs, fun s => ?_, fun s t ht => ?_, fun s hs t ht => ?_⟩
  · unfold Tinit; split <;> simp
  · unfold Tinit at ht
    split at ht
    · cases ht
    · rename_i h; rw [List.mem_singleton.mp ht]; exact .term h
  · unfold Tinit at ht
    rw [if_pos hs] at ht; cases ht
end
section
open PySem PySem.W PySem.Calls PyProof.Rows
variable {c : Sit} {m : Loc} {mh mh' : MH} {Q : Value → Loc → MH → Prop}
/-- a grammar that has told its beginnings -/
noncomputable abbrev g1H (g dx P PN PM Te No Fi Fo Pr UP : Addr) (R : MH) : MH := (g, .inst aG dx) :: (dx, .dict [("Productions", .ref P), ("Prodnames", .ref PN), ("Prodmap", .ref PM), ("Terminals", .ref Te), ("Nonterminals", .ref No), ("First", .ref Fi), ("Follow", .ref Fo), ("Precedence", .ref Pr), ("UsedPrecedence", .ref UP), ("Start", .none)]) :: (Fo, .dict []) :: R
noncomputable def FKEY (KK : List PySem.Str) : List PySem.Str := TERM ++ [PySem.Str.ofString "$end"] ++ KK
inductive Gram1 (H : MH) (mh : MH) (g Fi : Addr) (rs : List Rule) : Prop
  | mk (dx P PN PM Te No Fo Pr UP : Addr) (ps : List Value) (KK : List PySem.Str) (AK FA : PySem.Str → Addr) (T : PySem.Str → List PySem.Str) (blk : MH) :
    H = g1H g dx P PN PM Te No Fi Fo Pr UP ((P, .list (.none :: ps)) :: (No, .dict (enc (fun s => s) KK fun s => .ref (AK s))) :: (tabB Fi (FKEY KK) FA (fun s => sL (T s)) ++ (blk ++ mh))) →
    ProdsAt blk ps rs → KK.Nodup → (∀ s, s ∈ KK ↔ s ∈ NAMES) → FInv rs T → (∀ s t, Fst rs s t → t ∈ T s) → Gram1 H mh g Fi rs
theorem prods_named {b : MH} {ps : List Value} {rs : List Rule} (h : ProdsAt b ps rs) (s : PySem.Str) : ProdsAt b (named ps rs s) (rs.filter fun r => decide (r.1 = s)) := by
  induction h with
  | nil => exact .nil
  | @cons p r ps rs hp _ ih =>
    unfold named at ih ⊢
    rw [List.zip_cons_cons, List.filter_cons, List.filter_cons]
    by_cases e : r.1 = s
    · simp only [e, decide_true, if_true, List.map_cons]
      exact .cons hp ih
    · simp only [e, decide_false]
      exact ih
theorem enc_get {ks : List PySem.Str} {f : PySem.Str → Value} {k : Nat} {y : PySem.Str} {w : Value} (h : (enc (fun s => s) ks f)[k]? = some (y, w)) : ks[k]? = some y ∧ w = f y := by
  unfold enc at h
  rw [List.getElem?_map] at h
  obtain ⟨a, h1, h2⟩ := Option.map_eq_some_iff.mp h
  simp only [Prod.mk.injEq] at h2
  obtain ⟨rfl, rfl⟩ := h2
  exact ⟨h1, rfl⟩
theorem take_next {α : Type} {l : List α} {k : Nat} {x : α} (h : l[k]? = some x) : l.take (k + 1) = l.take k ++ [x] := by rw [List.take_add_one, h]; rfl
theorem nit {α : Type} {l : List α} (nd : l.Nodup) {k : Nat} {x : α} (h : l[k]? = some x) : x ∉ l.take k := by
  have h1 : (l.take (k + 1)).Nodup := nd.sublist (List.take_sublist _ _)
  rw [take_next h, List.nodup_append] at h1
  exact fun hm => h1.2.2 x hm x (by simp) rfl
theorem upd_Tinit {y : PySem.Str} {v : List Value} (h : sL (Tinit y) = v) : upd (fun s => sL (Tinit s)) y v = fun s => sL (Tinit s) := by
  funext s
  unfold upd
  by_cases e : s = y
  · rw [if_pos e, e, h]
  · rw [if_neg e]
noncomputable abbrev cfL (g : Addr) (t n sc p f : Option Value) : Loc := [("self", some (.ref g)), ("t", t), ("n", n), ("some_change", sc), ("p", p), ("f", f)]
set_option maxHeartbeats 8000000 in
theorem cfirst_spec (hn : 1 < c.n) {H : MH} {g : Addr} {rs : List Rule} (hG : Gram H mh g rs) (hok : ∀ r ∈ rs, RuleOk r) (hall : ∀ s ∈ NAMES, ∃ r ∈ rs, r.1 = s) (hlen : rs.length ≤ 6)
    (hQ : ∀ H' Fi, Gram1 H' mh g Fi rs → Q (.ref Fi) m H') (hW : Ctx c := by assumption) : TCall c m H (.ref fCFirst.f) [.ref g] [] Q := by
  obtain ⟨dx, P, PN, PM, Te, No, Fi, Fo, Pr, UP, o, ps, mk, NK, KK, AT, AN, AK, TT, KT, blk, rfl, hps, hmk, ndN, ndK, hNK, hKN, hKr, hTT, hKT⟩ := hG
  have hKiff : ∀ s, s ∈ KK ↔ s ∈ NAMES := fun s => ⟨hKN s, fun h => by obtain ⟨r, hr, e⟩ := hall s h; rw [← e]; exact (hKr r hr).1⟩
  have hNin : ∀ s ∈ NAMES, s ∈ NK := fun s h => (hNK s).mpr (hall s h)
  refine TCall.sub2 (mh' := (Fi, .dict []) :: g1H g dx P PN PM Te No Fi Fo Pr UP ((P, .list (.none :: ps)) :: (Te, .dict (enc (fun s => s) TERM fun s => .ref (AT s))) :: (No, .dict (enc (fun s => s) KK fun s => .ref (AK s))) :: (tabB PN NK AN (named ps rs) ++ (blk ++ mh)))) ?_ (by unfold gD; walk_at "s2")
  refine TCall.drop ?_
  refine TCall.def_ fCFirst hW.cfirst (by omega) (cfL g none none none none none) [] ?_ rfl rfl (by decide) fun L => ?_
  · intro as' e s X
    obtain ⟨a, rfl⟩ := List.length_eq_one_iff.mp e
    exact BindsTo.of_eq rfl
  have hW' : Ctx (c.into fCFirst L) := hW
  have hPNd := tabB_dict (d := PN) (keys := NK) (A := AN) (T := named ps rs)
  have hkl : KK.length ≤ 3 := nodup_len ndK hKN
  with_unfolding_all refine TS.consA ?_
  intro QH hid
  repeat (walk_at "x")
  refine TV.dict (by walk_at "mhas") (by decide) ?_
  refine And.intro (fun h => by cases h) (fun _ => ?_)
  repeat (walk_at "x")
  refine TLoop.dict (fun ep k m' mh' => k ≤ 4 ∧ Ex2 fun v FA => IsM m' (cfL g v none none none none) ∧ IsH mh' (tabB Fi (TERM.take k) FA (fun s => sL (Tinit s)) ++ g1H g dx P PN PM Te No Fi Fo Pr UP ((P, .list (.none :: ps)) :: (Te, .fdict (enc (fun s => s) TERM fun s => .ref (AT s)) ep) :: (No, .dict (enc (fun s => s) KK fun s => .ref (AK s))) :: (tabB PN NK AN (named ps rs) ++ (blk ++ mh))))) (by walk_at "mhas") (fun ep => ⟨(Fi, .dict []) :: g1H g dx P PN PM Te No Fi Fo Pr UP ((P, .list (.none :: ps)) :: (Te, .fdict (enc (fun s => s) TERM fun s => .ref (AT s)) ep) :: (No, .dict (enc (fun s => s) KK fun s => .ref (AK s))) :: (tabB PN NK AN (named ps rs) ++ (blk ++ mh))), by walk_at "mput", Nat.zero_le _, _, fun _ => 0, rfl, rfl⟩) ?_
  rintro ep J hJ k _ _ ⟨hk, v, FA, rfl, rfl⟩
  have hFd := tabB_dict (d := Fi) (keys := TERM.take k) (A := FA) (T := fun s => sL (Tinit s))
  refine ⟨by walk_at "mhas", fun hz => ?_, fun y w hz => ?_⟩
  · have hk4 : k = 4 := by
      rw [List.getElem?_eq_none_iff, enc_len] at hz
      have : TERM.length = 4 := rfl
      omega
    subst hk4
    repeat (walk_at "x")
    refine ⟨(show 1 ≤ slim by decide), fun e1 => ?_⟩
    repeat (walk_at "x")
    have hend : PySem.Str.ofString "$end" ∉ TERM.take 4 := by decide +kernel
    refine TSetItem.tabNew (T := fun s => sL (Tinit s)) (A := FA) (keys := TERM.take 4) (by walk_at "pullb") hend (by decide) ?_
    have eT := upd_Tinit (y := PySem.Str.ofString "$end") (v := [Value.str (PySem.Str.ofString "$end") 0]) (by decide +kernel)
    rw [eT]
    generalize upd FA (PySem.Str.ofString "$end") e1 = FA1
    clear hFd
    have hFd := tabB_dict (d := Fi) (keys := TERM.take 4 ++ [PySem.Str.ofString "$end"]) (A := FA1) (T := fun s => sL (Tinit s))
    repeat (walk_at "x")
    refine TLoop.dict (fun ep2 k m' mh' => k ≤ KK.length ∧ Ex2 fun n FA => IsM m' (cfL g v n none none none) ∧ IsH mh' (tabB Fi (TERM ++ [PySem.Str.ofString "$end"] ++ KK.take k) FA (fun s => sL (Tinit s)) ++ g1H g dx P PN PM Te No Fi Fo Pr UP ((P, .list (.none :: ps)) :: (Te, .fdict (enc (fun s => s) TERM fun s => .ref (AT s)) ep) :: (No, .fdict (enc (fun s => s) KK fun s => .ref (AK s)) ep2) :: (tabB PN NK AN (named ps rs) ++ (blk ++ mh))))) (by walk_at "mhas") (fun ep2 => ⟨_, by walk_at "mput", Nat.zero_le _, _, FA1, rfl, by rw [List.take_zero, List.append_nil]; rfl⟩) ?_
    clear hFd
    rintro ep2 J hJ k _ _ ⟨hk, n, FA2, rfl, rfl⟩
    have hFd := tabB_dict (d := Fi) (keys := TERM ++ [PySem.Str.ofString "$end"] ++ KK.take k) (A := FA2) (T := fun s => sL (Tinit s))
    refine ⟨by walk_at "mhas", fun hz => ?_, fun y w hz => ?_⟩
    · have hkk : k = KK.length := by
        rw [List.getElem?_eq_none_iff, enc_len] at hz; omega
      subst hkk
      rw [List.take_length]
      repeat (walk_at "x")
      refine TS1.sub2 (mh' := tabB Fi (FKEY KK) FA2 (fun s => sL (Tinit s)) ++ g1H g dx P PN PM Te No Fi Fo Pr UP ((P, .list (.none :: ps)) :: (No, .fdict (enc (fun s => s) KK fun s => .ref (AK s)) ep2) :: (tabB PN NK AN (named ps rs) ++ (blk ++ mh)))) ?_ (by unfold FKEY; walk_at "s2")
      clear hFd
      have hfn : (FKEY KK).Nodup := by
        unfold FKEY
        rw [List.nodup_append]
        have h1 : ∀ s ∈ NAMES, s ∉ TERM ++ [PySem.Str.ofString "$end"] := by decide +kernel
        exact ⟨by decide +kernel, ndK, fun a ha b hb e => h1 b (hKN b hb) (e ▸ ha)⟩
      have hfk : ∀ s ∈ SYM, s ∈ FKEY KK := by
        have h1 : ∀ s ∈ SYM, s ∈ NAMES ∨ s ∈ TERM := by decide +kernel
        intro s hs
        unfold FKEY
        rcases h1 s hs with q | q
        · exact List.mem_append_right _ ((hKiff s).mpr q)
        · exact List.mem_append_left _ (List.mem_append_left _ q)
      have hfN : ∀ s ∈ NAMES, s ∈ FKEY KK := fun s hs => List.mem_append_right _ ((hKiff s).mpr hs)
      refine TS1.while_ (fun k m' mh' => Ex3 fun v n sc => Ex4 fun p f ep T => IsM m' (cfL g v n sc p f) ∧ IsH mh' (tabB Fi (FKEY KK) FA2 (fun s => sL (T s)) ++ g1H g dx P PN PM Te No Fi Fo Pr UP ((P, .list (.none :: ps)) :: (No, .fdict (enc (fun s => s) KK fun s => .ref (AK s)) ep) :: (tabB PN NK AN (named ps rs) ++ (blk ++ mh)))) ∧ FInv rs T ∧ k + size T = 13) 13 ⟨_, _, _, _, _, ep2, Tinit, rfl, rfl, FInv.init rs, by decide +kernel⟩ ?_
      clear hJ J n v
      rintro K _ _ ⟨v, n, sc, p, f, ep3, T0, rfl, rfl, hI0, hK⟩
      repeat (walk_at "x")
      refine TLoop.thaw (d := No) (kvs := enc (fun s => s) KK fun s => .ref (AK s)) (ep := ep3) (mh' := tabB Fi (FKEY KK) FA2 (fun s => sL (T0 s)) ++ g1H g dx P PN PM Te No Fi Fo Pr UP ((P, .list (.none :: ps)) :: (No, .dict (enc (fun s => s) KK fun s => .ref (AK s))) :: (tabB PN NK AN (named ps rs) ++ (blk ++ mh)))) (by walk_at "mput") ?_
      refine TLoop.dict (fun ep k m' mh' => k ≤ KK.length ∧ Ex2 fun n p => Ex3 fun f ch T => IsM m' (cfL g v n (some (.bool ch)) p f) ∧ IsH mh' (tabB Fi (FKEY KK) FA2 (fun s => sL (T s)) ++ g1H g dx P PN PM Te No Fi Fo Pr UP ((P, .list (.none :: ps)) :: (No, .fdict (enc (fun s => s) KK fun s => .ref (AK s)) ep) :: (tabB PN NK AN (named ps rs) ++ (blk ++ mh)))) ∧
        FStep rs T0 T ch ∧ (ch = false → ∀ r ∈ rs, r.1 ∈ KK.take k → ∀ f ∈ firstOf T0 r.2 [], f ∈ T0 r.1)) (by walk_at "mhas") (fun ep => ⟨tabB Fi (FKEY KK) FA2 (fun s => sL (T0 s)) ++ g1H g dx P PN PM Te No Fi Fo Pr UP ((P, .list (.none :: ps)) :: (No, .fdict (enc (fun s => s) KK fun s => .ref (AK s)) ep) :: (tabB PN NK AN (named ps rs) ++ (blk ++ mh))), by walk_at "mput", Nat.zero_le _, _, _, _, false, T0, rfl, rfl, ⟨hI0, fun _ => rfl, fun h => by cases h⟩, fun _ r _ h => by simp at h⟩) ?_
      clear n p f
      rintro ep4 J hJ k _ _ ⟨hk, n, p, f, ch, T, rfl, rfl, hS, hC⟩
      refine ⟨by walk_at "mhas", fun hz => ?_, fun y w hz => ?_⟩
      · have hkk : k = KK.length := by
          rw [List.getElem?_eq_none_iff, enc_len] at hz; omega
        subst hkk
        rw [List.take_length] at hC
        repeat (walk_at "x")
        refine ⟨fun h => ?_, fun h => ?_⟩
        · have hch : ch = false := by simpa using h
          have eT := hS.same hch
          subst eT
          have hcomp : ∀ s t, Fst rs s t → t ∈ T s := fun s t hst => hS.inv.complete (fun r hr f hf => hC hch r hr ((hKr r hr).1) f hf) hst
          refine TS.thaw (d := No) (kvs := enc (fun s => s) KK fun s => .ref (AK s)) (ep := ep4) (mh' := tabB Fi (FKEY KK) FA2 (fun s => sL (T s)) ++ g1H g dx P PN PM Te No Fi Fo Pr UP ((P, .list (.none :: ps)) :: (No, .dict (enc (fun s => s) KK fun s => .ref (AK s))) :: (tabB PN NK AN (named ps rs) ++ (blk ++ mh)))) (by walk_at "mput") ?_
          repeat (walk_at "x")
          exact Drop.of (hQ _ Fi (.mk dx P PN PM Te No Fo Pr UP ps KK AK FA2 T blk rfl hps ndK hKiff hS.inv hcomp)) (by walk_at "s2")
        · have hch : ch = true := by simpa using h
          have h1 := hS.more hch
          have h2 := hS.inv.size_le
          repeat (walk_at "x")
          exact ⟨13 - size T, by omega, _, _, _, _, _, ep4, T, rfl, rfl, hS.inv, by omega⟩
      · obtain ⟨hy, -⟩ := enc_get hz
        have hkl2 := (List.getElem?_eq_some_iff.mp hy).1
        have hyN := hKN y (List.mem_of_getElem? hy)
        have hyNK := hNin y hyN
        have hnl := tabB_list (d := PN) (A := AN) (T := named ps rs) hyNK
        have hps2 := prods_named hps y
        repeat (walk_at "x")
        refine TSub.tab (by walk_at "mhas") hyNK ?_
        have hpl2 := hps2.len
        refine TLoop.list0 (xs0 := named ps rs y) (fun i m' mh' => i ≤ (named ps rs y).length ∧ Ex4 fun p f ch T => IsM m' (cfL g v (some (.str y 0)) (some (.bool ch)) p f) ∧ IsH mh' (tabB Fi (FKEY KK) FA2 (fun s => sL (T s)) ++ g1H g dx P PN PM Te No Fi Fo Pr UP ((P, .list (.none :: ps)) :: (No, .fdict (enc (fun s => s) KK fun s => .ref (AK s)) ep4) :: (tabB PN NK AN (named ps rs) ++ (blk ++ mh)))) ∧
          FStep rs T0 T ch ∧ (ch = false → ∀ r ∈ rs, r.1 ∈ KK.take k → ∀ f ∈ firstOf T0 r.2 [], f ∈ T0 r.1) ∧ (ch = false → ∀ r ∈ (rs.filter fun r => decide (r.1 = y)).take i, ∀ f ∈ firstOf T0 r.2 [], f ∈ T0 y)) (named ps rs y).length (by walk_at "lat") ⟨Nat.zero_le _, _, _, ch, T, rfl, rfl, hS, hC, fun _ r h => by simp at h⟩ ?_
        clear p f hS hC T ch
        rintro i _ _ ⟨hi, p, f, ch, T, rfl, rfl, hS, hC, hD⟩
        refine ⟨named ps rs y, by walk_at "lat", fun hz2 => ?_, fun x hz2 => ?_⟩
        · rw [List.getElem?_eq_none_iff] at hz2
          obtain rfl : i = (named ps rs y).length := by omega
          rw [hpl2, List.take_length] at hD
          repeat (walk_at "x")
          refine ⟨by omega, _, _, _, ch, T, rfl, rfl, hS, fun hch r hr hrk f hf => ?_⟩
          rw [take_next hy] at hrk
          rcases List.mem_append.mp hrk with hrk | hrk
          · exact hC hch r hr hrk f hf
          · have e := List.mem_singleton.mp hrk
            rw [e]
            exact hD hch r (List.mem_filter.mpr ⟨hr, decide_eq_true e⟩) f hf
        · obtain ⟨q, r, rfl, hr, hq⟩ := hps2.get hz2
          have hil := (List.getElem?_eq_some_iff.mp hz2).1
          have hrf := List.mem_filter.mp (List.mem_of_getElem? hr)
          have hrs := hrf.1
          have hry : r.1 = y := of_decide_eq_true hrf.2
          obtain ⟨dxq, tp, as, q1, q2, q3, q4, q5⟩ := hq.at_
          have hro := hok r hrs
          have hTab : TabAt (tabB Fi (FKEY KK) FA2 (fun s => sL (T s))) Fi (FKEY KK) FA2 T := ⟨tabB_dict, fun s hs => tabB_list hs⟩
          refine ⟨hil, ?_⟩
          walk_at "x"
          refine TS.drop ?_
          repeat (walk_at "x")
          refine TGet.own hW.gcls (by walk_at "mhas") (by walk_at "mhas") hW.mFirst.1 hW.mFirst.2 (VNo.at_ (by walk_at "vno")) ?_
          repeat (walk_at "x")
          refine first_spec (c := c.into fCFirst L) (T := T) (keys := FKEY KK) (A := FA2) (by show 0 < c.n - 1; omega) (by walk_at "mhas") (by unfold gD; walk_at "mhas") (hTab.mono fun a o x => (by walk_at "mhas")) (by walk_at "mhas") hro.len (fun s hs => hfk s (hro.syms s hs)) (fun s hs => Nat.le_trans (hS.inv.len s) (by decide)) ?_
          intro fr
          have hsound : ∀ f ∈ firstOf T r.2 [], Fst rs y f ∧ f ∈ UNI := fun f hf => hS.inv.first (by rw [← hry]; exact hrs) hro.syms hf
          have hcl0 : ch = false → firstOf T r.2 [] = firstOf T0 r.2 [] := fun h => by rw [hS.same h]
          generalize firstOf T r.2 [] = F at hsound hcl0
          refine TLoop.list (xs0 := sL F) (fun j m' mh' => j ≤ F.length ∧ Ex3 fun f ch2 T => IsM m' (cfL g v (some (.str y 0)) (some (.bool ch2)) (some (.ref q)) f) ∧ IsH mh' ((fr, .list (sL F)) :: (tabB Fi (FKEY KK) FA2 (fun s => sL (T s)) ++ g1H g dx P PN PM Te No Fi Fo Pr UP ((P, .list (.none :: ps)) :: (No, .fdict (enc (fun s => s) KK fun s => .ref (AK s)) ep4) :: (tabB PN NK AN (named ps rs) ++ (blk ++ mh))))) ∧
            FStep rs T0 T ch2 ∧ (ch2 = false → ch = false) ∧ (∀ f ∈ F.take j, f ∈ T y)) F.length (by walk_at "lat") ⟨Nat.zero_le _, _, ch, T, rfl, rfl, hS, fun h => h, fun f h => by simp at h⟩ ?_
          clear hTab hS f T
          rintro J hJ j _ _ ⟨hj, f, ch2, T, rfl, rfl, hS, hcc, hin⟩
          refine ⟨sL F, by walk_at "lat", fun hz3 => ?_, fun x hz3 => ?_⟩
          · rw [sL_get, Option.map_eq_none_iff, List.getElem?_eq_none_iff] at hz3
            obtain rfl : j = F.length := by omega
            rw [List.take_length] at hin
            repeat (walk_at "x")
            refine Drop.of ⟨by omega, _, _, ch2, T, rfl, rfl, hS, fun h => hC (hcc h), fun h r' hr' f hf => ?_⟩ (by walk_at "s2")
            rw [take_next hr] at hr'
            rcases List.mem_append.mp hr' with hr' | hr'
            · exact hD (hcc h) r' hr' f hf
            · rw [List.mem_singleton.mp hr', ← hcl0 (hcc h)] at hf
              rw [← hS.same h]; exact hin f hf
          · rw [sL_get] at hz3
            obtain ⟨t, ht1, rfl⟩ := Option.map_eq_some_iff.mp hz3
            have hjl := (List.getElem?_eq_some_iff.mp ht1).1
            have hys := hsound t (List.mem_of_getElem? ht1)
            have hFd := tabB_dict (d := Fi) (keys := FKEY KK) (A := FA2) (T := fun s => sL (T s))
            have hFl := tabB_list (d := Fi) (A := FA2) (T := fun s => sL (T s)) (hfN y hyN)
            have hFp := tabB_put (d := Fi) (A := FA2) (T := fun s => sL (T s)) (v := sL (T y) ++ [.str t 0]) hfn (hfN y hyN)
            have eU : upd (fun s => sL (T s)) y (sL (T y) ++ [.str t 0]) = fun s => sL (upd T y (T y ++ [t]) s) := by
              funext s; unfold upd; split
              · rw [sL_app]; rfl
              · rfl
            rw [eU] at hFp
            refine ⟨hjl, ?_⟩
            repeat (walk_at "x")
            refine TSub.tab (by walk_at "mhas") (hfN y hyN) ?_
            repeat (walk_at "x")
            refine TCmp.ninL (xs := T y) (by walk_at "lat") ?_
            repeat (walk_at "x")
            refine ⟨fun h => ?_, fun h => ?_⟩
            · have hni : t ∉ T y := by simpa using h
              repeat (walk_at "x")
              refine TSub.tab (by walk_at "mhas") (hfN y hyN) ?_
              refine TGet.append (by walk_at "mhas") ?_
              repeat (walk_at "x")
              refine TCall.append (by walk_at "mput") (by rw [sL_len]; have := hS.inv.len y; unfold slim; omega) ?_
              repeat (walk_at "x")
              refine ⟨by omega, _, true, upd T y (T y ++ [t]), rfl, rfl, hS.add hyN hni hys.1 hys.2, fun h => by (cases h), fun f hf => ?_⟩
              rw [upd_same]
              rw [take_next ht1] at hf
              rcases List.mem_append.mp hf with hf | hf
              · exact List.mem_append_left _ (hin f hf)
              · exact List.mem_append_right _ hf
            · have hni : t ∈ T y := by simpa using h
              repeat (walk_at "x")
              refine ⟨by omega, _, ch2, T, rfl, rfl, hS, hcc, fun f hf => ?_⟩
              rw [take_next ht1] at hf
              rcases List.mem_append.mp hf with hf | hf
              · exact hin f hf
              · rw [List.mem_singleton.mp hf]; exact hni
    · obtain ⟨hy, -⟩ := enc_get hz
      have hkl2 := (List.getElem?_eq_some_iff.mp hy).1
      have hyK := List.mem_of_getElem? hy
      have hyN := hKN y hyK
      have hny : y ∉ TERM ++ [PySem.Str.ofString "$end"] ++ KK.take k := by
        have h1 : ∀ s ∈ NAMES, s ∉ TERM ++ [PySem.Str.ofString "$end"] := by decide +kernel
        intro h
        rcases List.mem_append.mp h with h | h
        · exact h1 y hyN h
        · exact nit ndK hy h
      have eT := upd_Tinit (y := y) (v := []) (by unfold Tinit; rw [if_pos hyN]; rfl)
      repeat (walk_at "x")
      refine ⟨(show 0 ≤ slim by decide), fun e1 => ?_⟩
      repeat (walk_at "x")
      refine TSetItem.tabNew (T := fun s => sL (Tinit s)) (A := FA2) (keys := TERM ++ [PySem.Str.ofString "$end"] ++ KK.take k) (by walk_at "pullb") hny (by rw [List.length_append, List.length_take]; have : (TERM ++ [PySem.Str.ofString "$end"]).length = 5 := rfl; unfold slim; omega) ?_
      rw [eT]
      repeat (walk_at "x")
      exact ⟨by omega, _, upd FA2 y e1, rfl, by rw [take_next hy, ← List.append_assoc (TERM ++ [PySem.Str.ofString "$end"])]⟩
  · obtain ⟨hy, -⟩ := enc_get hz
    have hkl2 := (List.getElem?_eq_some_iff.mp hy).1
    have hk4 : TERM.length = 4 := rfl
    have hyT := List.mem_of_getElem? hy
    have hny : y ∉ TERM.take k := nit (by decide) hy
    have eT := upd_Tinit (y := y) (v := [.str y 0]) (by
      have h1 : ∀ s ∈ TERM, s ∉ NAMES := by decide +kernel
      unfold Tinit; rw [if_neg (h1 y hyT)]; rfl)
    repeat (walk_at "x")
    refine ⟨(show 1 ≤ slim by decide), fun e1 => ?_⟩
    repeat (walk_at "x")
    refine TSetItem.tabNew (T := fun s => sL (Tinit s)) (A := FA) (keys := TERM.take k) (by walk_at "pullb") hny (by rw [List.length_take]; unfold slim; omega) ?_
    rw [eT]
    repeat (walk_at "x")
    exact ⟨by omega, _, _, rfl, by rw [take_next hy]⟩
end
section
open PySem PySem.W
noncomputable def ENDS : PySem.Str := "$end"
/-! what a grammar's names are followed by -/
inductive Fol (rs : List Rule) : PySem.Str → PySem.Str → Prop
  | start : Fol rs "S" ENDS
  | first {n pre B p x q t} : (n, pre ++ B :: (p ++ x :: q)) ∈ rs → B ∈ NAMES → (∀ y ∈ p, Fst rs y EMPTY) → Fst rs x t → t ≠ EMPTY → Fol rs B t
  | from {n pre B post t} : (n, pre ++ B :: post) ∈ rs → B ∈ NAMES → (∀ y ∈ post, Fst rs y EMPTY) → Fol rs n t → Fol rs B t
noncomputable def UNI2 : List PySem.Str := [ENDS, "a", "b", "c"]
structure OInv (rs : List Rule) (W : PySem.Str → List PySem.Str) : Prop where
  nd : ∀ s, (W s).Nodup
  sound : ∀ s, ∀ t ∈ W s, Fol rs s t
  univ : ∀ s, ∀ t ∈ W s, t ∈ UNI2
  start : ENDS ∈ W "S"
theorem OInv.len {rs : List Rule} {W : PySem.Str → List PySem.Str} (h : OInv rs W) (s : PySem.Str) : (W s).length ≤ 4 := sub_len (h.nd s) (h.univ s)
theorem OInv.size_le {rs : List Rule} {W : PySem.Str → List PySem.Str} (h : OInv rs W) : size W ≤ 12 := by
  have := h.len "S"; have := h.len "A"; have := h.len "B"
  unfold size; omega
theorem OInv.add {rs : List Rule} {W : PySem.Str → List PySem.Str} {n f : PySem.Str} (h : OInv rs W) (hf : f ∉ W n) (hF : Fol rs n f) (hu : f ∈ UNI2) : OInv rs (upd W n (W n ++ [f])) := by
  refine ⟨fun s => ?_, fun s t ht => ?_, fun s t ht => ?_, ?_⟩
  · by_cases e : s = n
    · subst e; rw [upd_same, List.nodup_append]
      exact ⟨h.nd s, by simp, fun a ha b hb q => hf (by rw [List.mem_singleton.mp hb] at q; exact q ▸ ha)⟩
    · rw [upd_other e]; exact h.nd s
  · by_cases e : s = n
    · subst e; rw [upd_same] at ht
      rcases List.mem_append.mp ht with ht | ht
      · exact h.sound s t ht
      · rw [List.mem_singleton.mp ht]; exact hF
    · rw [upd_other e] at ht; exact h.sound s t ht
  · by_cases e : s = n
    · subst e; rw [upd_same] at ht
      rcases List.mem_append.mp ht with ht | ht
      · exact h.univ s t ht
      · rw [List.mem_singleton.mp ht]; exact hu
    · rw [upd_other e] at ht; exact h.univ s t ht
  · by_cases e : ("S" : PySem.Str) = n
    · rw [← e, upd_same]; exact List.mem_append_left _ h.start
    · rw [upd_other e]; exact h.start
structure OStep (rs : List Rule) (W0 W : PySem.Str → List PySem.Str) (ch : Bool) : Prop where
  inv : OInv rs W
  same : ch = false → W = W0
  more : ch = true → size W0 < size W
theorem OStep.le {rs : List Rule} {W0 W : PySem.Str → List PySem.Str} {ch : Bool} (h : OStep rs W0 W ch) : size W0 ≤ size W := by
  cases ch with
  | false => rw [h.same rfl]; exact Nat.le_refl _
  | true => exact Nat.le_of_lt (h.more rfl)
theorem OStep.add {rs : List Rule} {W0 W : PySem.Str → List PySem.Str} {ch : Bool} {n f : PySem.Str} (h : OStep rs W0 W ch) (hn : n ∈ NAMES) (hf : f ∉ W n) (hs : Fol rs n f) (hu : f ∈ UNI2) : OStep rs W0 (upd W n (W n ++ [f])) true :=
  ⟨h.inv.add hf hs hu, fun e => (by cases e), fun _ => by rw [size_add hn]; have := h.le; omega⟩
noncomputable def Winit (s : PySem.Str) : List PySem.Str := if s = "S" then [ENDS] else []
theorem OInv.init (rs : List Rule) : OInv rs Winit := by
  have hS : ∀ s t, t ∈ Winit s → s = "S" ∧ t = ENDS := by
    intro s t ht
    unfold Winit at ht
    split at ht
    · exact ⟨by assumption, List.mem_singleton.mp ht⟩
    · cases ht
  refine ⟨fun s => ?_, fun s t ht => ?_, fun s t ht => ?_, by unfold Winit; rw [if_pos rfl]; simp⟩
  · unfold Winit; split <;> simp
  · obtain ⟨rfl, rfl⟩ := hS s t ht; exact .start
  · obtain ⟨rfl, rfl⟩ := hS s t ht; exact .head _
/-- a place in a rule is settled -/
noncomputable def Settled (T W : PySem.Str → List PySem.Str) (n : PySem.Str) (ss : List PySem.Str) (i : Nat) : Prop :=
  ∀ B, ss[i]? = some B → B ∈ NAMES → (∀ f ∈ firstOf T (ss.drop (i + 1)) [], f ≠ EMPTY → f ∈ W B) ∧ (EMPTY ∈ firstOf T (ss.drop (i + 1)) [] → ∀ f ∈ W n, f ∈ W B)
theorem split_at {α : Type} {ss : List α} {i : Nat} {B : α} (h : ss[i]? = some B) : ss = ss.take i ++ B :: ss.drop (i + 1) := by
  have hl := (List.getElem?_eq_some_iff.mp h).1
  have hb : ss[i] = B := by rw [List.getElem?_eq_getElem hl] at h; exact Option.some.inj h
  rw [← hb, ← List.drop_eq_getElem_cons hl, List.take_append_drop]
section
variable {rs : List Rule} {T W : PySem.Str → List PySem.Str} (hT : FInv rs T) (hc : ∀ s t, Fst rs s t → t ∈ T s)
include hT in
theorem fol_first {n B f : PySem.Str} {ss : List PySem.Str} {i : Nat} (hr : (n, ss) ∈ rs) (hss : ∀ s ∈ ss, s ∈ SYM) (hB : ss[i]? = some B) (hN : B ∈ NAMES) (hf : f ∈ firstOf T (ss.drop (i + 1)) []) (hne : f ≠ EMPTY) : Fol rs B f ∧ f ∈ UNI2 := by
  rcases firstOf_mem.mp hf with h0 | ⟨pre, x, post, e, h1, h2, h3⟩ | ⟨h1, h2⟩
  · cases h0
  · have es := split_at hB
    rw [e] at es
    refine ⟨.first (by rw [← es]; exact hr) hN (fun y hy => hT.sound y _ (h1 y hy)) (hT.sound x f h2) h3, ?_⟩
    have hx : x ∈ SYM := hss x (by rw [es]; simp)
    have : f ∈ UNI := by
      by_cases hxN : x ∈ NAMES
      · exact hT.univ x hxN f h2
      · rw [hT.term x hxN, List.mem_singleton] at h2
        subst h2
        have : ∀ s ∈ SYM, s ∉ NAMES → s ∈ UNI := by decide +kernel
        exact this f hx hxN
    unfold UNI at this
    rcases List.mem_cons.mp this with q | q
    · exact absurd q hne
    · exact .tail _ q
  · exact absurd h1 hne
include hT in
theorem fol_from {n B f : PySem.Str} {ss : List PySem.Str} {i : Nat} (hr : (n, ss) ∈ rs) (hB : ss[i]? = some B) (hN : B ∈ NAMES) (he : EMPTY ∈ firstOf T (ss.drop (i + 1)) []) (hf : Fol rs n f) : Fol rs B f := by
  rcases firstOf_mem.mp he with h0 | ⟨_, _, _, _, _, _, h3⟩ | ⟨_, h2⟩
  · cases h0
  · exact absurd rfl h3
  · exact .from (by rw [← split_at hB]; exact hr) hN (fun y hy => hT.sound y _ (h2 y hy)) hf
include hc in
theorem OInv.complete (h : OInv rs W) (hs : ∀ r ∈ rs, ∀ i, Settled T W r.1 r.2 i) {s t : PySem.Str} (hf : Fol rs s t) : t ∈ W s := by
  have at_ : ∀ {pre : List PySem.Str} {B : PySem.Str} {post : List PySem.Str}, (pre ++ B :: post)[pre.length]? = some B ∧ (pre ++ B :: post).drop (pre.length + 1) = post := by
    intro pre B post
    refine ⟨by simp, ?_⟩
    rw [← List.drop_drop, List.drop_left]; rfl
  induction hf with
  | start => exact h.start
  | @first n pre B p x q t hr hN hp hx hne =>
    obtain ⟨h1, h2⟩ := at_ (pre := pre) (B := B) (post := p ++ x :: q)
    have := (hs _ hr pre.length B h1 hN).1 t
    dsimp only at this
    rw [h2] at this
    exact this (firstOf_mem.mpr (.inr (.inl ⟨p, x, q, rfl, fun y hy => hc y _ (hp y hy), hc x t hx, hne⟩))) hne
  | @«from» n pre B post t hr hN hp _ ih =>
    obtain ⟨h1, h2⟩ := at_ (pre := pre) (B := B) (post := post)
    have := (hs _ hr pre.length B h1 hN).2
    dsimp only at this
    rw [h2] at this
    exact this (firstOf_mem.mpr (.inr (.inr ⟨rfl, fun y hy => hc y _ (hp y hy)⟩))) t ih
end
end
section
open PySem PySem.W PySem.Calls PyProof.Rows
variable {c : Sit} {m : Loc} {mh mh' : MH} {Q : Value → Loc → MH → Prop}
theorem TE.cutP {lower : Expr} {q1 q2 p pos : Pos} (hq : TE c m mh (.Attribute (.Name (PySem.Str.ofString "p") q1) (PySem.Str.ofString "prod") q2) fun o m1 h1 => TPart c m1 h1 (some lower) fun lo m2 h2 =>
      ∃ a xs k, o = .ref a ∧ lo = some ((k : Nat) : Int) ∧ 1 ≤ k ∧ k ≤ xs.length ∧ MHas h2 a (.tup xs) ∧ xs.length ≤ slim ∧ ∀ r, Q (.ref r) m2 ((r, .tup (xs.drop k)) :: h2)) : TE c m mh (.Subscript (.Attribute (.Name (PySem.Str.ofString "p") q1) (PySem.Str.ofString "prod") q2) (.Slice (some lower) Option.none Option.none p) pos) Q := TE.cutT hq
local macro_rules | `(tactic| walk_at "x") => `(tactic| with_reducible refine TE.cutP ?_)
noncomputable abbrev g2H (g dx P PN PM Te No Fi Fo Pr UP : Addr) (ps : List Value) (KK : List PySem.Str) (AK : PySem.Str → Addr) (ep : Nat) (FA : PySem.Str → Addr) (T : PySem.Str → List PySem.Str) (R : MH) : MH := (g, .inst aG dx) :: (dx, .dict [("Productions", .ref P), ("Prodnames", .ref PN), ("Prodmap", .ref PM), ("Terminals", .ref Te), ("Nonterminals", .ref No), ("First", .ref Fi), ("Follow", .ref Fo), ("Precedence", .ref Pr), ("UsedPrecedence", .ref UP), ("Start", .none)]) :: (P, .list (.none :: ps)) :: (No, .fdict (enc (fun s => s) KK fun s => .ref (AK s)) ep) :: (tabB Fi (FKEY KK) FA (fun s => sL (T s)) ++ R)
inductive Gram2 (H : MH) (mh : MH) (Fo : Addr) (rs : List Rule) : Prop
  | mk (KK : List PySem.Str) (OA : PySem.Str → Addr) (W : PySem.Str → List PySem.Str) :
    H = tabB Fo KK OA (fun s => sL (W s)) ++ mh → KK.Nodup → (∀ s, s ∈ KK ↔ s ∈ NAMES) → OInv rs W → (∀ s t, Fol rs s t → t ∈ W s) → Gram2 H mh Fo rs
noncomputable abbrev coL (g : Addr) (k da p i B fs he f : Option Value) : Loc := [("self", some (.ref g)), ("start", some (.str "S" 0)), ("k", k), ("didadd", da), ("p", p), ("i", i), ("B", B), ("fst", fs), ("hasempty", he), ("f", f)]
set_option maxHeartbeats 8000000 in
theorem cfollow_spec (hn : 1 < c.n) {H : MH} {g Fi : Addr} {rs : List Rule} (hG : Gram1 H mh g Fi rs) (hok : ∀ r ∈ rs, RuleOk r) (hlen : rs.length ≤ 6)
    (hQ : ∀ H' Fo, Gram2 H' mh Fo rs → Q (.ref Fo) m H') (hW : Ctx c := by assumption) : TCall c m H (.ref fCFollow.f) [.ref g, .str "S" 0] [] Q := by
  obtain ⟨dx, P, PN, PM, Te, No, Fo, Pr, UP, ps, KK, AK, FA, T, blk, rfl, hps, ndK, hKiff, hFI, hFc⟩ := hG
  refine TCall.sub2 (mh' := (Fo, .dict []) :: (g, .inst aG dx) :: (dx, .dict (gD P PN PM Te No Fi Fo Pr UP)) :: (P, .list (.none :: ps)) :: (No, .dict (enc (fun s => s) KK fun s => .ref (AK s))) :: (tabB Fi (FKEY KK) FA (fun s => sL (T s)) ++ (blk ++ mh))) ?_ (by unfold gD; walk_at "s2")
  unfold gD
  refine TCall.drop ?_
  refine TCall.def_ fCFollow hW.cfollow (by omega) (coL g none none none none none none none none) [] ?_ rfl rfl (by decide) fun L => ?_
  · intro as' e s X
    obtain ⟨a, b, rfl⟩ := len_two e
    obtain ⟨nd, sld, hdP⟩ := hW.dF
    exact BindsTo.of_defaults rfl (X _ _ hdP) rfl rfl rfl
  have hW' : Ctx (c.into fCFollow L) := hW
  have hkl : KK.length ≤ 3 := nodup_len ndK fun s hs => (hKiff s).mp hs
  have hpl := hps.len
  have hFd := tabB_dict (d := Fi) (keys := FKEY KK) (A := FA) (T := fun s => sL (T s))
  have hSK : PySem.Str.ofString "S" ∈ KK := (hKiff _).mpr (by decide)
  with_unfolding_all refine TS.consA ?_
  intro QH hid
  repeat (walk_at "x")
  refine TV.dict (by walk_at "mhas") (by decide) ?_
  refine And.intro (fun h => by cases h) (fun _ => ?_)
  repeat (walk_at "x")
  refine TV.dict (by walk_at "mhas") (by rw [enc_len]; unfold FKEY; rw [List.length_append]; have : (TERM ++ [PySem.Str.ofString "$end"]).length = 5 := rfl; unfold slim; omega) ?_
  have hne : (enc (fun s => s) (FKEY KK) fun s => Value.ref (FA s)).isEmpty = false := rfl
  rw [hne]
  repeat (walk_at "x")
  refine TLoop.dict (fun ep k m' mh' => k ≤ KK.length ∧ Ex2 fun v OA => IsM m' (coL g v none none none none none none none) ∧ IsH mh' (tabB Fo (KK.take k) OA (fun _ => []) ++ g2H g dx P PN PM Te No Fi Fo Pr UP ps KK AK ep FA T (blk ++ mh))) (by walk_at "mhas") (fun ep => ⟨(Fo, .dict []) :: (g, .inst aG dx) :: (dx, .dict [("Productions", .ref P), ("Prodnames", .ref PN), ("Prodmap", .ref PM), ("Terminals", .ref Te), ("Nonterminals", .ref No), ("First", .ref Fi), ("Follow", .ref Fo), ("Precedence", .ref Pr), ("UsedPrecedence", .ref UP), ("Start", .none)]) :: (P, .list (.none :: ps)) :: (No, .fdict (enc (fun s => s) KK fun s => .ref (AK s)) ep) :: (tabB Fi (FKEY KK) FA (fun s => sL (T s)) ++ (blk ++ mh)), by walk_at "mput", Nat.zero_le _, _, fun _ => 0, rfl, rfl⟩) ?_
  rintro ep J hJ k _ _ ⟨hk, v, OA, rfl, rfl⟩
  have hOd := tabB_dict (d := Fo) (keys := KK.take k) (A := OA) (T := fun _ => [])
  refine ⟨by walk_at "mhas", fun hz => ?_, fun y w hz => ?_⟩
  · have hkk : k = KK.length := by
      rw [List.getElem?_eq_none_iff, enc_len] at hz; omega
    subst hkk
    rw [List.take_length] at hOd
    rw [List.take_length]
    repeat (walk_at "x")
    refine TV.str (by decide +kernel) ?_
    have hSl : (((PySem.Str.ofString "S").length : Int) != 0) = true := by decide +kernel
    rw [hSl]
    repeat (walk_at "x")
    refine ⟨(show 1 ≤ slim by decide), fun e1 => ?_⟩
    repeat (walk_at "x")
    refine TSetItem.tabOld (T := fun _ => []) (A := OA) (keys := KK) (by walk_at "pullb") ndK hSK (by unfold slim; omega) ?_
    have eW : upd (fun _ => []) (PySem.Str.ofString "S") [Value.str (PySem.Str.ofString "$end") 0] = fun s => sL (Winit s) := by
      funext s
      unfold upd Winit
      by_cases e : s = "S"
      · rw [if_pos e, if_pos e]; rfl
      · rw [if_neg e, if_neg e]; rfl
    rw [eW]
    generalize upd OA (PySem.Str.ofString "S") e1 = OB
    clear hOd
    repeat (walk_at "x")
    refine TS1.while_ (fun K m' mh' => Ex4 fun da p i B => Ex4 fun fs he f W => IsM m' (coL g v da p i B fs he f) ∧ IsH mh' (tabB Fo KK OB (fun s => sL (W s)) ++ g2H g dx P PN PM Te No Fi Fo Pr UP ps KK AK ep FA T (blk ++ mh)) ∧ OInv rs W ∧ K + size W = 13) 12 ⟨_, _, _, _, _, _, _, Winit, rfl, rfl, OInv.init rs, by decide +kernel⟩ ?_
    rintro K _ _ ⟨da, p, i, B, fs, he, f, W0, rfl, rfl, hI0, hK⟩
    iterate 4 (walk_at "x")
    refine TS.drop ?_
    repeat (walk_at "x")
    refine ⟨((1 : Nat) : Int), rfl, ?_⟩
    walk_at "x"
    refine ⟨P, .none :: ps, rfl, by walk_at "lat", by rw [List.length_cons]; unfold slim; omega, fun cu => ?_⟩
    have ec : cut (Value.none :: ps) (some ((1 : Nat) : Int)) none = ps := by rw [cut_from]; rfl
    rw [ec]
    refine TLoop.list0 (xs0 := ps) (fun k m' mh' => k ≤ ps.length ∧ Ex4 fun ch p i B => Ex4 fun fs he f W => IsM m' (coL g v (some (.bool ch)) p i B fs he f) ∧ IsH mh' ((cu, .list ps) :: (tabB Fo KK OB (fun s => sL (W s)) ++ g2H g dx P PN PM Te No Fi Fo Pr UP ps KK AK ep FA T (blk ++ mh))) ∧
      OStep rs W0 W ch ∧ (ch = false → ∀ r ∈ rs.take k, ∀ i, Settled T W0 r.1 r.2 i)) ps.length (by walk_at "lat") ⟨Nat.zero_le _, false, _, _, _, _, _, _, W0, rfl, rfl, ⟨hI0, fun _ => rfl, fun h => by cases h⟩, fun _ r h => by simp at h⟩ ?_
    clear p i B fs he f
    rintro k _ _ ⟨hk, ch, p, i, B, fs, he, f, W, rfl, rfl, hS, hC⟩
    refine ⟨ps, by walk_at "lat", fun hz => ?_, fun x hz => ?_⟩
    · rw [List.getElem?_eq_none_iff] at hz
      obtain rfl : k = ps.length := by omega
      rw [hpl, List.take_length] at hC
      repeat (walk_at "x")
      refine ⟨fun h => ?_, fun h => ?_⟩
      · have hch : ch = false := by simpa using h
        have eW := hS.same hch
        subst eW
        repeat (walk_at "x")
        refine Drop.of (mh' := tabB Fo KK OB (fun s => sL (W s)) ++ g2H g dx P PN PM Te No Fi Fo Pr UP ps KK AK ep FA T (blk ++ mh)) ?_ (by walk_at "s2")
        repeat (walk_at "x")
        exact Drop.of (hQ _ Fo (.mk KK OB W rfl ndK hKiff hS.inv fun s t hf => hS.inv.complete hFc (hC hch) hf)) (by walk_at "s2")
      · have hch : ch = true := by simpa using h
        have h1 := hS.more hch
        have h2 := hS.inv.size_le
        repeat (walk_at "x")
        exact Drop.of ⟨13 - size W, by omega, _, _, _, _, _, _, _, W, rfl, rfl, hS.inv, by omega⟩ (by walk_at "s2")
    · obtain ⟨q, r, rfl, hr, hq⟩ := hps.get hz
      have hil := (List.getElem?_eq_some_iff.mp hz).1
      have hrs := List.mem_of_getElem? hr
      obtain ⟨dxq, tp, as, q1, q2, q3, q4, q5⟩ := hq.at_
      have hro := hok r hrs
      have hsl : r.2.length ≤ 2 := hro.len
      refine ⟨hil, ?_⟩
      walk_at "x"
      refine TS.drop ?_
      repeat (walk_at "x")
      refine TCall.enumT (by walk_at "mhas") ?_
      intro en ei eo heo
      refine TLoop.enum0 (.enumT tp) (seqK_tup _ tp) rfl heo (fun j m' mh' => j ≤ r.2.length ∧ Ex3 fun ch2 i B => Ex4 fun fs he f W => IsM m' (coL g v (some (.bool ch2)) (some (.ref q)) i B fs he f) ∧ IsH mh' ((cu, .list ps) :: (tabB Fo KK OB (fun s => sL (W s)) ++ g2H g dx P PN PM Te No Fi Fo Pr UP ps KK AK ep FA T (blk ++ mh))) ∧
        OStep rs W0 W ch2 ∧ (ch2 = false → ch = false) ∧ (ch2 = false → ∀ i, i < j → Settled T W0 r.1 r.2 i)) r.2.length ⟨Nat.zero_le _, ch, _, _, _, _, _, W, rfl, rfl, hS, fun h => h, fun _ i h => absurd h (Nat.not_lt_zero _)⟩ ?_
      clear i B fs he f hS W
      rintro j _ _ ⟨hj, ch2, i, B, fs, he, f, W, rfl, rfl, hS, hcc, hD⟩
      refine ⟨sL r.2, by walk_at "mhas", by rw [sL_len]; exact hj, fun hz2 => ?_, fun x hz2 => ?_⟩
      · rw [sL_len] at hz2
        subst hz2
        repeat (walk_at "x")
        refine Drop.of ⟨by omega, ch2, _, _, _, _, _, _, W, rfl, rfl, hS, fun h r' hr' i' => ?_⟩ (by walk_at "s2")
        rw [take_next hr] at hr'
        rcases List.mem_append.mp hr' with hr' | hr'
        · exact hC (hcc h) r' hr' i'
        · rw [List.mem_singleton.mp hr']
          by_cases hi : i' < r.2.length
          · exact hD h i' hi
          · intro B' hB' _
            rw [List.getElem?_eq_none (by omega)] at hB'; cases hB'
      · rw [sL_get] at hz2
        obtain ⟨s, hs1, rfl⟩ := Option.map_eq_some_iff.mp hz2
        have hjl := (List.getElem?_eq_some_iff.mp hs1).1
        refine ⟨hjl, fun tt => ?_⟩
        refine TA.tuple .here ?_ rfl rfl
        repeat (walk_at "x")
        refine Drop.of (mh' := (cu, .list ps) :: (tabB Fo KK OB (fun s => sL (W s)) ++ g2H g dx P PN PM Te No Fi Fo Pr UP ps KK AK ep FA T (blk ++ mh))) ?_ (by walk_at "s2")
        refine TS.drop ?_
        repeat (walk_at "x")
        refine TCmp.inD (by walk_at "mhas") (.inr ⟨ep, rfl⟩) ?_
        rw [tabB_isSome]
        repeat (walk_at "x")
        refine ⟨fun hin => ?_, fun hin => ?_⟩
        · have hsK : s ∈ KK := of_decide_eq_true hin
          have hsN := (hKiff s).mp hsK
          have hnK : r.1 ∈ KK := (hKiff _).mpr hro.name
          have hTab : TabAt (tabB Fi (FKEY KK) FA (fun s => sL (T s))) Fi (FKEY KK) FA T := ⟨tabB_dict, fun s hs => tabB_list hs⟩
          have hfk : ∀ s ∈ SYM, s ∈ FKEY KK := by
            have h1 : ∀ s ∈ SYM, s ∈ NAMES ∨ s ∈ TERM := by decide +kernel
            intro s hs
            unfold FKEY
            rcases h1 s hs with q | q
            · exact List.mem_append_right _ ((hKiff s).mpr q)
            · exact List.mem_append_left _ (List.mem_append_left _ q)
          repeat (walk_at "x")
          refine TGet.own hW.gcls (by walk_at "mhas") (by walk_at "mhas") hW.mFirst.1 hW.mFirst.2 (VNo.at_ (by walk_at "vno")) ?_
          repeat (walk_at "x")
          refine ⟨((j + 1 : Nat) : Int), rfl, tp, sL r.2, j + 1, rfl, rfl, by omega, by rw [sL_len]; omega, by walk_at "mhas", by rw [sL_len]; unfold slim; omega, fun cu2 => ?_⟩
          have edr : (sL r.2).drop (j + 1) = sL (r.2.drop (j + 1)) := by unfold sL; rw [List.map_drop]
          rw [edr]
          repeat (walk_at "x")
          refine first_spec (c := c.into fCFollow L) (T := T) (keys := FKEY KK) (A := FA) (by show 0 < c.n - 1; omega) (by walk_at "mhas") (by unfold gD; walk_at "mhas") (hTab.mono fun a o x => (by walk_at "mhas")) (by walk_at "mhas") (by rw [List.length_drop]; omega) (fun s hs => hfk s (hro.syms s (List.mem_of_mem_drop hs))) (fun s hs => Nat.le_trans (hFI.len s) (by decide)) ?_
          intro fr
          have hso : ∀ f ∈ firstOf T (r.2.drop (j + 1)) [], f ≠ EMPTY → Fol rs s f ∧ f ∈ UNI2 := fun f hf hne => fol_first hFI (n := r.1) hrs hro.syms hs1 hsN hf hne
          have hfr : EMPTY ∈ firstOf T (r.2.drop (j + 1)) [] → ∀ f, Fol rs r.1 f → Fol rs s f := fun h f hf => fol_from hFI hrs hs1 hsN h hf
          have hlast : EMPTY ∉ firstOf T (r.2.drop (j + 1)) [] → j + 1 < r.2.length := by
            intro h
            by_cases e : j + 1 < r.2.length
            · exact e
            · rw [List.drop_eq_nil_of_le (by omega)] at h
              exact absurd (show EMPTY ∈ ([] ++ [EMPTY] : List PySem.Str) by simp) h
          have hset : ∀ W : PySem.Str → List PySem.Str, (∀ f ∈ firstOf T (r.2.drop (j + 1)) [], f ≠ EMPTY → f ∈ W s) → (EMPTY ∈ firstOf T (r.2.drop (j + 1)) [] → ∀ f ∈ W r.1, f ∈ W s) → Settled T W r.1 r.2 j := by
            intro W h1 h2 B' hB' _
            rw [hs1] at hB'
            rw [← Option.some.inj hB']
            exact ⟨h1, h2⟩
          generalize firstOf T (r.2.drop (j + 1)) [] = F at hso hfr hlast hset
          clear hTab
          repeat (walk_at "x")
          refine TLoop.list (xs0 := sL F) (fun a m' mh' => a ≤ F.length ∧ Ex3 fun ch3 f W => IsM m' (coL g v (some (.bool ch3)) (some (.ref q)) (some (.int j 0)) (some (.str s 0)) (some (.ref fr)) (some (.bool (decide (EMPTY ∈ F.take a)))) f) ∧ IsH mh' ((fr, .list (sL F)) :: (cu2, .tup (sL (r.2.drop (j + 1)))) :: (cu, .list ps) :: (tabB Fo KK OB (fun s => sL (W s)) ++ g2H g dx P PN PM Te No Fi Fo Pr UP ps KK AK ep FA T (blk ++ mh))) ∧
            OStep rs W0 W ch3 ∧ (ch3 = false → ch2 = false) ∧ (∀ f ∈ F.take a, f ≠ EMPTY → f ∈ W s)) F.length (by walk_at "lat") ⟨Nat.zero_le _, ch2, _, W, rfl, rfl, hS, fun h => h, fun f h => by simp at h⟩ ?_
          clear f hS W
          rintro J hJ a _ _ ⟨ha, ch3, f, W, rfl, rfl, hS, hcc3, hin3⟩
          have hOd := tabB_dict (d := Fo) (keys := KK) (A := OB) (T := fun s => sL (W s))
          have hOl := tabB_list (d := Fo) (A := OB) (T := fun s => sL (W s)) hsK
          refine ⟨sL F, by walk_at "lat", fun hz3 => ?_, fun x hz3 => ?_⟩
          · rw [sL_get, Option.map_eq_none_iff, List.getElem?_eq_none_iff] at hz3
            obtain rfl : a = F.length := by omega
            rw [List.take_length] at hin3
            rw [List.take_length]
            repeat (walk_at "x")
            refine ⟨fun h => ?_, fun h => ?_⟩
            · have hE : EMPTY ∈ F := of_decide_eq_true h
              have hfr := hfr hE
              have hOn := tabB_list (d := Fo) (A := OB) (T := fun s => sL (W s)) hnK
              repeat (walk_at "x")
              refine TSub.tab (by walk_at "mhas") hnK ?_
              clear hOd hOl
              refine TLoop.list (xs0 := sL (W r.1)) (fun b m' mh' => Ex3 fun ch4 f W => IsM m' (coL g v (some (.bool ch4)) (some (.ref q)) (some (.int j 0)) (some (.str s 0)) (some (.ref fr)) (some (.bool (decide (EMPTY ∈ F)))) f) ∧ IsH mh' ((fr, .list (sL F)) :: (cu2, .tup (sL (r.2.drop (j + 1)))) :: (cu, .list ps) :: (tabB Fo KK OB (fun s => sL (W s)) ++ g2H g dx P PN PM Te No Fi Fo Pr UP ps KK AK ep FA T (blk ++ mh))) ∧
                OStep rs W0 W ch4 ∧ (ch4 = false → ch2 = false) ∧ (∀ f ∈ F, f ≠ EMPTY → f ∈ W s) ∧ b ≤ (W r.1).length ∧ (∀ f ∈ (W r.1).take b, f ∈ W s)) 5 (by walk_at "lat") ⟨ch3, _, W, rfl, rfl, hS, hcc3, hin3, Nat.zero_le _, fun f h => by simp at h⟩ ?_
              clear hOn f hS W hin3 hcc3
              rintro J hJ b _ _ ⟨ch4, f, W, rfl, rfl, hS, hcc4, hin4, hb, hbW⟩
              have hOd := tabB_dict (d := Fo) (keys := KK) (A := OB) (T := fun s => sL (W s))
              have hOl := tabB_list (d := Fo) (A := OB) (T := fun s => sL (W s)) hsK
              have hOn := tabB_list (d := Fo) (A := OB) (T := fun s => sL (W s)) hnK
              refine ⟨sL (W r.1), by walk_at "lat", fun hz4 => ?_, fun x hz4 => ?_⟩
              · rw [sL_get, Option.map_eq_none_iff, List.getElem?_eq_none_iff] at hz4
                obtain rfl : b = (W r.1).length := by omega
                rw [List.take_length] at hbW
                repeat (walk_at "x")
                refine Drop.of ⟨hjl, ch4, _, _, _, _, _, W, rfl, rfl, hS, fun h => hcc (hcc4 h), fun h i' hi' => ?_⟩ (by walk_at "s2")
                by_cases e : i' < j
                · exact hD (hcc4 h) i' e
                · obtain rfl : i' = j := by omega
                  rw [← hS.same h]
                  exact hset W hin4 fun _ => hbW
              · rw [sL_get] at hz4
                obtain ⟨t, ht1, rfl⟩ := Option.map_eq_some_iff.mp hz4
                have hbl := (List.getElem?_eq_some_iff.mp ht1).1
                have htn := List.mem_of_getElem? ht1
                have hsnd := hfr t (hS.inv.sound _ t htn)
                have hOp := tabB_put (d := Fo) (A := OB) (T := fun s => sL (W s)) (v := sL (W s) ++ [.str t 0]) ndK hsK
                have eU : upd (fun s => sL (W s)) s (sL (W s) ++ [.str t 0]) = fun x => sL (upd W s (W s ++ [t]) x) := by
                  funext x; unfold upd; split
                  · rw [sL_app]; rfl
                  · rfl
                rw [eU] at hOp
                refine ⟨by have := hS.inv.len r.1; omega, ?_⟩
                repeat (walk_at "x")
                refine TSub.tab (by walk_at "mhas") hsK ?_
                repeat (walk_at "x")
                refine TCmp.ninL (xs := W s) (by walk_at "lat") ?_
                repeat (walk_at "x")
                refine ⟨fun h2 => ?_, fun h2 => ?_⟩
                · have hni : t ∉ W s := by simpa using h2
                  have hne : r.1 ≠ s := fun e => hni (e ▸ htn)
                  repeat (walk_at "x")
                  refine TSub.tab (by walk_at "mhas") hsK ?_
                  refine TGet.append (by walk_at "mhas") ?_
                  repeat (walk_at "x")
                  refine TCall.append (by walk_at "mput") (by rw [sL_len]; have := hS.inv.len s; unfold slim; omega) ?_
                  repeat (walk_at "x")
                  refine ⟨true, _, upd W s (W s ++ [t]), rfl, rfl, hS.add hsN hni hsnd (hS.inv.univ _ t htn), fun h => by (cases h), fun f hf hne => ?_, ?_, fun f hf => ?_⟩
                  · rw [upd_same]; exact List.mem_append_left _ (hin4 f hf hne)
                  · rw [upd_other hne]; omega
                  · rw [upd_other hne, take_next ht1] at hf
                    rw [upd_same]
                    rcases List.mem_append.mp hf with hf | hf
                    · exact List.mem_append_left _ (hbW f hf)
                    · exact List.mem_append_right _ hf
                · have hni : t ∈ W s := by simpa using h2
                  repeat (walk_at "x")
                  refine ⟨ch4, _, W, rfl, rfl, hS, hcc4, hin4, by omega, fun f hf => ?_⟩
                  rw [take_next ht1] at hf
                  rcases List.mem_append.mp hf with hf | hf
                  · exact hbW f hf
                  · rw [List.mem_singleton.mp hf]; exact hni
            · have hE : EMPTY ∉ F := of_decide_eq_false h
              have hl2 := hlast hE
              repeat (walk_at "x")
              refine TCall.lenT (by walk_at "mhas") (by rw [sL_len]; unfold slim; omega) ?_
              rw [sL_len]
              repeat (walk_at "x")
              have hno : ((j : Int) == (r.2.length : Int) - 1) = false := by simp; omega
              rw [hno]
              repeat (walk_at "x")
              refine Drop.of ⟨hjl, ch3, _, _, _, _, _, W, rfl, rfl, hS, fun h => hcc (hcc3 h), fun h i' hi' => ?_⟩ (by walk_at "s2")
              by_cases e : i' < j
              · exact hD (hcc3 h) i' e
              · obtain rfl : i' = j := by omega
                rw [← hS.same h]
                exact hset W hin3 fun q => absurd q hE
          · rw [sL_get] at hz3
            obtain ⟨t, ht1, rfl⟩ := Option.map_eq_some_iff.mp hz3
            have hal := (List.getElem?_eq_some_iff.mp ht1).1
            have hOp := tabB_put (d := Fo) (A := OB) (T := fun s => sL (W s)) (v := sL (W s) ++ [.str t 0]) ndK hsK
            have eU : upd (fun s => sL (W s)) s (sL (W s) ++ [.str t 0]) = fun x => sL (upd W s (W s ++ [t]) x) := by
              funext x; unfold upd; split
              · rw [sL_app]; rfl
              · rfl
            rw [eU] at hOp
            have etk := take_next ht1
            refine ⟨hal, ?_⟩
            repeat (walk_at "x")
            refine ⟨fun h => ?_, fun h => ?_⟩
            · have hne : ¬ t = EMPTY := show ¬ t = PySem.Str.ofString "<empty>" by simpa using h
              have etm : decide (EMPTY ∈ F.take (a + 1)) = decide (EMPTY ∈ F.take a) := by
                rw [etk]
                exact decide_eq_decide.mpr (by simp [Ne.symm hne])
              have hdn : decide (t = PySem.Str.ofString "<empty>") = false := decide_eq_false hne
              obtain ⟨hso1, hso2⟩ := hso t (List.mem_of_getElem? ht1) hne
              repeat (walk_at "x")
              refine TSub.tab (by walk_at "mhas") hsK ?_
              repeat (walk_at "x")
              refine TCmp.ninL (xs := W s) (by walk_at "lat") ?_
              repeat (walk_at "x")
              refine ⟨fun h2 => ?_, fun h2 => ?_⟩
              · have hni : t ∉ W s := by simpa using h2
                repeat (walk_at "x")
                refine TSub.tab (by walk_at "mhas") hsK ?_
                refine TGet.append (by walk_at "mhas") ?_
                repeat (walk_at "x")
                refine TCall.append (by walk_at "mput") (by rw [sL_len]; have := hS.inv.len s; unfold slim; omega) ?_
                repeat (walk_at "x")
                rw [hdn]
                repeat (walk_at "x")
                refine ⟨by omega, true, some (.str t 0), upd W s (W s ++ [t]), by rw [etm], rfl, hS.add hsN hni hso1 hso2, fun h => by (cases h), fun f hf hne => ?_⟩
                rw [upd_same]
                rw [etk] at hf
                rcases List.mem_append.mp hf with hf | hf
                · exact List.mem_append_left _ (hin3 f hf hne)
                · exact List.mem_append_right _ hf
              · have hni : t ∈ W s := by simpa using h2
                repeat (walk_at "x")
                rw [hdn]
                repeat (walk_at "x")
                refine ⟨by omega, ch3, some (.str t 0), W, by rw [etm], rfl, hS, hcc3, fun f hf hne => ?_⟩
                rw [etk] at hf
                rcases List.mem_append.mp hf with hf | hf
                · exact hin3 f hf hne
                · rw [List.mem_singleton.mp hf]; exact hni
            · have he : t = EMPTY := show t = PySem.Str.ofString "<empty>" by simpa using h
              have hdn : decide (t = PySem.Str.ofString "<empty>") = true := decide_eq_true he
              have etm : decide (EMPTY ∈ F.take (a + 1)) = true := decide_eq_true (by rw [etk, he]; simp)
              repeat (walk_at "x")
              rw [hdn]
              repeat (walk_at "x")
              refine ⟨by omega, ch3, some (.str t 0), W, by rw [etm], rfl, hS, hcc3, fun f hf hne => ?_⟩
              rw [etk] at hf
              rcases List.mem_append.mp hf with hf | hf
              · exact hin3 f hf hne
              · rw [List.mem_singleton.mp hf] at hne; exact absurd he hne
        · have hsK : s ∉ KK := of_decide_eq_false hin
          repeat (walk_at "x")
          refine Drop.of ⟨hjl, ch2, _, _, _, _, _, W, rfl, rfl, hS, hcc, fun h i' hi' => ?_⟩ (by walk_at "s2")
          by_cases e : i' < j
          · exact hD h i' e
          · obtain rfl : i' = j := by omega
            intro B' hB' hN
            rw [hs1] at hB'
            exact absurd ((hKiff _).mpr hN) (by rw [← Option.some.inj hB']; exact hsK)
  · obtain ⟨hy, -⟩ := enc_get hz
    have hkl2 := (List.getElem?_eq_some_iff.mp hy).1
    have hny : y ∉ KK.take k := nit ndK hy
    have eT : upd (fun _ => ([] : List Value)) y [] = fun _ => [] := by
      funext s; unfold upd; split <;> rfl
    repeat (walk_at "x")
    refine ⟨(show 0 ≤ slim by decide), fun e1 => ?_⟩
    repeat (walk_at "x")
    refine TSetItem.tabNew (T := fun _ => []) (A := OA) (keys := KK.take k) (by walk_at "pullb") hny (by rw [List.length_take]; unfold slim; omega) ?_
    rw [eT]
    repeat (walk_at "x")
    exact ⟨by omega, _, upd OA y e1, rfl, by rw [take_next hy]⟩
end
section
open PySem PySem.W PyProof.Rows
/-! one run of the rules over the table of moments: it only sinks, and it reaches what a rule gives -/
theorem foldl_rel {σ α : Type} {R : σ → σ → Prop} (refl : ∀ s, R s s) (tr : ∀ a b c, R a b → R b c → R a c) {f : σ → α → σ} (h : ∀ s a, R (f s a) s) : ∀ (l : List α) (s : σ), R (l.foldl f s) s
  | [], s => refl s
  | a :: l, s => tr _ _ _ (foldl_rel refl tr h l (f s a)) (h s a)
theorem foldl_inv {σ α : Type} {I : σ → Prop} {f : σ → α → σ} : ∀ {l : List α} {s : σ}, (∀ s, ∀ a ∈ l, I s → I (f s a)) → I s → I (l.foldl f s)
  | [], _, _, h0 => h0
  | a :: l, s, h, h0 => foldl_inv (l := l) (s := f s a) (fun s a ha hs => h s a (List.mem_cons_of_mem _ ha) hs) (h _ _ List.mem_cons_self h0)
noncomputable abbrev Low (F G : FT) : Prop := ∀ q, F q ≤ G q
theorem Low.rfl' (F : FT) : Low F F := fun _ => Int.le_refl _
theorem Low.tr (a b c : FT) (h : Low a b) (g : Low b c) : Low a c := fun q => Int.le_trans (h q) (g q)
theorem upd_low {F : FT} {p : Pair} {v : Int} : Low (upd F p (min (F p) v)) F := by
  intro q; unfold upd; split
  · rename_i e; subst e; omega
  · exact Int.le_refl _
theorem upd_hit {F : FT} {p : Pair} {v : Int} : upd F p (min (F p) v) p ≤ v := by
  unfold upd; rw [if_pos rfl]; omega
theorem abc_low {n s : PySem.Str} {far : Int} {l : List PySem.Str} {F : FT} : Low (l.foldl (stepT n s far) F) F :=
  foldl_rel Low.rfl' Low.tr (fun _ _ => upd_low) l F
theorem hit_in {f : FT → PySem.Str → FT} {t : PySem.Str} {n : PySem.Str} {k : Int} {l : List PySem.Str} {F : FT} (ht : t ∈ l) (lo : ∀ F a, Low (f F a) F) (h : ∀ F', Low F' F → f F' t (n, t) ≤ k) : l.foldl f F (n, t) ≤ k := by
  obtain ⟨u, v, e⟩ := List.append_of_mem ht
  rw [e, List.foldl_append, List.foldl_cons]
  exact Int.le_trans (foldl_rel Low.rfl' Low.tr lo v _ (n, t)) (h _ (foldl_rel Low.rfl' Low.tr lo u F))
theorem abc_hit {n s t : PySem.Str} {far k : Int} {F : FT} (ht : t ∈ ABC) (hf : far ≤ k) (hs : F (s, t) ≤ k) : ABC.foldl (stepT n s far) F (n, t) ≤ k :=
  hit_in ht (fun _ _ => upd_low) fun F' l => Int.le_trans upd_hit (by have := l (s, t); omega)
theorem sym_low {n : PySem.Str} {V : VT} {ss : List PySem.Str} {st : FT × Int} : Low (ss.foldl (symStep n V) st).1 st.1 :=
  foldl_rel (R := fun a b : FT × Int => Low a.1 b.1) (fun _ => Low.rfl' _) (fun _ _ _ => Low.tr _ _ _) (fun _ _ => abc_low) ss st
theorem sym_far {n : PySem.Str} {V : VT} {k : Int} : ∀ {ss : List PySem.Str} {st : FT × Int}, st.2 ≤ k → (∀ s ∈ ss, V s ≤ k) → (ss.foldl (symStep n V) st).2 ≤ k
  | [], _, h, _ => h
  | s :: ss, st, h, hv => by
    refine sym_far (ss := ss) ?_ fun x hx => hv x (.tail _ hx)
    show max st.2 (V s) ≤ k
    have := hv s (.head _); omega
theorem sym_hit {n x t : PySem.Str} {V : VT} {k : Int} {pre post : List PySem.Str} {st : FT × Int} (ht : t ∈ ABC) (h : st.2 ≤ k) (hv : ∀ s ∈ pre, V s ≤ k) (hx : st.1 (x, t) ≤ k) : ((pre ++ x :: post).foldl (symStep n V) st).1 (n, t) ≤ k := by
  rw [List.foldl_append, List.foldl_cons]
  refine Int.le_trans (sym_low _) ?_
  exact abc_hit ht (sym_far h hv) (Int.le_trans (sym_low _) hx)
noncomputable abbrev Low2 (a b : FT × VT) : Prop := Low a.1 b.1 ∧ ∀ s, a.2 s ≤ b.2 s
theorem Low2.rfl' (a : FT × VT) : Low2 a a := ⟨Low.rfl' _, fun _ => Int.le_refl _⟩
theorem Low2.tr (a b c : FT × VT) (h : Low2 a b) (g : Low2 b c) : Low2 a c := ⟨Low.tr _ _ _ h.1 g.1, fun s => Int.le_trans (h.2 s) (g.2 s)⟩
theorem rule_low (st : FT × VT) (p : Rule × Nat) : Low2 (ruleStep st p) st := by
  refine ⟨sym_low, fun s => ?_⟩
  show upd st.2 p.1.1 _ s ≤ _
  unfold upd; split
  · rename_i e; subst e; omega
  · exact Int.le_refl _
theorem round_low (rs : List Rule) (st : FT × VT) : Low2 (roundB rs st) st := foldl_rel Low2.rfl' Low2.tr rule_low rs.zipIdx st
theorem round_at {rs : List Rule} {i : Nat} {p : Rule} (h : rs[i]? = some p) (st : FT × VT) : ∃ st', Low2 st' st ∧ Low2 (roundB rs st) (ruleStep st' (p, i)) := by
  have hm : (p, i) ∈ rs.zipIdx := List.mem_zipIdx_iff_getElem?.mpr h
  obtain ⟨u, v, e⟩ := List.append_of_mem hm
  refine ⟨u.foldl ruleStep st, foldl_rel Low2.rfl' Low2.tr rule_low u st, ?_⟩
  unfold roundB
  rw [e, List.foldl_append, List.foldl_cons]
  exact foldl_rel Low2.rfl' Low2.tr rule_low v _
theorem rule_late {rs : List Rule} {k : Nat} {p : Rule} (h : p ∈ rs.take (k + 3)) : ∃ i : Nat, rs[i]? = some p ∧ max ((i : Int) - 2) 0 ≤ k := by
  obtain ⟨i, hi⟩ := List.mem_iff_getElem?.mp h
  rw [List.getElem?_take] at hi
  split at hi
  · exact ⟨i, hi, by omega⟩
  · cases hi
theorem late_rule {rs : List Rule} {k i : Nat} {p : Rule} (h : rs[i]? = some p) (hi : max ((i : Int) - 2) 0 ≤ k) : p ∈ rs.take (k + 3) := by
  refine List.mem_iff_getElem?.mpr ⟨i, ?_⟩
  rw [List.getElem?_take, if_pos (by omega)]; exact h
theorem round_hitF {rs : List Rule} {k : Nat} {n x t : PySem.Str} {pre post : List PySem.Str} {st : FT × VT} (h : (n, pre ++ x :: post) ∈ rs.take (k + 3)) (ht : t ∈ ABC) (hv : ∀ s ∈ pre, st.2 s ≤ k) (hx : st.1 (x, t) ≤ k) : (roundB rs st).1 (n, t) ≤ k := by
  obtain ⟨i, hi, hk⟩ := rule_late h
  obtain ⟨st', l, l2⟩ := round_at hi st
  refine Int.le_trans (l2.1 _) ?_
  exact sym_hit ht hk (fun s hs => Int.le_trans (l.2 s) (hv s hs)) (Int.le_trans (l.1 _) hx)
theorem round_hitV {rs : List Rule} {k : Nat} {n : PySem.Str} {ss : List PySem.Str} {st : FT × VT} (h : (n, ss) ∈ rs.take (k + 3)) (hv : ∀ s ∈ ss, st.2 s ≤ k) : (roundB rs st).2 n ≤ k := by
  obtain ⟨i, hi, hk⟩ := rule_late h
  obtain ⟨st', l, l2⟩ := round_at hi st
  refine Int.le_trans (l2.2 _) ?_
  show upd st'.2 n (min (st'.2 n) (ruleSyms st' ((n, ss), i)).2) n ≤ _
  have h3 : (ruleSyms st' ((n, ss), i)).2 ≤ k := sym_far hk fun s hs => Int.le_trans (l.2 s) (hv s hs)
  unfold upd; rw [if_pos rfl]; omega
/-! what the table says is so -/
noncomputable def SF (rs : List Rule) (F : FT) : Prop := ∀ k : Nat, k ≤ 8 → ∀ s t, t ∈ ABC → F (s, t) ≤ k → Fst (rs.take (k + 3)) s t
noncomputable def SV (rs : List Rule) (V : VT) : Prop := ∀ k : Nat, k ≤ 8 → ∀ s, V s ≤ k → Fst (rs.take (k + 3)) s EMPTY
noncomputable def SFar (rs : List Rule) (p : Rule) (pre : List PySem.Str) (far : Int) : Prop := ∀ k : Nat, k ≤ 8 → far ≤ k → p ∈ rs.take (k + 3) ∧ ∀ y ∈ pre, Fst (rs.take (k + 3)) y EMPTY
theorem abc_ne {t : PySem.Str} (h : t ∈ ABC) : t ≠ EMPTY ∧ t ∉ NAMES := by
  have : ∀ t ∈ ABC, t ≠ EMPTY ∧ t ∉ NAMES := by decide +kernel
  exact this t h
theorem SF.step {rs : List Rule} {p : Rule} {pre post : List PySem.Str} {s : PySem.Str} {far : Int} {F : FT} (e : p.2 = pre ++ s :: post) (h : SF rs F) (hf : SFar rs p pre far) : SF rs (ABC.foldl (stepT p.1 s far) F) := by
  refine foldl_inv (I := SF rs) (fun F' t ht h' k hk a u hu hle => ?_) h
  unfold stepT upd at hle
  split at hle
  · rename_i e1
    simp only [Prod.mk.injEq] at e1
    obtain ⟨rfl, rfl⟩ := e1
    by_cases hl : F' (p.1, u) ≤ k
    · exact h' k hk _ _ hu hl
    · obtain ⟨h1, h2⟩ := hf k hk (by omega)
      obtain ⟨n, ss⟩ := p
      dsimp only at e h1 ⊢
      rw [e] at h1
      exact .head h1 h2 (h' k hk _ _ hu (by omega)) (abc_ne hu).1
  · exact h' k hk _ _ hu hle
theorem sym_sound {rs : List Rule} {p : Rule} {V : VT} (hV : SV rs V) : ∀ {ss pre : List PySem.Str} {st : FT × Int}, p.2 = pre ++ ss → SF rs st.1 → SFar rs p pre st.2 → SF rs (ss.foldl (symStep p.1 V) st).1 ∧ SFar rs p p.2 (ss.foldl (symStep p.1 V) st).2
  | [], pre, st, e, h, hf => by
    rw [List.append_nil] at e
    exact ⟨h, by rw [e]; exact hf⟩
  | s :: ss, pre, st, e, h, hf => by
    refine sym_sound hV (ss := ss) (pre := pre ++ [s]) (by rw [e]; simp) (SF.step e h hf) fun k hk hle => ?_
    have hle : max st.2 (V s) ≤ k := hle
    obtain ⟨h1, h2⟩ := hf k hk (by omega)
    refine ⟨h1, fun y hy => ?_⟩
    rcases List.mem_append.mp hy with q | q
    · exact h2 y q
    · rw [List.mem_singleton.mp q]; exact hV k hk s (by omega)
theorem rule_sound {rs : List Rule} {p : Rule} {i : Nat} {st : FT × VT} (hp : rs[i]? = some p) (h : SF rs st.1) (hv : SV rs st.2) : SF rs (ruleStep st (p, i)).1 ∧ SV rs (ruleStep st (p, i)).2 := by
  obtain ⟨h1, h2⟩ := sym_sound (p := p) hv (ss := p.2) (pre := []) (st := (st.1, max ((i : Int) - 2) 0)) rfl h (fun k _ hle => ⟨late_rule hp hle, fun _ hy => by cases hy⟩)
  refine ⟨h1, fun k hk s hle => ?_⟩
  have hle : upd st.2 p.1 (min (st.2 p.1) (ruleSyms st (p, i)).2) s ≤ k := hle
  unfold upd at hle
  split at hle
  · rename_i e; subst e
    by_cases hl : st.2 p.1 ≤ k
    · exact hv k hk _ hl
    · obtain ⟨h3, h4⟩ := h2 k hk (show (ruleSyms st (p, i)).2 ≤ k by omega)
      exact .empty h3 h4
  · exact hv k hk _ hle
theorem roundsB_sound (rs : List Rule) (r : Nat) : SF rs (roundsB rs r).1 ∧ SV rs (roundsB rs r).2 := by
  unfold roundsB
  refine foldl_inv (I := fun st : FT × VT => SF rs st.1 ∧ SV rs st.2) (fun st _ _ h => ?_) ⟨fun k hk s t ht hle => ?_, fun k hk s hle => ?_⟩
  · unfold roundB
    exact foldl_inv (I := fun st : FT × VT => SF rs st.1 ∧ SV rs st.2) (fun st p hp h => rule_sound (List.mem_zipIdx_iff_getElem?.mp hp) h.1 h.2) h
  · dsimp only at hle
    split at hle
    · rename_i e; subst e; exact .term (abc_ne ht).2
    · omega
  · dsimp only at hle; omega
/-! three names: what grows or is done is done behind three rounds -/
theorem saturate {A : Nat → PySem.Str → Prop} {D : Nat → Prop} (mono : ∀ r s, A r s → A (r + 1) s) (dm : ∀ r, D r → D (r + 1)) (all : ∀ r, (∀ s ∈ NAMES, A r s) → D r) (stop : ∀ r, (∀ s ∈ NAMES, A (r + 1) s → A r s) → D r) : D 3 := by
  apply Classical.byContradiction
  intro h3
  have h2 := fun h => h3 (dm 2 h)
  have h1 := fun h => h2 (dm 1 h)
  have h0 := fun h => h1 (dm 0 h)
  have ex : ∀ r, ¬ D r → ∃ s, s ∈ NAMES ∧ A (r + 1) s ∧ ¬ A r s := by
    intro r hr
    apply Classical.byContradiction
    intro hn
    refine hr (stop r fun s hs ha => Classical.byContradiction fun hb => hn ⟨s, hs, ha, hb⟩)
  obtain ⟨x, x1, x2, x3⟩ := ex 0 h0
  obtain ⟨y, y1, y2, y3⟩ := ex 1 h1
  obtain ⟨z, z1, z2, z3⟩ := ex 2 h2
  have xy : x ≠ y := fun e => y3 (e ▸ x2)
  have yz : y ≠ z := fun e => z3 (e ▸ y2)
  have xz : x ≠ z := fun e => z3 (e ▸ mono _ _ x2)
  have hx : A 3 x := mono _ _ (mono _ _ x2)
  have hy : A 3 y := mono _ _ y2
  refine h3 (all 3 fun s hs => ?_)
  have : s = x ∨ s = y ∨ s = z := by
    have key : ∀ s ∈ NAMES, ∀ x ∈ NAMES, ∀ y ∈ NAMES, ∀ z ∈ NAMES, x ≠ y → y ≠ z → x ≠ z → s = x ∨ s = y ∨ s = z := by decide +kernel
    exact key s hs x x1 y y1 z z1 xy yz xz
  rcases this with rfl | rfl | rfl
  · exact hx
  · exact hy
  · exact z2
theorem roundsB_next (rs : List Rule) (r : Nat) : roundsB rs (r + 1) = roundB rs (roundsB rs r) := by
  unfold roundsB
  rw [List.range_succ, List.foldl_append]; rfl
theorem roundsB_low (rs : List Rule) : ∀ r q, (roundsB rs r).1 q ≤ F0 q
  | 0, _ => Int.le_refl _
  | r + 1, q => by rw [roundsB_next]; exact Int.le_trans ((round_low rs _).1 q) (roundsB_low rs r q)
theorem of_take {rs : List Rule} (hok : RulesOk rs) {k : Nat} {p : Rule} (h : p ∈ rs.take k) : RuleOk p := hok.each p (List.mem_of_mem_take h)
theorem fst_names {rs : List Rule} (hok : RulesOk rs) {k : Nat} {s : PySem.Str} (hs : s ∉ NAMES) {t : PySem.Str} (h : Fst (rs.take k) s t) : t = s := by
  cases h with
  | term _ => rfl
  | head hr _ _ _ => exact absurd (of_take hok hr).name hs
  | empty hr _ => exact absurd (of_take hok hr).name hs
theorem fst_univ {rs : List Rule} (hok : RulesOk rs) {k : Nat} {s t : PySem.Str} (h : Fst (rs.take k) s t) (hs : s ∈ SYM) : t ∈ UNI := by
  induction h with
  | term hn =>
    have : ∀ s ∈ SYM, s ∉ NAMES → s ∈ UNI := by decide +kernel
    exact this _ hs hn
  | head hr _ _ _ _ ih => exact ih ((of_take hok hr).syms _ (by simp))
  | empty _ _ => exact .head _
section
variable {rs : List Rule} (hok : RulesOk rs) (k : Nat)
include hok
theorem V_done : ∀ s ∈ SYM, Fst (rs.take (k + 3)) s EMPTY → (roundsB rs 3).2 s ≤ k := by
  refine saturate (A := fun r s => (roundsB rs r).2 s ≤ k) (D := fun r => ∀ s ∈ SYM, Fst (rs.take (k + 3)) s EMPTY → (roundsB rs r).2 s ≤ k) (fun r s h => ?_) (fun r h s hs hf => ?_) (fun r h s hs hf => ?_) (fun r h s hs hf => ?_)
  · rw [roundsB_next]; exact Int.le_trans ((round_low rs _).2 s) h
  · rw [roundsB_next]; exact Int.le_trans ((round_low rs _).2 s) (h s hs hf)
  · by_cases hN : s ∈ NAMES
    · exact h s hN
    · rw [← fst_names hok hN hf] at hs
      exact absurd hs (by decide +kernel)
  · generalize e : EMPTY = t at hf
    induction hf with
    | term hn => rw [← e] at hs; exact absurd hs (by decide +kernel)
    | head _ _ _ hne => exact absurd e.symm hne
    | @empty n ss hr _ ih =>
      refine h n (of_take hok hr).name ?_
      rw [roundsB_next]
      exact round_hitV hr fun y hy => ih y hy ((of_take hok hr).syms y hy) rfl
theorem V_done' (r : Nat) : ∀ s ∈ SYM, Fst (rs.take (k + 3)) s EMPTY → (roundsB rs (3 + r)).2 s ≤ k := by
  induction r with
  | zero => exact V_done hok k
  | succ r ih =>
    intro s hs hf
    rw [← Nat.add_assoc, roundsB_next]
    exact Int.le_trans ((round_low rs _).2 s) (ih s hs hf)
theorem F_done {t : PySem.Str} (ht : t ∈ ABC) : ∀ s ∈ SYM, Fst (rs.take (k + 3)) s t → (roundsB rs 6).1 (s, t) ≤ k := by
  refine saturate (A := fun r s => (roundsB rs (3 + r)).1 (s, t) ≤ k) (D := fun r => ∀ s ∈ SYM, Fst (rs.take (k + 3)) s t → (roundsB rs (3 + r)).1 (s, t) ≤ k) (fun r s h => ?_) (fun r h s hs hf => ?_) (fun r h s hs hf => ?_) (fun r h s hs hf => ?_)
  · rw [← Nat.add_assoc, roundsB_next]; exact Int.le_trans ((round_low rs _).1 _) h
  · rw [← Nat.add_assoc, roundsB_next]; exact Int.le_trans ((round_low rs _).1 _) (h s hs hf)
  · by_cases hN : s ∈ NAMES
    · exact h s hN
    · rw [fst_names hok hN hf]
      refine Int.le_trans (roundsB_low rs _ _) ?_
      unfold F0; rw [if_pos rfl]; omega
  · induction hf with
    | @term s hn =>
      refine Int.le_trans (roundsB_low rs _ _) ?_
      unfold F0; rw [if_pos rfl]; omega
    | @head n pre x post t hr hp _ hne _ ihx =>
      have hk := of_take hok hr
      refine h n hk.name ?_
      rw [← Nat.add_assoc, roundsB_next]
      exact round_hitF hr ht (fun s hs => V_done' hok k r s (hk.syms s (by simp [hs])) (hp s hs)) (ihx ht h (hk.syms x (by simp)))
    | empty _ _ _ => exact absurd rfl (abc_ne ht).1
theorem momF_iff (h8 : k ≤ 8) {s t : PySem.Str} (hs : s ∈ SYM) (ht : t ∈ ABC) : (roundsB rs 6).1 (s, t) ≤ k ↔ Fst (rs.take (k + 3)) s t :=
  ⟨fun h => (roundsB_sound rs 6).1 k h8 s t ht h, fun h => F_done hok k ht s hs h⟩
theorem momV_iff (h8 : k ≤ 8) {s : PySem.Str} (hs : s ∈ SYM) : (roundsB rs 6).2 s ≤ k ↔ Fst (rs.take (k + 3)) s EMPTY :=
  ⟨fun h => (roundsB_sound rs 6).2 k h8 s h, fun h => V_done' hok k 3 s hs h⟩
end
end
section
open PySem PySem.W PyProof.Rows
/-! what follows: one run -/
theorem low_of {α : Type} {f : FT → α → FT} (h : ∀ F a, Low (f F a) F) (l : List α) (F : FT) : Low (l.foldl f F) F := foldl_rel Low.rfl' Low.tr h l F
section
variable {first : FT} {V : VT} {s n : PySem.Str} {ss : List PySem.Str} {far : Int}
theorem other_low {l : List PySem.Str} {st : FT × Int} : Low (l.foldl (gOther first V s) st).1 st.1 :=
  foldl_rel (R := fun a b : FT × Int => Low a.1 b.1) (fun _ => Low.rfl' _) (fun _ _ _ => Low.tr _ _ _) (fun _ _ => low_of (fun _ _ => upd_low) _ _) l st
theorem other_far {k : Int} : ∀ {l : List PySem.Str} {st : FT × Int}, st.2 ≤ k → (∀ s ∈ l, V s ≤ k) → (l.foldl (gOther first V s) st).2 ≤ k
  | [], _, h, _ => h
  | x :: l, st, h, hv => by
    refine other_far (l := l) ?_ fun x hx => hv x (.tail _ hx)
    show max st.2 (V x) ≤ k
    have := hv x (.head _); omega
theorem other_hit {x t : PySem.Str} {k : Int} {p q : List PySem.Str} {st : FT × Int} (ht : t ∈ ABC) (h : st.2 ≤ k) (hv : ∀ s ∈ p, V s ≤ k) (hx : first (x, t) ≤ k) : ((p ++ x :: q).foldl (gOther first V s) st).1 (s, t) ≤ k := by
  rw [List.foldl_append, List.foldl_cons]
  refine Int.le_trans (other_low _) ?_
  refine hit_in ht (fun _ _ => upd_low) fun F' _ => Int.le_trans upd_hit ?_
  have := other_far (first := first) (s := s) h hv
  omega
theorem place_low {number : Nat} {G : FT} {p : PySem.Str × Nat} : Low (gPlace first V number n ss G p) G := by
  unfold gPlace
  split
  · exact Low.tr _ _ _ (low_of (fun _ _ => upd_low) _ _) other_low
  · exact Low.rfl' _
theorem grule_low (G : FT) (p : Rule × Nat) : Low (gRule first V G p) G := low_of (fun _ _ => place_low) _ _
noncomputable abbrev runG (rs : List Rule) (first : FT) (V : VT) (G : FT) : FT := rs.zipIdx.foldl (gRule first V) G
theorem runG_low (rs : List Rule) (G : FT) : Low (runG rs first V G) G := low_of (fun _ _ => grule_low _ _) _ _
theorem runG_at {rs : List Rule} {i j : Nat} {p : Rule} {B : PySem.Str} (h : rs[i]? = some p) (hB : p.2[j]? = some B) (G : FT) : ∃ G', Low G' G ∧ Low (runG rs first V G) (gPlace first V i p.1 p.2 G' (B, j)) := by
  have hm : (p, i) ∈ rs.zipIdx := List.mem_zipIdx_iff_getElem?.mpr h
  have hb : (B, j) ∈ p.2.zipIdx := List.mem_zipIdx_iff_getElem?.mpr hB
  obtain ⟨u, v, e⟩ := List.append_of_mem hm
  obtain ⟨u2, v2, e2⟩ := List.append_of_mem hb
  refine ⟨u2.foldl (gPlace first V i p.1 p.2) (u.foldl (gRule first V) G), Low.tr _ _ _ (low_of (fun _ _ => place_low) _ _) (low_of (fun _ _ => grule_low _ _) _ _), ?_⟩
  unfold runG
  rw [e, List.foldl_append, List.foldl_cons]
  refine Low.tr _ _ _ (low_of (fun _ _ => grule_low _ _) _ _) ?_
  unfold gRule
  dsimp only
  rw [e2, List.foldl_append, List.foldl_cons]
  exact low_of (fun _ _ => place_low) _ _
theorem at_place {pre : List PySem.Str} {B : PySem.Str} {post : List PySem.Str} : (pre ++ B :: post)[pre.length]? = some B ∧ (pre ++ B :: post).drop (pre.length + 1) = post := by
  refine ⟨by simp, ?_⟩
  rw [← List.drop_drop, List.drop_left]; rfl
theorem run_first {rs : List Rule} {k : Nat} {B x t : PySem.Str} {pre p q : List PySem.Str} {G : FT} (h : (n, pre ++ B :: (p ++ x :: q)) ∈ rs.take (k + 3)) (hB : B ∈ NAMES) (ht : t ∈ ABC) (hv : ∀ s ∈ p, V s ≤ k) (hx : first (x, t) ≤ k) : runG rs first V G (B, t) ≤ k := by
  obtain ⟨i, hi, hk⟩ := rule_late h
  obtain ⟨h1, h2⟩ := at_place (pre := pre) (B := B) (post := p ++ x :: q)
  obtain ⟨G', l, l2⟩ := runG_at (first := first) (V := V) hi h1 G
  refine Int.le_trans (l2 _) ?_
  unfold gPlace gTail
  dsimp only
  rw [if_pos hB, h2]
  refine Int.le_trans (low_of (fun _ _ => upd_low) _ _ _) ?_
  exact other_hit ht hk hv hx
theorem run_from {rs : List Rule} {k : Nat} {B t : PySem.Str} {pre post : List PySem.Str} {G : FT} (h : (n, pre ++ B :: post) ∈ rs.take (k + 3)) (hB : B ∈ NAMES) (ht : t ∈ ABCE) (hv : ∀ s ∈ post, V s ≤ k) (hx : G (n, t) ≤ k) : runG rs first V G (B, t) ≤ k := by
  obtain ⟨i, hi, hk⟩ := rule_late h
  obtain ⟨h1, h2⟩ := at_place (pre := pre) (B := B) (post := post)
  obtain ⟨G', l, l2⟩ := runG_at (first := first) (V := V) hi h1 G
  refine Int.le_trans (l2 _) ?_
  unfold gPlace gTail
  dsimp only
  rw [if_pos hB, h2]
  refine hit_in ht (fun _ _ => upd_low) fun F' lo => Int.le_trans upd_hit ?_
  have h3 := other_far (first := first) (s := B) (st := (G', max ((i : Int) - 2) 0)) hk hv
  have h4 := lo (n, t)
  have h5 := other_low (first := first) (V := V) (s := B) (l := post) (st := (G', max ((i : Int) - 2) 0)) (n, t)
  have h6 := l (n, t)
  dsimp only at h5
  omega
end
/-! soundness -/
noncomputable def SG (rs : List Rule) (G : FT) : Prop := ∀ k : Nat, k ≤ 8 → ∀ s t, t ∈ ABCE → G (s, t) ≤ k → Fol (rs.take (k + 3)) s t
section
variable {rs : List Rule} {first : FT} {V : VT} (hF : SF rs first) (hV : SV rs V)
include hF in
theorem SG.other {p : Rule} {pre pr post : List PySem.Str} {B x : PySem.Str} {far : Int} {G : FT} (e : p.2 = pre ++ B :: (pr ++ x :: post)) (hB : B ∈ NAMES) (h : SG rs G) (hf : SFar rs p pr far) : SG rs (ABC.foldl (gStep first B x far) G) := by
  refine foldl_inv (I := SG rs) (fun G' t ht h' k hk a u hu hle => ?_) h
  unfold gStep upd at hle
  split at hle
  · rename_i e1
    simp only [Prod.mk.injEq] at e1
    obtain ⟨rfl, rfl⟩ := e1
    by_cases hl : G' (a, u) ≤ k
    · exact h' k hk _ _ hu hl
    · obtain ⟨h1, h2⟩ := hf k hk (by omega)
      obtain ⟨n, ss⟩ := p
      dsimp only at e h1
      rw [e] at h1
      exact .first h1 hB h2 (hF k hk _ _ ht (by omega)) (abc_ne ht).1
  · exact h' k hk _ _ hu hle
include hF hV in
theorem other_sound {p : Rule} {pre : List PySem.Str} {B : PySem.Str} (hB : B ∈ NAMES) : ∀ {l pr : List PySem.Str} {st : FT × Int}, p.2 = pre ++ B :: (pr ++ l) → SG rs st.1 → SFar rs p pr st.2 → SG rs (l.foldl (gOther first V B) st).1 ∧ SFar rs p (pr ++ l) (l.foldl (gOther first V B) st).2
  | [], pr, st, e, h, hf => by
    rw [List.append_nil]
    exact ⟨h, hf⟩
  | x :: l, pr, st, e, h, hf => by
    have hx : SFar rs p (pr ++ [x]) (gOther first V B st x).2 := by
      intro k hk hle
      have hle : max st.2 (V x) ≤ k := hle
      obtain ⟨h1, h2⟩ := hf k hk (by omega)
      refine ⟨h1, fun y hy => ?_⟩
      rcases List.mem_append.mp hy with q | q
      · exact h2 y q
      · rw [List.mem_singleton.mp q]; exact hV k hk x (by omega)
    have ih := other_sound (pre := pre) hB (l := l) (pr := pr ++ [x]) (st := gOther first V B st x) (by rw [e]; simp) (SG.other hF e hB h hf) hx
    rw [List.append_assoc] at ih
    exact ih
include hF hV in
theorem place_sound {p : Rule} {i j : Nat} {B : PySem.Str} {G : FT} (hp : rs[i]? = some p) (hB : p.2[j]? = some B) (h : SG rs G) : SG rs (gPlace first V i p.1 p.2 G (B, j)) := by
  unfold gPlace gTail
  dsimp only
  split
  · rename_i hN
    have es := split_at hB
    obtain ⟨h1, h2⟩ := other_sound hF hV (p := p) (pre := p.2.take j) hN (l := p.2.drop (j + 1)) (pr := []) (st := (G, max ((i : Int) - 2) 0)) es h (fun k _ hle => ⟨late_rule hp hle, fun _ hy => by cases hy⟩)
    rw [List.nil_append] at h2
    refine foldl_inv (I := SG rs) (fun G' t ht h' k hk a u hu hle => ?_) h1
    unfold gEnd upd at hle
    split at hle
    · rename_i e1
      simp only [Prod.mk.injEq] at e1
      obtain ⟨rfl, rfl⟩ := e1
      by_cases hl : G' (a, u) ≤ k
      · exact h' k hk _ _ hu hl
      · obtain ⟨h3, h4⟩ := h2 k hk (by omega)
        obtain ⟨n, ss⟩ := p
        dsimp only at es h3 h4 hle
        rw [es] at h3
        exact .from h3 hN h4 (h' k hk _ _ ht (by omega))
    · exact h' k hk _ _ hu hle
  · exact h
include hF hV in
theorem roundsG_sound (r : Nat) : SG rs (roundsG rs first V r) := by
  unfold roundsG
  refine foldl_inv (I := SG rs) (fun G _ _ h => ?_) (fun k hk s t ht hle => ?_)
  · refine foldl_inv (I := SG rs) (fun G p hp h => ?_) h
    exact foldl_inv (I := SG rs) (fun G q hq h => place_sound hF hV (List.mem_zipIdx_iff_getElem?.mp hp) (List.mem_zipIdx_iff_getElem?.mp hq) h) h
  · unfold G0 upd at hle
    split at hle
    · rename_i e
      simp only [Prod.mk.injEq] at e
      rw [e.1, e.2]; exact .start
    · unfold G9 at hle; omega
end
theorem roundsG_next (rs : List Rule) (first : FT) (V : VT) (r : Nat) : roundsG rs first V (r + 1) = runG rs first V (roundsG rs first V r) := by
  unfold roundsG
  rw [List.range_succ, List.foldl_append]; rfl
theorem fol_names {rs : List Rule} {s t : PySem.Str} (h : Fol rs s t) : s ∈ NAMES := by
  cases h with
  | start => decide +kernel
  | first _ h _ _ _ => exact h
  | «from» _ h _ _ => exact h
theorem roundsG_low (rs : List Rule) (first : FT) (V : VT) : ∀ r, Low (roundsG rs first V r) G0
  | 0 => Low.rfl' _
  | r + 1 => by rw [roundsG_next]; exact Low.tr _ _ _ (runG_low rs _) (roundsG_low rs first V r)
section
variable {rs : List Rule} (hok : RulesOk rs) (k : Nat) {first : FT} {V : VT}
include hok
theorem fol_univ {s t : PySem.Str} (h : Fol (rs.take (k + 3)) s t) : t ∈ UNI2 := by
  induction h with
  | start => exact .head _
  | @first n pre B p x q t hr _ _ hx hne =>
    have := fst_univ hok hx ((of_take hok hr).syms x (by simp))
    unfold UNI at this
    rcases List.mem_cons.mp this with q | q
    · exact absurd q hne
    · exact .tail _ q
  | «from» _ _ _ _ ih => exact ih
theorem G_done (hF : ∀ s ∈ SYM, ∀ t ∈ ABC, Fst (rs.take (k + 3)) s t → first (s, t) ≤ k) (hV : ∀ s ∈ SYM, Fst (rs.take (k + 3)) s EMPTY → V s ≤ k) {t : PySem.Str} (ht : t ∈ ABCE) : ∀ s, Fol (rs.take (k + 3)) s t → roundsG rs first V 3 (s, t) ≤ k := by
  refine saturate (A := fun r s => roundsG rs first V r (s, t) ≤ k) (D := fun r => ∀ s, Fol (rs.take (k + 3)) s t → roundsG rs first V r (s, t) ≤ k) (fun r s h => ?_) (fun r h s hf => ?_) (fun r h s hf => ?_) (fun r h s hf => ?_)
  · rw [roundsG_next]; exact Int.le_trans (runG_low rs _ _) h
  · rw [roundsG_next]; exact Int.le_trans (runG_low rs _ _) (h s hf)
  · exact h s (fol_names hf)
  · induction hf with
    | start =>
      refine Int.le_trans (roundsG_low rs first V r _) ?_
      unfold G0 upd; rw [if_pos (by rfl)]; omega
    | @first n pre B p x q t hr hB hp hx hne =>
      have hk := of_take hok hr
      refine h B hB ?_
      rw [roundsG_next]
      have hxS : x ∈ SYM := hk.syms x (by simp)
      have hu := fst_univ hok hx hxS
      have htA : t ∈ ABC := by
        unfold UNI at hu
        rcases List.mem_cons.mp hu with e | e
        · exact absurd e hne
        · exact e
      exact run_first hr hB htA (fun s hs => hV s (hk.syms s (by simp [hs])) (hp s hs)) (hF x hxS t htA hx)
    | @«from» n pre B post t hr hB hp _ ih =>
      have hk := of_take hok hr
      refine h B hB ?_
      rw [roundsG_next]
      exact run_from hr hB ht (fun s hs => hV s (hk.syms s (by simp [hs])) (hp s hs)) (ih ht h)
theorem momG_iff (h8 : k ≤ 8) {s t : PySem.Str} (ht : t ∈ ABCE) : roundsG rs (roundsB rs 6).1 (roundsB rs 6).2 3 (s, t) ≤ k ↔ Fol (rs.take (k + 3)) s t :=
  ⟨fun h => roundsG_sound (roundsB_sound rs 6).1 (roundsB_sound rs 6).2 3 k h8 s t ht h, fun h => G_done hok k (fun _ hs _ ht h => (momF_iff hok k h8 hs ht).mpr h) (fun _ hs h => (momV_iff hok k h8 hs).mpr h) ht s h⟩
end
end
section
open PySem PySem.W PyProof.Rows
noncomputable abbrev momF (rs : List Rule) : FT := (roundsB rs 6).1
noncomputable abbrev momV (rs : List Rule) : VT := (roundsB rs 6).2
noncomputable abbrev momG (rs : List Rule) : FT := roundsG rs (momF rs) (momV rs) 3
noncomputable def ABCE' : List PySem.Str := [ENDS, "a", "b", "c"]
noncomputable def openL (rs : List Rule) (k : Nat) (s : PySem.Str) : List PySem.Str := if s ∈ NAMES then (if momV rs s ≤ k then [EMPTY] else []) ++ ABC.filter (fun t => decide (momF rs (s, t) ≤ k)) else [s]
noncomputable def comeL (rs : List Rule) (k : Nat) (s : PySem.Str) : List PySem.Str := ABCE'.filter fun t => decide (momG rs (s, t) ≤ k)
/-! sorted lists -/
noncomputable def UNIS : List PySem.Str := [ENDS, EMPTY, "a", "b", "c"]
noncomputable abbrev SLe (a b : PySem.Str) : Prop := Spec.ltCps b.cps.toList a.cps.toList = false
theorem sle_tr : ∀ a ∈ UNIS, ∀ b ∈ UNIS, ∀ c ∈ UNIS, SLe a b → SLe b c → SLe a c := by decide +kernel
theorem sle_anti : ∀ a ∈ UNIS, ∀ b ∈ UNIS, SLe a b → SLe b a → a = b := by decide +kernel
theorem rising_pw : ∀ {ys : List PySem.Str} {x : PySem.Str}, x ∈ UNIS → (∀ y ∈ ys, y ∈ UNIS) → risingS x ys = true → (x :: ys).Pairwise SLe
  | [], x, _, _, _ => List.pairwise_singleton _ _
  | y :: ys, x, hx, h, hr => by
    unfold risingS at hr
    rw [Bool.and_eq_true, Bool.not_eq_true'] at hr
    have hy := h y (.head _)
    have ih := rising_pw (ys := ys) hy (fun z hz => h z (.tail _ hz)) hr.2
    refine List.pairwise_cons.mpr ⟨fun z hz => ?_, ih⟩
    rcases List.mem_cons.mp hz with q | q
    · rw [q]; exact hr.1
    · exact sle_tr x hx y hy z (h z hz) hr.1 ((List.pairwise_cons.mp ih).1 z q)
theorem sorted_pw {ys : List PySem.Str} (h : ∀ y ∈ ys, y ∈ UNIS) (hs : sortedS ys = true) : ys.Pairwise SLe := by
  cases ys with
  | nil => exact .nil
  | cons x ys => exact rising_pw (h x (.head _)) (fun y hy => h y (.tail _ hy)) hs
theorem sorted_same {ys zs : List PySem.Str} (h : ∀ y ∈ ys, y ∈ UNIS) (n1 : ys.Nodup) (n2 : zs.Nodup) (same : ∀ t, t ∈ ys ↔ t ∈ zs) (p1 : ys.Pairwise SLe) (p2 : zs.Pairwise SLe) : ys = zs :=
  List.Perm.eq_of_pairwise (fun a b ha hb q r => sle_anti a (h a ha) b (h b ((same b).mpr hb)) q r) p1 p2 ((List.perm_ext_iff_of_nodup n1 n2).mpr same)
theorem uni_pw : UNI.Pairwise SLe := by decide +kernel
theorem abce_pw : ABCE'.Pairwise SLe := by decide +kernel
theorem uni_nd : UNI.Nodup := by decide +kernel
theorem abce_nd : ABCE'.Nodup := by decide +kernel
theorem uni_in : ∀ y ∈ UNI, y ∈ UNIS := by decide +kernel
theorem uni2_in : ∀ y ∈ UNI2, y ∈ UNIS := by decide +kernel
theorem openL_lay' {rs : List Rule} {k : Nat} {s : PySem.Str} (h : s ∈ NAMES) : (openL rs k s).Sublist UNI := by
  unfold openL
  rw [if_pos h]
  have h1 : (if momV rs s ≤ k then [EMPTY] else []).Sublist [EMPTY] := by
    split
    · exact .refl _
    · exact List.nil_sublist _
  exact h1.append List.filter_sublist
theorem comeL_lay' {rs : List Rule} {k : Nat} {s : PySem.Str} : (comeL rs k s).Sublist ABCE' := List.filter_sublist
theorem names_sym {s : PySem.Str} (h : s ∈ NAMES) : s ∈ SYM := by
  have : ∀ s ∈ NAMES, s ∈ SYM := by decide +kernel
  exact this s h
section
variable {rs : List Rule} (hok : RulesOk rs) {k : Nat} (h8 : k ≤ 8)
include hok h8
theorem openL_mem {s t : PySem.Str} : t ∈ openL rs k s ↔ Fst (rs.take (k + 3)) s t := by
  by_cases h : s ∈ NAMES
  · have hs := names_sym h
    unfold openL
    rw [if_pos h, List.mem_append, List.mem_filter, decide_eq_true_iff]
    have hE : t ∈ (if momV rs s ≤ k then [EMPTY] else []) ↔ t = EMPTY ∧ momV rs s ≤ k := by
      split
      · rename_i h; simp [h]
      · rename_i h; simp [h]
    rw [hE]
    constructor
    · rintro (⟨rfl, h2⟩ | ⟨h1, h2⟩)
      · exact (momV_iff hok k h8 hs).mp h2
      · exact (momF_iff hok k h8 hs h1).mp h2
    · intro hf
      have hu := fst_univ hok hf hs
      unfold UNI at hu
      rcases List.mem_cons.mp hu with e | e
      · subst e; exact .inl ⟨rfl, (momV_iff hok k h8 hs).mpr hf⟩
      · exact .inr ⟨e, (momF_iff hok k h8 hs e).mpr hf⟩
  · unfold openL
    rw [if_neg h, List.mem_singleton]
    exact ⟨fun e => by rw [e]; exact .term h, fun hf => fst_names hok h hf⟩
theorem comeL_mem {s t : PySem.Str} : t ∈ comeL rs k s ↔ Fol (rs.take (k + 3)) s t := by
  have hA : ∀ t, t ∈ ABCE' ↔ t ∈ ABCE := by
    intro t; unfold ABCE' ABCE; simp only [List.mem_cons, List.not_mem_nil, or_false, ENDS]
    constructor
    · rintro (h | h | h | h) <;> simp [h]
    · rintro (h | h | h | h) <;> simp [h]
  unfold comeL
  rw [List.mem_filter, decide_eq_true_iff]
  constructor
  · rintro ⟨h1, h2⟩; exact (momG_iff hok k h8 ((hA t).mp h1)).mp h2
  · intro hf
    have hu : t ∈ ABCE' := fol_univ hok k hf
    exact ⟨hu, (momG_iff hok k h8 ((hA t).mp hu)).mpr hf⟩
end
theorem sorted_first {rs : List Rule} (hok : RulesOk rs) {k : Nat} (hk : k + 3 ≤ rs.length) {T : PySem.Str → List PySem.Str} (hI : FInv (rs.take (k + 3)) T) (hc : ∀ s t, Fst (rs.take (k + 3)) s t → t ∈ T s) {s : PySem.Str} {ys : List PySem.Str} (hp : ys.Perm (T s)) (hs : sortedS ys = true) : ys = openL rs k s := by
  have h8 : k ≤ 8 := by have := hok.hi; omega
  by_cases h : s ∈ NAMES
  · have hy : ∀ y ∈ ys, y ∈ UNIS := fun y hy => uni_in y (hI.univ s h y (hp.mem_iff.mp hy))
    refine sorted_same hy (hp.nodup_iff.mpr (hI.nd s)) (uni_nd.sublist (openL_lay' h)) (fun t => ?_) (sorted_pw hy hs) (uni_pw.sublist (openL_lay' h))
    rw [hp.mem_iff, openL_mem hok h8]
    exact ⟨hI.sound s t, hc s t⟩
  · unfold openL
    rw [if_neg h]
    rw [hI.term s h] at hp
    exact List.perm_singleton.mp hp
theorem sorted_follow {rs : List Rule} (hok : RulesOk rs) {k : Nat} (hk : k + 3 ≤ rs.length) {W : PySem.Str → List PySem.Str} (hI : OInv (rs.take (k + 3)) W) (hc : ∀ s t, Fol (rs.take (k + 3)) s t → t ∈ W s) {s : PySem.Str} (_ : s ∈ NAMES) {ys : List PySem.Str} (hp : ys.Perm (W s)) (hs : sortedS ys = true) : ys = comeL rs k s := by
  have h8 : k ≤ 8 := by have := hok.hi; omega
  have hy : ∀ y ∈ ys, y ∈ UNIS := fun y hy => uni2_in y (hI.univ s y (hp.mem_iff.mp hy))
  refine sorted_same hy (hp.nodup_iff.mpr (hI.nd s)) (abce_nd.sublist comeL_lay') (fun t => ?_) (sorted_pw hy hs) (abce_pw.sublist comeL_lay')
  rw [hp.mem_iff, comeL_mem hok h8]
  exact ⟨hI.sound s t, hc s t⟩
/-! what an added rule says -/
theorem front_mem {ss : List PySem.Str} {T : PySem.Str → List PySem.Str} {f : PySem.Str} : f ∈ frontOf ss T ↔ (∃ pre x post, ss = pre ++ x :: post ∧ (∀ y ∈ pre, EMPTY ∈ T y) ∧ f ∈ T x ∧ f ≠ EMPTY) ∨ (f = EMPTY ∧ ∀ y ∈ ss, EMPTY ∈ T y) := by
  unfold frontOf
  rw [List.mem_append, List.mem_flatMap]
  have hE : (f ∈ if ss.all (fun s => decide (EMPTY ∈ T s)) then [EMPTY] else []) ↔ f = EMPTY ∧ ∀ y ∈ ss, EMPTY ∈ T y := by
    by_cases h : ss.all (fun s => decide (EMPTY ∈ T s)) = true
    · rw [if_pos h, List.mem_singleton]
      exact ⟨fun e => ⟨e, fun y hy => of_decide_eq_true (List.all_eq_true.mp h y hy)⟩, fun e => e.1⟩
    · rw [if_neg h]
      refine ⟨fun e => (by cases e), fun e => absurd (List.all_eq_true.mpr fun y hy => decide_eq_true (e.2 y hy)) h⟩
  rw [hE]
  refine or_congr ⟨?_, ?_⟩ Iff.rfl
  · rintro ⟨x, hx, hf⟩
    obtain ⟨h1, h2⟩ := List.mem_filter.mp hf
    unfold opensOf at hx
    obtain ⟨⟨y, i⟩, q1, rfl⟩ := List.mem_map.mp hx
    obtain ⟨q2, q3⟩ := List.mem_filter.mp q1
    refine ⟨_, y, _, split_at (List.mem_zipIdx_iff_getElem?.mp q2), fun z hz => of_decide_eq_true (List.all_eq_true.mp q3 z hz), h1, fun e => ?_⟩
    rw [decide_eq_true e] at h2; cases h2
  · rintro ⟨pre, x, post, rfl, h1, h2, h3⟩
    refine ⟨x, ?_, List.mem_filter.mpr ⟨h2, by rw [decide_eq_false h3]; rfl⟩⟩
    unfold opensOf
    refine List.mem_map.mpr ⟨(x, pre.length), List.mem_filter.mpr ⟨List.mem_zipIdx_iff_getElem?.mpr (by simp), ?_⟩, rfl⟩
    dsimp only
    rw [List.take_left' rfl]
    exact List.all_eq_true.mpr fun y hy => decide_eq_true (h1 y hy)
theorem fst_mono {rs rs' : List Rule} (h : ∀ r ∈ rs, r ∈ rs') {s t : PySem.Str} (hf : Fst rs s t) : Fst rs' s t := by
  induction hf with
  | term hn => exact .term hn
  | head hr _ _ hne ihp ihx => exact .head (h _ hr) ihp ihx hne
  | empty hr _ ih => exact .empty (h _ hr) ih
theorem fol_mono {rs rs' : List Rule} (h : ∀ r ∈ rs, r ∈ rs') {s t : PySem.Str} (hf : Fol rs s t) : Fol rs' s t := by
  induction hf with
  | start => exact .start
  | first hr hB hp hx hne => exact .first (h _ hr) hB (fun y hy => fst_mono h (hp y hy)) (fst_mono h hx) hne
  | «from» hr hB hp _ ih => exact .from (h _ hr) hB (fun y hy => fst_mono h (hp y hy)) ih
theorem newOf_iff {p : Rule} {T W : PySem.Str → List PySem.Str} : newOf p T W = true ↔ (∀ f ∈ frontOf p.2 T, f ∈ T p.1) ∧ ∀ pre B post, p.2 = pre ++ B :: post → B ∈ NAMES → ∀ t, ((t ∈ frontOf post T ∧ t ≠ EMPTY) ∨ (EMPTY ∈ frontOf post T ∧ t ∈ W p.1)) → t ∈ W B := by
  unfold newOf
  rw [Bool.and_eq_true, List.all_eq_true, List.all_eq_true]
  have hd : ∀ (front follow : List PySem.Str) t, t ∈ dueOf front follow ↔ (t ∈ front ∧ t ≠ EMPTY) ∨ (EMPTY ∈ front ∧ t ∈ follow) := by
    intro front follow t
    unfold dueOf
    rw [List.mem_append, List.mem_filter]
    refine or_congr ⟨fun h => ⟨h.1, fun e => ?_⟩, fun h => ⟨h.1, by rw [decide_eq_false h.2]; rfl⟩⟩ ⟨fun h => ?_, fun h => by rw [if_pos h.1]; exact h.2⟩
    · rw [decide_eq_true e] at h; cases h.2
    · split at h
      · rename_i e; exact ⟨e, h⟩
      · cases h
  refine and_congr ⟨fun h f hf => of_decide_eq_true (h f hf), fun h f hf => decide_eq_true (h f hf)⟩ ⟨fun h pre B post e hB t ht => ?_, fun h q hq => ?_⟩
  · obtain ⟨h1, h2⟩ := at_place (pre := pre) (B := B) (post := post)
    have := h (B, pre.length) (List.mem_zipIdx_iff_getElem?.mpr (by rw [e]; exact h1))
    unfold newAt at this
    rw [decide_eq_true hB] at this
    have this := List.all_eq_true.mp (show _ = true from this) t
    dsimp only at this
    rw [e, h2] at this
    exact of_decide_eq_true (this ((hd _ _ _).mpr ht))
  · unfold newAt
    by_cases hB : q.1 ∈ NAMES
    · rw [decide_eq_true hB]
      show List.all _ _ = true
      refine List.all_eq_true.mpr fun t ht => decide_eq_true ?_
      exact h _ _ _ (split_at (List.mem_zipIdx_iff_getElem?.mp hq)) hB t ((hd _ _ _).mp ht)
    · rw [decide_eq_false hB]; rfl
theorem tabEq_iff {ka kb : List PySem.Str} {T W : PySem.Str → List PySem.Str} (n1 : ka.Nodup) (n2 : kb.Nodup) (h : ∀ s, s ∈ ka ↔ s ∈ kb) : tabEq ka T kb W = true ↔ ∀ s ∈ ka, T s = W s := by
  unfold tabEq
  have hp : ka.Perm kb := (List.perm_ext_iff_of_nodup n1 n2).mpr h
  rw [hp.length_eq, Bool.and_eq_true, List.all_eq_true]
  constructor
  · rintro ⟨_, h2⟩ s hs
    have := h2 s hs
    rw [Bool.and_eq_true] at this
    exact of_decide_eq_true this.2
  · intro h2
    refine ⟨beq_self_eq_true _, fun s hs => ?_⟩
    rw [decide_eq_true ((h s).mp hs), decide_eq_true (h2 s hs)]; rfl
section
variable {rs : List Rule} (hok : RulesOk rs) {k : Nat} (h8 : k + 1 ≤ 8) {p : Rule} (hp : rs[k + 3]? = some p)
theorem next_rule (hp : rs[k + 3]? = some p) {r : Rule} : r ∈ rs.take (k + 1 + 3) ↔ r ∈ rs.take (k + 3) ∨ r = p := by
  rw [show k + 1 + 3 = (k + 3) + 1 by omega, List.take_add_one, hp, List.mem_append]
  simp
include hok h8 hp
/-- where a rule says nothing new, the tables stand -/
theorem new_first (hn : newOf p (openL rs k) (comeL rs k) = true) {s t : PySem.Str} (hf : Fst (rs.take (k + 1 + 3)) s t) : Fst (rs.take (k + 3)) s t := by
  have hm := @openL_mem rs hok k (by omega)
  have h1 := (newOf_iff.mp hn).1
  induction hf with
  | term hn => exact .term hn
  | @head n pre x post t hr _ _ hne ihp ihx =>
    rcases (next_rule hp).mp hr with q | rfl
    · exact .head q ihp ihx hne
    · exact hm.mp (h1 t (front_mem.mpr (.inl ⟨pre, x, post, rfl, fun y hy => hm.mpr (ihp y hy), hm.mpr ihx, hne⟩)))
  | @empty n ss hr _ ih =>
    rcases (next_rule hp).mp hr with q | rfl
    · exact .empty q ih
    · exact hm.mp (h1 EMPTY (front_mem.mpr (.inr ⟨rfl, fun y hy => hm.mpr (ih y hy)⟩)))
theorem new_follow (hn : newOf p (openL rs k) (comeL rs k) = true) {s t : PySem.Str} (hf : Fol (rs.take (k + 1 + 3)) s t) : Fol (rs.take (k + 3)) s t := by
  have hm := @openL_mem rs hok k (by omega)
  have hg := @comeL_mem rs hok k (by omega)
  have h2 := (newOf_iff.mp hn).2
  have nf := fun {s t} (h : Fst (rs.take (k + 1 + 3)) s t) => new_first hok h8 hp hn h
  induction hf with
  | start => exact .start
  | @first n pre B pr x q t hr hB hpr hx hne =>
    rcases (next_rule hp).mp hr with z | rfl
    · exact .first z hB (fun y hy => nf (hpr y hy)) (nf hx) hne
    · exact hg.mp (h2 pre B _ rfl hB t (.inl ⟨front_mem.mpr (.inl ⟨pr, x, q, rfl, fun y hy => hm.mpr (nf (hpr y hy)), hm.mpr (nf hx), hne⟩), hne⟩))
  | @«from» n pre B post t hr hB hpr _ ih =>
    rcases (next_rule hp).mp hr with z | rfl
    · exact .from z hB (fun y hy => nf (hpr y hy)) ih
    · exact hg.mp (h2 pre B _ rfl hB t (.inr ⟨front_mem.mpr (.inr ⟨rfl, fun y hy => hm.mpr (nf (hpr y hy))⟩), hg.mpr ih⟩))
/-- and back -/
theorem new_back (hF : ∀ s ∈ NAMES, openL rs k s = openL rs (k + 1) s) (hG : ∀ s ∈ NAMES, comeL rs k s = comeL rs (k + 1) s) : newOf p (openL rs k) (comeL rs k) = true := by
  have hm := @openL_mem rs hok k (by omega)
  have hg := @comeL_mem rs hok k (by omega)
  have hm1 := @openL_mem rs hok (k + 1) (by omega)
  have hg1 := @comeL_mem rs hok (k + 1) (by omega)
  have sub : ∀ r ∈ rs.take (k + 3), r ∈ rs.take (k + 1 + 3) := fun r hr => (next_rule hp).mpr (.inl hr)
  have up := fun {s t} (h : t ∈ openL rs k s) => fst_mono sub (hm.mp h)
  have hpm : p ∈ rs.take (k + 1 + 3) := (next_rule hp).mpr (.inr rfl)
  have hpo := hok.each p (List.mem_of_getElem? hp)
  refine newOf_iff.mpr ⟨fun f hf => ?_, fun pre B post e hB t ht => ?_⟩
  · rw [hF p.1 hpo.name]
    refine hm1.mpr ?_
    rcases front_mem.mp hf with ⟨pre, x, post, e, h1, h2, h3⟩ | ⟨rfl, h2⟩
    · exact .head (pre := pre) (x := x) (post := post) (by rw [← e]; exact hpm) (fun y hy => up (h1 y hy)) (up h2) h3
    · exact .empty (ss := p.2) hpm fun y hy => up (h2 y hy)
  · rw [hG B hB]
    refine hg1.mpr ?_
    have hpm' : (p.1, pre ++ B :: post) ∈ rs.take (k + 1 + 3) := by rw [← e]; exact hpm
    rcases ht with ⟨h1, h2⟩ | ⟨h1, h2⟩
    · rcases front_mem.mp h1 with ⟨pr, x, q, rfl, h3, h4, h5⟩ | ⟨h3, _⟩
      · exact .first hpm' hB (fun y hy => up (h3 y hy)) (up h4) h5
      · exact absurd h3 h2
    · rcases front_mem.mp h1 with ⟨_, _, _, _, _, _, h5⟩ | ⟨_, h3⟩
      · exact absurd rfl h5
      · exact .from hpm' hB (fun y hy => up (h3 y hy)) (fol_mono sub (hg.mp h2))
end
theorem new_law {rs : List Rule} (hok : RulesOk rs) {k : Nat} {p : Rule} (hp : rs[k + 3]? = some p) {K1 K2 J1 J2 : List PySem.Str} (n1 : K1.Nodup) (n2 : K2.Nodup) (n3 : J1.Nodup) (n4 : J2.Nodup) (i1 : ∀ s, s ∈ K1 ↔ s ∈ NAMES) (i2 : ∀ s, s ∈ K2 ↔ s ∈ NAMES) (i3 : ∀ s, s ∈ J1 ↔ s ∈ NAMES) (i4 : ∀ s, s ∈ J2 ↔ s ∈ NAMES) :
    (tabEq (FKEY K1) (openL rs k) (FKEY J1) (openL rs (k + 1)) && tabEq K2 (comeL rs k) J2 (comeL rs (k + 1))) = newOf p (openL rs k) (comeL rs k) := by
  have h8 : k + 1 ≤ 8 := by
    have := (List.getElem?_eq_some_iff.mp hp).1
    have := hok.hi; omega
  have fnd : ∀ {K : List PySem.Str}, K.Nodup → (∀ s, s ∈ K ↔ s ∈ NAMES) → (FKEY K).Nodup := by
    intro K n h
    unfold FKEY
    rw [List.nodup_append]
    refine ⟨by decide +kernel, n, fun a ha b hb e => ?_⟩
    subst e
    have : ∀ s ∈ TERM ++ [PySem.Str.ofString "$end"], s ∉ NAMES := by decide +kernel
    exact this a ha ((h a).mp hb)
  have fiff : ∀ s, s ∈ FKEY K1 ↔ s ∈ FKEY J1 := by
    intro s; unfold FKEY
    rw [List.mem_append, List.mem_append (t := J1), i1 s, i3 s]
  rw [Bool.eq_iff_iff, Bool.and_eq_true, tabEq_iff (fnd n1 i1) (fnd n3 i3) fiff, tabEq_iff n2 n4 (fun s => (i2 s).trans (i4 s).symm)]
  have sub : ∀ r ∈ rs.take (k + 3), r ∈ rs.take (k + 1 + 3) := fun r hr => (next_rule hp).mpr (.inl hr)
  constructor
  · rintro ⟨h1, h2⟩
    refine new_back hok h8 hp (fun s hs => h1 s ?_) (fun s hs => h2 s ((i2 s).mpr hs))
    unfold FKEY
    exact List.mem_append_right _ ((i1 s).mpr hs)
  · intro hn
    refine ⟨fun s _ => ?_, fun s hs => ?_⟩
    · by_cases h : s ∈ NAMES
      · refine sorted_same (fun y hy => uni_in y ((openL_lay' h).mem hy)) (uni_nd.sublist (openL_lay' h)) (uni_nd.sublist (openL_lay' h)) (fun t => ?_) (uni_pw.sublist (openL_lay' h)) (uni_pw.sublist (openL_lay' h))
        rw [openL_mem hok (by omega), openL_mem hok h8]
        exact ⟨fst_mono sub, new_first hok h8 hp hn⟩
      · unfold openL; rw [if_neg h, if_neg h]
    · refine sorted_same (fun y hy => uni2_in y (comeL_lay'.mem hy)) (abce_nd.sublist comeL_lay') (abce_nd.sublist comeL_lay') (fun t => ?_) (abce_pw.sublist comeL_lay') (abce_pw.sublist comeL_lay')
      rw [comeL_mem hok (by omega), comeL_mem hok h8]
      exact ⟨fol_mono sub, new_follow hok h8 hp hn⟩
end
section
open PySem PySem.W PySem.Calls PyProof.Rows
variable {c : Sit} {m : Loc} {mh mh' : MH} {Q : Value → Loc → MH → Prop}
noncomputable def fLaw : Fn := mkFn (stmtAt pw 21) 302 "law" .none (.str "law_te0071_02" 534) (.ref 301) ["script"] ["tape", "rules", "moments", "vanish", "goings", "last", "stage", "grammar", "name", "symbols", "told", "first", "follow", "opens", "comes"]
noncomputable abbrev lawL (script tape rules vanish last grammar symbols first follow opens comes : Option Value) : Loc := [("script", script), ("tape", tape), ("rules", rules), ("vanish", vanish), ("last", last), ("grammar", grammar), ("symbols", symbols), ("first", first), ("follow", follow), ("opens", opens), ("comes", comes)]
noncomputable abbrev lawC (L : Addr) : List (PySem.Str × Addr) := [("told", L + 5), ("name", L + 4), ("stage", L + 3), ("goings", L + 2), ("moments", L + 1)]
theorem law_locs (v : Value) : fLaw.locC [v] = lawL (some v) none none none none none none none none none none := rfl
theorem law_cells (L : Addr) : cellsFrom (L + 1) fLaw.scope.names [] = lawC L := rfl
noncomputable abbrev lawH (L : Addr) (mo go st nm to : Option Value) (R : MH) : MH := (L + 1, .cell mo) :: (L + 2, .cell go) :: (L + 3, .cell st) :: (L + 4, .cell nm) :: (L + 5, .cell to) :: R
noncomputable abbrev lawR (rg r d e gg : Addr) (rs : List Rule) (ps : List Value) (blk lb mh : MH) : MH := (rg, .range 0 (rs.length - 2) 1) :: (r, .list ps) :: (gg, XF (pairs4 NAMES) (momG rs)) :: (d, XF (pairs SYM) (momF rs)) :: (e, XV SYM (momV rs)) :: (blk ++ (lb ++ mh))
noncomputable def forBody : Stmt → List Stmt | .For _ _ body .. => body | _ => []
noncomputable abbrev stageBody : List Stmt := forBody ((dBody (stmtAt pw 21)).getD 5 (.Pass default))
inductive Last (rs : List Rule) : Nat → MH → Addr → Prop
  | none (la : Addr) : Last rs 0 [(la, .list [])] la
  | some (k : Nat) (la d1 d2 : Addr) (K1 K2 : List PySem.Str) (A1 A2 : PySem.Str → Addr) : K1.Nodup → K2.Nodup → (∀ s, s ∈ K1 ↔ s ∈ NAMES) → (∀ s, s ∈ K2 ↔ s ∈ NAMES) →
    Last rs (k + 1) ((la, .list [.ref d1, .ref d2]) :: (tabB d1 (FKEY K1) A1 (fun s => sL (openL rs k s)) ++ tabB d2 K2 A2 (fun s => sL (comeL rs k s)))) la
noncomputable def T5 : List PySem.Str := TERM ++ [PySem.Str.ofString "$end"]
theorem openL_term {rs : List Rule} {k : Nat} {t : PySem.Str} (h : t ∉ NAMES) : openL rs k t = [t] := if_neg h
theorem openL_name {rs : List Rule} {k : Nat} {s : PySem.Str} (h : s ∈ NAMES) : openL rs k s = (if momV rs s ≤ k then [EMPTY] else []) ++ ABC.filter (fun t => decide (momF rs (s, t) ≤ k)) := if_pos h
theorem upd_same' {α : Type} {T : PySem.Str → α} {n : PySem.Str} {v : α} : upd T n v n = v := by simp [upd]
theorem upd_twice {α : Type} {T : PySem.Str → α} {n : PySem.Str} {v w : α} : upd (upd T n v) n w = upd T n w := by
  funext s; unfold upd; split <;> rfl
theorem tabEq_self {ka kb : List PySem.Str} {T : PySem.Str → List PySem.Str} (n1 : ka.Nodup) (n2 : kb.Nodup) (h : ∀ s, s ∈ ka ↔ s ∈ kb) : tabEq ka T kb T = true := by
  unfold tabEq
  have hp : ka.Perm kb := (List.perm_ext_iff_of_nodup n1 n2).mpr h
  rw [hp.length_eq, Bool.and_eq_true]
  refine ⟨beq_self_eq_true _, List.all_eq_true.mpr fun s hs => ?_⟩
  rw [decide_eq_true ((h s).mp hs), decide_eq_true rfl]; rfl
theorem fkey_nd {K : List PySem.Str} (n : K.Nodup) (h : ∀ s, s ∈ K ↔ s ∈ NAMES) : (FKEY K).Nodup := by
  unfold FKEY
  rw [List.nodup_append]
  refine ⟨by decide +kernel, n, fun a ha b hb e => ?_⟩
  subst e
  have : ∀ s ∈ TERM ++ [PySem.Str.ofString "$end"], s ∉ NAMES := by decide +kernel
  exact this a ha ((h a).mp hb)
theorem fkey_iff {K : List PySem.Str} (h : ∀ s, s ∈ K ↔ s ∈ NAMES) (s : PySem.Str) : s ∈ FKEY K ↔ s ∈ T5 ++ NAMES := by
  unfold FKEY T5
  rw [List.mem_append, List.mem_append (t := NAMES), h s]
theorem openL_sub {rs : List Rule} {k : Nat} {s : PySem.Str} (hs : s ∈ T5 ++ NAMES) : ∀ t ∈ openL rs k s, t ∈ EMPTY :: (ABC ++ T5) := by
  by_cases h : s ∈ NAMES
  · rw [openL_name h]
    intro t ht
    rcases List.mem_append.mp ht with ht | ht
    · split at ht
      · rw [List.mem_singleton.mp ht]; exact .head _
      · cases ht
    · exact .tail _ (List.mem_append_left _ (List.mem_filter.mp ht).1)
  · rw [openL_term h]
    intro t ht
    rw [List.mem_singleton.mp ht]
    rcases List.mem_append.mp hs with q | q
    · exact .tail _ (List.mem_append_right _ q)
    · exact absurd q h
theorem lay_ok {xs : List PySem.Str} (h : ∀ x ∈ xs, PyData.strOk x = true) : PyData.canLayAll0 (xs.map .str) = true := by
  induction xs with
  | nil => rfl
  | cons x xs ih =>
    have := ih fun y hy => h y (.tail _ hy)
    simp only [List.map_cons, PyData.canLayAll0, PyData.canLay0, this, Bool.and_true]
    exact h x (.head _)
theorem openL_lay {rs : List Rule} {k : Nat} {s : PySem.Str} (hs : s ∈ T5 ++ NAMES) : PyData.canLayAll0 ((openL rs k s).map .str) = true := by
  refine lay_ok fun x hx => ?_
  have : ∀ t ∈ EMPTY :: (ABC ++ T5), PyData.strOk t = true := by decide +kernel
  exact this x (openL_sub hs x hx)
theorem comeL_lay {rs : List Rule} {k : Nat} {s : PySem.Str} : PyData.canLayAll0 ((comeL rs k s).map .str) = true := by
  refine lay_ok fun x hx => ?_
  have : ∀ t ∈ ABCE', PyData.strOk t = true := by decide +kernel
  exact this x (List.mem_filter.mp hx).1
set_option maxHeartbeats 8000000 in
theorem stageC (hn : 4 < c.n) (L : Addr) {rs : List Rule} {k : Nat} {sc ta r e la gr sy op co nm to : Option Value} {mo go : Addr} {rg rr ee : Addr} {ps : List Value} {blk lb : MH} {f1 f2 : Addr} {J1 J2 : List PySem.Str} {A1 A2 : PySem.Str → Addr}
    (n1 : J1.Nodup) (n2 : J2.Nodup) (i1 : ∀ s, s ∈ J1 ↔ s ∈ NAMES) (i2 : ∀ s, s ∈ J2 ↔ s ∈ NAMES) {QF : Flow → Loc → MH → Prop}
    (hQ : ∀ op co nm lb' la', Last rs (k + 1) lb' la' → QF .next (lawL sc ta r (some (.ref ee)) (some (.ref la')) gr sy (some (.ref f1)) (some (.ref f2)) op co) (lawH L (some (.ref mo)) (some (.ref go)) (some (.int k 0)) nm to (lawR rg rr mo ee go rs ps blk lb' mh))) (hW : Ctx c := by assumption) :
    TS (c.intoC fLaw L (lawC L)) (lawL sc ta r (some (.ref ee)) la gr sy (some (.ref f1)) (some (.ref f2)) op co) (tabB f1 (FKEY J1) A1 (fun s => sL (openL rs k s)) ++ (tabB f2 J2 A2 (fun s => sL (comeL rs k s)) ++ lawH L (some (.ref mo)) (some (.ref go)) (some (.int k 0)) nm to (lawR rg rr mo ee go rs ps blk lb mh))) (stageBody.drop 7) QF := by
  have hW' : Ctx (c.intoC fLaw L (lawC L)) := hW
  refine TS.drop ?_
  with_unfolding_all refine TS.consA ?_
  intro QH hid
  refine TS1.assignDict [] [] ["t"] rfl rfl (by unfold CompNames; decide) (CC.nil rfl) (fun _ => rfl) ?_
  repeat (walk_at "x")
  refine ⟨(show 5 ≤ slim by decide), fun l5 => ?_⟩
  refine TSrc.list (xs := sL T5) (.own .here) ?_
  intro it o L'
  refine CompBlock.list (fun j m' mh' => j ≤ 5 ∧ Ex2 fun v A => IsM m' [("t", v)] ∧ IsH mh' (tabB o (T5.take j) A (fun s => sL (openL rs k s)) ++ ((l5, .list (sL T5)) :: (tabB f1 (FKEY J1) A1 (fun s => sL (openL rs k s)) ++ (tabB f2 J2 A2 (fun s => sL (comeL rs k s)) ++ lawH L (some (.ref mo)) (some (.ref go)) (some (.int k 0)) nm to (lawR rg rr mo ee go rs ps blk lb mh)))))) 5 ⟨rfl, rfl⟩ ⟨by decide, _, fun _ => 0, rfl, rfl⟩ ?_
  rintro j _ _ ⟨hj, v, A, rfl, rfl⟩
  refine ⟨sL T5, by walk_at "lat", fun hz => ?_, fun x hz => ?_⟩
  · rw [sL_get, Option.map_eq_none_iff, List.getElem?_eq_none_iff] at hz
    obtain rfl : j = 5 := by have : T5.length = 5 := rfl; omega
    rw [show T5.take 5 = T5 from rfl]
    repeat (walk_at "x")
    intro cm
    clear v hj hz it L'
    walk_at "x"
    refine TS.sub2 (mh' := tabB o T5 A (fun s => sL (openL rs k s)) ++ ((cm, .dict []) :: (tabB f1 (FKEY J1) A1 (fun s => sL (openL rs k s)) ++ (tabB f2 J2 A2 (fun s => sL (comeL rs k s)) ++ lawH L (some (.ref mo)) (some (.ref go)) (some (.int k 0)) nm to (lawR rg rr mo ee go rs ps blk lb mh))))) ?_ (by walk_at "s2")
    repeat (walk_at "x")
    refine names_spec (by show 0 < c.n - 1; omega) ?_
    intro nl
    refine TLoop.list0 (xs0 := sL NAMES) (fun j m' mh' => j ≤ 3 ∧ Ex3 fun A B nm => IsM m' (lawL sc ta r (some (.ref ee)) la gr sy (some (.ref f1)) (some (.ref f2)) (some (.ref o)) (some (.ref cm))) ∧
      IsH mh' ((nl, .list (sL NAMES)) :: (tabB o (T5 ++ NAMES.take j) A (fun s => sL (openL rs k s)) ++ (tabB cm (NAMES.take j) B (fun s => sL (comeL rs k s)) ++ (tabB f1 (FKEY J1) A1 (fun s => sL (openL rs k s)) ++ (tabB f2 J2 A2 (fun s => sL (comeL rs k s)) ++ lawH L (some (.ref mo)) (some (.ref go)) (some (.int k 0)) nm to (lawR rg rr mo ee go rs ps blk lb mh))))))) 3 (.own .here) ?_ ?_
    · refine ⟨by decide, A, fun _ => 0, nm, rfl, rfl⟩
    rintro j _ _ ⟨hj, A, B, nm, rfl, rfl⟩
    refine ⟨sL NAMES, by walk_at "lat", fun hz => ?_, fun x hz => ?_⟩
    · rw [sL_get, Option.map_eq_none_iff, List.getElem?_eq_none_iff] at hz
      obtain rfl : j = 3 := by have : NAMES.length = 3 := rfl; omega
      rw [show NAMES.take 3 = NAMES from rfl]
      have nd1 := fkey_nd n1 i1
      have nd2 : (T5 ++ NAMES).Nodup := by decide +kernel
      have hTf1 := tabB_dict (d := f1) (keys := FKEY J1) (A := A1) (T := fun s => sL (openL rs k s))
      have hTf2 := tabB_dict (d := f2) (keys := J2) (A := A2) (T := fun s => sL (comeL rs k s))
      have hTo := tabB_dict (d := o) (keys := T5 ++ NAMES) (A := A) (T := fun s => sL (openL rs k s))
      have hTc := tabB_dict (d := cm) (keys := NAMES) (A := B) (T := fun s => sL (comeL rs k s))
      repeat (walk_at "x")
      refine TCmp.neTab (ka := FKEY J1) (kb := T5 ++ NAMES) (T := openL rs k) (W := openL rs k) ⟨⟨A1, by walk_at "mhas", fun s hs => ?_⟩, fun s hs => openL_lay ((fkey_iff i1 s).mp hs)⟩ ⟨⟨A, by walk_at "mhas", fun s hs => ?_⟩, fun s hs => openL_lay hs⟩ ?_
      · have := tabB_list (d := f1) (A := A1) (T := fun s => sL (openL rs k s)) hs
        walk_at "mhas"
      · have := tabB_list (d := o) (A := A) (T := fun s => sL (openL rs k s)) hs
        walk_at "mhas"
      rw [tabEq_self nd1 nd2 (fkey_iff i1)]
      repeat (walk_at "x")
      refine TCmp.neTab (ka := J2) (kb := NAMES) (T := comeL rs k) (W := comeL rs k) ⟨⟨A2, by walk_at "mhas", fun s hs => ?_⟩, fun s hs => comeL_lay⟩ ⟨⟨B, by walk_at "mhas", fun s hs => ?_⟩, fun s hs => comeL_lay⟩ ?_
      · have := tabB_list (d := f2) (A := A2) (T := fun s => sL (comeL rs k s)) hs
        walk_at "mhas"
      · have := tabB_list (d := cm) (A := B) (T := fun s => sL (comeL rs k s)) hs
        walk_at "mhas"
      rw [tabEq_self n2 (by decide +kernel) i2]
      repeat (walk_at "x")
      refine ⟨(show 2 ≤ slim by decide), fun la' => ?_⟩
      repeat (walk_at "x")
      refine Drop.of (hQ _ _ nm _ _ (.some k la' f1 f2 J1 J2 A1 A2 n1 n2 i1 i2)) ?_
      simp only [lawR, List.cons_append, List.append_assoc]
      walk_at "s2"
    · rw [sL_get] at hz
      obtain ⟨s, hs1, rfl⟩ := Option.map_eq_some_iff.mp hz
      have hj3 : j < 3 := (List.getElem?_eq_some_iff.mp hs1).1
      refine ⟨hj3, ?_⟩
      walk_at "x"
      refine TS.drop ?_
      walk_at "x"
      walk_at "x"
      refine TE.listComp [("stage", L + 3), ("name", L + 4), ("moments", L + 1)] [("stage", L + 3), ("name", L + 4), ("moments", L + 1)] ["t"] (by unfold CompNames; decide) (CC.cons (CC.cons (CC.cons (CC.nil rfl) (by first | exact .inl rfl | exact .inr rfl) rfl rfl rfl) (by first | exact .inl rfl | exact .inr rfl) rfl rfl rfl) (by first | exact .inl rfl | exact .inr rfl) rfl rfl rfl) (fun _ => rfl) ?_
      repeat (walk_at "x")
      refine ⟨(show 3 ≤ slim by decide), fun l3 => ?_⟩
      refine TSrc.list (xs := sL ABC) (.own .here) ?_
      intro it3 r3 L3
      have hsN : s ∈ NAMES := List.mem_of_getElem? hs1
      have hsS : s ∈ SYM := by
        have : ∀ x ∈ NAMES, x ∈ SYM := by decide +kernel
        exact this s hsN
      have hsO : s ∉ T5 ++ NAMES.take j := by
        have : ∀ x ∈ NAMES, x ∉ T5 := by decide +kernel
        rw [List.mem_append, not_or]
        exact ⟨this s hsN, nit (by decide +kernel) hs1⟩
      refine CompBlock.list (fun i m' mh' => i ≤ 3 ∧ ∃ v, IsM m' [("t", v)] ∧ IsH mh' ((r3, .list (sL ((ABC.take i).filter fun t => decide (momF rs (s, t) ≤ k)))) :: (l3, .list (sL ABC)) :: (nl, .list (sL NAMES)) :: (tabB o (T5 ++ NAMES.take j) A (fun s => sL (openL rs k s)) ++ (tabB cm (NAMES.take j) B (fun s => sL (comeL rs k s)) ++ (tabB f1 (FKEY J1) A1 (fun s => sL (openL rs k s)) ++ (tabB f2 J2 A2 (fun s => sL (comeL rs k s)) ++ lawH L (some (.ref mo)) (some (.ref go)) (some (.int k 0)) (some (.str s 0)) to (lawR rg rr mo ee go rs ps blk lb mh))))))) 3 ⟨rfl, rfl⟩ ⟨by decide, _, rfl, rfl⟩ ?_
      rintro i _ _ ⟨hi, v, rfl, rfl⟩
      refine ⟨sL ABC, by walk_at "lat", fun hz => ?_, fun x hz => ?_⟩
      · rw [sL_get, Option.map_eq_none_iff, List.getElem?_eq_none_iff] at hz
        obtain rfl : i = 3 := by have : ABC.length = 3 := rfl; omega
        rw [show ABC.take 3 = ABC from rfl]
        clear hz hi v it3 L3
        repeat (walk_at "x")
        refine TSetItem.tabNew (T := fun s => sL (openL rs k s)) (A := A) (keys := T5 ++ NAMES.take j) (by walk_at "pullb") hsO (by rw [List.length_append, List.length_take]; have : T5.length = 5 := rfl; unfold slim; omega) ?_
        have ekO : T5 ++ NAMES.take j ++ [s] = T5 ++ NAMES.take (j + 1) := by rw [take_next hs1, List.append_assoc]
        rw [ekO]
        have hsO' : s ∈ T5 ++ NAMES.take (j + 1) := by rw [← ekO]; simp
        have ndO' : (T5 ++ NAMES.take (j + 1)).Nodup := by
          have : (T5 ++ NAMES).Nodup := by decide +kernel
          exact this.sublist (List.Sublist.append_left (List.take_sublist _ _) _)
        have eO := openL_name (rs := rs) (k := k) hsN
        generalize hF : (ABC.filter fun t => decide (momF rs (s, t) ≤ k)) = FL at eO
        have hFl : FL.length ≤ 3 := by rw [← hF]; exact List.length_filter_le _ _
        generalize hA' : upd A s r3 = A'
        repeat (walk_at "x")
        refine TItem.ofV (by walk_at "mhas") hsS ?_
        repeat (walk_at "x")
        refine TS.join (fun m' mh' => ∃ A, IsM m' (lawL sc ta r (some (.ref ee)) la gr sy (some (.ref f1)) (some (.ref f2)) (some (.ref o)) (some (.ref cm))) ∧
          IsH mh' ((nl, .list (sL NAMES)) :: (tabB o (T5 ++ NAMES.take (j + 1)) A (fun s => sL (openL rs k s)) ++ (tabB cm (NAMES.take j) B (fun s => sL (comeL rs k s)) ++ (tabB f1 (FKEY J1) A1 (fun s => sL (openL rs k s)) ++ (tabB f2 J2 A2 (fun s => sL (comeL rs k s)) ++ lawH L (some (.ref mo)) (some (.ref go)) (some (.int k 0)) (some (.str s 0)) to (lawR rg rr mo ee go rs ps blk lb mh))))))) (fun h => ?_) (fun h => ?_) ?_
        · rw [if_pos (of_decide_eq_true h)] at eO
          have hOd := tabB_dict (d := o) (keys := T5 ++ NAMES.take (j + 1)) (A := A') (T := upd (fun s => sL (openL rs k s)) s (sL FL))
          have hOl := tabB_list (d := o) (A := A') (T := upd (fun s => sL (openL rs k s)) s (sL FL)) hsO'
          rw [upd_same'] at hOl
          repeat (walk_at "x")
          refine ⟨(show 1 ≤ slim by decide), fun e1 => ?_⟩
          repeat (walk_at "x")
          refine TSub.tab (by walk_at "mhas") hsO' ?_
          refine TBin.addL (xs := sL [EMPTY]) (ys := sL FL) (.own .here) (by walk_at "lat") (by rw [sL_len, sL_len]; unfold slim; show 1 + _ ≤ _; omega) ?_
          intro dd
          rw [← sL_app, ← eO]
          repeat (walk_at "x")
          clear hOd hOl
          refine TSetItem.tabOld (T := upd (fun s => sL (openL rs k s)) s (sL FL)) (A := A') (keys := T5 ++ NAMES.take (j + 1)) (by walk_at "pullb") ndO' hsO' (by rw [List.length_append, List.length_take]; have : T5.length = 5 := rfl; unfold slim; omega) ?_
          rw [upd_twice, upd_self rfl]
          repeat (walk_at "x")
          exact Drop.of ⟨rfl, upd A' s dd, rfl, rfl⟩ (by walk_at "s2")
        · rw [if_neg (of_decide_eq_false h)] at eO
          rw [upd_self (show sL FL = (fun s => sL (openL rs k s)) s by show _ = sL (openL rs k s); rw [eO]; rfl)]
          repeat (walk_at "x")
          exact Drop.of ⟨rfl, _, rfl, rfl⟩ (by walk_at "s2")
        clear A' hA' eO hF hFl FL
        rintro _ _ ⟨A', rfl, rfl⟩
        walk_at "x"
        walk_at "x"
        walk_at "x"
        refine TE.listComp [("stage", L + 3), ("name", L + 4), ("goings", L + 2)] [("stage", L + 3), ("name", L + 4), ("goings", L + 2)] ["t"] (by unfold CompNames; decide) (CC.cons (CC.cons (CC.cons (CC.nil rfl) (by first | exact .inl rfl | exact .inr rfl) rfl rfl rfl) (by first | exact .inl rfl | exact .inr rfl) rfl rfl rfl) (by first | exact .inl rfl | exact .inr rfl) rfl rfl rfl) (fun _ => rfl) ?_
        repeat (walk_at "x")
        refine ⟨(show 4 ≤ slim by decide), fun l4 => ?_⟩
        refine TSrc.list (xs := sL ABCE') (.own .here) ?_
        intro it4 r4 L4
        have hsC : s ∉ NAMES.take j := nit (by decide +kernel) hs1
        refine CompBlock.list (fun i m' mh' => i ≤ 4 ∧ ∃ v, IsM m' [("t", v)] ∧ IsH mh' ((r4, .list (sL ((ABCE'.take i).filter fun t => decide (momG rs (s, t) ≤ k)))) :: (l4, .list (sL ABCE')) :: (nl, .list (sL NAMES)) :: (tabB o (T5 ++ NAMES.take (j + 1)) A' (fun s => sL (openL rs k s)) ++ (tabB cm (NAMES.take j) B (fun s => sL (comeL rs k s)) ++ (tabB f1 (FKEY J1) A1 (fun s => sL (openL rs k s)) ++ (tabB f2 J2 A2 (fun s => sL (comeL rs k s)) ++ lawH L (some (.ref mo)) (some (.ref go)) (some (.int k 0)) (some (.str s 0)) to (lawR rg rr mo ee go rs ps blk lb mh))))))) 4 ⟨rfl, rfl⟩ ⟨by decide, _, rfl, rfl⟩ ?_
        rintro i _ _ ⟨hi, v, rfl, rfl⟩
        refine ⟨sL ABCE', by walk_at "lat", fun hz => ?_, fun x hz => ?_⟩
        · rw [sL_get, Option.map_eq_none_iff, List.getElem?_eq_none_iff] at hz
          obtain rfl : i = 4 := by have : ABCE'.length = 4 := rfl; omega
          rw [show ABCE'.take 4 = ABCE' from rfl]
          clear hz hi v it4 L4
          rw [show (ABCE'.filter fun t => decide (momG rs (s, t) ≤ k)) = comeL rs k s from rfl]
          repeat (walk_at "x")
          refine TSetItem.tabNew (T := fun s => sL (comeL rs k s)) (A := B) (keys := NAMES.take j) (by walk_at "pullb") hsC (by rw [List.length_take]; unfold slim; omega) ?_
          rw [upd_self (T := fun s => sL (comeL rs k s)) rfl, ← take_next hs1]
          repeat (walk_at "x")
          exact Drop.of ⟨by omega, A', upd B s r4, _, rfl, rfl⟩ (by walk_at "s2")
        · rw [sL_get] at hz
          obtain ⟨t, ht1, rfl⟩ := Option.map_eq_some_iff.mp hz
          have hi3 := (List.getElem?_eq_some_iff.mp ht1).1
          have htA : t ∈ ABCE' := List.mem_of_getElem? ht1
          have htE : t ∈ ABCE := by
            have : ∀ t ∈ ABCE', t ∈ ABCE := by decide +kernel
            exact this t htA
          have ef : ABCE'.take (i + 1) = ABCE'.take i ++ [t] := take_next ht1
          have hfl3 := List.length_filter_le (fun t => decide (momG rs (s, t) ≤ k)) (ABCE'.take i)
          rw [List.length_take] at hfl3
          refine ⟨hi3, ?_⟩
          walk_at "x"
          refine TRun.drop (TRun.test ?_ rfl rfl)
          repeat (walk_at "x")
          refine ⟨(show 2 ≤ slim by decide), fun kt => ?_⟩
          refine TItem.ofF (p := (s, t)) (by walk_at "mhas") .here (mem_pairs4.mpr ⟨hsN, htE⟩) ?_
          repeat (walk_at "x")
          refine ⟨fun h => ?_, fun h => ?_⟩
          · repeat (walk_at "x")
            refine TApp.mk (.there .here) (by rw [sL_len]; unfold slim; omega) ?_
            repeat (walk_at "x")
            refine Drop.of ⟨hi3, _, rfl, rfl⟩ ?_
            have eg : ([t].filter fun t => decide (momG rs (s, t) ≤ k)) = [t] := by rw [List.filter_cons_of_pos (by exact h), List.filter_nil]
            rw [ef, List.filter_append, eg, sL_app]
            walk_at "s2"
          · repeat (walk_at "x")
            refine Drop.of ⟨hi3, _, rfl, rfl⟩ ?_
            have eg : ([t].filter fun t => decide (momG rs (s, t) ≤ k)) = [] := by rw [List.filter_cons_of_neg (by intro q; exact absurd (h.symm.trans q) (by decide)), List.filter_nil]
            rw [ef, List.filter_append, eg, List.append_nil]
            walk_at "s2"
      · rw [sL_get] at hz
        obtain ⟨t, ht1, rfl⟩ := Option.map_eq_some_iff.mp hz
        have hi3 := (List.getElem?_eq_some_iff.mp ht1).1
        have htA : t ∈ ABC := List.mem_of_getElem? ht1
        have ef : ABC.take (i + 1) = ABC.take i ++ [t] := take_next ht1
        have hfl3 := List.length_filter_le (fun t => decide (momF rs (s, t) ≤ k)) (ABC.take i)
        rw [List.length_take] at hfl3
        refine ⟨hi3, ?_⟩
        walk_at "x"
        refine TRun.drop (TRun.test ?_ rfl rfl)
        repeat (walk_at "x")
        refine ⟨(show 2 ≤ slim by decide), fun kt => ?_⟩
        refine TItem.ofF (p := (s, t)) (by walk_at "mhas") .here (mem_pairs.mpr ⟨hsS, htA⟩) ?_
        repeat (walk_at "x")
        refine ⟨fun h => ?_, fun h => ?_⟩
        · repeat (walk_at "x")
          refine TApp.mk (.there .here) (by rw [sL_len]; unfold slim; omega) ?_
          repeat (walk_at "x")
          refine Drop.of ⟨hi3, _, rfl, rfl⟩ ?_
          have eg : ([t].filter fun t => decide (momF rs (s, t) ≤ k)) = [t] := by rw [List.filter_cons_of_pos (by exact h), List.filter_nil]
          rw [ef, List.filter_append, eg, sL_app]
          walk_at "s2"
        · repeat (walk_at "x")
          refine Drop.of ⟨hi3, _, rfl, rfl⟩ ?_
          have eg : ([t].filter fun t => decide (momF rs (s, t) ≤ k)) = [] := by rw [List.filter_cons_of_neg (by intro q; exact absurd (h.symm.trans q) (by decide)), List.filter_nil]
          rw [ef, List.filter_append, eg, List.append_nil]
          walk_at "s2"
  · rw [sL_get] at hz
    obtain ⟨t, ht1, rfl⟩ := Option.map_eq_some_iff.mp hz
    have hj5 : j < 5 := (List.getElem?_eq_some_iff.mp ht1).1
    refine ⟨hj5, ?_⟩
    walk_at "x"
    refine TRun.drop (TRun.last ?_ rfl rfl)
    repeat (walk_at "x")
    refine ⟨(show 1 ≤ slim by decide), fun e1 => ?_⟩
    refine TDSet.tabNew (T := fun s => sL (openL rs k s)) (A := A) (keys := T5.take j) (by walk_at "pullb") (nit (by decide +kernel) ht1) (by rw [List.length_take]; unfold slim; omega) ?_ ?_
    · have : ∀ t ∈ T5, t ∉ NAMES := by decide +kernel
      rw [openL_term (this t (List.mem_of_getElem? ht1))]; rfl
    · repeat (walk_at "x")
      refine Drop.of ⟨by omega, _, upd A t e1, rfl, rfl⟩ ?_
      rw [take_next ht1]
      walk_at "s2"
end
section
open PySem PySem.W PySem.Calls PyProof.Rows
variable {c : Sit} {m : Loc} {mh mh' : MH} {Q : Value → Loc → MH → Prop}
theorem TS1.nd {ss : Stmt} {QF : Flow → Loc → MH → Prop} (h : (mh.map (·.1)).Nodup → TS1 c m mh ss QF) : TS1 c m mh ss QF :=
  fun base FS X A E s G N T R g => h R.nd base FS X A E s G N T R g
theorem nd_ne {l r : MH} {a b : Addr} {o o' : MO} (h : ((l ++ r).map (·.1)).Nodup) (x : MHas l a o) (y : MHas r b o') : a ≠ b := by
  rw [List.map_append, List.nodup_append] at h
  exact fun e => h.2.2 a (List.mem_map.mpr ⟨_, x.mem, rfl⟩) b (List.mem_map.mpr ⟨_, y.mem, rfl⟩) e
theorem openL_len {rs : List Rule} {k : Nat} {s : PySem.Str} : (openL rs k s).length ≤ 4 := by
  unfold openL
  split
  · rw [List.length_append]
    have := List.length_filter_le (fun t => decide (momF rs (s, t) ≤ k)) ABC
    have e : ABC.length = 3 := rfl
    split <;> simp <;> omega
  · exact Nat.succ_le_succ (Nat.zero_le _)
theorem comeL_len {rs : List Rule} {k : Nat} {s : PySem.Str} : (comeL rs k s).length ≤ 4 := List.length_filter_le _ _
set_option maxHeartbeats 8000000 in
theorem stageB (hn : 4 < c.n) (L : Addr) {rs : List Rule} {k : Nat} {sc ta r e gr sy op co nm to : Option Value} {la mo go : Addr} {rg rr ee : Addr} {ps : List Value} {blk lb : MH} {f1 f2 : Addr} {J1 J2 : List PySem.Str} {A1 A2 : PySem.Str → Addr}
    (hok : RulesOk rs) (hR : RulesAt blk ps rs) (hk : k + 3 ≤ rs.length) (hLast : Last rs k lb la)
    (n1 : J1.Nodup) (n2 : J2.Nodup) (i1 : ∀ s, s ∈ J1 ↔ s ∈ NAMES) (i2 : ∀ s, s ∈ J2 ↔ s ∈ NAMES) {QF : Flow → Loc → MH → Prop}
    (hQ : ∀ op co nm lb' la', Last rs (k + 1) lb' la' → QF .next (lawL sc ta (some (.ref rr)) (some (.ref ee)) (some (.ref la')) gr sy (some (.ref f1)) (some (.ref f2)) op co) (lawH L (some (.ref mo)) (some (.ref go)) (some (.int k 0)) nm to (lawR rg rr mo ee go rs ps blk lb' mh))) (hW : Ctx c := by assumption) :
    TS (c.intoC fLaw L (lawC L)) (lawL sc ta (some (.ref rr)) (some (.ref ee)) (some (.ref la)) gr sy (some (.ref f1)) (some (.ref f2)) op co) (tabB f1 (FKEY J1) A1 (fun s => sL (openL rs k s)) ++ (tabB f2 J2 A2 (fun s => sL (comeL rs k s)) ++ lawH L (some (.ref mo)) (some (.ref go)) (some (.int k 0)) nm to (lawR rg rr mo ee go rs ps blk lb mh))) (stageBody.drop 6) QF := by
  have hW' : Ctx (c.intoC fLaw L (lawC L)) := hW
  have hpl := hR.len
  have h6 := hok.hi
  cases hLast with
  | none =>
    have hl : MHas [(la, .list [])] la (.list []) := .here
    with_unfolding_all refine TS.seq (fun m' mh' => IsM m' (lawL sc ta (some (.ref rr)) (some (.ref ee)) (some (.ref la)) gr sy (some (.ref f1)) (some (.ref f2)) op co) ∧ IsH mh' (tabB f1 (FKEY J1) A1 (fun s => sL (openL rs 0 s)) ++ (tabB f2 J2 A2 (fun s => sL (comeL rs 0 s)) ++ lawH L (some (.ref mo)) (some (.ref go)) (some (.int (0 : Nat) 0)) nm to (lawR rg rr mo ee go rs ps blk [(la, .list [])] mh)))) ?_ ?_
    · repeat (walk_at "x")
      refine TV.list (xs := []) (by walk_at "lat") (by decide) ?_
      repeat (walk_at "x")
      exact Drop.of ⟨rfl, rfl, rfl⟩ (by walk_at "s2")
    · rintro _ _ ⟨rfl, rfl⟩
      exact stageC (e := none) hn L n1 n2 i1 i2 hQ
  | some k la d1 d2 K1 K2 B1 B2 m1 m2 j1 j2 =>
    have g0 : MHas ((la, MO.list [.ref d1, .ref d2]) :: (tabB d1 (FKEY K1) B1 (fun s => sL (openL rs k s)) ++ tabB d2 K2 B2 (fun s => sL (comeL rs k s)))) la (.list [.ref d1, .ref d2]) := .here
    have g1 : TabAt ((la, MO.list [.ref d1, .ref d2]) :: (tabB d1 (FKEY K1) B1 (fun s => sL (openL rs k s)) ++ tabB d2 K2 B2 (fun s => sL (comeL rs k s)))) d1 (FKEY K1) B1 (openL rs k) := ⟨.there tabB_dict.left, fun s hs => .there (MHas.left (tabB_list hs))⟩
    have g2 : TabAt ((la, MO.list [.ref d1, .ref d2]) :: (tabB d1 (FKEY K1) B1 (fun s => sL (openL rs k s)) ++ tabB d2 K2 B2 (fun s => sL (comeL rs k s)))) d2 K2 B2 (comeL rs k) := ⟨.there tabB_dict.right, fun s hs => .there (MHas.right (tabB_list hs))⟩
    generalize ((la, MO.list [.ref d1, .ref d2]) :: (tabB d1 (FKEY K1) B1 (fun s => sL (openL rs k s)) ++ tabB d2 K2 B2 (fun s => sL (comeL rs k s)))) = LB at g0 g1 g2
    with_unfolding_all refine TS.seq (fun m' mh' => IsM m' (lawL sc ta (some (.ref rr)) (some (.ref ee)) (some (.ref la)) gr sy (some (.ref f1)) (some (.ref f2)) op co) ∧ IsH mh' (tabB f1 (FKEY J1) A1 (fun s => sL (openL rs (k + 1) s)) ++ (tabB f2 J2 A2 (fun s => sL (comeL rs (k + 1) s)) ++ lawH L (some (.ref mo)) (some (.ref go)) (some (.int (k + 1 : Nat) 0)) nm to (lawR rg rr mo ee go rs ps blk LB mh)))) ?_ ?_
    · refine TS1.nd fun hnd => ?_
      have hTf1 := tabB_dict (d := f1) (keys := FKEY J1) (A := A1) (T := fun s => sL (openL rs (k + 1) s))
      have hTf2 := tabB_dict (d := f2) (keys := J2) (A := A2) (T := fun s => sL (comeL rs (k + 1) s))
      have g1d := g1.1
      have g2d := g2.1
      have q1 : d1 ≠ f1 := (nd_ne hnd hTf1 (by walk_at "mhas")).symm
      have q2 : d2 ≠ f2 := by
        rw [List.map_append] at hnd
        exact (nd_ne (List.nodup_append.mp hnd).2.1 hTf2 (by walk_at "mhas")).symm
      clear hnd
      obtain ⟨p, hp⟩ : ∃ p, rs[k + 3]? = some p := ⟨_, List.getElem?_eq_getElem (by omega)⟩
      have hpk : k + 3 < ps.length := by omega
      obtain ⟨pa, l, pn, pss, hv, hrs, hpt, hpl2⟩ := hR.get (List.getElem?_eq_getElem hpk)
      rw [hp] at hrs
      cases hrs
      have hro := hok.each _ (List.mem_of_getElem? hp)
      have hSK : ∀ s ∈ SYM, s ∈ FKEY K1 := by
        have h1 : ∀ s ∈ SYM, s ∈ NAMES ∨ s ∈ TERM := by decide +kernel
        intro s hs
        unfold FKEY
        rcases h1 s hs with q | q
        · exact List.mem_append_right _ ((j1 s).mpr q)
        · exact List.mem_append_left _ (List.mem_append_left _ q)
      repeat (walk_at "x")
      refine TV.list (xs := [.ref d1, .ref d2]) (by walk_at "lat") (show 2 ≤ slim by decide) ?_
      repeat (walk_at "x")
      refine ⟨(show 2 ≤ slim by decide), fun l2 => ?_⟩
      refine TCmp.eqTwo (a1 := d1) (a2 := d2) (b1 := f1) (b2 := f2) (k1 := FKEY K1) (k2 := K2) (j1 := FKEY J1) (j2 := J2) (T1 := openL rs k) (T2 := comeL rs k) (W1 := openL rs (k + 1)) (W2 := comeL rs (k + 1)) (by walk_at "lat") (.own .here) ⟨⟨B1, by walk_at "mhas", fun s hs => ?_⟩, fun s hs => openL_lay ((fkey_iff j1 s).mp hs)⟩ ⟨⟨B2, by walk_at "mhas", fun s hs => ?_⟩, fun s hs => comeL_lay⟩ ⟨⟨A1, by walk_at "mhas", fun s hs => ?_⟩, fun s hs => openL_lay ((fkey_iff i1 s).mp hs)⟩ ⟨⟨A2, by walk_at "mhas", fun s hs => ?_⟩, fun s hs => comeL_lay⟩ q1 q2 ?_
      · have := g1.2 s hs
        walk_at "mhas"
      · have := g2.2 s hs
        walk_at "mhas"
      · have := tabB_list (d := f1) (A := A1) (T := fun s => sL (openL rs (k + 1) s)) hs
        walk_at "mhas"
      · have := tabB_list (d := f2) (A := A2) (T := fun s => sL (comeL rs (k + 1) s)) hs
        walk_at "mhas"
      repeat (walk_at "x")
      have hix : ((↑(k + 1) : Int) + 2).toNat = k + 3 := by omega
      refine TSub.list (xs := ps) (by walk_at "lat") (TItem.list (xs := ps) (v := .ref pa) (by walk_at "lat") (by omega) (by omega) (by rw [hix, List.getElem?_eq_getElem hpk, hv]) ?_)
      repeat (walk_at "x")
      refine TSub.list (xs := [.ref d1, .ref d2]) (by walk_at "lat") (TItem.list (xs := [.ref d1, .ref d2]) (v := .ref d1) (by walk_at "lat") (by decide) (by decide) rfl ?_)
      repeat (walk_at "x")
      refine TSub.list (xs := [.ref d1, .ref d2]) (by walk_at "lat") (TItem.list (xs := [.ref d1, .ref d2]) (v := .ref d2) (by walk_at "lat") (by decide) (by decide) rfl ?_)
      repeat (walk_at "x")
      refine new_spec (p := (pn, pss)) (T := openL rs k) (W := comeL rs k) (kf := FKEY K1) (kw := K2) (A := B1) (B := B2) (by show 3 < c.n - 1; omega) (by walk_at "mhas") (by walk_at "mhas") hro (g1.mono fun a o x => (by walk_at "mhas")) (g2.mono fun a o x => (by walk_at "mhas")) hSK (fun s hs => (j2 s).mpr hs) (fun s _ => Nat.le_trans openL_len (by decide)) (fun s _ => Nat.le_trans comeL_len (by decide)) ?_
      rw [new_law hok hp m1 m2 n1 n2 j1 j2 i1 i2]
      generalize newOf (pn, pss) (openL rs k) (comeL rs k) = b
      repeat (walk_at "x")
      have hbb : (b != b) = false := by cases b <;> rfl
      rw [hbb]
      repeat (walk_at "x")
      exact Drop.of ⟨rfl, rfl, rfl⟩ (by walk_at "s2")
    · rintro _ _ ⟨rfl, rfl⟩
      exact stageC (e := none) hn L n1 n2 i1 i2 hQ
end
section
open PySem PySem.W PySem.Calls PyProof.Rows
variable {c : Sit} {m : Loc} {mh mh' : MH} {Q : Value → Loc → MH → Prop}
noncomputable def GB (B : MH) (g : Addr) (rs : List Rule) : Prop := ∀ mh, Gram (B ++ mh) mh g rs
theorem Gram.block {H mh : MH} {g : Addr} {rs : List Rule} (h : Gram H mh g rs) : ∃ B, H = B ++ mh ∧ GB B g rs ∧ ∃ dx P PN PM Te No Fi Fo Pr UP, MHas B g (.inst aG dx) ∧ MHas B dx (.dict (gD P PN PM Te No Fi Fo Pr UP)) := by
  obtain ⟨dx, P, PN, PM, Te, No, Fi, Fo, Pr, UP, o, ps, mk, NK, KK, AT, AN, AK, TT, KT, blk, rfl, hps, hmk, ndN, ndK, hNK, hKN, hKr, hTT, hKT⟩ := h
  refine ⟨(g, .inst aG dx) :: (dx, .dict (gD P PN PM Te No Fi Fo Pr UP)) :: (P, .list (.none :: ps)) :: (PM, .dict mk) :: (Fi, .dict []) :: (Fo, .dict []) :: (Pr, .dict []) :: (UP, .raw o) :: (tabB Te TERM AT TT ++ (tabB No KK AK KT ++ (tabB PN NK AN (named ps rs) ++ blk))), ?_, fun mh => .mk dx P PN PM Te No Fi Fo Pr UP o ps mk NK KK AT AN AK TT KT blk ?_ hps hmk ndN ndK hNK hKN hKr hTT hKT, dx, P, PN, PM, Te, No, Fi, Fo, Pr, UP, .here, .there .here⟩
  · simp only [List.cons_append, List.append_assoc]
  · simp only [List.cons_append, List.append_assoc]
noncomputable def G1B (P R : MH) (Fi : Addr) (KK : List PySem.Str) (FA : PySem.Str → Addr) (T : PySem.Str → List PySem.Str) (g : Addr) (rs : List Rule) : Prop := ∀ mh, Gram1 (P ++ (tabB Fi (FKEY KK) FA (fun s => sL (T s)) ++ (R ++ mh))) mh g Fi rs
theorem Gram1.block {H mh : MH} {g Fi : Addr} {rs : List Rule} (h : Gram1 H mh g Fi rs) : ∃ P R KK FA T, H = P ++ (tabB Fi (FKEY KK) FA (fun s => sL (T s)) ++ (R ++ mh)) ∧ G1B P R Fi KK FA T g rs ∧ KK.Nodup ∧ (∀ s, s ∈ KK ↔ s ∈ NAMES) ∧ FInv rs T ∧ (∀ s t, Fst rs s t → t ∈ T s) ∧
    ∃ dx Pa PN PM Te No Fi Fo Pr UP, MHas P g (.inst aG dx) ∧ MHas P dx (.dict (gD Pa PN PM Te No Fi Fo Pr UP)) := by
  obtain ⟨dx, P, PN, PM, Te, No, Fo, Pr, UP, ps, KK, AK, FA, T, blk, rfl, hps, ndK, hK, hFI, hFc⟩ := h
  refine ⟨(g, .inst aG dx) :: (dx, .dict (gD P PN PM Te No Fi Fo Pr UP)) :: (Fo, .dict []) :: (P, .list (.none :: ps)) :: (No, .dict (enc (fun s => s) KK fun s => .ref (AK s))) :: [], blk, KK, FA, T, ?_, fun mh => .mk dx P PN PM Te No Fo Pr UP ps KK AK FA T blk ?_ hps ndK hK hFI hFc, ndK, hK, hFI, hFc, dx, P, PN, PM, Te, No, Fi, Fo, Pr, UP, .here, .there .here⟩
  · rfl
  · rfl
theorem FInv.len64 {rs : List Rule} {T : PySem.Str → List PySem.Str} (h : FInv rs T) (s : PySem.Str) : (T s).length < 64 := by have := h.len s; omega
theorem OInv.len64 {rs : List Rule} {T : PySem.Str → List PySem.Str} (h : OInv rs T) (s : PySem.Str) : (T s).length < 64 := by have := h.len s; omega
set_option maxHeartbeats 8000000 in
theorem stageA (hn : 4 < c.n) (L : Addr) {rs : List Rule} {k : Nat} {sc ta gr sy fi fo op co nm to : Option Value} {la mo go : Addr} {rg rr ee : Addr} {ps : List Value} {blk lb : MH}
    (hok : RulesOk rs) (hR : RulesAt blk ps rs) (hk : k + 3 ≤ rs.length) (hLast : Last rs k lb la) {QF : Flow → Loc → MH → Prop}
    (hQ : ∀ gr sy fi fo op co nm to lb' la', Last rs (k + 1) lb' la' → QF .next (lawL sc ta (some (.ref rr)) (some (.ref ee)) (some (.ref la')) gr sy fi fo op co) (lawH L (some (.ref mo)) (some (.ref go)) (some (.int k 0)) nm to (lawR rg rr mo ee go rs ps blk lb' mh))) (hW : Ctx c := by assumption) :
    TS (c.intoC fLaw L (lawC L)) (lawL sc ta (some (.ref rr)) (some (.ref ee)) (some (.ref la)) gr sy fi fo op co) (lawH L (some (.ref mo)) (some (.ref go)) (some (.int k 0)) nm to (lawR rg rr mo ee go rs ps blk lb mh)) stageBody QF := by
  have hW' : Ctx (c.intoC fLaw L (lawC L)) := hW
  have hpl := hR.len
  have h6 := hok.hi
  have ho : ∀ r ∈ rs.take (k + 3), RuleOk r := fun r hr => hok.each r (List.mem_of_mem_take hr)
  have htl : ∀ j, (rs.take j).length ≤ 6 := fun j => by rw [List.length_take]; omega
  with_unfolding_all refine TS.seq (fun m' mh' => Ex2 fun g B => IsM m' (lawL sc ta (some (.ref rr)) (some (.ref ee)) (some (.ref la)) (some (.ref g)) sy fi fo op co) ∧ IsH mh' (B ++ lawH L (some (.ref mo)) (some (.ref go)) (some (.int k 0)) nm to (lawR rg rr mo ee go rs ps blk lb mh)) ∧ GB B g [] ∧ ∃ dx P PN PM Te No Fi Fo Pr UP, MHas B g (.inst aG dx) ∧ MHas B dx (.dict (gD P PN PM Te No Fi Fo Pr UP))) ?_ ?_
  · repeat (walk_at "x")
    refine ⟨(show 3 ≤ slim by decide), fun l => ?_⟩
    repeat (walk_at "x")
    refine gmake_spec (by show 1 < c.n - 1; omega) .here ?_
    intro g H hG
    obtain ⟨B, rfl, hB, hx⟩ := hG.block
    repeat (walk_at "x")
    exact Drop.of ⟨rfl, g, B, rfl, rfl, hB, hx⟩ (by walk_at "s2")
  clear gr
  rintro _ _ ⟨g, B, rfl, rfl, hB, hx⟩
  refine TS.seq (fun m' mh' => Ex3 fun nm sy B => IsM m' (lawL sc ta (some (.ref rr)) (some (.ref ee)) (some (.ref la)) (some (.ref g)) sy fi fo op co) ∧ IsH mh' (B ++ lawH L (some (.ref mo)) (some (.ref go)) (some (.int k 0)) nm to (lawR rg rr mo ee go rs ps blk lb mh)) ∧ GB B g (rs.take (k + 3)) ∧ ∃ dx P PN PM Te No Fi Fo Pr UP, MHas B g (.inst aG dx) ∧ MHas B dx (.dict (gD P PN PM Te No Fi Fo Pr UP))) ?_ ?_
  · repeat (walk_at "x")
    refine ⟨((k + 3 : Nat) : Int), rfl, rr, ps, rfl, by walk_at "lat", by unfold slim; omega, fun cu => ?_⟩
    rw [cut_to]
    refine TLoop.list0 (xs0 := ps.take (k + 3)) (fun j m' mh' => j ≤ k + 3 ∧ Ex3 fun nm sy B => IsM m' (lawL sc ta (some (.ref rr)) (some (.ref ee)) (some (.ref la)) (some (.ref g)) sy fi fo op co) ∧ IsH mh' ((cu, .list (ps.take (k + 3))) :: (B ++ lawH L (some (.ref mo)) (some (.ref go)) (some (.int k 0)) nm to (lawR rg rr mo ee go rs ps blk lb mh))) ∧ GB B g (rs.take j) ∧ ∃ dx P PN PM Te No Fi Fo Pr UP, MHas B g (.inst aG dx) ∧ MHas B dx (.dict (gD P PN PM Te No Fi Fo Pr UP))) (k + 3) (.own .here) ⟨Nat.zero_le _, nm, sy, B, rfl, rfl, hB, hx⟩ ?_
    clear hB hx
    rintro j _ _ ⟨hj, nm, sy, B, rfl, rfl, hB, hx⟩
    refine ⟨ps.take (k + 3), .own .here, fun hz => ?_, fun x hz => ?_⟩
    · rw [List.getElem?_eq_none_iff, List.length_take] at hz
      obtain rfl : j = k + 3 := by omega
      repeat (walk_at "x")
      exact Drop.of ⟨rfl, nm, sy, B, rfl, rfl, hB, hx⟩ (by walk_at "s2")
    · have hjk : j < k + 3 := by
        have := (List.getElem?_eq_some_iff.mp hz).1
        rw [List.length_take] at this; omega
      rw [List.getElem?_take_of_lt hjk] at hz
      obtain ⟨pa, l, pn, pss, rfl, hrs, hpt, hpl2⟩ := hR.get hz
      have hro := hok.each _ (List.mem_of_getElem? hrs)
      obtain ⟨dx, P, PN, PM, Te, No, Fi, Fo, Pr, UP, hg1, hg2⟩ := hx
      have hsl2 : pss.length ≤ 2 := hro.len
      refine ⟨hjk, ?_⟩
      refine TA.tuple (by walk_at "mhas") ?_ rfl rfl
      iterate 5 (walk_at "x")
      refine TS.drop ?_
      repeat (walk_at "x")
      refine TGet.own hW.gcls (by walk_at "mhas") (by walk_at "mhas") hW.mAdd.1 hW.mAdd.2 (VNo.at_ (by unfold gD; walk_at "vno")) ?_
      repeat (walk_at "x")
      refine TCall.listL (xs := sL pss) (by walk_at "lat") (by rw [sL_len]; unfold slim; omega) ?_
      intro s2
      repeat (walk_at "x")
      refine TCall.sub2 (mh' := B ++ ((s2, .list (sL pss)) :: (cu, .list (ps.take (k + 3))) :: lawH L (some (.ref mo)) (some (.ref go)) (some (.int k 0)) (some (.str pn 0)) to (lawR rg rr mo ee go rs ps blk lb mh))) ?_ (by walk_at "s2")
      refine add_spec (rs := rs.take j) (nm := pn) (ss := pss) (by show 2 < c.n - 1; omega) (hB _) .here hro (fun r hr => hok.each r (List.mem_of_mem_take hr)) (nit hok.nd hrs) (htl j) ?_
      intro H' hG
      obtain ⟨B', rfl, hB', hx'⟩ := hG.block
      rw [← take_next hrs] at hB'
      repeat (walk_at "x")
      exact Drop.of ⟨hjk, _, _, B', rfl, rfl, hB', hx'⟩ (by walk_at "s2")
  clear hB hx nm sy B
  rintro _ _ ⟨nm, sy, B, rfl, rfl, hB, hx⟩
  have hall : ∀ s ∈ NAMES, ∃ r ∈ rs.take (k + 3), r.1 = s := by
    intro s hs
    rw [← hok.first] at hs
    obtain ⟨r, hr, e⟩ := List.mem_map.mp hs
    exact ⟨r, (List.take_sublist_take_left (by omega)).subset hr, e⟩
  refine TS.seq (fun m' mh' => Ex3 fun Fi P R => Ex3 fun KK FA T => IsM m' (lawL sc ta (some (.ref rr)) (some (.ref ee)) (some (.ref la)) (some (.ref g)) sy fi fo op co) ∧ IsH mh' (P ++ (tabB Fi (FKEY KK) FA (fun s => sL (T s)) ++ (R ++ lawH L (some (.ref mo)) (some (.ref go)) (some (.int k 0)) nm (some (.ref Fi)) (lawR rg rr mo ee go rs ps blk lb mh)))) ∧
      G1B P R Fi KK FA T g (rs.take (k + 3)) ∧ KK.Nodup ∧ (∀ s, s ∈ KK ↔ s ∈ NAMES) ∧ FInv (rs.take (k + 3)) T ∧ (∀ s t, Fst (rs.take (k + 3)) s t → t ∈ T s) ∧ ∃ dx Pa PN PM Te No Fi Fo Pr UP, MHas P g (.inst aG dx) ∧ MHas P dx (.dict (gD Pa PN PM Te No Fi Fo Pr UP))) ?_ ?_
  · obtain ⟨dx, P, PN, PM, Te, No, Fi, Fo, Pr, UP, hg1, hg2⟩ := hx
    repeat (walk_at "x")
    refine TGet.own hW.gcls (by walk_at "mhas") (by walk_at "mhas") hW.mCFirst.1 hW.mCFirst.2 (VNo.at_ (by unfold gD; walk_at "vno")) ?_
    repeat (walk_at "x")
    refine cfirst_spec (rs := rs.take (k + 3)) (by show 1 < c.n - 1; omega) (hB _) ho hall (htl _) ?_
    intro H' Fi' hG
    obtain ⟨P', R', KK, FA, T, rfl, hG1, ndK, hK, hFI, hFc, hx'⟩ := hG.block
    repeat (walk_at "x")
    exact Drop.of ⟨rfl, Fi', P', R', KK, FA, T, rfl, rfl, hG1, ndK, hK, hFI, hFc, hx'⟩ (by walk_at "s2")
  clear hB hx B to
  rintro _ _ ⟨Fi, P, R, KK, FA, T, rfl, rfl, hG1, ndK, hK, hFI, hFc, hx⟩
  have hkl : (FKEY KK).length ≤ 8 := by
    have : KK.length ≤ 3 := nodup_len ndK fun s hs => (hK s).mp hs
    unfold FKEY; rw [List.length_append]; have : (TERM ++ [PySem.Str.ofString "$end"]).length = 5 := rfl; omega
  have ndF := fkey_nd ndK hK
  refine TS.seq (fun m' mh' => Ex2 fun f1 A1 => IsM m' (lawL sc ta (some (.ref rr)) (some (.ref ee)) (some (.ref la)) (some (.ref g)) sy (some (.ref f1)) fo op co) ∧ IsH mh' (tabB f1 (FKEY KK) A1 (fun s => sL (openL rs k s)) ++ (P ++ (tabB Fi (FKEY KK) FA (fun s => sL (T s)) ++ (R ++ lawH L (some (.ref mo)) (some (.ref go)) (some (.int k 0)) nm (some (.ref Fi)) (lawR rg rr mo ee go rs ps blk lb mh)))))) ?_ ?_
  · have hTd := tabB_dict (d := Fi) (keys := FKEY KK) (A := FA) (T := fun s => sL (T s))
    refine TS1.assignDict [("told", L + 5)] [("told", L + 5)] ["s"] rfl rfl (by unfold CompNames; decide) (CC.cons (CC.nil rfl) (by first | exact .inl rfl | exact .inr rfl) rfl rfl rfl) (fun _ => rfl) ?_
    repeat (walk_at "x")
    refine TSrc.dict (by walk_at "mhas") (fun ep => ?_)
    obtain ⟨FB, hFB⟩ : ∃ FB, FB = (Fi, MO.fdict (enc (fun s => s) (FKEY KK) fun s => Value.ref (FA s)) ep) :: tb (FKEY KK) FA (fun s => sL (T s)) := ⟨_, rfl⟩
    have p1 : MPut (tabB Fi (FKEY KK) FA (fun s => sL (T s))) Fi (.dict (enc (fun s => s) (FKEY KK) fun s => Value.ref (FA s))) (.fdict (enc (fun s => s) (FKEY KK) fun s => Value.ref (FA s)) ep) FB := by rw [hFB]; exact .here
    have p2 : MPut FB Fi (.fdict (enc (fun s => s) (FKEY KK) fun s => Value.ref (FA s)) ep) (.dict (enc (fun s => s) (FKEY KK) fun s => Value.ref (FA s))) (tabB Fi (FKEY KK) FA (fun s => sL (T s))) := by rw [hFB]; exact .here
    have p3 : MHas FB Fi (.fdict (enc (fun s => s) (FKEY KK) fun s => Value.ref (FA s)) ep) := by rw [hFB]; exact .here
    have p4 : ∀ s ∈ FKEY KK, MHas FB (FA s) (.list (sL (T s))) := fun s hs => by rw [hFB]; exact .there (.of_mem (List.mem_map.mpr ⟨s, hs, rfl⟩))
    clear hFB
    refine ⟨P ++ (FB ++ (R ++ lawH L (some (.ref mo)) (some (.ref go)) (some (.int k 0)) nm (some (.ref Fi)) (lawR rg rr mo ee go rs ps blk lb mh))), by walk_at "mput", ?_⟩
    intro it f1 L'
    refine CompBlock.dict (fun j m' mh' => j ≤ (FKEY KK).length ∧ Ex2 fun v A => IsM m' [("s", v)] ∧ IsH mh' (tabB f1 ((FKEY KK).take j) A (fun s => sL (openL rs k s)) ++ (P ++ (FB ++ (R ++ lawH L (some (.ref mo)) (some (.ref go)) (some (.int k 0)) nm (some (.ref Fi)) (lawR rg rr mo ee go rs ps blk lb mh)))))) ⟨rfl, rfl⟩ ⟨Nat.zero_le _, none, fun _ => 0, rfl, rfl⟩ ?_
    rintro j _ _ ⟨hj, v, A, rfl, rfl⟩
    refine ⟨by walk_at "mhas", fun hz => ?_, fun y w hz => ?_⟩
    · rw [List.getElem?_eq_none_iff, enc_len] at hz
      obtain rfl : j = (FKEY KK).length := by omega
      rw [List.take_length]
      refine TA.thaw (by walk_at "mput") ?_
      walk_at "x"
      repeat (walk_at "x")
      exact Drop.of ⟨rfl, f1, A, rfl, rfl⟩ (by walk_at "s2")
    · obtain ⟨hy, rfl⟩ := enc_get hz
      have hyF := List.mem_of_getElem? hy
      have hyl := p4 y hyF
      have hjl := (List.getElem?_eq_some_iff.mp hy).1
      walk_at "x"
      refine TRun.drop (TRun.last ?_ rfl rfl)
      repeat (walk_at "x")
      refine TSub.dict (kvs := enc (fun s => s) (FKEY KK) fun s => Value.ref (FA s)) (by walk_at "mhas") (.inr ⟨ep, rfl⟩) (TItem.dict (by walk_at "mhas") (.inr ⟨ep, rfl⟩) (tabB_at hyF) ?_)
      repeat (walk_at "x")
      refine TCall.sorted (xs := T y) (by walk_at "lat") (hFI.len64 y) ?_
      intro r ys hp hs
      obtain rfl := sorted_first hok hk hFI hFc hp hs
      refine TDSet.tabNew (T := fun s => sL (openL rs k s)) (A := A) (keys := (FKEY KK).take j) (by walk_at "pullb") (nit ndF hy) (by rw [List.length_take]; unfold slim; omega) rfl ?_
      repeat (walk_at "x")
      refine Drop.of ⟨hjl, _, upd A y r, rfl, rfl⟩ ?_
      rw [take_next hy]
      walk_at "s2"
  clear fi
  rintro _ _ ⟨f1, A1, rfl, rfl⟩
  refine TS.seq (fun m' mh' => Ex4 fun Fo K2 OA W => IsM m' (lawL sc ta (some (.ref rr)) (some (.ref ee)) (some (.ref la)) (some (.ref g)) sy (some (.ref f1)) fo op co) ∧ IsH mh' (tabB Fo K2 OA (fun s => sL (W s)) ++ (tabB f1 (FKEY KK) A1 (fun s => sL (openL rs k s)) ++ lawH L (some (.ref mo)) (some (.ref go)) (some (.int k 0)) nm (some (.ref Fo)) (lawR rg rr mo ee go rs ps blk lb mh))) ∧
      K2.Nodup ∧ (∀ s, s ∈ K2 ↔ s ∈ NAMES) ∧ OInv (rs.take (k + 3)) W ∧ (∀ s t, Fol (rs.take (k + 3)) s t → t ∈ W s)) ?_ ?_
  · obtain ⟨dx, Pa, PN, PM, Te, No, Fi2, Fo, Pr, UP, hg1, hg2⟩ := hx
    repeat (walk_at "x")
    refine TGet.own hW.gcls (by walk_at "mhas") (by walk_at "mhas") hW.mCFollow.1 hW.mCFollow.2 (VNo.at_ (by unfold gD; walk_at "vno")) ?_
    repeat (walk_at "x")
    refine TCall.sub2 (mh' := P ++ (tabB Fi (FKEY KK) FA (fun s => sL (T s)) ++ (R ++ (tabB f1 (FKEY KK) A1 (fun s => sL (openL rs k s)) ++ lawH L (some (.ref mo)) (some (.ref go)) (some (.int k 0)) nm (some (.ref Fi)) (lawR rg rr mo ee go rs ps blk lb mh))))) ?_ (by walk_at "s2")
    refine cfollow_spec (rs := rs.take (k + 3)) (by show 1 < c.n - 1; omega) (hG1 _) ho (htl _) ?_
    intro H' Fo' hG
    obtain ⟨K2, OA, W, rfl, nd2, hK2, hOI, hOc⟩ := hG
    repeat (walk_at "x")
    exact Drop.of ⟨rfl, Fo', K2, OA, W, rfl, rfl, nd2, hK2, hOI, hOc⟩ (by walk_at "s2")
  clear hx hG1 hFI hFc Fi P R T FA
  rintro _ _ ⟨Fo, K2, OA, W, rfl, rfl, nd2, hK2, hOI, hOc⟩
  have hkl2 : K2.length ≤ 3 := nodup_len nd2 fun s hs => (hK2 s).mp hs
  refine TS.seq (fun m' mh' => Ex2 fun f2 A2 => IsM m' (lawL sc ta (some (.ref rr)) (some (.ref ee)) (some (.ref la)) (some (.ref g)) sy (some (.ref f1)) (some (.ref f2)) op co) ∧ IsH mh' (tabB f1 (FKEY KK) A1 (fun s => sL (openL rs k s)) ++ (tabB f2 K2 A2 (fun s => sL (comeL rs k s)) ++ lawH L (some (.ref mo)) (some (.ref go)) (some (.int k 0)) nm (some (.ref Fo)) (lawR rg rr mo ee go rs ps blk lb mh)))) ?_ ?_
  · have hTd := tabB_dict (d := Fo) (keys := K2) (A := OA) (T := fun s => sL (W s))
    refine TS1.assignDict [("told", L + 5)] [("told", L + 5)] ["s"] rfl rfl (by unfold CompNames; decide) (CC.cons (CC.nil rfl) (by first | exact .inl rfl | exact .inr rfl) rfl rfl rfl) (fun _ => rfl) ?_
    repeat (walk_at "x")
    refine TSrc.dict (by walk_at "mhas") (fun ep => ?_)
    obtain ⟨FB, hFB⟩ : ∃ FB, FB = (Fo, MO.fdict (enc (fun s => s) K2 fun s => Value.ref (OA s)) ep) :: tb K2 OA (fun s => sL (W s)) := ⟨_, rfl⟩
    have p1 : MPut (tabB Fo K2 OA (fun s => sL (W s))) Fo (.dict (enc (fun s => s) K2 fun s => Value.ref (OA s))) (.fdict (enc (fun s => s) K2 fun s => Value.ref (OA s)) ep) FB := by rw [hFB]; exact .here
    have p2 : MPut FB Fo (.fdict (enc (fun s => s) K2 fun s => Value.ref (OA s)) ep) (.dict (enc (fun s => s) K2 fun s => Value.ref (OA s))) (tabB Fo K2 OA (fun s => sL (W s))) := by rw [hFB]; exact .here
    have p3 : MHas FB Fo (.fdict (enc (fun s => s) K2 fun s => Value.ref (OA s)) ep) := by rw [hFB]; exact .here
    have p4 : ∀ s ∈ K2, MHas FB (OA s) (.list (sL (W s))) := fun s hs => by rw [hFB]; exact .there (.of_mem (List.mem_map.mpr ⟨s, hs, rfl⟩))
    clear hFB
    refine ⟨FB ++ (tabB f1 (FKEY KK) A1 (fun s => sL (openL rs k s)) ++ lawH L (some (.ref mo)) (some (.ref go)) (some (.int k 0)) nm (some (.ref Fo)) (lawR rg rr mo ee go rs ps blk lb mh)), by walk_at "mput", ?_⟩
    intro it f2 L'
    refine CompBlock.dict (fun j m' mh' => j ≤ K2.length ∧ Ex2 fun v A => IsM m' [("s", v)] ∧ IsH mh' (tabB f2 (K2.take j) A (fun s => sL (comeL rs k s)) ++ (FB ++ (tabB f1 (FKEY KK) A1 (fun s => sL (openL rs k s)) ++ lawH L (some (.ref mo)) (some (.ref go)) (some (.int k 0)) nm (some (.ref Fo)) (lawR rg rr mo ee go rs ps blk lb mh))))) ⟨rfl, rfl⟩ ⟨Nat.zero_le _, none, fun _ => 0, rfl, rfl⟩ ?_
    rintro j _ _ ⟨hj, v, A, rfl, rfl⟩
    refine ⟨by walk_at "mhas", fun hz => ?_, fun y w hz => ?_⟩
    · rw [List.getElem?_eq_none_iff, enc_len] at hz
      obtain rfl : j = K2.length := by omega
      rw [List.take_length]
      walk_at "x"
      repeat (walk_at "x")
      exact Drop.of ⟨rfl, f2, A, rfl, rfl⟩ (by walk_at "s2")
    · obtain ⟨hy, rfl⟩ := enc_get hz
      have hyF := List.mem_of_getElem? hy
      have hyl := p4 y hyF
      have hjl := (List.getElem?_eq_some_iff.mp hy).1
      walk_at "x"
      refine TRun.drop (TRun.last ?_ rfl rfl)
      repeat (walk_at "x")
      refine TSub.dict (kvs := enc (fun s => s) K2 fun s => Value.ref (OA s)) (by walk_at "mhas") (.inr ⟨ep, rfl⟩) (TItem.dict (by walk_at "mhas") (.inr ⟨ep, rfl⟩) (tabB_at hyF) ?_)
      repeat (walk_at "x")
      refine TCall.sorted (xs := W y) (by walk_at "lat") (hOI.len64 y) ?_
      intro r ys hp hs
      obtain rfl := sorted_follow hok hk hOI hOc ((hK2 y).mp hyF) hp hs
      refine TDSet.tabNew (T := fun s => sL (comeL rs k s)) (A := A) (keys := K2.take j) (by walk_at "pullb") (nit nd2 hy) (by rw [List.length_take]; unfold slim; omega) rfl ?_
      repeat (walk_at "x")
      refine Drop.of ⟨hjl, _, upd A y r, rfl, rfl⟩ ?_
      rw [take_next hy]
      walk_at "s2"
  clear fo
  rintro _ _ ⟨f2, A2, rfl, rfl⟩
  exact stageB (r := none) (e := none) hn L hok hR hk hLast ndK nd2 hK hK2 (fun op co nm lb' la' h => hQ _ _ _ _ op co nm _ lb' la' h)
end
section
open PySem PySem.W PySem.Calls PyProof.Rows
variable {c : Sit} {m : Loc} {mh mh' : MH} {Q : Value → Loc → MH → Prop}
theorem TLoop.sub2 {x : Value} {target : Expr} {body orelse : List Stmt} {QF : Flow → Loc → MH → Prop} (h : TLoop c m mh' x target body orelse QF) (s : Sub2 mh' mh) : TLoop c m mh x target body orelse QF :=
  fun x' ex => TT.sub2 s (h x' ex)
set_option maxHeartbeats 8000000 in
theorem law_walk (hn : 4 < c.n) (L : Addr) {sc : Addr} {xs : List Int} (hs : (sc, iL xs) ∈ c.ro) (hl : xs.length ≤ 1000) (hW : Ctx c) :
    TS (c.intoC fLaw L (lawC L)) (lawL (some (.ref sc)) none none none none none none none none none none) (lawH L none none none none none mh) fLaw.body (fun f _ _ => f = .ret (.bool true)) := by
  have hW' : Ctx (c.intoC fLaw L (lawC L)) := hW
  have hsl := show xs.length ≤ slim by unfold slim; omega
  refine TS.drop ?_
  with_unfolding_all refine TS.consA ?_
  intro QH hid
  refine TS1.assignList [] [] ["n"] rfl rfl (by unfold CompNames; decide) (CC.nil rfl) (fun _ => rfl) ?_
  repeat (walk_at "x")
  refine ⟨((24 : Nat) : Int), rfl, sc, iL xs, rfl, .ro hs, by rw [iL_len]; exact hsl, fun cu => ?_⟩
  have ec : cut (iL xs) none (some ((24 : Nat) : Int)) = iL (xs.take 24) := by rw [cut_to]; unfold iL; rw [List.map_take]
  rw [ec]
  have h24 : (xs.take 24).length ≤ 24 := by rw [List.length_take]; omega
  generalize xs.take 24 = ys at h24
  refine TSrc.list (xs := iL ys) (.own .here) ?_
  intro it tp L'
  refine CompBlock.list (fun j m' mh' => j ≤ ys.length ∧ ∃ v, IsM m' [("n", v)] ∧ IsH mh' ((tp, .list (iL ((ys.take j).map fun n => n.fmod 720720))) :: (cu, .list (iL ys)) :: lawH L none none none none none mh)) ys.length ⟨rfl, rfl⟩ ⟨Nat.zero_le _, none, rfl, rfl⟩ ?_
  rintro j _ _ ⟨hj, v, rfl, rfl⟩
  refine ⟨iL ys, by walk_at "lat", fun hz => ?_, fun x hz => ?_⟩
  · rw [iL_get, Option.map_eq_none_iff, List.getElem?_eq_none_iff] at hz
    obtain rfl : j = ys.length := by omega
    rw [List.take_length]
    have h24' : (ys.map fun n => n.fmod 720720).length ≤ 24 := by rw [List.length_map]; exact h24
    generalize (ys.map fun n => n.fmod 720720) = zs at h24'
    clear hz hj v it L' ec
    repeat (walk_at "x")
    refine TCall.sub2 (mh' := (tp, .list (iL zs)) :: lawH L none none none none none mh) ?_ (by walk_at "s2")
    refine rules_spec (by show 2 < c.n - 1; omega) (by unfold slim; omega) ?_
    intro r ps rs blk hok hR
    have hpl := hR.len
    have h6 := hok.hi
    have h3 := hok.lo
    repeat (walk_at "x")
    refine begin_spec (rs := rs) (by show 2 < c.n - 1; omega) (by walk_at "mhas") (hR.mono fun a o x => (by walk_at "mhas")) hok ?_
    intro p d e
    refine TA.tuple (by walk_at "mhas") ?_ rfl rfl
    repeat (walk_at "x")
    refine goings_spec (rs := rs) (by show 2 < c.n - 1; omega) (by walk_at "mhas") (hR.mono fun a o x => (by walk_at "mhas")) hok (by walk_at "mhas") (by walk_at "mhas") ?_
    intro gg
    repeat (walk_at "x")
    refine ⟨(show 0 ≤ slim by decide), fun la => ?_⟩
    repeat (walk_at "x")
    refine TCall.len (by walk_at "lat") (by unfold slim; omega) ?_
    repeat (walk_at "x")
    rw [show ((ps.length : Int) - 2) = (rs.length : Int) - 2 by omega]
    refine TCall.range (n := (rs.length : Int) - 2) ?_
    intro rg
    refine TLoop.sub2 (mh' := lawH L (some (.ref d)) (some (.ref gg)) none none none (lawR rg r d e gg rs ps blk [(la, .list [])] mh)) ?_ (by show Sub2 (lawH L (some (.ref d)) (some (.ref gg)) none none none ((rg, .range 0 ((rs.length : Int) - 2) 1) :: (r, .list ps) :: (gg, XF (pairs4 NAMES) (momG rs)) :: (d, XF (pairs SYM) (momF rs)) :: (e, XV SYM (momV rs)) :: (blk ++ ((la, .list []) :: mh)))) _; walk_at "s2")
    refine TLoop.range0 (n := rs.length - 2) (fun k m' mh' => k ≤ rs.length - 2 ∧ Ex4 fun gr sy fi fo => Ex4 fun op co st nm => Ex3 fun to lb la => IsM m' (lawL (some (.ref sc)) (some (.ref tp)) (some (.ref r)) (some (.ref e)) (some (.ref la)) gr sy fi fo op co) ∧
      IsH mh' (lawH L (some (.ref d)) (some (.ref gg)) st nm to (lawR rg r d e gg rs ps blk lb mh)) ∧ Last rs k lb la) (by rw [show ((rs.length - 2 : Nat) : Int) = (rs.length : Int) - 2 by omega]; walk_at "mhas") (by unfold slim; omega) ?_ ?_
    · exact ⟨Nat.zero_le _, none, none, none, none, none, none, none, none, none, [(la, .list [])], la, rfl, rfl, .none la⟩
    rintro k _ _ ⟨hk, gr, sy, fi, fo, op, co, st, nm, to, lb, la, rfl, rfl, hLast⟩
    refine ⟨fun hz => ?_, fun hz => ?_⟩
    · repeat (walk_at "x")
      exact Drop.of rfl (mh' := mh) (by walk_at "s2")
    · walk_at "x"
      exact stageA hn L hok hR (by omega) hLast (fun gr sy fi fo op co nm to lb' la' h => ⟨by omega, gr, sy, fi, fo, op, co, some (.int k 0), nm, to, lb', la', rfl, rfl, h⟩)
  · rw [iL_get] at hz
    obtain ⟨n, hn1, rfl⟩ := Option.map_eq_some_iff.mp hz
    have hjl := (List.getElem?_eq_some_iff.mp hn1).1
    refine ⟨hjl, ?_⟩
    walk_at "x"
    refine TRun.last ?_ rfl rfl
    repeat (walk_at "x")
    refine TApp.mk .here (by rw [iL_len, List.length_map, List.length_take]; unfold slim; omega) ⟨hjl, _, rfl, ?_⟩
    rw [take_next hn1, List.map_append]
    unfold iL
    rw [List.map_append]
    rfl
end
end Walks
section
open PySem PySem.W PySem.Calls PyProof.Rows
/-! the written part: what stands at its addresses when the text has run -/
noncomputable def k0 (P : Params) : Obj := ⟨.type "dict", none, .dict #[⟨PyData.keyHash P "__name__", .str "__name__" 1, .str "builtins" 160⟩,
    ⟨PyData.keyHash P "__doc__", .str "__doc__" 2, .builtin "builtins.__doc__:str#opaque"⟩,
    ⟨PyData.keyHash P "__package__", .str "__package__" 3, .builtin "builtins.__package__:str#opaque"⟩,
    ⟨PyData.keyHash P "__loader__", .str "__loader__" 4, .builtin "builtins.__loader__:shared#opaque"⟩,
    ⟨PyData.keyHash P "__spec__", .str "__spec__" 5, .builtin "builtins.__spec__#opaque"⟩,
    ⟨PyData.keyHash P "__build_class__", .str "__build_class__" 6, .builtin "__build_class__"⟩,
    ⟨PyData.keyHash P "__import__", .str "__import__" 7, .builtin "__import__"⟩,
    ⟨PyData.keyHash P "abs", .str "abs" 8, .builtin "abs"⟩,
    ⟨PyData.keyHash P "all", .str "all" 9, .builtin "all"⟩,
    ⟨PyData.keyHash P "any", .str "any" 10, .builtin "any"⟩,
    ⟨PyData.keyHash P "ascii", .str "ascii" 11, .builtin "ascii"⟩,
    ⟨PyData.keyHash P "bin", .str "bin" 12, .builtin "bin"⟩,
    ⟨PyData.keyHash P "breakpoint", .str "breakpoint" 13, .builtin "breakpoint"⟩,
    ⟨PyData.keyHash P "callable", .str "callable" 14, .builtin "callable"⟩,
    ⟨PyData.keyHash P "chr", .str "chr" 15, .builtin "chr"⟩,
    ⟨PyData.keyHash P "compile", .str "compile" 16, .builtin "compile"⟩,
    ⟨PyData.keyHash P "delattr", .str "delattr" 17, .builtin "delattr"⟩,
    ⟨PyData.keyHash P "dir", .str "dir" 18, .builtin "dir"⟩,
    ⟨PyData.keyHash P "divmod", .str "divmod" 19, .builtin "divmod"⟩,
    ⟨PyData.keyHash P "eval", .str "eval" 20, .builtin "eval"⟩,
    ⟨PyData.keyHash P "exec", .str "exec" 21, .builtin "exec"⟩,
    ⟨PyData.keyHash P "format", .str "format" 22, .builtin "format"⟩,
    ⟨PyData.keyHash P "getattr", .str "getattr" 23, .builtin "getattr"⟩,
    ⟨PyData.keyHash P "globals", .str "globals" 24, .builtin "globals"⟩,
    ⟨PyData.keyHash P "hasattr", .str "hasattr" 25, .builtin "hasattr"⟩,
    ⟨PyData.keyHash P "hash", .str "hash" 26, .builtin "hash"⟩,
    ⟨PyData.keyHash P "hex", .str "hex" 27, .builtin "hex"⟩,
    ⟨PyData.keyHash P "id", .str "id" 28, .builtin "id"⟩,
    ⟨PyData.keyHash P "input", .str "input" 29, .builtin "input"⟩,
    ⟨PyData.keyHash P "isinstance", .str "isinstance" 30, .builtin "isinstance"⟩,
    ⟨PyData.keyHash P "issubclass", .str "issubclass" 31, .builtin "issubclass"⟩,
    ⟨PyData.keyHash P "iter", .str "iter" 32, .builtin "iter"⟩,
    ⟨PyData.keyHash P "aiter", .str "aiter" 33, .builtin "aiter"⟩,
    ⟨PyData.keyHash P "len", .str "len" 34, .builtin "len"⟩,
    ⟨PyData.keyHash P "locals", .str "locals" 35, .builtin "locals"⟩,
    ⟨PyData.keyHash P "max", .str "max" 36, .builtin "max"⟩,
    ⟨PyData.keyHash P "min", .str "min" 37, .builtin "min"⟩,
    ⟨PyData.keyHash P "next", .str "next" 38, .builtin "next"⟩,
    ⟨PyData.keyHash P "anext", .str "anext" 39, .builtin "anext"⟩,
    ⟨PyData.keyHash P "oct", .str "oct" 40, .builtin "oct"⟩,
    ⟨PyData.keyHash P "ord", .str "ord" 41, .builtin "ord"⟩,
    ⟨PyData.keyHash P "pow", .str "pow" 42, .builtin "pow"⟩,
    ⟨PyData.keyHash P "print", .str "print" 43, .builtin "print"⟩,
    ⟨PyData.keyHash P "repr", .str "repr" 44, .builtin "repr"⟩,
    ⟨PyData.keyHash P "round", .str "round" 45, .builtin "round"⟩,
    ⟨PyData.keyHash P "setattr", .str "setattr" 46, .builtin "setattr"⟩,
    ⟨PyData.keyHash P "sorted", .str "sorted" 47, .builtin "sorted"⟩,
    ⟨PyData.keyHash P "sum", .str "sum" 48, .builtin "sum"⟩,
    ⟨PyData.keyHash P "vars", .str "vars" 49, .builtin "vars"⟩,
    ⟨PyData.keyHash P "None", .str "None" 50, .none⟩,
    ⟨PyData.keyHash P "Ellipsis", .str "Ellipsis" 51, .ellipsis⟩,
    ⟨PyData.keyHash P "NotImplemented", .str "NotImplemented" 52, .notImplemented⟩,
    ⟨PyData.keyHash P "False", .str "False" 53, .bool false⟩,
    ⟨PyData.keyHash P "True", .str "True" 54, .bool true⟩,
    ⟨PyData.keyHash P "bool", .str "bool" 55, .type "bool"⟩,
    ⟨PyData.keyHash P "memoryview", .str "memoryview" 56, .type "memoryview"⟩,
    ⟨PyData.keyHash P "bytearray", .str "bytearray" 57, .type "bytearray"⟩,
    ⟨PyData.keyHash P "bytes", .str "bytes" 58, .type "bytes"⟩,
    ⟨PyData.keyHash P "classmethod", .str "classmethod" 59, .type "classmethod"⟩,
    ⟨PyData.keyHash P "complex", .str "complex" 60, .type "complex"⟩,
    ⟨PyData.keyHash P "dict", .str "dict" 61, .type "dict"⟩,
    ⟨PyData.keyHash P "enumerate", .str "enumerate" 62, .type "enumerate"⟩,
    ⟨PyData.keyHash P "filter", .str "filter" 63, .type "filter"⟩,
    ⟨PyData.keyHash P "float", .str "float" 64, .type "float"⟩,
    ⟨PyData.keyHash P "frozenset", .str "frozenset" 65, .type "frozenset"⟩,
    ⟨PyData.keyHash P "property", .str "property" 66, .type "property"⟩,
    ⟨PyData.keyHash P "int", .str "int" 67, .type "int"⟩,
    ⟨PyData.keyHash P "list", .str "list" 68, .type "list"⟩,
    ⟨PyData.keyHash P "map", .str "map" 69, .type "map"⟩,
    ⟨PyData.keyHash P "object", .str "object" 70, .type "object"⟩,
    ⟨PyData.keyHash P "range", .str "range" 71, .type "range"⟩,
    ⟨PyData.keyHash P "reversed", .str "reversed" 72, .type "reversed"⟩,
    ⟨PyData.keyHash P "set", .str "set" 73, .type "set"⟩,
    ⟨PyData.keyHash P "slice", .str "slice" 74, .type "slice"⟩,
    ⟨PyData.keyHash P "staticmethod", .str "staticmethod" 75, .type "staticmethod"⟩,
    ⟨PyData.keyHash P "str", .str "str" 76, .type "str"⟩,
    ⟨PyData.keyHash P "super", .str "super" 77, .type "super"⟩,
    ⟨PyData.keyHash P "tuple", .str "tuple" 78, .type "tuple"⟩,
    ⟨PyData.keyHash P "type", .str "type" 79, .type "type"⟩,
    ⟨PyData.keyHash P "zip", .str "zip" 80, .type "zip"⟩,
    ⟨PyData.keyHash P "__debug__", .str "__debug__" 81, .bool true⟩,
    ⟨PyData.keyHash P "BaseException", .str "BaseException" 82, .type "BaseException"⟩,
    ⟨PyData.keyHash P "BaseExceptionGroup", .str "BaseExceptionGroup" 83, .type "BaseExceptionGroup"⟩,
    ⟨PyData.keyHash P "Exception", .str "Exception" 84, .type "Exception"⟩,
    ⟨PyData.keyHash P "GeneratorExit", .str "GeneratorExit" 85, .type "GeneratorExit"⟩,
    ⟨PyData.keyHash P "KeyboardInterrupt", .str "KeyboardInterrupt" 86, .type "KeyboardInterrupt"⟩,
    ⟨PyData.keyHash P "SystemExit", .str "SystemExit" 87, .type "SystemExit"⟩,
    ⟨PyData.keyHash P "ArithmeticError", .str "ArithmeticError" 88, .type "ArithmeticError"⟩,
    ⟨PyData.keyHash P "AssertionError", .str "AssertionError" 89, .type "AssertionError"⟩,
    ⟨PyData.keyHash P "AttributeError", .str "AttributeError" 90, .type "AttributeError"⟩,
    ⟨PyData.keyHash P "BufferError", .str "BufferError" 91, .type "BufferError"⟩,
    ⟨PyData.keyHash P "EOFError", .str "EOFError" 92, .type "EOFError"⟩,
    ⟨PyData.keyHash P "ImportError", .str "ImportError" 93, .type "ImportError"⟩,
    ⟨PyData.keyHash P "LookupError", .str "LookupError" 94, .type "LookupError"⟩,
    ⟨PyData.keyHash P "MemoryError", .str "MemoryError" 95, .type "MemoryError"⟩,
    ⟨PyData.keyHash P "NameError", .str "NameError" 96, .type "NameError"⟩,
    ⟨PyData.keyHash P "OSError", .str "OSError" 97, .type "OSError"⟩,
    ⟨PyData.keyHash P "ReferenceError", .str "ReferenceError" 98, .type "ReferenceError"⟩,
    ⟨PyData.keyHash P "RuntimeError", .str "RuntimeError" 99, .type "RuntimeError"⟩,
    ⟨PyData.keyHash P "StopAsyncIteration", .str "StopAsyncIteration" 100, .type "StopAsyncIteration"⟩,
    ⟨PyData.keyHash P "StopIteration", .str "StopIteration" 101, .type "StopIteration"⟩,
    ⟨PyData.keyHash P "SyntaxError", .str "SyntaxError" 102, .type "SyntaxError"⟩,
    ⟨PyData.keyHash P "SystemError", .str "SystemError" 103, .type "SystemError"⟩,
    ⟨PyData.keyHash P "TypeError", .str "TypeError" 104, .type "TypeError"⟩,
    ⟨PyData.keyHash P "ValueError", .str "ValueError" 105, .type "ValueError"⟩,
    ⟨PyData.keyHash P "Warning", .str "Warning" 106, .type "Warning"⟩,
    ⟨PyData.keyHash P "FloatingPointError", .str "FloatingPointError" 107, .type "FloatingPointError"⟩,
    ⟨PyData.keyHash P "OverflowError", .str "OverflowError" 108, .type "OverflowError"⟩,
    ⟨PyData.keyHash P "ZeroDivisionError", .str "ZeroDivisionError" 109, .type "ZeroDivisionError"⟩,
    ⟨PyData.keyHash P "BytesWarning", .str "BytesWarning" 110, .type "BytesWarning"⟩,
    ⟨PyData.keyHash P "DeprecationWarning", .str "DeprecationWarning" 111, .type "DeprecationWarning"⟩,
    ⟨PyData.keyHash P "EncodingWarning", .str "EncodingWarning" 112, .type "EncodingWarning"⟩,
    ⟨PyData.keyHash P "FutureWarning", .str "FutureWarning" 113, .type "FutureWarning"⟩,
    ⟨PyData.keyHash P "ImportWarning", .str "ImportWarning" 114, .type "ImportWarning"⟩,
    ⟨PyData.keyHash P "PendingDeprecationWarning", .str "PendingDeprecationWarning" 115, .type "PendingDeprecationWarning"⟩,
    ⟨PyData.keyHash P "ResourceWarning", .str "ResourceWarning" 116, .type "ResourceWarning"⟩,
    ⟨PyData.keyHash P "RuntimeWarning", .str "RuntimeWarning" 117, .type "RuntimeWarning"⟩,
    ⟨PyData.keyHash P "SyntaxWarning", .str "SyntaxWarning" 118, .type "SyntaxWarning"⟩,
    ⟨PyData.keyHash P "UnicodeWarning", .str "UnicodeWarning" 119, .type "UnicodeWarning"⟩,
    ⟨PyData.keyHash P "UserWarning", .str "UserWarning" 120, .type "UserWarning"⟩,
    ⟨PyData.keyHash P "BlockingIOError", .str "BlockingIOError" 121, .type "BlockingIOError"⟩,
    ⟨PyData.keyHash P "ChildProcessError", .str "ChildProcessError" 122, .type "ChildProcessError"⟩,
    ⟨PyData.keyHash P "ConnectionError", .str "ConnectionError" 123, .type "ConnectionError"⟩,
    ⟨PyData.keyHash P "FileExistsError", .str "FileExistsError" 124, .type "FileExistsError"⟩,
    ⟨PyData.keyHash P "FileNotFoundError", .str "FileNotFoundError" 125, .type "FileNotFoundError"⟩,
    ⟨PyData.keyHash P "InterruptedError", .str "InterruptedError" 126, .type "InterruptedError"⟩,
    ⟨PyData.keyHash P "IsADirectoryError", .str "IsADirectoryError" 127, .type "IsADirectoryError"⟩,
    ⟨PyData.keyHash P "NotADirectoryError", .str "NotADirectoryError" 128, .type "NotADirectoryError"⟩,
    ⟨PyData.keyHash P "PermissionError", .str "PermissionError" 129, .type "PermissionError"⟩,
    ⟨PyData.keyHash P "ProcessLookupError", .str "ProcessLookupError" 130, .type "ProcessLookupError"⟩,
    ⟨PyData.keyHash P "TimeoutError", .str "TimeoutError" 131, .type "TimeoutError"⟩,
    ⟨PyData.keyHash P "IndentationError", .str "IndentationError" 132, .type "IndentationError"⟩,
    ⟨PyData.keyHash P "_IncompleteInputError", .str "_IncompleteInputError" 133, .type "_IncompleteInputError"⟩,
    ⟨PyData.keyHash P "IndexError", .str "IndexError" 134, .type "IndexError"⟩,
    ⟨PyData.keyHash P "KeyError", .str "KeyError" 135, .type "KeyError"⟩,
    ⟨PyData.keyHash P "ModuleNotFoundError", .str "ModuleNotFoundError" 136, .type "ModuleNotFoundError"⟩,
    ⟨PyData.keyHash P "NotImplementedError", .str "NotImplementedError" 137, .type "NotImplementedError"⟩,
    ⟨PyData.keyHash P "PythonFinalizationError", .str "PythonFinalizationError" 138, .type "PythonFinalizationError"⟩,
    ⟨PyData.keyHash P "RecursionError", .str "RecursionError" 139, .type "RecursionError"⟩,
    ⟨PyData.keyHash P "UnboundLocalError", .str "UnboundLocalError" 140, .type "UnboundLocalError"⟩,
    ⟨PyData.keyHash P "UnicodeError", .str "UnicodeError" 141, .type "UnicodeError"⟩,
    ⟨PyData.keyHash P "BrokenPipeError", .str "BrokenPipeError" 142, .type "BrokenPipeError"⟩,
    ⟨PyData.keyHash P "ConnectionAbortedError", .str "ConnectionAbortedError" 143, .type "ConnectionAbortedError"⟩,
    ⟨PyData.keyHash P "ConnectionRefusedError", .str "ConnectionRefusedError" 144, .type "ConnectionRefusedError"⟩,
    ⟨PyData.keyHash P "ConnectionResetError", .str "ConnectionResetError" 145, .type "ConnectionResetError"⟩,
    ⟨PyData.keyHash P "TabError", .str "TabError" 146, .type "TabError"⟩,
    ⟨PyData.keyHash P "UnicodeDecodeError", .str "UnicodeDecodeError" 147, .type "UnicodeDecodeError"⟩,
    ⟨PyData.keyHash P "UnicodeEncodeError", .str "UnicodeEncodeError" 148, .type "UnicodeEncodeError"⟩,
    ⟨PyData.keyHash P "UnicodeTranslateError", .str "UnicodeTranslateError" 149, .type "UnicodeTranslateError"⟩,
    ⟨PyData.keyHash P "ExceptionGroup", .str "ExceptionGroup" 150, .type "ExceptionGroup"⟩,
    ⟨PyData.keyHash P "EnvironmentError", .str "EnvironmentError" 151, .type "OSError"⟩,
    ⟨PyData.keyHash P "IOError", .str "IOError" 152, .type "OSError"⟩,
    ⟨PyData.keyHash P "open", .str "open" 153, .builtin "open"⟩,
    ⟨PyData.keyHash P "quit", .str "quit" 154, .builtin "builtins.quit#opaque"⟩,
    ⟨PyData.keyHash P "exit", .str "exit" 155, .builtin "builtins.exit#opaque"⟩,
    ⟨PyData.keyHash P "copyright", .str "copyright" 156, .builtin "builtins.copyright#opaque"⟩,
    ⟨PyData.keyHash P "credits", .str "credits" 157, .builtin "builtins.credits#opaque"⟩,
    ⟨PyData.keyHash P "license", .str "license" 158, .builtin "builtins.license#opaque"⟩,
    ⟨PyData.keyHash P "help", .str "help" 159, .builtin "builtins.help#opaque"⟩] 159, #[]⟩
noncomputable def k3 (P : Params) : Obj := ⟨.type "dict", none, .dict #[⟨PyData.keyHash P "__name__", .str "__name__" 165, .str "law_te0071_02" 534⟩,
    ⟨PyData.keyHash P "__doc__", .str "__doc__" 166, .none⟩,
    ⟨PyData.keyHash P "__package__", .str "__package__" 167, .none⟩,
    ⟨PyData.keyHash P "__loader__", .str "__loader__" 168, .builtin "__main__.__loader__#opaque"⟩,
    ⟨PyData.keyHash P "__spec__", .str "__spec__" 169, .none⟩,
    ⟨PyData.keyHash P "__annotations__", .str "__annotations__" 170, .ref 6⟩,
    ⟨PyData.keyHash P "__builtins__", .str "__builtins__" 171, .ref 4⟩,
    ⟨PyData.keyHash P "__file__", .str "__file__" 173, .str "/claim/cut.py" 172⟩,
    ⟨PyData.keyHash P "__cached__", .str "__cached__" 174, .none⟩,
    ⟨PyData.keyHash P "_wall", .str "_wall" 193, .ref 21⟩,
    ⟨PyData.keyHash P "YaccError", .str "YaccError" 215, .ref 31⟩,
    ⟨PyData.keyHash P "_is_identifier", .str "_is_identifier" 221, .ref 39⟩,
    ⟨PyData.keyHash P "_IDENTIFIER", .str "_IDENTIFIER" 223, .str "abcdefghijklmnopqrstuvwxyzABCDEFGHIJKLMNOPQRSTUVWXYZ0123456789_-" 222⟩,
    ⟨PyData.keyHash P "_literal", .str "_literal" 230, .ref 46⟩,
    ⟨PyData.keyHash P "Production", .str "Production" 323, .ref 100⟩,
    ⟨PyData.keyHash P "rightmost_terminal", .str "rightmost_terminal" 332, .ref 111⟩,
    ⟨PyData.keyHash P "GrammarError", .str "GrammarError" 348, .ref 121⟩,
    ⟨PyData.keyHash P "Grammar", .str "Grammar" 533, .ref 248⟩,
    ⟨PyData.keyHash P "_law_NAMES", .str "_law_NAMES" 541, .ref 259⟩,
    ⟨PyData.keyHash P "_law_SYMBOLS", .str "_law_SYMBOLS" 548, .ref 260⟩,
    ⟨PyData.keyHash P "_law_NEVER", .str "_law_NEVER" 550, .int 9 549⟩,
    ⟨PyData.keyHash P "_law_next", .str "_law_next" 557, .ref 267⟩,
    ⟨PyData.keyHash P "_law_row", .str "_law_row" 563, .ref 272⟩,
    ⟨PyData.keyHash P "_law_rules", .str "_law_rules" 569, .ref 277⟩,
    ⟨PyData.keyHash P "_law_beginnings", .str "_law_beginnings" 575, .ref 282⟩,
    ⟨PyData.keyHash P "_law_goings", .str "_law_goings" 581, .ref 287⟩,
    ⟨PyData.keyHash P "_law_front", .str "_law_front" 587, .ref 292⟩,
    ⟨PyData.keyHash P "_law_nothing_new", .str "_law_nothing_new" 593, .ref 297⟩,
    ⟨PyData.keyHash P "law", .str "law" 599, .ref 302⟩] 29, #[]⟩
noncomputable def k38 (_P : Params) : Obj := ⟨.type "code", none, .fields #[.str "_is_identifier" 216, .str "_is_identifier" 217, .str "/claim/cut.py" 218, .int 7 0, .int 1 0, .int 0 0, .int 0 0, .int 3 0, .ref 35, .bool true, .int 181 0, .ref 36, .none, .none, .none, .ref 37, .int 219 0, .int 7 0, .str "/claim/cut.py" 220], #[]⟩
noncomputable def k39 (_P : Params) : Obj := ⟨.type "function", none, .func fIdent.fd, #[]⟩
noncomputable def k55 (_P : Params) : Obj := ⟨.type "tuple", none, .seq #[.ref 54, .none, .str "" 249, .int 0 250] 0, #[]⟩
noncomputable def k61 (_P : Params) : Obj := ⟨.type "code", none, .fields #[.str "__init__" 251, .str "Production.__init__" 252, .str "/claim/cut.py" 253, .int 18 0, .int 8 0, .int 0 0, .int 0 0, .int 3 0, .ref 56, .bool true, .int 181 0, .ref 57, .none, .ref 58, .ref 59, .ref 60, .int 263 0, .int 18 0, .str "/claim/cut.py" 264], #[]⟩
noncomputable def k62 (_P : Params) : Obj := ⟨.type "function", none, .func fPInit.fd, #[]⟩
noncomputable def k99 (P : Params) : Obj := ⟨.type "dict", none, .dict #[⟨PyData.keyHash P "__module__", .str "__module__" 238, .str "ply.yacc" 194⟩,
    ⟨PyData.keyHash P "__firstlineno__", .str "__firstlineno__" 242, .int 14 241⟩,
    ⟨PyData.keyHash P "reduced", .str "reduced" 244, .int 0 243⟩,
    ⟨PyData.keyHash P "lr0_added", .str "lr0_added" 246, .int 0 245⟩,
    ⟨PyData.keyHash P "__init__", .str "__init__" 265, .ref 62⟩,
    ⟨PyData.keyHash P "__str__", .str "__str__" 272, .ref 69⟩,
    ⟨PyData.keyHash P "__repr__", .str "__repr__" 279, .ref 76⟩,
    ⟨PyData.keyHash P "__len__", .str "__len__" 286, .ref 83⟩,
    ⟨PyData.keyHash P "__getitem__", .str "__getitem__" 294, .ref 90⟩,
    ⟨PyData.keyHash P "bind", .str "bind" 302, .ref 97⟩,
    ⟨PyData.keyHash P "__static_attributes__", .str "__static_attributes__" 316, .ref 98⟩,
    ⟨PyData.keyHash P "__dict__", .str "__dict__" 318, .ref 101⟩,
    ⟨PyData.keyHash P "__weakref__", .str "__weakref__" 320, .ref 102⟩,
    ⟨PyData.keyHash P "__doc__", .str "__doc__" 321, .none⟩] 4, #[]⟩
noncomputable def k100 (_P : Params) : Obj := ⟨.type "type", none, .cls { name := "Production", bases := [.type "object"], mro := [.ref 100, .type "object"], ns := 99, qualname := "Production", hasDict := true, slotNames := [], subclasses := [], abstract := false, collection := none, hasDel := false }, #[some (.ref 47), none, some (.str "Production" 231), some (.str "Production" 239), some (.builtin "object.__new__"), some (.bool true)]⟩
noncomputable def k110 (_P : Params) : Obj := ⟨.type "code", none, .fields #[.str "rightmost_terminal" 324, .str "rightmost_terminal" 325, .str "/claim/cut.py" 326, .int 53 0, .int 2 0, .int 0 0, .int 0 0, .int 3 0, .ref 105, .bool true, .int 181 0, .ref 106, .none, .ref 107, .ref 108, .ref 109, .int 330 0, .int 53 0, .str "/claim/cut.py" 331], #[]⟩
noncomputable def k111 (_P : Params) : Obj := ⟨.type "function", none, .func fRight.fd, #[]⟩
noncomputable def k136 (_P : Params) : Obj := ⟨.type "code", none, .fields #[.str "__init__" 361, .str "Grammar.__init__" 362, .str "/claim/cut.py" 363, .int 64 0, .int 2 0, .int 0 0, .int 0 0, .int 3 0, .ref 131, .bool true, .int 181 0, .ref 132, .none, .ref 133, .ref 134, .ref 135, .int 367 0, .int 64 0, .str "/claim/cut.py" 368], #[]⟩
noncomputable def k137 (_P : Params) : Obj := ⟨.type "function", none, .func fGInit.fd, #[]⟩
noncomputable def k159 (_P : Params) : Obj := ⟨.type "tuple", none, .seq #[.none, .str "" 395, .int 0 396] 0, #[]⟩
noncomputable def k165 (_P : Params) : Obj := ⟨.type "code", none, .fields #[.str "add_production" 397, .str "Grammar.add_production" 398, .str "/claim/cut.py" 399, .int 88 0, .int 6 0, .int 0 0, .int 0 0, .int 3 0, .ref 160, .bool true, .int 181 0, .ref 161, .none, .ref 162, .ref 163, .ref 164, .int 416 0, .int 88 0, .str "/claim/cut.py" 417], #[]⟩
noncomputable def k166 (_P : Params) : Obj := ⟨.type "function", none, .func fAdd.fd, #[]⟩
noncomputable def k222 (_P : Params) : Obj := ⟨.type "code", none, .fields #[.str "_first" 469, .str "Grammar._first" 470, .str "/claim/cut.py" 471, .int 167 0, .int 2 0, .int 0 0, .int 0 0, .int 3 0, .ref 217, .bool true, .int 181 0, .ref 218, .none, .ref 219, .ref 220, .ref 221, .int 478 0, .int 167 0, .str "/claim/cut.py" 479], #[]⟩
noncomputable def k223 (_P : Params) : Obj := ⟨.type "function", none, .func fFirst.fd, #[]⟩
noncomputable def k229 (_P : Params) : Obj := ⟨.type "code", none, .fields #[.str "compute_first" 481, .str "Grammar.compute_first" 482, .str "/claim/cut.py" 483, .int 184 0, .int 1 0, .int 0 0, .int 0 0, .int 3 0, .ref 224, .bool true, .int 181 0, .ref 225, .none, .ref 226, .ref 227, .ref 228, .int 490 0, .int 184 0, .str "/claim/cut.py" 491], #[]⟩
noncomputable def k230 (_P : Params) : Obj := ⟨.type "function", none, .func fCFirst.fd, #[]⟩
noncomputable def k231 (_P : Params) : Obj := ⟨.type "tuple", none, .seq #[.none] 0, #[]⟩
noncomputable def k237 (_P : Params) : Obj := ⟨.type "code", none, .fields #[.str "compute_follow" 493, .str "Grammar.compute_follow" 494, .str "/claim/cut.py" 495, .int 204 0, .int 2 0, .int 0 0, .int 0 0, .int 3 0, .ref 232, .bool true, .int 181 0, .ref 233, .none, .ref 234, .ref 235, .ref 236, .int 506 0, .int 204 0, .str "/claim/cut.py" 507], #[]⟩
noncomputable def k238 (_P : Params) : Obj := ⟨.type "function", none, .func fCFollow.fd, #[]⟩
noncomputable def k247 (P : Params) : Obj := ⟨.type "dict", none, .dict #[⟨PyData.keyHash P "__module__", .str "__module__" 356, .str "ply.yacc" 194⟩,
    ⟨PyData.keyHash P "__firstlineno__", .str "__firstlineno__" 360, .int 62 359⟩,
    ⟨PyData.keyHash P "__init__", .str "__init__" 369, .ref 137⟩,
    ⟨PyData.keyHash P "__len__", .str "__len__" 376, .ref 144⟩,
    ⟨PyData.keyHash P "__getitem__", .str "__getitem__" 384, .ref 151⟩,
    ⟨PyData.keyHash P "set_precedence", .str "set_precedence" 394, .ref 158⟩,
    ⟨PyData.keyHash P "add_production", .str "add_production" 418, .ref 166⟩,
    ⟨PyData.keyHash P "set_start", .str "set_start" 426, .ref 174⟩,
    ⟨PyData.keyHash P "find_unreachable", .str "find_unreachable" 433, .ref 181⟩,
    ⟨PyData.keyHash P "infinite_cycles", .str "infinite_cycles" 440, .ref 188⟩,
    ⟨PyData.keyHash P "undefined_symbols", .str "undefined_symbols" 447, .ref 195⟩,
    ⟨PyData.keyHash P "unused_terminals", .str "unused_terminals" 454, .ref 202⟩,
    ⟨PyData.keyHash P "unused_rules", .str "unused_rules" 461, .ref 209⟩,
    ⟨PyData.keyHash P "unused_precedence", .str "unused_precedence" 468, .ref 216⟩,
    ⟨PyData.keyHash P "_first", .str "_first" 480, .ref 223⟩,
    ⟨PyData.keyHash P "compute_first", .str "compute_first" 492, .ref 230⟩,
    ⟨PyData.keyHash P "compute_follow", .str "compute_follow" 508, .ref 238⟩,
    ⟨PyData.keyHash P "build_lritems", .str "build_lritems" 515, .ref 245⟩,
    ⟨PyData.keyHash P "__static_attributes__", .str "__static_attributes__" 526, .ref 246⟩,
    ⟨PyData.keyHash P "__dict__", .str "__dict__" 528, .ref 249⟩,
    ⟨PyData.keyHash P "__weakref__", .str "__weakref__" 530, .ref 250⟩,
    ⟨PyData.keyHash P "__doc__", .str "__doc__" 531, .none⟩] 4, #[]⟩
noncomputable def k248 (_P : Params) : Obj := ⟨.type "type", none, .cls { name := "Grammar", bases := [.type "object"], mro := [.ref 248, .type "object"], ns := 247, qualname := "Grammar", hasDict := true, slotNames := [], subclasses := [], abstract := false, collection := none, hasDel := false }, #[some (.ref 124), none, some (.str "Grammar" 349), some (.str "Grammar" 357), some (.builtin "object.__new__"), some (.bool true)]⟩
noncomputable def k258 (_P : Params) : Obj := ⟨.type "code", none, .fields #[.str "_law_NAMES" 536, .str "_law_NAMES" 537, .str "/claim/cut.py" 538, .int 239 0, .int 0 0, .int 0 0, .int 0 0, .int 3 0, .ref 253, .bool true, .int 181 0, .ref 254, .none, .ref 255, .ref 256, .ref 257, .int 539 0, .int 239 0, .str "/claim/cut.py" 540], #[]⟩
noncomputable def k259 (_P : Params) : Obj := ⟨.type "function", none, .func fNames.fd, #[]⟩
noncomputable def k260 (_P : Params) : Obj := ⟨.type "list", none, .seq #[.str "S" 542, .str "A" 543, .str "B" 544, .str "a" 545, .str "b" 546, .str "c" 547] 0, #[]⟩
noncomputable def k266 (_P : Params) : Obj := ⟨.type "code", none, .fields #[.str "_law_next" 551, .str "_law_next" 552, .str "/claim/cut.py" 553, .int 243 0, .int 1 0, .int 0 0, .int 0 0, .int 3 0, .ref 261, .bool true, .int 181 0, .ref 262, .none, .ref 263, .ref 264, .ref 265, .int 555 0, .int 243 0, .str "/claim/cut.py" 556], #[]⟩
noncomputable def k267 (_P : Params) : Obj := ⟨.type "function", none, .func fNext.fd, #[]⟩
noncomputable def k271 (_P : Params) : Obj := ⟨.type "code", none, .fields #[.str "_law_row" 558, .str "_law_row" 559, .str "/claim/cut.py" 560, .int 245 0, .int 1 0, .int 0 0, .int 0 0, .int 3 0, .ref 268, .bool true, .int 181 0, .ref 269, .none, .none, .none, .ref 270, .int 561 0, .int 245 0, .str "/claim/cut.py" 562], #[]⟩
noncomputable def k272 (_P : Params) : Obj := ⟨.type "function", none, .func fRow.fd, #[]⟩
noncomputable def k276 (_P : Params) : Obj := ⟨.type "code", none, .fields #[.str "_law_rules" 564, .str "_law_rules" 565, .str "/claim/cut.py" 566, .int 248 0, .int 1 0, .int 0 0, .int 0 0, .int 3 0, .ref 273, .bool true, .int 181 0, .ref 274, .none, .none, .none, .ref 275, .int 567 0, .int 248 0, .str "/claim/cut.py" 568], #[]⟩
noncomputable def k277 (_P : Params) : Obj := ⟨.type "function", none, .func fRules.fd, #[]⟩
noncomputable def k281 (_P : Params) : Obj := ⟨.type "code", none, .fields #[.str "_law_beginnings" 570, .str "_law_beginnings" 571, .str "/claim/cut.py" 572, .int 256 0, .int 1 0, .int 0 0, .int 0 0, .int 3 0, .ref 278, .bool true, .int 181 0, .ref 279, .none, .none, .none, .ref 280, .int 573 0, .int 256 0, .str "/claim/cut.py" 574], #[]⟩
noncomputable def k282 (_P : Params) : Obj := ⟨.type "function", none, .func fBegin.fd, #[]⟩
noncomputable def k286 (_P : Params) : Obj := ⟨.type "code", none, .fields #[.str "_law_goings" 576, .str "_law_goings" 577, .str "/claim/cut.py" 578, .int 268 0, .int 3 0, .int 0 0, .int 0 0, .int 3 0, .ref 283, .bool true, .int 181 0, .ref 284, .none, .none, .none, .ref 285, .int 579 0, .int 268 0, .str "/claim/cut.py" 580], #[]⟩
noncomputable def k287 (_P : Params) : Obj := ⟨.type "function", none, .func fGo.fd, #[]⟩
noncomputable def k291 (_P : Params) : Obj := ⟨.type "code", none, .fields #[.str "_law_front" 582, .str "_law_front" 583, .str "/claim/cut.py" 584, .int 283 0, .int 2 0, .int 0 0, .int 0 0, .int 3 0, .ref 288, .bool true, .int 181 0, .ref 289, .none, .none, .none, .ref 290, .int 585 0, .int 283 0, .str "/claim/cut.py" 586], #[]⟩
noncomputable def k292 (_P : Params) : Obj := ⟨.type "function", none, .func fFront.fd, #[]⟩
noncomputable def k296 (_P : Params) : Obj := ⟨.type "code", none, .fields #[.str "_law_nothing_new" 588, .str "_law_nothing_new" 589, .str "/claim/cut.py" 590, .int 287 0, .int 3 0, .int 0 0, .int 0 0, .int 3 0, .ref 293, .bool true, .int 181 0, .ref 294, .none, .none, .none, .ref 295, .int 591 0, .int 287 0, .str "/claim/cut.py" 592], #[]⟩
noncomputable def k297 (_P : Params) : Obj := ⟨.type "function", none, .func fNew.fd, #[]⟩
noncomputable def k301 (_P : Params) : Obj := ⟨.type "code", none, .fields #[.str "law" 594, .str "law" 595, .str "/claim/cut.py" 596, .int 298 0, .int 1 0, .int 0 0, .int 0 0, .int 3 0, .ref 298, .bool true, .int 181 0, .ref 299, .none, .none, .none, .ref 300, .int 597 0, .int 298 0, .str "/claim/cut.py" 598], #[]⟩
noncomputable def k302 (_P : Params) : Obj := ⟨.type "function", none, .func fLaw.fd, #[]⟩
noncomputable def KF (P : Params) : Frag := [(0, k0 P), (3, k3 P), (38, k38 P), (39, k39 P), (55, k55 P), (61, k61 P), (62, k62 P), (99, k99 P), (100, k100 P), (110, k110 P), (111, k111 P), (136, k136 P), (137, k137 P), (159, k159 P), (165, k165 P), (166, k166 P), (222, k222 P), (223, k223 P), (229, k229 P), (230, k230 P), (231, k231 P), (237, k237 P), (238, k238 P), (247, k247 P), (248, k248 P), (258, k258 P), (259, k259 P), (260, k260 P), (266, k266 P), (267, k267 P), (271, k271 P), (272, k272 P), (276, k276 P), (277, k277 P), (281, k281 P), (282, k282 P), (286, k286 P), (287, k287 P), (291, k291 P), (292, k292 P), (296, k296 P), (297, k297 P), (301, k301 P), (302, k302 P)]
noncomputable def KAs : List Addr := [0, 3, 38, 39, 55, 61, 62, 99, 100, 110, 111, 136, 137, 159, 165, 166, 222, 223, 229, 230, 231, 237, 238, 247, 248, 258, 259, 260, 266, 267, 271, 272, 276, 277, 281, 282, 286, 287, 291, 292, 296, 297, 301, 302]
theorem KAs_of (P : Params) : KAs = (KF P).map (·.1) := rfl
end
section
open PySem PySem.W PySem.Calls PyProof.Rows
section
variable {prog : Program} {w : World} {K : Frag} {x : PySem.Str} {v : Value} {env : Env} {h : Heap}
theorem look_main (e : nsIn K mainGlobals x = some (some v)) (hk : env.scope.kind = .function) (hx : env.kindOf x = some .globalImplicit) (hg : env.globals = mainGlobals) (X : K.In h) : Looks (model prog w) h (loadName env x) v := by
  intro A Q E s k q
  unfold loadName
  simp only [Env.blockKind, hk, hx, ScopeKind.isAnnotationScope, Bool.false_and, Bool.false_eq_true, if_false]
  unfold loadGlobal
  rw [hg]
  refine wpAny_bind (looks_nsIn X e A _ E s k ?_)
  exact wpAny_pure q
theorem look_boot (e0 : nsIn K mainGlobals x = some none) (e : nsIn K builtinsNs x = some (some v)) (hk : env.scope.kind = .function) (hx : env.kindOf x = some .globalImplicit) (hg : env.globals = mainGlobals) (hb : env.builtins = builtinsNs) (X : K.In h) : Looks (model prog w) h (loadName env x) v := by
  intro A Q E s k q
  unfold loadName
  simp only [Env.blockKind, hk, hx, ScopeKind.isAnnotationScope, Bool.false_and, Bool.false_eq_true, if_false]
  unfold loadGlobal
  rw [hg, hb]
  refine wpAny_bind (looks_nsIn X e0 A _ E s k ?_)
  refine wpAny_bind (looks_nsIn X e A _ E s k ?_)
  exact wpAny_pure q
/-- a name of the table, in the text's names or in the builtins -/
noncomputable def globB (K : Frag) (p : PySem.Str × Value) : Bool := match nsIn K mainGlobals p.1 with
  | some (some v) => decide (cn v = p.2)
  | some none => (match nsIn K builtinsNs p.1 with
    | some (some v) => decide (cn v = p.2)
    | _ => false)
  | none => false
theorem globB_ok {p : PySem.Str × Value} (e : globB K p = true) : ∃ v', cn v' = p.2 ∧ ∀ env : Env, env.scope.kind = .function → env.kindOf p.1 = some .globalImplicit → env.globals = mainGlobals → env.builtins = builtinsNs → ∀ h, K.In h → Looks (model prog w) h (loadName env p.1) v' := by
  unfold globB at e
  split at e
  · rename_i v h1
    exact ⟨v, of_decide_eq_true e, fun env hk hx hg _ h X => look_main h1 hk hx hg X⟩
  · rename_i h0
    split at e
    · rename_i v h1
      exact ⟨v, of_decide_eq_true e, fun env hk hx hg hb h X => look_boot h0 h1 hk hx hg hb X⟩
    · cases e
  · cases e
end
theorem KF_globs (P : Params) : globs2.all (globB (KF P)) = true := by kernel_rfl
theorem KF_fn {w : World} {K : Frag} (F : Fn) (h : ∃ oc od osl, K.lookup F.f = some ⟨oc, od, .func F.fd, osl⟩) (e : (codeIn K F.cdv F.qual && keepIn K (.ref F.f) && (F.scope.kind == .function) && !F.scope.isGenerator && !F.scope.isCoroutine && F.namesB) = true) : FnOk pw w K F := by
  simp only [Bool.and_eq_true, Bool.not_eq_true', beq_iff_eq] at e
  obtain ⟨⟨⟨⟨⟨e1, e2⟩, e3⟩, e4⟩, e5⟩, e6⟩ := e
  exact ⟨h, e1, e2, e3, e4, e5, e6⟩
theorem KF_fnC {w : World} {K : Frag} (F : Fn) (h : ∃ oc od osl, K.lookup F.f = some ⟨oc, od, .func F.fd, osl⟩) (e : (codeIn K F.cdv F.qual && keepIn K (.ref F.f) && (F.scope.kind == .function) && !F.scope.isGenerator && !F.scope.isCoroutine && F.namesC) = true) : FnOkC pw w K F := by
  simp only [Bool.and_eq_true, Bool.not_eq_true', beq_iff_eq] at e
  obtain ⟨⟨⟨⟨⟨e1, e2⟩, e3⟩, e4⟩, e5⟩, e6⟩ := e
  exact ⟨h, e1, e2, e3, e4, e5, e6⟩
theorem KF_cls {K : Frag} {C : Addr} {names : List PySem.Str} (e : (findIn K (.ref C) "__getattribute__" == some (some (.builtin "object.__getattribute__")) && findIn K (.ref C) "__getattr__" == some none && findIn K (.ref C) "__setattr__" == some (some (.builtin "object.__setattr__")) && plainOver K C && (clsIn K C).any (·.hasDict) && names.all (fun x => findIn K (.ref C) x == some none)) = true) : ClsOk K C names := by
  simp only [Bool.and_eq_true, beq_iff_eq] at e
  obtain ⟨⟨⟨⟨⟨e1, e2⟩, e3⟩, e4⟩, e5⟩, e6⟩ := e
  refine ⟨e1, e2, e3, e4, ?_, fun x hx => beq_iff_eq.mp (List.all_eq_true.mp e6 x hx)⟩
  obtain ⟨cd, h1, h2⟩ := (Option.any_eq_true _ _).mp e5
  exact ⟨cd, h1, h2⟩
theorem KF_ok (w : World) (sc : Addr) (vs : List Value) : W2 pw w (KF w.params) globs2 [(aSyms, sL SYM), (sc, vs)] where
  gl := rfl
  syms := .head _
  keep := by
    have : keepAddrs.all (fun a => keepIn (KF w.params) (.ref a)) = true := by kernel_rfl
    exact fun a ha => List.all_eq_true.mp this a ha
  names := KF_fn _ ⟨_, _, _, (by kernel_rfl : (KF w.params).lookup 259 = some ⟨.type "function", none, .func fNames.fd, #[]⟩)⟩ (by kernel_rfl)
  next := KF_fn _ ⟨_, _, _, (by kernel_rfl : (KF w.params).lookup 267 = some ⟨.type "function", none, .func fNext.fd, #[]⟩)⟩ (by kernel_rfl)
  row := KF_fnC _ ⟨_, _, _, (by kernel_rfl : (KF w.params).lookup 272 = some ⟨.type "function", none, .func fRow.fd, #[]⟩)⟩ (by kernel_rfl)
  rules := KF_fnC _ ⟨_, _, _, (by kernel_rfl : (KF w.params).lookup 277 = some ⟨.type "function", none, .func fRules.fd, #[]⟩)⟩ (by kernel_rfl)
  begin_ := KF_fn _ ⟨_, _, _, (by kernel_rfl : (KF w.params).lookup 282 = some ⟨.type "function", none, .func fBegin.fd, #[]⟩)⟩ (by kernel_rfl)
  go := KF_fn _ ⟨_, _, _, (by kernel_rfl : (KF w.params).lookup 287 = some ⟨.type "function", none, .func fGo.fd, #[]⟩)⟩ (by kernel_rfl)
  front := KF_fnC _ ⟨_, _, _, (by kernel_rfl : (KF w.params).lookup 292 = some ⟨.type "function", none, .func fFront.fd, #[]⟩)⟩ (by kernel_rfl)
  new_ := KF_fnC _ ⟨_, _, _, (by kernel_rfl : (KF w.params).lookup 297 = some ⟨.type "function", none, .func fNew.fd, #[]⟩)⟩ (by kernel_rfl)
  ident := KF_fn _ ⟨_, _, _, (by kernel_rfl : (KF w.params).lookup 39 = some ⟨.type "function", none, .func fIdent.fd, #[]⟩)⟩ (by kernel_rfl)
  right := KF_fn _ ⟨_, _, _, (by kernel_rfl : (KF w.params).lookup 111 = some ⟨.type "function", none, .func fRight.fd, #[]⟩)⟩ (by kernel_rfl)
  pinit := KF_fn _ ⟨_, _, _, (by kernel_rfl : (KF w.params).lookup 62 = some ⟨.type "function", none, .func fPInit.fd, #[]⟩)⟩ (by kernel_rfl)
  ginit := KF_fn _ ⟨_, _, _, (by kernel_rfl : (KF w.params).lookup 137 = some ⟨.type "function", none, .func fGInit.fd, #[]⟩)⟩ (by kernel_rfl)
  add := KF_fn _ ⟨_, _, _, (by kernel_rfl : (KF w.params).lookup 166 = some ⟨.type "function", none, .func fAdd.fd, #[]⟩)⟩ (by kernel_rfl)
  first := KF_fn _ ⟨_, _, _, (by kernel_rfl : (KF w.params).lookup 223 = some ⟨.type "function", none, .func fFirst.fd, #[]⟩)⟩ (by kernel_rfl)
  cfirst := KF_fn _ ⟨_, _, _, (by kernel_rfl : (KF w.params).lookup 230 = some ⟨.type "function", none, .func fCFirst.fd, #[]⟩)⟩ (by kernel_rfl)
  cfollow := KF_fn _ ⟨_, _, _, (by kernel_rfl : (KF w.params).lookup 238 = some ⟨.type "function", none, .func fCFollow.fd, #[]⟩)⟩ (by kernel_rfl)
  pcls := KF_cls (by kernel_rfl)
  gcls := KF_cls (by kernel_rfl)
  pmake := ⟨by kernel_rfl, by kernel_rfl, by kernel_rfl⟩
  gmake := ⟨by kernel_rfl, by kernel_rfl, by kernel_rfl⟩
  mAdd := ⟨by kernel_rfl, by kernel_rfl⟩
  mFirst := ⟨by kernel_rfl, by kernel_rfl⟩
  mCFirst := ⟨by kernel_rfl, by kernel_rfl⟩
  mCFollow := ⟨by kernel_rfl, by kernel_rfl⟩
  dP := ⟨0, #[], by kernel_rfl⟩
  dA := ⟨0, #[], by kernel_rfl⟩
  dF := ⟨0, #[], by kernel_rfl⟩
end
section
open PySem PySem.W PySem.Calls PyProof.Rows
/-- the claim's caller calls a def with cell names -/
theorem topC {prog : Program} {w : World} {K : Frag} {globs : List (PySem.Str × Value)} {ro : List (Addr × List Value)} (F : Fn) (ok : FnOkC prog w K F) {s : Shared} (X : K.In s.heap) (lim : s.heap.NoLimit)
    (hro : ∀ p ∈ ro, ∃ vs : List Value, s.heap.PlainList p.1 vs.toArray ∧ vs.map cn = p.2)
    (hglob : ∀ p ∈ globs, ∃ v', cn v' = p.2 ∧ ∀ env : Env, env.scope.kind = .function → env.kindOf p.1 = some .globalImplicit → env.globals = mainGlobals → env.builtins = builtinsNs → ∀ h, K.In h → Looks (model prog w) h (loadName env p.1) v')
    {as' as : List Value} (ea : as'.map cn = as) (m0 : Loc) (cs : List (Option Value)) (cells : Addr → List (PySem.Str × Addr))
    (hb : bindArgs F.fd ⟨as', []⟩ = Pure.pure (F.ns.zip as')) (hl : as.length = F.ns.length) (hm0 : m0 = F.locC as) (hcs : cs = F.cells.map fun x => (F.ns.zip as).lookup x) (hcells : ∀ L, cells L = cellsFrom (L + 1) F.scope.names [])
    (g : s.gens = #[]) {r : Value}
    (h : ∀ (env : Env) (L : Addr), TS (({ prog, w, K, env, n := 6, top := true, cells := [], globs, ro } : Sit).intoC F L (cells L)) m0 (cellE (L + 1) cs) F.body (fun fl _ _ => fl = .ret r)) :
    wpAny (model prog w) callerA (call (.ref F.f) as') (fun v s' => cn v = r ∧ (∀ b o, s.heap.get? b = some o → s'.heap.get? b = some o) ∧ s'.os = s.os ∧ s'.gens = #[]) (fun _ _ => False) s := by
  obtain ⟨oc, od, osl, ho⟩ := ok.obj
  have la : as'.length = as.length := by rw [← ea, List.length_map]
  have nm := ok.names
  unfold Fn.namesC at nm
  simp only [Bool.and_eq_true, decide_eq_true_eq, List.all_eq_true, Bool.or_eq_true, Bool.not_eq_true'] at nm
  obtain ⟨⟨⟨nd, hnm⟩, cnd⟩, hcn⟩ := nm
  have nd1 : F.ns.Nodup := (List.nodup_append.mp nd).1
  have e1 : (F.ns.zip as').map (·.1) = F.ns := List.map_fst_zip (by omega)
  have look : ∀ x : PySem.Str, ((F.ns.zip as').reverse.lookup x).map cn = (F.ns.zip as).lookup x := fun x => by
    rw [lookup_rev _ _ (by rw [e1]; exact nd1), ← ea]; exact look_map x F.ns as'
  have cellsAt : ∀ (L : Addr) (i : Nat) (x : PySem.Str), F.cells[i]? = some x → (cellsFrom (L + 1) F.scope.names []).lookup x = some (L + 1 + i) := fun L i x hi => by
    rw [cellsFrom_eq, List.append_nil, lookup_rev]
    · have := lookup_zip F.cells (List.range' (L + 1) F.cells.length) x cnd i hi
      have e : (cellNames F.scope.names).zipIdx (L + 1) = F.cells.zip (List.range' (L + 1) F.cells.length) := List.zipIdx_eq_zip_range' ..
      rw [e, this]
      rw [List.getElem?_range' (by exact (List.getElem?_eq_some_iff.mp hi).1)]
      simp
    · rw [List.zipIdx_map_fst]; exact cnd
  refine wpAny_call (codeAny_call_cells (fd := F.fd) (binds := F.ns.zip as') (by show 1 + claimMargin < _; decide +kernel) (X _ _ ho) rfl lim (codeRec_of X ok.code) rfl hb rfl (fun x hx => ?_) (fun s₁ IC => ?_) ok.co ok.gen ok.kind)
  · have hx1 : x.1 ∈ F.ns ++ F.rest := List.mem_append_left _ (List.of_mem_zip hx).1
    rcases (hnm x.1 hx1).1 with e | ⟨e, hm⟩
    · exact .inl e
    · refine .inr ⟨e, ?_⟩
      obtain ⟨i, hi⟩ := List.mem_iff_getElem?.mp hm
      show ((cellsFrom (s.heap.objs.size + 1) F.scope.names []).lookup x.1).isSome = true
      rw [cellsAt _ i _ hi]; rfl
  have ee : callEnvC F.fd s.heap.objs.size F.f = envC F s.heap.objs.size := rfl
  rw [ee] at IC ⊢
  obtain ⟨hh, tk, rfl⟩ := IC.toInCall.same
  have H1 : ∀ x ov, (x, ov) ∈ m0 → (bindL (envC F s.heap.objs.size).kindOf (F.ns.zip as') (fun _ => none) x).map cn = ov := by
    intro x ov hx
    rw [hm0, Fn.locC, List.mem_filter] at hx
    obtain ⟨hx, hk⟩ := hx
    have hk' : (envC F s.heap.objs.size).kindOf x = some .local := of_decide_eq_true hk
    rw [bindL_at _ hk', Option.or_none, look]
    rcases List.mem_append.mp hx with hx | hx
    · obtain ⟨i, hi, e⟩ := List.mem_iff_getElem.mp hx
      rw [List.getElem_zip] at e
      simp only [Prod.mk.injEq, List.getElem_map] at e
      have hi' : i < F.ns.length := by simp at hi; omega
      have hi2 : i < as.length := by omega
      rw [lookup_zip F.ns as x nd1 i (by rw [List.getElem?_eq_getElem hi', e.1]), List.getElem?_eq_getElem hi2, ← e.2]
    · obtain ⟨y, hy, e⟩ := List.mem_map.mp hx
      cases e
      rw [List.lookup_eq_none_iff]
      intro q hq
      have : q.1 ∈ F.ns := (List.of_mem_zip hq).1
      have ne : x ≠ q.1 := fun e => (List.nodup_append.mp nd).2.2 q.1 this x hy e.symm
      simpa using ne
  have H2 : ∀ a mo, (a, mo) ∈ cellE (s.heap.objs.size + 1) cs → AbsH prog w hh a mo ∧ s.heap.objs.size ≤ a ∧ a ≠ s.heap.objs.size := by
    intro a mo hm
    obtain ⟨i, v, h1, rfl, rfl⟩ := mem_cellE hm
    rw [hcs, List.getElem?_map] at h1
    obtain ⟨x, h2, rfl⟩ := Option.map_eq_some_iff.mp h1
    have := IC.cell x _ (cellsAt _ i x h2)
    have hk' : (envC F s.heap.objs.size).kindOf x = some .cell := (hcn x (List.mem_of_getElem? h2)).1.1
    rw [bindC_at _ hk', Option.or_none] at this
    exact ⟨⟨_, this, look x⟩, (show (s.heap.objs.size : Nat) ≤ s.heap.objs.size + 1 + i by omega), (show (s.heap.objs.size + 1 + i : Nat) ≠ s.heap.objs.size by omega)⟩
  have H3 : ((cellE (s.heap.objs.size + 1) cs).map (·.1)).Nodup := by rw [cellE_keys]; exact List.nodup_range' ..
  have h := h default s.heap.objs.size
  generalize hc : (({ prog, w, K, env := default, n := 6, top := true, cells := [], globs, ro } : Sit).intoC F s.heap.objs.size (cells s.heap.objs.size)) = c at h
  have R' : Rel prog w s.heap [] [] s.heap.objs.size hh m0 (cellE (s.heap.objs.size + 1) cs) :=
    ⟨IC.toInCall.keep, Nat.le_refl _, ⟨_, IC.toInCall.ns, H1⟩, H3, H2, fun _ _ hx => (by cases hx), fun _ _ hx => (by cases hx)⟩
  have G' : Good (({ prog, w, K, env := default, n := 6, top := true, cells := [], globs, ro } : Sit).intoC F s.heap.objs.size (cells s.heap.objs.size)) s.heap [] (callerA.deeper (envC F s.heap.objs.size)) := by
    refine ⟨X, hro, lim, rfl, ?_, ?_, ?_, rfl⟩
    · show 1 + claimMargin + 1 + 4 * 5 ≤ 960; decide +kernel
    · show 4 + 3 + 20 * 5 ≤ 9000; decide
    · refine ⟨[envC F s.heap.objs.size], rfl, fun _ => ⟨[], rfl⟩, fun x hx => ?_⟩
      obtain rfl := List.mem_singleton.mp hx
      refine ⟨?_, s.heap.objs.size, rfl, .inl rfl⟩
      show F.scope.kind ≠ .module
      rw [ok.kind]; decide
  have N' : NamesOk (({ prog, w, K, env := default, n := 6, top := true, cells := [], globs, ro } : Sit).intoC F s.heap.objs.size (cells s.heap.objs.size)) m0 := by
    have sb : m0.map (·.1) = (F.ns ++ F.rest).filter fun x => decide (F.scope.names.lookup x = some NameKind.local) := by
      have e2 : (F.ns.zip (as.map some) ++ F.rest.map fun x => (x, (none : Option Value))).map (·.1) = F.ns ++ F.rest := by
        rw [List.map_append, List.map_fst_zip (by rw [List.length_map]; omega), List.map_map]
        congr 1; exact List.map_id _
      rw [hm0, Fn.locC, ← e2, List.filter_map]; rfl
    refine ⟨ok.kind, by rw [sb]; exact nd.sublist List.filter_sublist, fun p hp => ?_⟩
    have : p.1 ∈ m0.map (·.1) := List.mem_map_of_mem (f := (·.1)) hp
    rw [sb, List.mem_filter] at this
    exact ⟨of_decide_eq_true this.2, (hnm _ this.1).2⟩
  have T' : TabOk (({ prog, w, K, env := default, n := 6, top := true, cells := [], globs, ro } : Sit).intoC F s.heap.objs.size (cells s.heap.objs.size)) := by
    refine ⟨fun p hp => ?_, ⟨rfl, rfl⟩, hglob⟩
    have hp' : p ∈ cellsFrom (s.heap.objs.size + 1) F.scope.names [] := by rw [← hcells]; exact hp
    have : p.1 ∈ F.cells ∧ (cellsFrom (s.heap.objs.size + 1) F.scope.names []).lookup p.1 = some p.2 := by
      rw [cellsFrom_eq, List.append_nil, List.mem_reverse] at hp'
      obtain ⟨x, a⟩ := p
      obtain ⟨h1, h2⟩ := List.mk_mem_zipIdx_iff_le_and_getElem?_sub.mp hp'
      refine ⟨List.mem_of_getElem? h2, ?_⟩
      rw [cellsAt _ _ _ h2]
      congr 1; exact (show ((s.heap.objs.size : Nat) + 1 + ((a : Nat) - (s.heap.objs.size + 1)) : Nat) = a by have : (s.heap.objs.size + 1 : Nat) ≤ a := h1; omega)
    obtain ⟨⟨q1, q2⟩, q3⟩ := hcn _ this.1
    exact ⟨.inl q1, this.2, q2, q3⟩
  rw [← hc] at h
  refine wpAny_mono (h s.heap [] [] _ (fun _ _ => False) { s with heap := hh, toks := tk } G' N' T' R' g) (fun fl s' => ?_) (fun _ _ e => e.elim)
  rintro ⟨g', o', m1, mh1, R1, _, q⟩
  cases fl with
  | ret v => exact ⟨(Flow.ret.inj q), R1.keep, o', g'⟩
  | _ => cases q
end
section
open PySem PySem.W PySem.Calls PyProof.Rows
noncomputable abbrev theRow : RowW := PySem.Challenge.rw_te0071_02.row.toRowW
theorem law_ok (w : World) : FnOkC pw w (KF w.params) fLaw := KF_fnC _ ⟨_, _, _, (by kernel_rfl : (KF w.params).lookup 302 = some ⟨.type "function", none, .func fLaw.fd, #[]⟩)⟩ (by kernel_rfl)
theorem well_ints {P : Params} {h : Heap} : ∀ {xs : List Int} {vs : List Value}, WellAll P h vs (ofPys (xs.map PyData.int)) → vs.map cn = iL xs
  | [], _, .nil => rfl
  | x :: xs, _, .cons h1 h2 => by
    have := well_ints h2
    cases h1
    rw [List.map_cons, this]; rfl
theorem well_list {P : Params} {h : Heap} {xs : List Int} {v : Value} (x : Well P h v (ofPy (PyData.list (xs.map PyData.int)))) : ∃ a vs, v = .ref a ∧ h.PlainList a (List.toArray vs) ∧ vs.map cn = iL xs := by
  cases x with
  | list h1 h2 => exact ⟨_, _, rfl, ⟨_, h1⟩, well_ints h2⟩
theorem theWalk {q : Program} {loose : List PySem.Str} {XP : (PySem.Str → Option Value) → Heap → Prop} {d : DefRec} {kwd : List (PySem.Str × Expr)} (hd : d.name = "law") : WalkO q loose XP (fun w h => (KF w.params).In h) theRow d kwd fun f vs => PySem.call f vs := by
  intro w s₀ s₁ mg mb G X a o pm cd doc dV kV ho hdd hcd hD hmg hg args vals as hpre hlay hrd hwl hlo
  have hm := mg_of (n := "law") (v := .ref 302) X G.T.g (by kernel_rfl)
  rw [hd, hm] at hmg
  obtain rfl : 302 = a := by cases hmg; rfl
  clear hmg hD hcd ho hdd
  have lim := G.T.nolimit
  have hwl2 := hwl
  wrow_args hpre hlay hrd hwl hlo
  rename_i xs _ _ _ _ _ _ _ b _ _ _ _ _ _ _ _ hlen _

  obtain ⟨b', vs, e, pl, ev⟩ := well_list (wellAll_head hwl2).1
  obtain rfl : b = b' := by cases e; rfl
  have hl : xs.length ≤ 1000 := by omega
  refine wpAny_mono (topC (w := w) (globs := globs2) (ro := [(aSyms, sL SYM), (b, iL xs)]) fLaw (law_ok w) X lim ?_ ?_ (as' := [.ref b]) (as := [.ref b]) rfl (lawL (some (.ref b)) none none none none none none none none none none) [none, none, none, none, none] lawC rfl rfl (law_locs _).symm rfl (fun L => (law_cells L).symm) hg (r := .bool true) ?_) (fun v s' => ?_) (fun _ _ e => e.elim)
  · intro p hp
    rcases List.mem_cons.mp hp with rfl | hp
    · exact ⟨[.str "S" 542, .str "A" 543, .str "B" 544, .str "a" 545, .str "b" 546, .str "c" 547], ⟨0, X _ _ (by kernel_rfl)⟩, rfl⟩
    · obtain rfl := List.mem_singleton.mp hp
      exact ⟨vs, pl, ev⟩
  · exact fun p hp => globB_ok (List.all_eq_true.mp (KF_globs w.params) p hp)
  · intro env L
    exact law_walk (mh := []) (by show 4 < 6; decide) L (sc := b) (xs := xs) (.tail _ (.head _)) hl (KF_ok w b (iL xs))
  · rintro ⟨hv, hk, hos, hg'⟩
    obtain rfl : v = .bool true := by cases v <;> first | (cases hv; done) | (cases hv; rfl)
    exact ⟨.inl ⟨_, .bool true, [], rfl, raisesW_false (fun _ h => by cases h), .bool true, by wrow_post, fun _ => ⟨.nil, fun _ h => by cases h⟩⟩, .of_keep hk, hos, .of_eq hg'⟩
end
section
open PySem PySem.W PySem.Calls PyProof.Rows
noncomputable def view : Program := { pw with main := { pw.main with body := [0, 2, 3, 4, 5, 6, 7, 8, 9, 11, 12, 13, 14, 15, 16, 17, 18, 19, 20, 21].map (stmtAt pw) } }
noncomputable def loose : List PySem.Str := ["Production", "Grammar", "_law_SYMBOLS"]
noncomputable def hook : Hook := kHook KF KAs KAs_of
theorem theLeft : LeftO pw view loose (fun s => xlAt view [] s && recOk theRow.records s) (Hook.obs hook) (Hook.val hook) 4104 := by
  intro w
  kernel_rfl
end
section
open PySem PySem.W PySem.Calls PyProof.Rows
theorem theSaid : PySem.Challenge.rw_te0071_02.wellSaid = true := by kernel_rfl
theorem theHead (said : PySem.Challenge.rw_te0071_02.row.wellSaid = true) : PySem.Challenge.rw_te0071_02.row.Holds := by
  refine holds_open (q := view) (loose := loose) (Xt := fun s => xlAt view [] s && recOk theRow.records s) (XP := XL view []) (Yf := Hook.obs hook) (Ya := Hook.val hook) (YP := Hook.says hook) (N := 4104) theLeft (Hook.of hook) (Hook.keeps hook) (fun s e => xl_of s (Bool.and_eq_true_iff.mp e).1) XL.keeps (by rfl) (by rfl) (by rfl) (fun s e => recFacts_of (Bool.and_eq_true_iff.mp e).2) (by rfl) said (by decide +kernel) ⟨rfl, rfl, rfl, rfl, rfl, by decide +kernel⟩ ?hw ?hc
  case hw => exact ⟨[.list []], by decide +kernel, by decide +kernel⟩
  case hc => exact theWalk rfl
end
end Mine
open PySem PySem.W PyProof.Rows
set_option maxRecDepth 100000 in
set_option maxHeartbeats 8000000 in
theorem PySem.Challenge.cw_te0071_02_holds : PySem.Challenge.rw_te0071_02.Holds := by
  exact holds_law Mine.theSaid Mine.theHead
