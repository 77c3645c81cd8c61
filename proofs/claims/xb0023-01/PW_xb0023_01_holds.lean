import PyProof.Rows.All
import Wide.All
import OpenK.AllK
import Wide.FinOn
import Lean
import PySem.Challenge.RW_xb0023_01
set_option Elab.async false
set_option linter.all false
set_option maxRecDepth 100000
set_option maxHeartbeats 8000000
open PySem PySem.W PyProof.Rows PySem.Calls PySem.Spec
namespace Mine
section
inductive PV where
  | none
  | bool (b : Bool)
  | int (i : Int)
  | str (x : Str)
  | bytes (b : List UInt8)
  | tuple (ds : List PV)
  | list (ds : List PV)
  | inst (C : Addr) (fs : List (Str × PV))
  | raw (v : Value)
noncomputable abbrev Fz := Addr → Option Obj
noncomputable abbrev tupOf (vs : Array Value) (n : Nat) : Obj := { cls := .type "tuple", data := .seq vs n }
noncomputable def LObj (o : Obj) (vs : List Value) : Prop := o.cls = .type "list" ∧ (∃ n, o.data = .seq vs.toArray n) ∧ o.dict = none ∧ o.slots = #[]
theorem LObj.of (vs : List Value) (n : Nat) : LObj (listOf vs.toArray n) vs := ⟨rfl, ⟨n, rfl⟩, rfl, rfl⟩
theorem LObj.exact {o : Obj} {vs : List Value} (l : LObj o vs) : ∃ n, o = listOf vs.toArray n := by
  obtain ⟨c, d, dt, sl⟩ := o
  obtain ⟨h1, ⟨n, h2⟩, h3, h4⟩ := l
  simp only at h1 h2 h3 h4
  subst h1 h2 h3 h4
  exact ⟨n, rfl⟩
mutual
inductive Is (F : Fz) : Value → PV → Prop
  | none : Is F .none .none
  | bool (b : Bool) : Is F (.bool b) (.bool b)
  | int (i : Int) (t : Tok) : Is F (.int i t) (.int i)
  | str (x : Str) (t : Tok) : Is F (.str x t) (.str x)
  | bytes (b : List UInt8) (t : Tok) : Is F (.bytes b.toArray t) (.bytes b)
  | raw (v : Value) : Is F v (.raw v)
  | tuple {a : Addr} {vs : List Value} {n : Nat} {ds : List PV} : F a = some (tupOf vs.toArray n) → IsAll F vs ds → Is F (.ref a) (.tuple ds)
  | list {a : Addr} {o : Obj} {vs : List Value} {ds : List PV} : F a = some o → LObj o vs → IsAll F vs ds → Is F (.ref a) (.list ds)
  | inst {a dx C : Addr} {n : Nat} {es : List DictEntry} {fs : List (Str × PV)} : F a = some (instObj C dx) → F dx = some (dictOf es n) → IsDict F es fs → Is F (.ref a) (.inst C fs)
inductive IsAll (F : Fz) : List Value → List PV → Prop
  | nil : IsAll F [] []
  | cons {v : Value} {vs : List Value} {d : PV} {ds : List PV} : Is F v d → IsAll F vs ds → IsAll F (v :: vs) (d :: ds)
inductive IsDict (F : Fz) : List DictEntry → List (Str × PV) → Prop
  | nil : IsDict F [] []
  | cons {h : Int} {x : Str} {t : Tok} {v : Value} {es : List DictEntry} {d : PV} {fs : List (Str × PV)} : Is F v d → IsDict F es fs → IsDict F (⟨h, .str x t, v⟩ :: es) ((x, d) :: fs)
end
noncomputable def Le (F F' : Fz) : Prop := ∀ a o, F a = some o → F' a = some o
theorem Le.refl (F : Fz) : Le F F := fun _ _ e => e
theorem Le.trans {F G H : Fz} (x : Le F G) (y : Le G H) : Le F H := fun a o e => y a o (x a o e)
theorem Is.mono {F F' : Fz} (hs : Le F F') {v : Value} {d : PV} (h : Is F v d) : Is F' v d :=
  Is.rec (motive_1 := fun v d _ => Is F' v d) (motive_2 := fun vs ds _ => IsAll F' vs ds) (motive_3 := fun es fs _ => IsDict F' es fs) .none .bool .int .str .bytes .raw (fun h _ r => .tuple (hs _ _ h) r) (fun h l _ r => .list (hs _ _ h) l r) (fun h1 h2 _ r => .inst (hs _ _ h1) (hs _ _ h2) r)
    .nil (fun _ _ a b => .cons a b) .nil (fun _ _ a b => .cons a b) h
theorem IsAll.ind {F : Fz} {P : List Value → List PV → Prop} (n : P [] []) (c : ∀ {v vs d ds}, Is F v d → IsAll F vs ds → P vs ds → P (v :: vs) (d :: ds)) {vs : List Value} {ds : List PV} (h : IsAll F vs ds) : P vs ds := by
  induction ds generalizing vs with
  | nil => cases h; exact n
  | cons d ds ih => cases h with | cons h r => exact c h r (ih r)
theorem IsAll.mono {F F' : Fz} (hs : Le F F') {vs : List Value} {ds : List PV} (h : IsAll F vs ds) : IsAll F' vs ds := h.ind .nil fun a _ b => .cons (a.mono hs) b
theorem IsDict.mono {F F' : Fz} (hs : Le F F') {es : List DictEntry} {fs : List (Str × PV)} (h : IsDict F es fs) : IsDict F' es fs := by
  induction fs generalizing es with
  | nil => cases h; exact .nil
  | cons d ds ih => cases h with | cons h r => exact .cons (h.mono hs) (ih r)
theorem IsAll.length {F : Fz} {vs : List Value} {ds : List PV} (h : IsAll F vs ds) : vs.length = ds.length := h.ind (P := fun vs ds => vs.length = ds.length) rfl fun _ _ r => congrArg Nat.succ r
theorem IsAll.append {F : Fz} {vs ws : List Value} {ds es : List PV} (h : IsAll F vs ds) (k : IsAll F ws es) : IsAll F (vs ++ ws) (ds ++ es) := h.ind (P := fun vs ds => IsAll F (vs ++ ws) (ds ++ es)) k fun h _ r => .cons h r
theorem IsAll.get {F : Fz} {vs : List Value} {ds : List PV} (h : IsAll F vs ds) : ∀ {k : Nat} {d : PV}, ds[k]? = some d → ∃ v, vs[k]? = some v ∧ Is F v d :=
  h.ind (P := fun vs ds => ∀ {k : Nat} {d : PV}, ds[k]? = some d → ∃ v, vs[k]? = some v ∧ Is F v d) (fun e => by simp at e) fun h _ ih k d e => by
    cases k with
    | zero => cases e; exact ⟨_, rfl, h⟩
    | succ k => exact ih (k := k) e
theorem IsAll.take {F : Fz} {vs : List Value} {ds : List PV} (h : IsAll F vs ds) : ∀ k, IsAll F (vs.take k) (ds.take k) :=
  h.ind (P := fun vs ds => ∀ k, IsAll F (vs.take k) (ds.take k)) (fun k => by rw [List.take_nil, List.take_nil]; exact .nil) fun h _ ih k => by
    cases k with
    | zero => exact .nil
    | succ k => exact .cons h (ih k)
theorem IsAll.drop {F : Fz} {vs : List Value} {ds : List PV} (h : IsAll F vs ds) : ∀ k, IsAll F (vs.drop k) (ds.drop k) :=
  h.ind (P := fun vs ds => ∀ k, IsAll F (vs.drop k) (ds.drop k)) (fun k => by rw [List.drop_nil, List.drop_nil]; exact .nil) fun h r ih k => by
    cases k with
    | zero => exact .cons h r
    | succ k => exact ih k
theorem IsAll.set {F : Fz} {vs : List Value} {ds : List PV} (h : IsAll F vs ds) : ∀ (k : Nat) {v : Value} {d : PV}, Is F v d → IsAll F (vs.set k v) (ds.set k d) :=
  h.ind (P := fun vs ds => ∀ (k : Nat) {v : Value} {d : PV}, Is F v d → IsAll F (vs.set k v) (ds.set k d)) (fun _ _ _ _ => .nil) fun h r ih k v d x => by
    cases k with
    | zero => exact .cons x r
    | succ k => exact .cons h (ih k x)
theorem IsAll.one {F : Fz} {v : Value} {d : PV} (h : Is F v d) : IsAll F [v] [d] := .cons h .nil
set_option genInjectivity false in
set_option genSizeOf false in
structure Cx where
  prog : Program
  w : World
  hb : Heap
  ex : Addr → Prop
  exo : Addr → Obj → Prop
  K : Frag
  glob : Str → Option Value
inductive Lab where
  | frame | tab | cell (x : Str) | own (x : Str) | ini (x : Str)
noncomputable abbrev Mz := Addr → Option Lab
noncomputable abbrev lamQ : Str := "_law_rounds.<locals>.<lambda>"
noncomputable def Noted (F : Fz) (o : Obj) : Prop := ∀ l k c, o.data = .fields #[l, k, .ref c] → ∃ oc vs t, F c = some oc ∧ oc.data = .fields vs ∧ vs[1]? = some (.str lamQ t)
theorem Noted.mono {F F' : Fz} {o : Obj} (x : Noted F o) (hs : Le F F') : Noted F' o := fun l k c e => by
  obtain ⟨oc, vs, t, h1, h2⟩ := x l k c e
  exact ⟨oc, vs, t, hs _ _ h1, h2⟩
theorem Noted.no {F : Fz} {o : Obj} (x : ∀ vs, o.data ≠ .fields vs) : Noted F o := fun _ _ _ e => absurd e (x _)
noncomputable def TabOk (C : Cx) (F : Fz) (h : Heap) : Prop := ∀ a, C.ex a → ∃ o, h.get? a = some o ∧ C.exo a o ∧ Noted F o
theorem TabOk.mono {C : Cx} {F F' : Fz} {h : Heap} (x : TabOk C F h) (hs : Le F F') : TabOk C F' h := fun a ha => by
  obtain ⟨o, h1, h2, h3⟩ := x a ha
  exact ⟨o, h1, h2, h3.mono hs⟩
structure Wd (C : Cx) (F : Fz) (M : Mz) (h : Heap) : Prop where
  sub : ∀ a o, F a = some o → h.get? a = some o
  dis : ∀ a o, F a = some o → M a = none
  mex : ∀ a l, M a = some l → ∃ o, h.get? a = some o
  base : ∀ a o, C.hb.get? a = some o → F a = some o
  tab : TabOk C F h
  mtab : ∀ a, C.ex a → M a = some .tab
structure Grow (C : Cx) (F : Fz) (h : Heap) (F' : Fz) (h' : Heap) : Prop where
  ext : ∀ a o, ¬ C.ex a → h.get? a = some o → h'.get? a = some o
  mono : Le F F'
  sub : ∀ a o, F' a = some o → h'.get? a = some o
  fnew : ∀ a o, F' a = some o → F a = some o ∨ h.get? a = none
  tab : TabOk C F' h'
section
variable {C : Cx} {F F' F'' : Fz} {M M' M'' : Mz} {h h' h'' : Heap}
theorem Grow.refl (W : Wd C F M h) : Grow C F h F h := ⟨fun _ _ _ e => e, Le.refl _, W.sub, fun _ _ e => .inl e, W.tab⟩
theorem Grow.trans (x : Grow C F h F' h') (y : Grow C F' h' F'' h'') : Grow C F h F'' h'' := by
  refine ⟨fun a o ha e => y.ext a o ha (x.ext a o ha e), x.mono.trans y.mono, y.sub, fun a o e => ?_, y.tab⟩
  rcases y.fnew a o e with e' | e'
  · exact x.fnew a o e'
  · cases q : h.get? a with
    | none => exact .inr rfl
    | some o' =>
      by_cases ha : C.ex a
      · obtain ⟨ps', hp', _⟩ := x.tab a ha
        rw [hp'] at e'; cases e'
      · rw [x.ext a o' ha q] at e'; cases e'
theorem Wd.grow (W : Wd C F M h) (g : Grow C F h F' h') : Wd C F' M h' := by
  refine ⟨g.sub, fun a o e => ?_, fun a l e => ?_, fun a o e => g.mono _ _ (W.base a o e), g.tab, W.mtab⟩
  · rcases g.fnew a o e with e' | e'
    · exact W.dis a o e'
    · cases q : M a with
      | none => rfl
      | some l =>
        obtain ⟨o', ho⟩ := W.mex a l q
        rw [e'] at ho; cases ho
  · by_cases ha : C.ex a
    · obtain ⟨ps, hp, _⟩ := g.tab a ha
      exact ⟨_, hp⟩
    · obtain ⟨o, ho⟩ := W.mex a l e
      exact ⟨o, g.ext a o ha ho⟩
theorem Wd.tbF (W : Wd C F M h) : ∀ a, C.ex a → F a = none := fun a ha => by
  cases q : F a with
  | none => rfl
  | some o => have := W.dis _ _ q; rw [W.mtab _ ha] at this; cases this
theorem Wd.baseH (W : Wd C F M h) : ∀ a o, C.hb.get? a = some o → h.get? a = some o := fun a o e => W.sub a o (W.base a o e)
noncomputable def fset (F : Fz) (a : Addr) (o : Obj) : Fz := fun b => if b = a then some o else F b
theorem fset_self (F : Fz) (a : Addr) (o : Obj) : fset F a o a = some o := by simp [fset]
theorem fset_le {F : Fz} {a : Addr} {o : Obj} (h : F a = none) : Le F (fset F a o) := fun b p e => by
  unfold fset
  by_cases hb : b = a
  · subst hb; rw [h] at e; cases e
  · rw [if_neg hb]; exact e
theorem Wd.none_of_new (W : Wd C F M h) {a : Addr} (e : h.get? a = none) : F a = none := by
  cases q : F a with
  | none => rfl
  | some o => have := W.sub _ _ q; rw [e] at this; cases this
theorem size_none (h : Heap) : h.get? h.objs.size = none := by
  cases q : h.get? h.objs.size with
  | none => rfl
  | some o => exact absurd (Heap.lt_size q) (Nat.lt_irrefl _)
theorem Grow.only (W : Wd C F M h) (hk : ∀ a o, h.get? a = some o → h'.get? a = some o) : Grow C F h F h' := by
  refine ⟨fun a o _ e => hk a o e, Le.refl _, fun a o e => hk a o (W.sub a o e), fun a o e => .inl e, ?_⟩
  intro a ha
  obtain ⟨ps, hp, ht⟩ := W.tab a ha
  exact ⟨ps, hk _ _ hp, ht⟩
theorem Grow.le_freeze {a : Addr} {o : Obj} (g : Grow C F h F' h') (ho : h'.get? a = some o) : Le F' (fset F' a o) := fun b p e => by
  unfold fset
  by_cases hb : b = a
  · subst hb
    have := g.sub _ _ e
    rw [ho] at this
    rw [if_pos rfl]; exact this
  · rw [if_neg hb]; exact e
theorem Grow.freeze (W : Wd C F M h) (g : Grow C F h F' h') {a : Addr} {o : Obj} (hn : h.get? a = none) (ho : h'.get? a = some o) : Grow C F h (fset F' a o) h' := by
  have hF : F a = none := W.none_of_new hn
  refine ⟨g.ext, fun b p e => ?_, fun b p e => ?_, fun b p e => ?_, g.tab.mono (g.le_freeze ho)⟩
  · unfold fset
    by_cases hb : b = a
    · subst hb; rw [hF] at e; cases e
    · rw [if_neg hb]; exact g.mono _ _ e
  · unfold fset at e
    by_cases hb : b = a
    · subst hb; rw [if_pos rfl] at e; cases e; exact ho
    · rw [if_neg hb] at e; exact g.sub _ _ e
  · unfold fset at e
    by_cases hb : b = a
    · subst hb; exact .inr hn
    · rw [if_neg hb] at e; exact g.fnew _ _ e
end
structure AOk (A : Around) (k : Nat) : Prop where
  hh : A.handled = none
  depth : A.depth + 4 * k + 4 < recursionLimit
  units : A.units + 40 * k + 200 < cLine
/-! states -/
inductive PVar where
  | val (d : PV)
  | own (ds : List PV)
  | self (a : Addr) (cl : Addr) (fs : List (Str × PV))
noncomputable abbrev PS := List (Str × PVar)
noncomputable def get : PS → Str → Option PVar
  | [], _ => none
  | (y, p) :: r, x => if y = x then some p else get r x
noncomputable def put : PS → Str → PVar → PS
  | [], x, p => [(x, p)]
  | (y, q) :: r, x, p => if y = x then (x, p) :: r else (y, q) :: put r x p
theorem get_put (S : PS) (x y : Str) (p : PVar) : get (put S x p) y = if y = x then some p else get S y := by
  induction S with
  | nil =>
    simp only [put, get]
    by_cases h : x = y
    · subst h; simp
    · rw [if_neg h, if_neg (Ne.symm h)]
  | cons q r ih =>
    obtain ⟨z, q⟩ := q
    simp only [put, get]
    by_cases h : z = x
    · subst h
      rw [if_pos rfl]
      simp only [get]
      by_cases h2 : z = y
      · subst h2; simp
      · rw [if_neg h2, if_neg h2, if_neg (Ne.symm h2)]
    · rw [if_neg h]
      simp only [get]
      by_cases h2 : z = y
      · subst h2; rw [if_pos rfl, if_pos rfl, if_neg h]
      · rw [if_neg h2, if_neg h2]; exact ih
structure En where
  e : Env
  ow : List Str
structure EnvOk (env : En) : Prop where
  fn : env.e.scope.kind = .function
  gl : env.e.globals = mainGlobals
  bt : env.e.builtins = builtinsNs
noncomputable def CellAt (C : Cx) (env : En) (M : Mz) (h : Heap) (x : Str) (v : Option Value) : Prop :=
  ∃ c, env.e.cells.lookup x = some c ∧ (M c = some (.cell x) ∨ (M c = none ∧ ¬ C.ex c)) ∧ h.IsCell c v
noncomputable def Loc (C : Cx) (env : En) (M : Mz) (h : Heap) (m : Str → Option Value) (x : Str) (v : Value) : Prop :=
  (env.e.kindOf x = some .local ∧ m x = some v) ∨
  (env.e.kindOf x = some .cell ∧ CellAt C env M h x (some v)) ∨
  (env.e.kindOf x = some .free ∧ (x == ("__classdict__" : Str)) = false ∧ CellAt C env M h x (some v))
noncomputable def VarIs (F : Fz) (M : Mz) (h : Heap) (x : Str) (v : Value) : PVar → Prop
  | .val d => Is F v d
  | .own ds => ∃ a vs o, v = .ref a ∧ M a = some (.own x) ∧ h.get? a = some o ∧ LObj o vs ∧ IsAll F vs ds
  | .self a cl fs => ∃ dx es n, v = .ref a ∧ M a = some (.own x) ∧ M dx = some (.ini x) ∧ h.get? a = some (instObj cl dx) ∧ h.get? dx = some (dictOf es n) ∧ IsDict F es fs
structure Rep (C : Cx) (env : En) (F : Fz) (M : Mz) (S : PS) (h : Heap) : Prop extends Wd C F M h where
  vars : ∃ m, h.Ns env.e.locals m ∧ ∀ x pv, get S x = some pv → ∃ v, Loc C env M h m x v ∧ VarIs F M h x v pv
  frame : M env.e.locals = some .frame
  cells : ∀ x ∈ env.ow, env.e.kindOf x = some .cell ∧ ∃ c, env.e.cells.lookup x = some c ∧ M c = some (.cell x) ∧ ∃ ov, h.IsCell c ov
  ev : EnvOk env
structure Stp (F : Fz) (M : Mz) (h : Heap) (F' : Fz) (M' : Mz) (h' : Heap) : Prop where
  ext : ∀ a o, M a = none → h.get? a = some o → h'.get? a = some o
  mono : Le F F'
  fnew : ∀ a o, F' a = some o → F a = some o ∨ h.get? a = none ∨ M a ≠ none
  mnew : ∀ a l, M' a = some l → M a ≠ none ∨ h.get? a = none
section
variable {C : Cx} {env : En} {F F' F'' : Fz} {M M' M'' : Mz} {h h' h'' : Heap} {S : PS}
theorem Stp.refl (F : Fz) (M : Mz) (h : Heap) : Stp F M h F M h := ⟨fun _ _ _ e => e, Le.refl _, fun _ _ e => .inl e, fun a l e => .inl (by rw [e]; simp)⟩
theorem Stp.back (x : Stp F M h F' M' h') {a : Addr} (e : h'.get? a = none) : h.get? a = none ∨ M a ≠ none := by
  cases q : h.get? a with
  | none => exact .inl rfl
  | some o =>
    cases r : M a with
    | none => rw [x.ext a o r q] at e; cases e
    | some l => exact .inr (by simp)
theorem Stp.trans (x : Stp F M h F' M' h') (y : Stp F' M' h' F'' M'' h'') : Stp F M h F'' M'' h'' := by
  refine ⟨fun a o hm e => ?_, x.mono.trans y.mono, fun a o e => ?_, fun a l e => ?_⟩
  · refine y.ext a o ?_ (x.ext a o hm e)
    cases q : M' a with
    | none => rfl
    | some l =>
      rcases x.mnew a l q with r | r
      · exact absurd hm r
      · rw [r] at e; cases e
  · rcases y.fnew a o e with e' | e' | e'
    · exact x.fnew a o e'
    · exact .inr (x.back e')
    · cases q : M' a with
      | none => exact absurd q e'
      | some l => exact .inr ((x.mnew a l q).symm)
  · rcases y.mnew a l e with e' | e'
    · cases q : M' a with
      | none => exact absurd q e'
      | some l' => exact x.mnew a l' q
    · exact (x.back e').symm
theorem Grow.stp (W : Wd C F M h) (g : Grow C F h F' h') : Stp F M h F' M h' :=
  ⟨fun a o hm e => g.ext a o (fun q => by rw [W.mtab _ q] at hm; cases hm) e, g.mono, fun a o e => (g.fnew a o e).elim .inl (fun x => .inr (.inl x)), fun a l e => .inl (by rw [e]; simp)⟩
theorem VarIs.grow (W : Wd C F M h) (g : Grow C F h F' h') {x : Str} {v : Value} {pv : PVar} (H : VarIs F M h x v pv) : VarIs F' M h' x v pv := by
  have ne : ∀ a l, M a = some l → l ≠ .tab → ¬ C.ex a := fun a l e hl q => by rw [W.mtab _ q] at e; cases e; exact hl rfl
  cases pv with
  | val d => exact Is.mono g.mono H
  | own ds =>
    obtain ⟨a, vs, n, e1, e2, e3, l, e4⟩ := H
    exact ⟨a, vs, n, e1, e2, g.ext _ _ (ne _ _ e2 (by nofun)) e3, l, e4.mono g.mono⟩
  | self a cl fs =>
    obtain ⟨dx, es, n, e1, e2, e3, e4, e5, e6⟩ := H
    exact ⟨dx, es, n, e1, e2, e3, g.ext _ _ (ne _ _ e2 (by nofun)) e4, g.ext _ _ (ne _ _ e3 (by nofun)) e5, e6.mono g.mono⟩
theorem CellAt.grow (W : Wd C F M h) (g : Grow C F h F' h') {x : Str} {v : Option Value} (H : CellAt C env M h x v) : CellAt C env M h' x v := by
  obtain ⟨c, e1, e2, o, e3, e4⟩ := H
  refine ⟨c, e1, e2, o, g.ext _ _ (fun q => ?_) e3, e4⟩
  rcases e2 with e2 | e2
  · rw [W.mtab _ q] at e2; cases e2
  · exact e2.2 q
theorem Loc.grow (W : Wd C F M h) (g : Grow C F h F' h') {m : Str → Option Value} {x : Str} {v : Value} (H : Loc C env M h m x v) : Loc C env M h' m x v := by
  rcases H with H | ⟨k, H⟩ | ⟨k, kk, H⟩
  · exact .inl H
  · exact .inr (.inl ⟨k, H.grow W g⟩)
  · exact .inr (.inr ⟨k, kk, H.grow W g⟩)
theorem Rep.grow (R : Rep C env F M S h) (g : Grow C F h F' h') : Rep C env F' M S h' := by
  have W := R.toWd
  refine ⟨W.grow g, ?_, R.frame, ?_, R.ev⟩
  · obtain ⟨m, hn, hv⟩ := R.vars
    refine ⟨m, ?_, fun x pv e => ?_⟩
    · exact hn.at' fun o e => g.ext _ _ (fun q => by have := R.frame; rw [W.mtab _ q] at this; cases this) e
    · obtain ⟨v, l, i⟩ := hv x pv e
      exact ⟨v, l.grow W g, i.grow W g⟩
  · intro x k
    obtain ⟨k1, c, e1, e2, ov, o, e3, e4⟩ := R.cells x k
    exact ⟨k1, c, e1, e2, ov, o, g.ext _ _ (fun q => by rw [W.mtab _ q] at e2; cases e2) e3, e4⟩
end
end
section
section
variable {C : Cx} {env : En} {F F' F'' : Fz} {M M' M'' : Mz} {h h' h'' : Heap} {S : PS} {A : Around} {s : Shared} {E : Value → Shared → Prop}
theorem ld_loc {m : Str → Option Value} {x : Str} {v : Value} {Q : Value → Shared → Prop} (ev : EnvOk env) (hn : s.heap.Ns env.e.locals m) (l : Loc C env M s.heap m x v) (h : Q v s) : wpAny (model C.prog C.w) A (loadName env.e x) Q E s := by
  rcases l with ⟨k, e⟩ | ⟨k, c, e1, _, e3⟩ | ⟨k, kk, c, e1, _, e3⟩
  · exact wpAny_loadName_local ev.fn k hn e h
  · exact wpAny_loadName_cell ev.fn k e1 e3 h
  · exact wpAny_loadName_free ev.fn k e1 e3 h kk
theorem ld_var (R : Rep C env F M S s.heap) {x : Str} {pv : PVar} (e : get S x = some pv) {Q : Value → Shared → Prop} (h : ∀ v, VarIs F M s.heap x v pv → Q v s) : wpAny (model C.prog C.w) A (loadName env.e x) Q E s := by
  obtain ⟨m, hn, hv⟩ := R.vars
  obtain ⟨v, l, i⟩ := hv x pv e
  exact ld_loc R.ev hn l (h v i)
theorem Wd.at (W : Wd C F M h) {a : Addr} {l : Lab} (hs : Heap.SameBut a h h') (hm : M a = some l) (hl : l ≠ .tab) (ha : ∃ o, h'.get? a = some o) : Wd C F M h' := by
  have ne : ¬ C.ex a := fun q => by rw [W.mtab _ q] at hm; cases hm; exact hl rfl
  refine ⟨fun b o e => ?_, W.dis, fun b l' e => ?_, W.base, ?_, W.mtab⟩
  · have hb : b ≠ a := fun q => by have := W.dis b o e; rw [q, hm] at this; cases this
    exact (hs.2 b hb).trans (W.sub b o e)
  · by_cases hb : b = a
    · subst hb; exact ha
    · obtain ⟨o, ho⟩ := W.mex b l' e
      exact ⟨o, (hs.2 b hb).trans ho⟩
  · intro b hb
    obtain ⟨ps, hp, ht⟩ := W.tab b hb
    exact ⟨ps, (hs.2 _ (fun q => ne (q ▸ hb))).trans hp, ht⟩
theorem Stp.at {a : Addr} {l : Lab} (hs : Heap.SameBut a h h') (hm : M a = some l) : Stp F M h F M h' :=
  ⟨fun b o hb e => (hs.2 b (fun q => by rw [q, hm] at hb; cases hb)).trans e, Le.refl _, fun _ _ e => .inl e, fun b l' e => .inl (by rw [e]; simp)⟩
theorem VarIs.at {a : Addr} {l : Lab} (hs : Heap.SameBut a h h') (hm : M a = some l) {x : Str} (h1 : l ≠ .own x) (h2 : l ≠ .ini x) {v : Value} {pv : PVar} (i : VarIs F M h x v pv) : VarIs F M h' x v pv := by
  cases pv with
  | val d => exact i
  | own ds =>
    obtain ⟨b, vs, n, e1, e2, e3, l, e4⟩ := i
    exact ⟨b, vs, n, e1, e2, (hs.2 b (fun q => by rw [q, hm] at e2; cases e2; exact h1 rfl)).trans e3, l, e4⟩
  | self b cl fs =>
    obtain ⟨dx, es, n, e1, e2, e3, e4, e5, e6⟩ := i
    exact ⟨dx, es, n, e1, e2, e3, (hs.2 b (fun q => by rw [q, hm] at e2; cases e2; exact h1 rfl)).trans e4, (hs.2 dx (fun q => by rw [q, hm] at e3; cases e3; exact h2 rfl)).trans e5, e6⟩
theorem CellAt.at {a : Addr} {l : Lab} (hs : Heap.SameBut a h h') (hm : M a = some l) {x : Str} (h1 : l ≠ .cell x) {v : Option Value} (i : CellAt C env M h x v) : CellAt C env M h' x v := by
  obtain ⟨c, e1, e2, o, e3, e4⟩ := i
  refine ⟨c, e1, e2, o, (hs.2 c (fun q => ?_)).trans e3, e4⟩
  rcases e2 with e2 | e2
  · rw [q, hm] at e2; cases e2; exact h1 rfl
  · rw [q, hm] at e2; cases e2.1
theorem Loc.at {a : Addr} {l : Lab} (hs : Heap.SameBut a h h') (hm : M a = some l) {m : Str → Option Value} {x : Str} (h1 : l ≠ .cell x) {v : Value} (i : Loc C env M h m x v) : Loc C env M h' m x v := by
  rcases i with i | ⟨k, i⟩ | ⟨k, kk, i⟩
  · exact .inl i
  · exact .inr (.inl ⟨k, i.at hs hm h1⟩)
  · exact .inr (.inr ⟨k, kk, i.at hs hm h1⟩)
theorem st_var (R : Rep C env F M S s.heap) {x : Str} {v : Value} {pv : PVar} (hk : env.e.kindOf x = some .local ∨ x ∈ env.ow) (i : VarIs F M s.heap x v pv) {Q : Unit → Shared → Prop}
    (h : ∀ h' tk, Rep C env F M (put S x pv) h' → Stp F M s.heap F M h' → Q () { s with heap := h', toks := tk }) : wpAny (model C.prog C.w) A (storeName env.e x v) Q E s := by
  obtain ⟨m, hn, hv⟩ := R.vars
  rcases hk with k | k
  · refine wpAny_storeName_local k hn (fun h' hn' hs => ?_) (by rw [R.ev.fn]; rfl)
    have hL : ∃ o, h'.get? env.e.locals = some o := by obtain ⟨o, _, _, ho, _⟩ := hn'; exact ⟨o, ho⟩
    refine h h' _ ⟨R.toWd.at hs R.frame (by nofun) hL, ⟨_, hn', fun y pv' e => ?_⟩, R.frame, fun y ky => ?_, R.ev⟩ (Stp.at hs R.frame)
    · rw [get_put] at e
      by_cases hy : y = x
      · subst hy
        rw [if_pos rfl] at e; cases e
        exact ⟨v, .inl ⟨k, by simp⟩, i.at hs R.frame (by nofun) (by nofun)⟩
      · rw [if_neg hy] at e
        obtain ⟨u, l, j⟩ := hv y pv' e
        refine ⟨u, ?_, j.at hs R.frame (by nofun) (by nofun)⟩
        have l' := Loc.at (C := C) hs R.frame (by nofun) l
        rcases l' with ⟨k', e'⟩ | l' | l'
        · exact .inl ⟨k', by simp [hy, e']⟩
        · exact .inr (.inl l')
        · exact .inr (.inr l')
    · obtain ⟨k1, c, e1, e2, ov, o, e3, e4⟩ := R.cells y ky
      exact ⟨k1, c, e1, e2, ov, o, (hs.2 c (fun q => by have := R.frame; rw [q] at e2; rw [e2] at this; cases this)).trans e3, e4⟩
  · have hw := k
    obtain ⟨k, c, e1, e2, ov, hc⟩ := R.cells x k
    refine wpAny_storeName_cell R.ev.fn k e1 hc fun h' hc' hs => ?_
    have hL : ∃ o, h'.get? c = some o := by obtain ⟨o, ho, _⟩ := hc'; exact ⟨o, ho⟩
    have hne : env.e.locals ≠ c := fun q => by have := R.frame; rw [q, e2] at this; cases this
    refine h h' _ ⟨R.toWd.at hs e2 (by nofun) hL, ⟨m, hn.sameBut hs hne, fun y pv' e => ?_⟩, R.frame, fun y ky => ?_, R.ev⟩ (Stp.at hs e2)
    · rw [get_put] at e
      by_cases hy : y = x
      · subst hy
        rw [if_pos rfl] at e; cases e
        exact ⟨v, .inr (.inl ⟨k, c, e1, .inl e2, hc'⟩), i.at hs e2 (by nofun) (by nofun)⟩
      · rw [if_neg hy] at e
        obtain ⟨u, l, j⟩ := hv y pv' e
        exact ⟨u, l.at hs e2 (by intro q; cases q; exact hy rfl), j.at hs e2 (by nofun) (by nofun)⟩
    · by_cases hy : y = x
      · subst hy; exact ⟨k, c, e1, e2, _, hc'⟩
      · obtain ⟨k1, c', e1', e2', ov', o, e3, e4⟩ := R.cells y ky
        exact ⟨k1, c', e1', e2', ov', o, (hs.2 c' (fun q => by rw [q, e2] at e2'; cases e2'; exact hy rfl)).trans e3, e4⟩
noncomputable def mset (M : Mz) (a : Addr) (l : Option Lab) : Mz := fun b => if b = a then l else M b
theorem mset_ne (M : Mz) {a b : Addr} (l : Option Lab) (hb : b ≠ a) : mset M a l b = M b := by simp [mset, hb]
theorem mset_self (M : Mz) (a : Addr) (l : Option Lab) : mset M a l a = l := by simp [mset]
theorem freeze_own (R : Rep C env F M S h) {x : Str} {ds : List PV} (e : get S x = some (.own ds)) :
    ∃ F' M', Rep C env F' M' (put S x (.val (.list ds))) h ∧ Stp F M h F' M' h ∧ (∀ a, M' a ≠ none → M a ≠ none) := by
  obtain ⟨m, hn, hv⟩ := R.vars
  obtain ⟨v, l, a, vs, ob, e1, e2, e3, lo, e4⟩ := hv x _ e
  subst e1
  have hF : F a = none := by
    cases q : F a with
    | none => rfl
    | some o => have := R.dis _ _ q; rw [e2] at this; cases this
  have le := fset_le (o := ob) hF
  have htb : ¬ C.ex a := fun q => by rw [R.mtab _ q] at e2; cases e2
  have locM : ∀ {y : Str} {u : Value}, Loc C env M h m y u → Loc C env (mset M a none) h m y u := fun {y u} i => by
    have key : ∀ {ov : Option Value}, CellAt C env M h y ov → CellAt C env (mset M a none) h y ov := fun {ov} i => by
      obtain ⟨c, f1, f2, f3⟩ := i
      refine ⟨c, f1, ?_, f3⟩
      rcases f2 with f2 | f2
      · exact .inl (by rw [mset_ne _ _ (fun q => by rw [q, e2] at f2; cases f2)]; exact f2)
      · refine .inr ⟨?_, f2.2⟩
        unfold mset; split
        · rfl
        · exact f2.1
    rcases i with i | ⟨k, i⟩ | ⟨k, kk, i⟩
    · exact .inl i
    · exact .inr (.inl ⟨k, key i⟩)
    · exact .inr (.inr ⟨k, kk, key i⟩)
  refine ⟨fset F a ob, mset M a none, ⟨⟨fun b o q => ?_, fun b o q => ?_, fun b l' q => ?_, fun b o q => le _ _ (R.base b o q), (R.tab.mono le), fun b hb => by rw [mset_ne _ _ (fun q => by rw [q] at hb; exact htb hb)]; exact R.mtab b hb⟩, ⟨m, hn, fun y pv q => ?_⟩, ?_, fun y ky => ?_, R.ev⟩, ⟨fun _ _ _ q => q, le, fun b o q => ?_, fun b l' q => ?_⟩, fun b q => ?_⟩
  · unfold fset at q; split at q
    · rename_i hb; subst hb; cases q; exact e3
    · exact R.sub b o q
  · unfold fset at q; unfold mset; split at q
    · rename_i hb; rw [if_pos hb]
    · rename_i hb; rw [if_neg hb]; exact R.dis b o q
  · unfold mset at q; split at q
    · cases q
    · exact R.mex b l' q
  · rw [get_put] at q
    split at q
    · rename_i hy; subst hy; cases q
      exact ⟨_, locM l, Is.list (fset_self _ _ _) lo (e4.mono le)⟩
    · rename_i hy
      obtain ⟨u, l', i⟩ := hv y pv q
      refine ⟨u, locM l', ?_⟩
      cases pv with
      | val d => exact Is.mono le i
      | own ds' =>
        obtain ⟨b, vs', n', f1, f2, f3, l3, f4⟩ := i
        exact ⟨b, vs', n', f1, by rw [mset_ne _ _ (fun z => by rw [z, e2] at f2; cases f2; exact hy rfl)]; exact f2, f3, l3, f4.mono le⟩
      | self b cl fs =>
        obtain ⟨dx, es, n', f1, f2, f3, f4, f5, f6⟩ := i
        exact ⟨dx, es, n', f1, by rw [mset_ne _ _ (fun z => by rw [z, e2] at f2; cases f2; exact hy rfl)]; exact f2, by rw [mset_ne _ _ (fun z => by rw [z, e2] at f3; cases f3)]; exact f3, f4, f5, f6.mono le⟩
  · rw [mset_ne _ _ (fun z => by have := R.frame; rw [z, e2] at this; cases this)]; exact R.frame
  · obtain ⟨k1, c, f1, f2, f3⟩ := R.cells y ky
    exact ⟨k1, c, f1, by rw [mset_ne _ _ (fun z => by rw [z, e2] at f2; cases f2)]; exact f2, f3⟩
  · unfold fset at q; split at q
    · rename_i hb; subst hb; exact .inr (.inr (by rw [e2]; simp))
    · exact .inl q
  · unfold mset at q; split at q
    · cases q
    · exact .inl (by rw [q]; simp)
  · unfold mset at q; split at q
    · exact absurd rfl q
    · exact q
theorem Rep.owned (R : Rep C env F M S h) {a : Addr} {o : Obj} (x : Str) (hF : F a = none) (hM : M a = none) (ho : h.get? a = some o) (hc : ∀ v, o.data ≠ .cell v) : Rep C env F (mset M a (some (.own x))) S h := by
  have htb : ¬ C.ex a := fun q => by rw [R.mtab _ q] at hM; cases hM
  have up : ∀ b l, M b = some l → mset M a (some (.own x)) b = some l := fun b l e => by rw [mset_ne _ _ (fun q => by rw [q, hM] at e; cases e)]; exact e
  obtain ⟨m, hn, hv⟩ := R.vars
  refine ⟨⟨R.sub, fun b p e => ?_, fun b l e => ?_, R.base, R.tab, fun b hb => up _ _ (R.mtab b hb)⟩, ⟨m, hn, fun y pv q => ?_⟩, up _ _ R.frame, fun y ky => ?_, R.ev⟩
  · rw [mset_ne _ _ (fun q => by rw [q, hF] at e; cases e)]; exact R.dis b p e
  · unfold mset at e; split at e
    · rename_i hb; subst hb; exact ⟨o, ho⟩
    · exact R.mex b l e
  · obtain ⟨u, l, i⟩ := hv y pv q
    refine ⟨u, ?_, ?_⟩
    · have key : ∀ {ov : Option Value}, CellAt C env M h y ov → CellAt C env (mset M a (some (.own x))) h y ov := fun {ov} i => by
        obtain ⟨c, f1, f2, o', f3, f4⟩ := i
        refine ⟨c, f1, ?_, o', f3, f4⟩
        rcases f2 with f2 | f2
        · exact .inl (up _ _ f2)
        · exact .inr ⟨by rw [mset_ne _ _ (fun z => by rw [z, ho] at f3; cases f3; exact hc _ f4)]; exact f2.1, f2.2⟩
      rcases l with l | ⟨k, l⟩ | ⟨k, kk, l⟩
      · exact .inl l
      · exact .inr (.inl ⟨k, key l⟩)
      · exact .inr (.inr ⟨k, kk, key l⟩)
    · cases pv with
      | val d => exact i
      | own ds' => obtain ⟨b, vs', n', f1, f2, f3, l3, f4⟩ := i; exact ⟨b, vs', n', f1, up _ _ f2, f3, l3, f4⟩
      | self b cl fs => obtain ⟨dx, es, n', f1, f2, f3, f4, f5, f6⟩ := i; exact ⟨dx, es, n', f1, up _ _ f2, up _ _ f3, f4, f5, f6⟩
  · obtain ⟨k1, c, f1, f2, f3⟩ := R.cells y ky
    exact ⟨k1, c, f1, up _ _ f2, f3⟩
end
end
section
noncomputable def Pv (C : Cx) (A : Around) (F : Fz) (s : Shared) (t : Sem Value) (d : PV) : Prop :=
  ∀ (Q : Value → Shared → Prop) (E : Value → Shared → Prop), (∀ v h' tk F', Grow C F s.heap F' h' → Is F' v d → Q v { s with heap := h', toks := tk }) → wpAny (model C.prog C.w) A t Q E s
noncomputable def smallI (a : Int) : Bool := decide (-(2 ^ 64) < a) && decide (a < 2 ^ 64)
noncomputable def strMul (x : Str) (n : Int) : Str := ⟨(List.replicate n.toNat x.cps.toList).flatten.toArray⟩
noncomputable def lenOk (n : Nat) : Bool := decide (n ≤ 3000)
theorem lenOk_of {n : Nat} (h : n ≤ 3000) : lenOk n = true := decide_eq_true h
noncomputable abbrev Sm (a : Int) : Prop := -(2 ^ 64) < a ∧ a < 2 ^ 64
theorem smallI_of {a : Int} (h : Sm a) : smallI a = true := by obtain ⟨h1, h2⟩ := h; unfold smallI; rw [decide_eq_true h1, decide_eq_true h2]; rfl
structure Bo (op : Operator) (a b d : PV) : Prop where
  run : ∀ {C : Cx} {F : Fz} {M : Mz} {s : Shared} {A : Around} {va vb : Value}, Wd C F M s.heap → Is F va a → Is F vb b → Pv C A F s (binaryOp op va vb) d
section
variable {C : Cx} {env : En} {F F' F'' : Fz} {M M' M'' : Mz} {h h' h'' : Heap} {S : PS} {A : Around} {s : Shared} {E : Value → Shared → Prop}
theorem Pv.same (W : Wd C F M s.heap) {t : Sem Value} {d : PV} (h : ∀ (Q : Value → Shared → Prop) (E : Value → Shared → Prop), (∀ v tk, Is F v d → Q v { s with toks := tk }) → wpAny (model C.prog C.w) A t Q E s) : Pv C A F s t d :=
  fun Q E k => h Q E fun v tk i => k v s.heap tk F (Grow.refl W) i
theorem Pv.made (W : Wd C F M s.heap) {t : Sem Value} {d : PV} (o : Obj) (hf : o.isFreed = false) (hi : ∀ F', F' s.heap.objs.size = some o → Le F F' → Is F' (.ref s.heap.objs.size) d)
    (h : ∀ (Q : Value → Shared → Prop) (E : Value → Shared → Prop), (∀ tk, Q (.ref s.heap.objs.size) { s with heap := s.heap.push o, toks := tk }) → wpAny (model C.prog C.w) A t Q E s) : Pv C A F s t d := by
  intro Q E k
  refine h Q E fun tk => ?_
  have g : Grow C F s.heap F (s.heap.push o) := Grow.only W fun a p e => Heap.get?_push_of_some _ e
  have g' := g.freeze W (size_none s.heap) (Heap.get?_push_size s.heap hf)
  exact k _ _ tk _ g' (hi _ (fset_self _ _ _) g'.mono)
theorem isInt {v : Value} {i : Int} (h : Is F v (.int i)) : ∃ t, v = .int i t := by cases h; exact ⟨_, rfl⟩
theorem isStr {v : Value} {x : Str} (h : Is F v (.str x)) : ∃ t, v = .str x t := by cases h; exact ⟨_, rfl⟩
theorem isBytes {v : Value} {x : List UInt8} (h : Is F v (.bytes x)) : ∃ t, v = .bytes x.toArray t := by cases h; exact ⟨_, rfl⟩
theorem isBool {v : Value} {b : Bool} (h : Is F v (.bool b)) : v = .bool b := by cases h; rfl
theorem isNone {v : Value} (h : Is F v .none) : v = .none := by cases h; rfl
theorem isRaw {v u : Value} (h : Is F v (.raw u)) : v = u := by cases h; rfl
theorem isList {v : Value} {ds : List PV} (h : Is F v (.list ds)) : ∃ a vs o, v = .ref a ∧ F a = some o ∧ LObj o vs ∧ IsAll F vs ds := by cases h; exact ⟨_, _, _, rfl, by assumption, by assumption, by assumption⟩
theorem isListO {h : Heap} {a : Addr} {vs : List Value} {o : Obj} (e : h.get? a = some o) (l : LObj o vs) : h.IsList a vs.toArray := ⟨_, e, l.1, l.2.1⟩
theorem isTuple {v : Value} {ds : List PV} (h : Is F v (.tuple ds)) : ∃ a vs n, v = .ref a ∧ F a = some (tupOf vs.toArray n) ∧ IsAll F vs ds := by cases h; exact ⟨_, _, _, rfl, by assumption, by assumption⟩
theorem lenOk_le {n : Nat} (h : lenOk n = true) : n ≤ 3000 := of_decide_eq_true h
theorem smallI_bits {a : Int} (h : Sm a) : Builtin.Int.intBits a ≤ 64 := intBits_le_64 h.1 h.2
theorem foldl_cat (l : List (Array Nat)) : ∀ acc : Array Nat, l.foldl (· ++ ·) acc = acc ++ (l.map Array.toList).flatten.toArray := by
  induction l with
  | nil => intro acc; simp
  | cons x r ih => intro acc; rw [List.foldl_cons, ih]; apply Array.ext'; simp
theorem foldl_catV (l : List (Array Value)) : ∀ acc : Array Value, l.foldl (fun a b => a ++ b) acc = acc ++ (l.map Array.toList).flatten.toArray := by
  induction l with
  | nil => intro acc; simp
  | cons x r ih => intro acc; rw [List.foldl_cons, ih]; apply Array.ext'; simp
theorem mul_is (x : Str) (n : Int) : Txt.mul x n = strMul x n := by
  unfold Txt.mul strMul
  split
  · rename_i h
    have : n.toNat = 0 := by lia
    rw [this]; rfl
  · rename_i h
    split
    · rename_i h2
      obtain ⟨⟨l⟩⟩ := x
      rcases Bool.or_eq_true_iff.mp h2 with h3 | h3
      · have : n = 1 := by simpa using h3
        subst this; simp
      · have : l = [] := by simpa [Str.length] using h3
        subst this; simp
    · rw [foldl_cat]; simp
theorem mul_ok {x : Str} {n : Int} (hx : x.length ≤ 3000) (h1 : n ≤ 3000) (h2 : -3000 ≤ n) : MulOk x n := by
  have hm : x.length * n.toNat ≤ 3000 * 3000 := Nat.mul_le_mul hx (by lia)
  refine ⟨?_, fun hn _ => ?_, fun hn _ => ?_⟩
  · rw [decide_eq_false (by lia), decide_eq_false (by lia)]; rfl
  · have hm2 : (x.length : Int) * n ≤ 3000 * 3000 := by
      have : (x.length : Int) * n = ((x.length * n.toNat : Nat) : Int) := by rw [Int.natCast_mul, Int.toNat_of_nonneg (by lia)]
      lia
    have := (Int.le_ediv_iff_mul_le (a := (x.length : Int)) (b := 2 ^ 63 - 1) (c := n) (by lia)).mpr (by lia)
    lia
  · unfold Builtin.Str.tooLong; rw [sizeLine_eq]; exact decide_eq_false (by lia)
theorem isAll_rep (F : Fz) {vs : List Value} {ds : List PV} (h : IsAll F vs ds) : ∀ n : Nat, IsAll F (List.replicate n vs).flatten (List.replicate n ds).flatten
  | 0 => .nil
  | n + 1 => by rw [List.replicate_succ, List.replicate_succ, List.flatten_cons, List.flatten_cons]; exact h.append (isAll_rep F h n)
end
end
section
section
variable {C : Cx} {env : En} {F F' F'' : Fz} {M M' M'' : Mz} {h h' h'' : Heap} {S : PS} {A : Around} {s : Shared} {E : Value → Shared → Prop}
theorem fdiv_pos {a b : Int} (h : 0 < b) : a.fdiv b = a / b := Int.fdiv_eq_ediv_of_nonneg a (by lia)
theorem fmod_pos {a b : Int} (h : 0 < b) : a.fmod b = a % b := Int.fmod_eq_emod_of_nonneg a (by lia)
variable {a b n : Int} {x y : Str} {u v : List UInt8} {ds es : List PV}
theorem bo_add_int : Bo .Add (.int a) (.int b) (.int (a + b)) := ⟨fun W ia ib => by
  obtain ⟨t, rfl⟩ := isInt ia; obtain ⟨u, rfl⟩ := isInt ib
  exact Pv.same W fun Q E k => add_int (k _ _ (.int _ _))⟩
theorem bo_sub_int : Bo .Sub (.int a) (.int b) (.int (a - b)) := ⟨fun W ia ib => by
  obtain ⟨t, rfl⟩ := isInt ia; obtain ⟨u, rfl⟩ := isInt ib
  exact Pv.same W fun Q E k => sub_int (k _ _ (.int _ _))⟩
theorem bo_mul_int (h : Sm a ∨ Sm b) : Bo .Mult (.int a) (.int b) (.int (a * b)) := ⟨fun W ia ib => by
  obtain ⟨t, rfl⟩ := isInt ia; obtain ⟨u, rfl⟩ := isInt ib
  exact Pv.same W fun Q E k => mul_int (k _ _ (.int _ _)) (h.elim (fun q => IntMulOk.of_left (smallI_bits q)) fun q => IntMulOk.of_right (smallI_bits q))⟩
theorem bo_div (h1 : 0 < b) (h2 : b < 1073741824) : Bo .FloorDiv (.int a) (.int b) (.int (a / b)) := ⟨fun W ia ib => by
  obtain ⟨t, rfl⟩ := isInt ia; obtain ⟨u, rfl⟩ := isInt ib
  exact Pv.same W fun Q E k => floordiv_int (by lia) (by rw [fdiv_pos h1]; exact k _ _ (.int _ _)) (.inl (PyProof.noPylong_small (by lia)))⟩
theorem bo_mod (h1 : 0 < b) : Bo .Mod (.int a) (.int b) (.int (a % b)) := ⟨fun W ia ib => by
  obtain ⟨t, rfl⟩ := isInt ia; obtain ⟨u, rfl⟩ := isInt ib
  exact Pv.same W fun Q E k => mod_int' (by lia) (by rw [fmod_pos h1]; exact k _ _ (.int _ _))⟩
theorem bo_pow (h1 : 0 ≤ n) (h2 : n ≤ 64) (h3 : Sm a) : Bo .Pow (.int a) (.int n) (.int (a ^ n.toNat)) := ⟨fun W ia ib => by
  obtain ⟨t, rfl⟩ := isInt ia; obtain ⟨u, rfl⟩ := isInt ib
  refine Pv.same W fun Q E k => pow_int h1 ?_ (k _ _ (.int _ _))
  have := smallI_bits h3
  have : (Builtin.Int.intBits a : Int) * n ≤ 64 * 64 := Int.mul_le_mul (by lia) h2 h1 (by lia)
  lia⟩
theorem bo_add_str (h1 : x.length ≤ 3000) (h2 : y.length ≤ 3000) : Bo .Add (.str x) (.str y) (.str (x ++ y)) := ⟨fun W ia ib => by
  obtain ⟨t, rfl⟩ := isStr ia; obtain ⟨u, rfl⟩ := isStr ib
  exact Pv.same W fun Q E k => add_str (fun t' tk => k _ _ (.str _ _)) (by rw [sizeLine_eq]; lia)⟩
theorem bo_mul_str (h1 : x.length ≤ 3000) (h2 : n ≤ 3000) (h3 : -3000 ≤ n) : Bo .Mult (.str x) (.int n) (.str (strMul x n)) := ⟨fun W ia ib => by
  obtain ⟨t, rfl⟩ := isStr ia; obtain ⟨u, rfl⟩ := isInt ib
  exact Pv.same W fun Q E k => SB.mul (mul_ok h1 h2 h3) (fun t' tk => by rw [mul_is]; exact k _ _ (.str _ _))⟩
theorem bo_add_bytes (h1 : u.length ≤ 3000) (h2 : v.length ≤ 3000) : Bo .Add (.bytes u) (.bytes v) (.bytes (u ++ v)) := ⟨fun W ia ib => by
  obtain ⟨t, rfl⟩ := isBytes ia; obtain ⟨u, rfl⟩ := isBytes ib
  refine Pv.same W fun Q E k => KBy.add_bytes (by simp; lia) (fun t' tk => ?_)
  simp only [List.append_toArray]
  exact k _ _ (.bytes _ _)⟩
theorem bo_mul_bytes (h1 : n ≤ 3000) (h2 : -3000 ≤ n) (h3 : u.length ≤ 16) (h4 : u ≠ []) : Bo .Mult (.bytes u) (.int n) (.bytes (List.replicate n.toNat u).flatten) := ⟨fun W ia ib => by
  obtain ⟨t, rfl⟩ := isBytes ia; obtain ⟨u, rfl⟩ := isInt ib
  exact Pv.same W fun Q E k => PySem.W.bytes_mul_any h4 (by lia) (by lia) h3 (fun t' tk => k _ _ (.bytes _ _))⟩
theorem bo_add_list (h1 : ds.length ≤ 3000) (h2 : es.length ≤ 3000) : Bo .Add (.list ds) (.list es) (.list (ds ++ es)) := ⟨fun {C F M s A va vb} W ia ib => by
  obtain ⟨l, vs, ⟨c1, d1, dt1, sl1⟩, rfl, e1, ⟨lc1, ⟨n1, ld1⟩, _⟩, i1⟩ := isList ia
  obtain ⟨l2, vs2, ⟨c2, d2, dt2, sl2⟩, rfl, e2, ⟨lc2, ⟨n2, ld2⟩, _⟩, i2⟩ := isList ib
  simp only at lc1 ld1 lc2 ld2
  subst lc1 ld1 lc2 ld2
  have := i1.length
  have := i2.length
  refine Pv.made W (listOf (vs ++ vs2).toArray 0) rfl (fun F' e' le => Is.list e' (LObj.of _ _) ((i1.mono le).append (i2.mono le))) fun Q E k => ?_
  have ho1 := W.sub _ _ e1
  have ho2 := W.sub _ _ e2
  refine concat_meets ⟨_, ho1, rfl⟩ ⟨_, ho2, rfl⟩ noFill_list_add seq_list_add PySem.F.slot_list_add PySem.F.entry_list_add (PySem.F.args_list_add_2 _ _) (list_addW l l2 vs.toArray vs2.toArray n1 n2 d1 d2 sl1 sl2 (by simp only [List.size_toArray]; rw [sizeLine_eq]; lia)) ⟨ho1, ho2, ?_⟩
  have := k s.toks
  simpa using this⟩
theorem bo_mul_list (h1 : n ≤ 3000) (h2 : -3000 ≤ n) (h3 : ds.length ≤ 16) : Bo .Mult (.list ds) (.int n) (.list (List.replicate n.toNat ds).flatten) := ⟨fun {C F M s A va vb} W ia ib => by
  obtain ⟨l, vs, ⟨c1, d1, dt1, sl1⟩, rfl, e1, ⟨lc1, ⟨n1, ld1⟩, _⟩, i1⟩ := isList ia; obtain ⟨u, rfl⟩ := isInt ib
  simp only at lc1 ld1
  subst lc1 ld1
  have := i1.length
  refine Pv.made W (listOf (List.replicate n.toNat vs).flatten.toArray 0) rfl (fun F' e' le => Is.list e' (LObj.of _ _) (isAll_rep F' (i1.mono le) _)) fun Q E k => ?_
  have hsz : vs.toArray.size * n.toNat ≤ 16 * 3000 := Nat.mul_le_mul (by simp; lia) (by lia)
  have ho := W.sub _ _ e1
  refine wpAny_binaryOp_repeat_ref (T := "list") (U := "int") (by decide) ⟨_, ho, rfl⟩ (fun s' => typeIs_int s' n u) noFill_list_mul PySem.F.fills_int_mul PySem.F.slot_int_rmul repeat_list PySem.F.slot_int_index.lookup
    (call_meets PySem.F.slot_int_rmul (typeIs_int s n u) PySem.F.entry_int_rmul (PySem.F.args_int_rmul_2 _ _) (lm_int_rmul_list_any n u l vs.toArray n1 d1 sl1)
      ⟨ho, rfl, ⟨_, ho, rfl⟩, call_meets PySem.F.slot_list_mul ⟨_, ho, rfl⟩ PySem.F.entry_list_mul (PySem.F.args_list_mul_2 _ _)
        (lm_list_mul_any l vs.toArray n1 d1 sl1 n u (by simp [Builtin.List.listFitsIndex]; lia) (by lia) (by simp [Builtin.List.listTooLong, sizeLine]; simp at hsz; lia))
        ⟨ho, ?_⟩⟩)
  have e9 : List.foldl (fun x1 x2 => x1 ++ x2) #[] (List.replicate (if vs.toArray.isEmpty = true then 0 else n.toNat) vs.toArray) = (List.replicate n.toNat vs).flatten.toArray := by
    rw [foldl_catV]
    cases vs with
    | nil => simp
    | cons v r => simp
  rw [e9]
  exact k s.toks⟩
end
end
section
mutual
noncomputable def toPD : PV → Option PyData
  | .none => some .none
  | .bool b => some (.bool b)
  | .int i => some (.int i)
  | .str x => some (.str x)
  | .tuple ds => (toPDs ds).map .tuple
  | .list ds => (toPDs ds).map .list
  | .bytes _ => none
  | .inst _ _ => none
  | .raw _ => none
noncomputable def toPDs : List PV → Option (List PyData)
  | [] => some []
  | d :: ds => match toPD d, toPDs ds with
    | some x, some xs => some (x :: xs)
    | _, _ => none
end
section
variable {C : Cx} {env : En} {F F' F'' : Fz} {M M' M'' : Mz} {h h' h'' : Heap} {S : PS} {A : Around} {s : Shared} {E : Value → Shared → Prop}
theorem reads_both (hs : ∀ a o, F a = some o → h.get? a = some o) : (∀ {v : Value} {d : PV}, Is F v d → ∀ x, toPD d = some x → ∃ as, Reads h v x as) ∧ ∀ {vs : List Value} {ds : List PV}, IsAll F vs ds → ∀ xs, toPDs ds = some xs → ∃ as, ReadsAll h vs xs as := by
  have no : ∀ {v : Value} {x : PyData}, none = some x → ∃ as, Reads h v x as := fun e => by cases e
  have tup : ∀ {a : Addr} {vs : List Value} {n : Nat} {ds : List PV}, F a = some (tupOf vs.toArray n) → IsAll F vs ds → (∀ xs, toPDs ds = some xs → ∃ as, ReadsAll h vs xs as) → ∀ x, toPD (.tuple ds) = some x → ∃ as, Reads h (.ref a) x as := fun hm _ r x e => by
    obtain ⟨xs, e1, rfl⟩ := Option.map_eq_some_iff.mp (show (toPDs _).map .tuple = some x from e)
    obtain ⟨as, q⟩ := r xs e1
    exact ⟨as, reads_tuple_at (hs _ _ hm) rfl rfl (by simpa using q)⟩
  have lst : ∀ {a : Addr} {o : Obj} {vs : List Value} {ds : List PV}, F a = some o → LObj o vs → IsAll F vs ds → (∀ xs, toPDs ds = some xs → ∃ as, ReadsAll h vs xs as) → ∀ x, toPD (.list ds) = some x → ∃ as, Reads h (.ref a) x as := fun hm l _ r x e => by
    obtain ⟨xs, e1, rfl⟩ := Option.map_eq_some_iff.mp (show (toPDs _).map .list = some x from e)
    obtain ⟨as, q⟩ := r xs e1
    obtain ⟨l1, ⟨n, l2⟩, _⟩ := l
    exact ⟨_, reads_list_at (hs _ _ hm) l1 l2 (by simpa using q)⟩
  have cns : ∀ {v : Value} {vs : List Value} {d : PV} {ds : List PV}, Is F v d → IsAll F vs ds → (∀ x, toPD d = some x → ∃ as, Reads h v x as) → (∀ xs, toPDs ds = some xs → ∃ as, ReadsAll h vs xs as) → ∀ xs, toPDs (d :: ds) = some xs → ∃ as, ReadsAll h (v :: vs) xs as := fun {v vs d ds} _ _ p r xs e => by
    have e : (match toPD d, toPDs ds with | some x, some xs => some (x :: xs) | _, _ => none) = some xs := e
    cases q1 : toPD d with
    | none => rw [q1] at e; cases e
    | some x =>
      cases q2 : toPDs ds with
      | none => rw [q1, q2] at e; cases e
      | some xs =>
        rw [q1, q2] at e; cases e
        obtain ⟨as, p1⟩ := p x q1
        obtain ⟨bs, p2⟩ := r xs q2
        exact ⟨_, ReadsAll.cons p1 p2⟩
  have nl : ∀ xs, toPDs [] = some xs → ∃ as, ReadsAll h [] xs as := fun xs e => by cases e; exact ⟨_, ReadsAll.nil⟩
  have a1 : ∀ {v : Value} {d : PV}, Is F v d → ∀ x, toPD d = some x → ∃ as, Reads h v x as := fun {v d} i =>
    Is.rec (motive_1 := fun v d _ => ∀ x, toPD d = some x → ∃ as, Reads h v x as) (motive_2 := fun vs ds _ => ∀ xs, toPDs ds = some xs → ∃ as, ReadsAll h vs xs as) (motive_3 := fun _ _ _ => True)
      (fun x e => by cases e; exact ⟨_, Reads.none⟩) (fun b x e => by cases e; exact ⟨_, Reads.bool b⟩) (fun i t x e => by cases e; exact ⟨_, Reads.int i t⟩) (fun y t x e => by cases e; exact ⟨_, Reads.str y t⟩) (fun b t x e => no e) (fun v x e => no e)
      tup lst (fun _ _ _ _ x e => no e) nl cns trivial (fun _ _ _ _ => trivial) i
  exact ⟨a1, fun {vs ds} i => i.ind (P := fun vs ds => ∀ xs, toPDs ds = some xs → ∃ as, ReadsAll h vs xs as) nl fun a b r => cns a b (a1 a) r⟩
theorem Is.reads (hs : ∀ a o, F a = some o → h.get? a = some o) {v : Value} {d : PV} {x : PyData} (i : Is F v d) (e : toPD d = some x) : ∃ as, Reads h v x as := (reads_both hs).1 i x e
theorem IsAll.reads (hs : ∀ a o, F a = some o → h.get? a = some o) {vs : List Value} {ds : List PV} {xs : List PyData} (i : IsAll F vs ds) (e : toPDs ds = some xs) : ∃ as, ReadsAll h vs xs as := (reads_both hs).2 i xs e
noncomputable def eqPV (a b : PV) : Option Bool := match a, b with
  | .bytes x, .bytes y => some (decide (x = y))
  | .int x, .int y => some (decide (x = y))
  | .str x, .str y => some (decide (x = y))
  | a, b => match toPD a, toPD b with
    | some x, some y => if SeqAt.shaped x && SeqAt.shaped y then some (PyData.eqv x y) else none
    | _, _ => none
noncomputable def inPV (a : PV) (ds : List PV) : Option Bool := match toPD a, toPDs ds with
  | some x, some xs => if x.canLay0 && PyData.canLayAll0 xs && decide (x.depth ≤ 20) then some (xs.any fun y => PyData.eqv y x) else none
  | _, _ => none
structure Cm (op : CmpOp) (a b : PV) (r : Bool) : Prop where
  run : ∀ {C : Cx} {F : Fz} {M : Mz} {s : Shared} {A : Around} {k : Nat} {E Q : Value → Shared → Prop} {va vb : Value}, Wd C F M s.heap → AOk A k → Is F va a → Is F vb b → Q (.bool r) s → wpAny (model C.prog C.w) A (compareOp op va vb) Q E s
theorem Cm.to {op : CmpOp} {a b : PV} {r r' : Bool} (x : Cm op a b r) (e : r = r') : Cm op a b r' := e ▸ x
theorem eqPV_sound {k : Nat} (W : Wd C F M s.heap) (AO : AOk A k) {a b : PV} {r : Bool} {va vb : Value} (e : eqPV a b = some r) (ia : Is F va a) (ib : Is F vb b) {Q : Value → Shared → Prop} :
    (Q (.bool r) s → wpAny (model C.prog C.w) A (compareOp .Eq va vb) Q E s) ∧ (Q (.bool (!r)) s → wpAny (model C.prog C.w) A (compareOp .NotEq va vb) Q E s) := by
  unfold eqPV at e
  split at e
  · cases e
    obtain ⟨t, rfl⟩ := isBytes ia; obtain ⟨u, rfl⟩ := isBytes ib
    rename_i x y
    have q : (x.toArray.toList == y.toArray.toList) = decide (x = y) := by
      rw [List.toList_toArray, List.toList_toArray]; exact Bool.beq_eq_decide_eq x y
    exact ⟨fun h => eq_bytes (by rw [q]; exact h), fun h => ne_bytes (by rw [bne, q]; exact h)⟩
  · cases e
    obtain ⟨t, rfl⟩ := isInt ia; obtain ⟨u, rfl⟩ := isInt ib
    rename_i x y
    have q : (x == y) = decide (x = y) := Bool.beq_eq_decide_eq x y
    exact ⟨fun h => eq_int (by rw [q]; exact h), fun h => ne_int (by rw [bne, q]; exact h)⟩
  · cases e
    obtain ⟨t, rfl⟩ := isStr ia; obtain ⟨u, rfl⟩ := isStr ib
    rename_i x y
    have q : (x == y) = decide (x = y) := Bool.beq_eq_decide_eq x y
    exact ⟨fun h => eq_str (by rw [q]; exact h), fun h => ne_str (by rw [bne, q]; exact h)⟩
  · split at e
    · rename_i x y e1 e2
      split at e
      · rename_i hc
        cases e
        obtain ⟨as, ra⟩ := ia.reads W.sub e1
        obtain ⟨bs, rb⟩ := ib.reads W.sub e2
        simp only [Bool.and_eq_true] at hc
        exact ⟨fun h => eq_dataH ra rb hc.1 hc.2 (by have := AO.units; lia) h, fun h => ne_dataH ra rb hc.1 hc.2 (by have := AO.units; lia) h⟩
      · cases e
    · cases e
theorem inPV_sound {k : Nat} (AO : AOk A k) (hs : ∀ a o, F a = some o → s.heap.get? a = some o) {a : PV} {ds : List PV} {r : Bool} {va : Value} {l : Addr} {vs : List Value} {ob : Obj} (e : inPV a ds = some r) (ia : Is F va a) (hl : s.heap.get? l = some ob) (lo : LObj ob vs) (ib : IsAll F vs ds) {Q : Value → Shared → Prop}
    (h : Q (.bool (!r)) s) : wpAny (model C.prog C.w) A (compareOp .NotIn va (.ref l)) Q E s := by
  unfold inPV at e
  split at e
  · rename_i x xs e1 e2
    split at e
    · rename_i hc
      cases e
      simp only [Bool.and_eq_true, decide_eq_true_eq] at hc
      obtain ⟨as, ra⟩ := ia.reads hs e1
      obtain ⟨bs, rb⟩ := ib.reads hs e2
      refine SeqAt.notIn_list_reads (reads_list_at hl lo.1 lo.2.1.choose_spec (by simpa using rb)) ra hc.1.2 hc.1.1 ?_ h
      have := AO.units
      have := Nat.min_le_right (PyData.depthAll xs) x.depth
      lia
    · cases e
  · cases e
section
variable {a b : Int} {x y : Str} {u v : List UInt8} {p q : Bool} {d e : PV}
theorem int2 {P : Value → Value → Prop} (h : ∀ t u, P (.int a t) (.int b u)) {va vb : Value} (ia : Is F va (.int a)) (ib : Is F vb (.int b)) : P va vb := by
  obtain ⟨t, rfl⟩ := isInt ia; obtain ⟨u, rfl⟩ := isInt ib; exact h t u
theorem cm_lt : Cm .Lt (.int a) (.int b) (decide (a < b)) := ⟨fun {_ _ _ s A _ E Q _ _} _ _ ia ib h => int2 (P := fun va vb => wpAny _ A (compareOp .Lt va vb) Q E s) (fun _ _ => lt_int h) ia ib⟩
theorem cm_le : Cm .LtE (.int a) (.int b) (decide (a ≤ b)) := ⟨fun {_ _ _ s A _ E Q _ _} _ _ ia ib h => int2 (P := fun va vb => wpAny _ A (compareOp .LtE va vb) Q E s) (fun _ _ => le_int h) ia ib⟩
theorem cm_gt : Cm .Gt (.int a) (.int b) (decide (b < a)) := ⟨fun {_ _ _ s A _ E Q _ _} _ _ ia ib h => int2 (P := fun va vb => wpAny _ A (compareOp .Gt va vb) Q E s) (fun _ _ => gt_int h) ia ib⟩
theorem cm_ge : Cm .GtE (.int a) (.int b) (decide (b ≤ a)) := ⟨fun {_ _ _ s A _ E Q _ _} _ _ ia ib h => int2 (P := fun va vb => wpAny _ A (compareOp .GtE va vb) Q E s) (fun _ _ => ge_int h) ia ib⟩
theorem cm_is : Cm .Is (.bool p) (.bool q) (p == q) := ⟨fun _ _ ia ib h => by obtain rfl := isBool ia; obtain rfl := isBool ib; exact is_bool h⟩
theorem cm_isnot : Cm .IsNot (.bool p) (.bool q) (p != q) := ⟨fun _ _ ia ib h => by obtain rfl := isBool ia; obtain rfl := isBool ib; exact isnot_bool h⟩
theorem cm_eq (h : eqPV d e = some p) : Cm .Eq d e p := ⟨fun W AO ia ib q => (eqPV_sound W AO h ia ib).1 q⟩
theorem cm_ne (h : eqPV d e = some p) : Cm .NotEq d e (!p) := ⟨fun W AO ia ib q => (eqPV_sound W AO h ia ib).2 q⟩
theorem cm_eq_int : Cm .Eq (.int a) (.int b) (decide (a = b)) := cm_eq rfl
theorem cm_ne_int : Cm .NotEq (.int a) (.int b) (!decide (a = b)) := cm_ne rfl
theorem cm_eq_str : Cm .Eq (.str x) (.str y) (decide (x = y)) := cm_eq rfl
theorem cm_ne_str : Cm .NotEq (.str x) (.str y) (!decide (x = y)) := cm_ne rfl
theorem cm_eq_bytes : Cm .Eq (.bytes u) (.bytes v) (decide (u = v)) := cm_eq rfl
theorem cm_ne_bytes : Cm .NotEq (.bytes u) (.bytes v) (!decide (u = v)) := cm_ne rfl
end
noncomputable def truth : PV → Option Bool
  | .bool b => some b
  | .int i => some (i != 0)
  | _ => none
theorem truth_sound {a : PV} {r : Bool} {va : Value} (e : truth a = some r) (ia : Is F va a) {Q : Bool → Shared → Prop} (h : Q r s) : wpAny (model C.prog C.w) A (truthy va) Q E s := by
  unfold truth at e
  split at e
  · cases e; obtain rfl := isBool ia; exact wpAny_truthy_bool h
  · cases e; obtain ⟨t, rfl⟩ := isInt ia; exact truthy_int h
  · cases e
end
end
section
noncomputable def idx {α : Type} (ds : List α) (k : Int) : Option α :=
  if lenOk ds.length then (if 0 ≤ k then (if k < 2 ^ 60 then ds[k.toNat]? else none) else if -(ds.length : Int) ≤ k then ds[(k + ds.length).toNat]? else none) else none
noncomputable def cut {α : Type} (xs : List α) (lo hi : Option Int) : List α := (xs.take (hi.elim xs.length Int.toNat)).drop (lo.elim 0 Int.toNat)
noncomputable def nonneg : Option Int → Bool
  | none => true
  | some i => decide (0 ≤ i)
theorem nonneg_some {k : Int} (h : 0 ≤ k) : nonneg (some k) = true := decide_eq_true h
theorem nonneg_none : nonneg none = true := rfl
noncomputable def optPV : Option Int → PV
  | none => .none
  | some i => .int i
noncomputable def isSlice : Expr → Bool
  | .Slice .. => true
  | _ => false
structure Sb (a b d : PV) : Prop where
  run : ∀ {C : Cx} {F : Fz} {M : Mz} {s : Shared} {A : Around} {value slice : Expr} {va vb : Value}, Wd C F M s.heap → isSlice slice = false → Is F va a → Is F vb b → Pv C A F s (subscriptTail value slice va vb) d
structure Sl (a : PV) (lo hi : Option Int) (d : PV) : Prop where
  run : ∀ {C : Cx} {F : Fz} {M : Mz} {s : Shared} {A : Around} {value : Expr} {le ue : Option Expr} {p : Pos} {va vl vu : Value}, Wd C F M s.heap → Is F va a → Is F vl (optPV lo) → Is F vu (optPV hi) → ∀ (Q : Value → Shared → Prop) (E : Value → Shared → Prop),
    (∀ v h' tk F', Grow C F s.heap F' h' → Is F' v d → Q v { s with heap := h', toks := tk }) → wpAny (model C.prog C.w) A (subscriptTail value (.Slice le ue none p) va (.ref s.heap.objs.size)) Q E { s with heap := s.heap.push { cls := .type "slice", data := .fields #[vl, vu, .none] } }
theorem clip_nn {i : Int} (h : 0 ≤ i) (n : Nat) : clipAt n i = min i.toNat n := by
  have := clipAt_nat n i.toNat
  rwa [Int.toNat_of_nonneg h] at this
theorem bounds_cut {lo hi : Option Int} (h1 : nonneg lo = true) (h2 : nonneg hi = true) (n : Nat) : sliceBounds lo hi none n = (((min (lo.elim 0 Int.toNat) n : Nat) : Int), ((min (hi.elim n Int.toNat) n : Nat) : Int), 1) := by
  rw [sliceBounds_plain]
  have e1 : (lo.elim 0 (clipAt n) : Nat) = min (lo.elim 0 Int.toNat) n := by
    cases lo with
    | none => simp
    | some i => exact clip_nn (of_decide_eq_true h1) n
  have e2 : (hi.elim n (clipAt n) : Nat) = min (hi.elim n Int.toNat) n := by
    cases hi with
    | none => simp
    | some i => exact clip_nn (of_decide_eq_true h2) n
  rw [e1, e2]
theorem cut_run {α : Type} (xs : Array α) {lo hi : Option Int} (h1 : nonneg lo = true) (h2 : nonneg hi = true) :
    (sliceRange (sliceBounds lo hi none xs.size).1 (sliceBounds lo hi none xs.size).2.1 (sliceBounds lo hi none xs.size).2.2).filterMap (xs[·]?) = cut xs.toList lo hi := by
  rw [bounds_cut h1 h2]
  dsimp only
  rw [sliceRange_one, pick_run]
  unfold cut
  rw [List.drop_take]
  have e2 : (hi.elim xs.toList.length Int.toNat) = hi.elim xs.size Int.toNat := by simp
  rw [e2]
  generalize lo.elim 0 Int.toNat = a
  generalize hi.elim xs.size Int.toNat = b
  by_cases ha : a ≤ xs.size
  · rw [Nat.min_eq_left ha]
    by_cases hb : b ≤ xs.size
    · rw [Nat.min_eq_left hb]
    · rw [Nat.min_eq_right (a := b) (b := xs.size) (by lia)]
      have hl : (xs.toList.drop a).length = xs.size - a := by simp
      rw [List.take_of_length_le (Nat.le_of_eq hl), List.take_of_length_le (by rw [hl]; lia)]
  · rw [Nat.min_eq_right (a := a) (b := xs.size) (by lia)]
    rw [List.drop_of_length_le (l := xs.toList) (i := xs.size) (by simp), List.drop_of_length_le (l := xs.toList) (i := a) (by simp; lia)]
    simp
theorem strIdx_eq (lo hi : Option Int) (n : Nat) : Builtin.Str.strSliceIndices lo hi 1 n = sliceRange (sliceBounds lo hi none n).1 (sliceBounds lo hi none n).2.1 (sliceBounds lo hi none n).2.2 := by
  cases lo <;> cases hi <;> rfl
section
variable {C : Cx} {env : En} {F F' F'' : Fz} {M M' M'' : Mz} {h h' h'' : Heap} {S : PS} {A : Around} {s : Shared} {E : Value → Shared → Prop}
theorem sub_plain {e : Expr} (hn : isSlice e = false) (o i : Value) : subscripted e false o i = operate [o, i] (getItem o i) := by
  cases e <;> first | rfl | cases hn
theorem txt_slice {x : Str} {lo hi : Option Int} (h1 : nonneg lo = true) (h2 : nonneg hi = true) : Txt.slice x lo hi = ⟨(cut x.cps.toList lo hi).toArray⟩ := by
  unfold Txt.slice
  rw [strIdx_eq]
  have := cut_run x.cps h1 h2
  unfold Str.length
  rw [this]
  split
  · rename_i hc
    have hb := bounds_cut h1 h2 x.cps.size
    have hL : (sliceRange (sliceBounds lo hi none x.cps.size).1 (sliceBounds lo hi none x.cps.size).2.1 (sliceBounds lo hi none x.cps.size).2.2).length = x.cps.size := by simpa using hc
    rw [hb] at hL this
    dsimp only at hL this
    rw [sliceRange_one] at hL this
    rw [List.length_map, List.length_range] at hL
    rw [pick_run] at this
    have hA := Nat.min_le_right (lo.elim 0 Int.toNat) x.cps.size
    have hB := Nat.min_le_right (hi.elim x.cps.size Int.toNat) x.cps.size
    rw [← this, hL]
    generalize min (lo.elim 0 Int.toNat) x.cps.size = a at *
    generalize min (hi.elim x.cps.size Int.toNat) x.cps.size = b at *
    obtain ⟨c⟩ := x
    by_cases h0 : c.size = 0
    · have : c = #[] := by simpa using h0
      subst this; simp
    · have ha : a = 0 := by simp only at hL hA hB h0; lia
      subst ha
      show (⟨c⟩ : Str) = ⟨(List.take c.size (List.drop 0 c.toList)).toArray⟩
      rw [List.drop_zero, List.take_of_length_le (by simp)]
  · rfl
theorem idx_get {α : Type} {ds : List α} {k : Int} {d : α} (e : idx ds k = some d) : ds.length ≤ 3000 ∧ ((0 ≤ k ∧ k < 2 ^ 60 ∧ ds[k.toNat]? = some d) ∨ (k < 0 ∧ -(ds.length : Int) ≤ k ∧ ds[(k + ds.length).toNat]? = some d)) := by
  unfold idx at e
  split at e
  · rename_i h0
    refine ⟨lenOk_le h0, ?_⟩
    split at e
    · rename_i h1
      split at e
      · rename_i h2; exact .inl ⟨h1, h2, e⟩
      · cases e
    · rename_i h1
      split at e
      · rename_i h2; exact .inr ⟨by lia, h2, e⟩
      · cases e
  · cases e
theorem seqIdx_pos {k : Int} {n : Nat} (h0 : 0 ≤ k) (h1 : k < n) : seqIndex? k n = some k.toNat := by
  unfold seqIndex?
  simp only []
  rw [if_neg (show ¬ k < 0 by lia), if_pos (by simp; lia)]
theorem seqIdx_neg {k : Int} {n : Nat} (h0 : k < 0) (h1 : -(n : Int) ≤ k) : seqIndex? k n = some (k + n).toNat := by
  unfold seqIndex?
  simp only []
  rw [if_pos h0, if_pos (by simp; lia)]
theorem isTupOf {h : Heap} {a : Addr} {vs : List Value} {n : Nat} (e : h.get? a = some (tupOf vs.toArray n)) : IsTup h a vs.toArray := ⟨_, e, rfl, n, rfl⟩
theorem list_idx {value slice : Expr} (hn : isSlice slice = false) {l : Addr} {vs : List Value} {k : Int} {u : Tok} {x : Value} {Q : Value → Shared → Prop} (hl : s.heap.IsList l vs.toArray) (hk : idx vs k = some x) (h : Q x s) :
    wpAny (model C.prog C.w) A (subscriptTail value slice (.ref l) (.int k u)) Q E s := by
  refine tail_any hl.typeIs slot_list_getitem.lookup ?_ (sub_plain hn _ _)
  obtain ⟨hz, ⟨h0, h1, h2⟩ | ⟨h0, h1, h2⟩⟩ := idx_get hk
  · exact wpAny_getItem_list hl h0 (by lia) (by simpa using h2) h
  · exact wpAny_getItem_list_neg hl h0 (by simpa using h1) (by lia) (by simpa using h2) h
theorem idx_is {vs : List Value} {ds : List PV} {k : Int} {d : PV} (i : IsAll F vs ds) (e : idx ds k = some d) : ∃ v, idx vs k = some v ∧ Is F v d := by
  have hl := i.length
  obtain ⟨hz, ⟨h0, h1, h2⟩ | ⟨h0, h1, h2⟩⟩ := idx_get e
  · obtain ⟨v, e1, e2⟩ := i.get h2
    refine ⟨v, ?_, e2⟩
    unfold idx
    rw [if_pos (by rw [hl]; exact decide_eq_true hz), if_pos h0, if_pos h1]
    exact e1
  · obtain ⟨v, e1, e2⟩ := i.get h2
    refine ⟨v, ?_, e2⟩
    unfold idx
    rw [if_pos (by rw [hl]; exact decide_eq_true hz), if_neg (by lia), if_pos (by rw [hl]; exact h1), hl]
    exact e1
section
variable {k : Int} {x : Str} {u : List UInt8} {ds : List PV} {d : PV}
theorem sb_list (e : idx ds k = some d) : Sb (.list ds) (.int k) d := ⟨fun W hn ia ib => by
  obtain ⟨l, vs, n, rfl, e1, lo, i1⟩ := isList ia
  obtain ⟨u, rfl⟩ := isInt ib
  obtain ⟨v, e2, i2⟩ := idx_is i1 e
  exact Pv.same W fun Q E k => list_idx hn (isListO (W.sub _ _ e1) lo) e2 (k _ _ i2)⟩
theorem sb_tuple (e : idx ds k = some d) : Sb (.tuple ds) (.int k) d := ⟨fun W hn ia ib => by
  obtain ⟨l, vs, n, rfl, e1, i1⟩ := isTuple ia
  obtain ⟨u, rfl⟩ := isInt ib
  obtain ⟨v, e2, i2⟩ := idx_is i1 e
  refine Pv.same W fun Q E k => tail_any (isTupOf (W.sub _ _ e1)).typeIs slot_tuple_getitem.lookup ?_ (sub_plain hn _ _)
  obtain ⟨hz, ⟨h0, h1, h2⟩ | ⟨h0, h1, h2⟩⟩ := idx_get e2
  · have hlt := (List.getElem?_eq_some_iff.mp h2).1
    exact PyProof.Rows.getItem_tuple (isTupOf (W.sub _ _ e1)) (by lia) (by lia) (seqIdx_pos h0 (by simp; lia)) (by simpa using h2) (k _ _ i2)
  · exact PyProof.Rows.getItem_tuple (isTupOf (W.sub _ _ e1)) (by lia) (by lia) (seqIdx_neg h0 (by simpa using h1)) (by simpa using h2) (k _ _ i2)⟩
theorem sb_str {c : Nat} (h0 : 0 ≤ k) (e : idx x.cps.toList k = some c) : Sb (.str x) (.int k) (.str ⟨#[c]⟩) := ⟨fun {C F M s A value slice va vb} W hn ia ib => by
  obtain ⟨t, rfl⟩ := isStr ia; obtain ⟨u, rfl⟩ := isInt ib
  refine Pv.same W fun Q E kk => tail_any (typeIs_str s x t) PySem.F.slot_str_getitem.lookup ?_ (sub_plain hn _ _)
  obtain ⟨hz, ⟨h0, h1, h2⟩ | ⟨h0, h1, h2⟩⟩ := idx_get e
  · refine P.getItem_str (by rw [decide_eq_false (by lia), decide_eq_false (by lia)]; rfl) ?_ (kk _ _ (.str _ _))
    have hlt := (List.getElem?_eq_some_iff.mp h2).1
    rw [show seqIndex? k x.length = some k.toNat from seqIdx_pos h0 (by unfold Str.length; simp at hlt; lia)]
    simpa using h2
  · lia⟩
theorem sb_bytes {c : UInt8} (h0 : 0 ≤ k) (e : idx u k = some c) : Sb (.bytes u) (.int k) (.int c.toNat) := ⟨fun {C F M s A value slice va vb} W hn ia ib => by
  obtain ⟨t, rfl⟩ := isBytes ia; obtain ⟨t', rfl⟩ := isInt ib
  refine Pv.same W fun Q E kk => tail_any (typeIs_bytes s _ t) FB.slot_bytes_getitem.lookup ?_ (sub_plain hn _ _)
  obtain ⟨hz, ⟨h0, h1, h2⟩ | ⟨h0, h1, h2⟩⟩ := idx_get e
  · have hlt := (List.getElem?_eq_some_iff.mp h2).1
    refine getItem_bytes (by lia) h0 (by lia) ?_
    rw [show u.getD k.toNat 0 = c by simp [List.getD, h2]]
    exact kk _ _ (.int _ _)
  · lia⟩
end
theorem tail_of_ItemOn' {value slice : Expr} {o i : Value} {ops : List Value} {Q : Value → Shared → Prop} (h : ItemOn (model C.prog C.w) A E o i Q s) (hs : subscripted slice false o i = operate ops (getItem o i)) :
    wpAny (model C.prog C.w) A (subscriptTail value slice o i) Q E s := by
  obtain ⟨T, id, hl, hT, hg⟩ := h
  exact tail_any hT hl hg hs
theorem isOpt {v : Value} {lo : Option Int} (h : Is F v (optPV lo)) : IsPart v lo := by
  cases lo with
  | none => rw [isNone h]; exact .none
  | some i => obtain ⟨t, rfl⟩ := isInt h; exact .int _ _
theorem cut_is {vs : List Value} {ds : List PV} (i : IsAll F vs ds) (lo hi : Option Int) : IsAll F (cut vs lo hi) (cut ds lo hi) := by
  unfold cut
  rw [i.length]
  exact (i.take _).drop _
section
variable {lo hi : Option Int} {x : Str} {u : List UInt8} {ds : List PV}
theorem sl_list (hz : ds.length ≤ 3000) (h1 : nonneg lo = true) (h2 : nonneg hi = true) : Sl (.list ds) lo hi (.list (cut ds lo hi)) := ⟨fun {C F M s A value le ue p va vl vu} W ia il iu Q E k => by
  obtain ⟨l, vs, n, rfl, e1, lob, i1⟩ := isList ia
  have hl := isListO (W.sub _ _ e1) lob
  refine tail_any (hl.push _).typeIs slot_list_getitem.lookup ?_ rfl
  refine wpAny_getItem_list_slice (hl.push _) (Heap.IsSliceOf.new ..) (isOpt il) (isOpt iu) .none (by simp) ?_ (by have := i1.length; simp; rw [sizeLine_eq]; lia)
  have ecut : slicePick vs.toArray lo hi none = (cut vs lo hi).toArray := by
    unfold slicePick
    rw [cut_run vs.toArray h1 h2]
  rw [ecut]
  have g : Grow C F s.heap F ((s.heap.push { cls := .type "slice", data := .fields #[vl, vu, .none] }).push (listOf (cut vs lo hi).toArray 0)) := Grow.only W fun a p e => Heap.get?_push_of_some _ (Heap.get?_push_of_some _ e)
  have hnew : s.heap.get? (s.heap.push { cls := .type "slice", data := .fields #[vl, vu, .none] }).objs.size = none := by
    cases q : s.heap.get? (s.heap.push { cls := .type "slice", data := .fields #[vl, vu, .none] }).objs.size with
    | none => rfl
    | some o =>
      have h1 := Heap.lt_size q
      have h2 := Heap.size_push s.heap { cls := .type "slice", data := .fields #[vl, vu, .none] }
      exact absurd (Nat.lt_trans (Nat.lt_succ_self _) (h2 ▸ h1)) (Nat.lt_irrefl _)
  have g' := g.freeze W hnew (Heap.get?_push_size _ rfl)
  exact k _ _ _ _ g' (Is.list (fset_self _ _ _) (LObj.of _ _) ((cut_is i1 lo hi).mono g'.mono))⟩
theorem sl_str (hx : x.length ≤ 3000) (h1 : nonneg lo = true) (h2 : nonneg hi = true) : Sl (.str x) lo hi (.str ⟨(cut x.cps.toList lo hi).toArray⟩) := ⟨fun {C F M s A value le ue p va vl vu} W ia il iu Q E k => by
  obtain ⟨t, rfl⟩ := isStr ia
  have hz : x.length ≤ sizeLine := by rw [sizeLine_eq]; lia
  have kp : KeptH (fun h => ∀ a o, s.heap.get? a = some o → h.get? a = some o) := fun h ob hh a o e => Heap.get?_push_of_some _ (hh a o e)
  have fin : ∀ h' t' tk, (∀ a o, s.heap.get? a = some o → h'.get? a = some o) → Q (.str (Txt.slice x lo hi) t') { s with heap := h', toks := tk } := fun h' t' tk hh => by
    rw [txt_slice h1 h2]
    exact k _ _ _ _ (Grow.only W hh) (.str _ _)
  have hs : ∀ o i, subscripted (.Slice le ue none p) false o i = operate [i, o] (getItem o i) := fun _ _ => rfl
  cases lo with
  | none =>
    obtain rfl := isNone il
    cases hi with
    | none =>
      obtain rfl := isNone iu
      exact tail_of_ItemOn' (SBH.sliceItem_nn kp (fun _ _ e => e) fin hz) (hs _ _)
    | some j =>
      obtain ⟨uj, rfl⟩ := isInt iu
      exact tail_of_ItemOn' (SBH.sliceItem_ns kp (fun _ _ e => e) fin hz) (hs _ _)
  | some i =>
    obtain ⟨ui, rfl⟩ := isInt il
    cases hi with
    | none =>
      obtain rfl := isNone iu
      exact tail_of_ItemOn' (SBH.sliceItem_sn kp (fun _ _ e => e) fin hz) (hs _ _)
    | some j =>
      obtain ⟨uj, rfl⟩ := isInt iu
      exact tail_of_ItemOn' (SBH.sliceItem_ss kp (fun _ _ e => e) fin hz) (hs _ _)⟩
theorem sl_bytes (hz : u.length ≤ 3000) (h1 : nonneg lo = true) (h2 : nonneg hi = true) : Sl (.bytes u) lo hi (.bytes (cut u lo hi)) := ⟨fun {C F M s A value le ue p va vl vu} W ia il iu Q E k => by
  obtain ⟨t, rfl⟩ := isBytes ia
  refine tail_any (typeIs_bytes _ _ t) FB.slot_bytes_getitem.lookup ?_ rfl
  have ecut : KBy.picked u.toArray lo hi = (cut u lo hi).toArray := by
    unfold KBy.picked Builtin.Bytes.sliced
    rw [cut_run u.toArray h1 h2]
  refine getItem_meets (typeIs_bytes _ _ _) (by decide) FB.slot_bytes_getitem FB.entry_bytes_getitem (FB.args_bytes_getitem_2 _ _) (KBc.meets_slice2 u.toArray t _ (isOpt il) (isOpt iu)) ⟨Heap.IsSliceOf.new .., ?_, fun t' tk => ?_⟩
  · rw [ecut]
    simp only [List.size_toArray, cut, List.length_drop, List.length_take]
    rw [sizeLine_eq]; lia
  · rw [ecut]
    exact k _ _ _ _ (Grow.only W fun a o e => Heap.get?_push_of_some _ e) (.bytes _ _)⟩
end
end
end
section
noncomputable def maxI : List Int → Int
  | [] => 0
  | x :: r => r.foldl max x
noncomputable def insI (x : Int) : List Int → List Int
  | [] => [x]
  | y :: r => if x ≤ y then x :: y :: r else y :: insI x r
noncomputable def sortI : List Int → List Int
  | [] => []
  | x :: r => insI x (sortI r)
noncomputable def bytesOf (ns : List Int) : List UInt8 := ns.map fun n => n.toNat.toUInt8
section
variable {C : Cx} {env : En} {F F' F'' : Fz} {M M' M'' : Mz} {h h' h'' : Heap} {S : PS} {A : Around} {s : Shared} {E : Value → Shared → Prop}
theorem IsAll.ints : ∀ {vs : List Value} {ns : List Int}, IsAll F vs (ns.map .int) → IntsAre vs ns
  | _, [], i => by cases i; exact .nil
  | _, n :: ns, i => by
    rw [List.map_cons] at i
    cases i with | cons i r => obtain ⟨t, rfl⟩ := isInt i; exact .cons _ _ r.ints
theorem isAll1 {vs : List Value} {d : PV} (i : IsAll F vs [d]) : ∃ v, vs = [v] ∧ Is F v d := by
  cases i with | cons i r => cases r; exact ⟨_, rfl, i⟩
theorem isAll2 {vs : List Value} {d d' : PV} (i : IsAll F vs [d, d']) : ∃ v v', vs = [v, v'] ∧ Is F v d ∧ Is F v' d' := by
  cases i with | cons i r => obtain ⟨v, rfl, j⟩ := isAll1 r; exact ⟨_, _, rfl, i, j⟩
theorem isAll_ofInts : ∀ {vs : List Value} {ns : List Int}, IntsAre vs ns → IsAll F vs (ns.map .int)
  | _, _, .nil => .nil
  | _, _, .cons n t r => .cons (.int n t) (isAll_ofInts r)
theorem foldl_max_ge : ∀ (r : List Int) (x : Int), x ≤ r.foldl max x ∧ (∀ y ∈ r, y ≤ r.foldl max x) ∧ (r.foldl max x = x ∨ r.foldl max x ∈ r)
  | [], x => ⟨Int.le_refl _, fun _ h => (nomatch h), .inl rfl⟩
  | y :: r, x => by
    obtain ⟨h1, h2, h3⟩ := foldl_max_ge r (max x y)
    rw [List.foldl_cons]
    refine ⟨by lia, fun z hz => ?_, ?_⟩
    · rcases List.mem_cons.mp hz with rfl | hz
      · lia
      · exact h2 z hz
    · rcases h3 with h3 | h3
      · rw [h3]
        by_cases q : x ≤ y
        · exact .inr (by rw [Int.max_eq_right q]; exact .head _)
        · exact .inl (Int.max_eq_left (by lia))
      · exact .inr (.tail _ h3)
theorem maxI_of {ns : List Int} {m : Int} (h : m ∈ ns) (h2 : ∀ a ∈ ns, a ≤ m) : m = maxI ns := by
  cases ns with
  | nil => cases h
  | cons x r =>
    obtain ⟨g1, g2, g3⟩ := foldl_max_ge r x
    show m = r.foldl max x
    have a1 : r.foldl max x ≤ m := by
      rcases g3 with g3 | g3
      · rw [g3]; exact h2 _ (.head _)
      · exact h2 _ (.tail _ g3)
    rcases List.mem_cons.mp h with rfl | h
    · lia
    · have := g2 m h; lia
theorem insI_perm (x : Int) : ∀ l : List Int, (insI x l).Perm (x :: l)
  | [] => .refl _
  | y :: r => by
    unfold insI
    split
    · exact .refl _
    · exact ((insI_perm x r).cons y).trans (.swap x y r)
theorem sortI_perm : ∀ l : List Int, (sortI l).Perm l
  | [] => .refl _
  | x :: r => (insI_perm x _).trans ((sortI_perm r).cons x)
theorem insI_pw (x : Int) : ∀ l : List Int, l.Pairwise (· ≤ ·) → (insI x l).Pairwise (· ≤ ·)
  | [], _ => by simp [insI]
  | y :: r, h => by
    obtain ⟨h1, h2⟩ := List.pairwise_cons.mp h
    unfold insI
    split
    · rename_i q
      refine List.pairwise_cons.mpr ⟨fun z hz => ?_, h⟩
      rcases List.mem_cons.mp hz with rfl | hz
      · exact q
      · have := h1 z hz; lia
    · rename_i q
      refine List.pairwise_cons.mpr ⟨fun z hz => ?_, insI_pw x r h2⟩
      rcases List.mem_cons.mp ((insI_perm x r).mem_iff.mp hz) with rfl | hz
      · lia
      · exact h1 z hz
theorem sortI_pw : ∀ l : List Int, (sortI l).Pairwise (· ≤ ·)
  | [] => .nil
  | x :: r => insI_pw x _ (sortI_pw r)
theorem sorted_unique : ∀ {l l' : List Int}, l.Perm l' → l.Pairwise (· ≤ ·) → l'.Pairwise (· ≤ ·) → l = l' := fun p a b =>
  p.eq_of_pairwise (fun _ _ _ _ x y => Int.le_antisymm x y) a b
theorem max_rule {l : Addr} {vs : List Value} {ns : List Int} {Q : Value → Shared → Prop} (hh : A.handled = none) (hl : s.heap.IsList l vs.toArray) (hi : IntsAre vs ns) (hne : 0 < ns.length)
    (h : ∀ h' (t : Tok) tk, (∀ b o, s.heap.get? b = some o → h'.get? b = some o) → Q (.int (maxI ns) t) { s with heap := h', toks := tk }) :
    wpAny (model C.prog C.w) A (call (.builtin "max") [.ref l]) Q E s := by
  obtain ⟨xs, e⟩ := hi.allInts.items
  have hns : ns = xs.toList.map (·.1) := by
    rw [← hi.numsOf, ← nums_intItems, ← e]
  have hsz : 0 < xs.size := by
    have h3 := hne; rw [hns, List.length_map, Array.length_toList] at h3; exact h3
  rw [e] at hl
  refine max_intList hh hl hsz fun v h' tk hv hk => ?_
  obtain ⟨t, rfl⟩ := intItems_at hv
  obtain ⟨h1, h2⟩ := argBest_gt (numAt xs) (xs.size - 1)
  have := maxI_of (ns := ns) (m := numAt xs (argBest (fun i j => decide (numAt xs i > numAt xs j)) (xs.size - 1))) ?_ fun a ha => ?_
  · rw [this]; exact h h' t tk hk
  · rw [hns, numAt_eq]; exact PySem.getD_mem (by rw [List.length_map, Array.length_toList]; lia)
  · rw [hns] at ha
    obtain ⟨j, hj, rfl⟩ := PySem.mem_getD ha
    rw [List.length_map, Array.length_toList] at hj
    rw [← numAt_eq]; exact h2 j (by lia)
theorem sum_rule {l : Addr} {vs : List Value} {ns : List Int} {Q : Value → Shared → Prop} (hh : A.handled = none) (hl : s.heap.IsList l vs.toArray) (hi : IntsAre vs ns)
    (h : ∀ h' (t : Tok) tk, (∀ b o, s.heap.get? b = some o → h'.get? b = some o) → Q (.int ns.sum t) { s with heap := h', toks := tk }) :
    wpAny (model C.prog C.w) A (call (.builtin "sum") [.ref l]) Q E s := by
  obtain ⟨xs, e⟩ := hi.allInts.items
  have hns : ns = xs.toList.map (·.1) := by
    rw [← hi.numsOf, ← nums_intItems, ← e]
  rw [e] at hl
  refine sum_intListG hh hl fun h' tk t' hk => ?_
  rw [preSum_eq, List.take_of_length_le (by simp), ← hns]
  exact h h' t' tk hk
theorem str_small {a : Int} (h : Sm a) : a.natAbs.log2 < 1920 := by
  by_cases h0 : a.natAbs = 0
  · rw [h0]; decide
  · exact Nat.lt_trans ((Nat.log2_lt h0).mpr (by lia : a.natAbs < 2 ^ 64)) (by decide)
structure BC (f : Value) (ds : List PV) (d : PV) : Prop where
  run : ∀ {C : Cx} {F : Fz} {M : Mz} {s : Shared} {A : Around} {k : Nat} {vs : List Value}, Wd C F M s.heap → AOk A k → IsAll F vs ds → Pv C A F s (call f vs) d
variable {a b : Int} {x : Str} {u : List UInt8} {ds : List PV} {ns : List Int}
theorem bc_len_list (hz : ds.length ≤ 3000) : BC (.builtin "len") [.list ds] (.int ds.length) := ⟨fun W AO hs => by
  obtain ⟨v, rfl, i⟩ := isAll1 hs; obtain ⟨l, ws, n, rfl, e1, lo, i1⟩ := isList i
  have := i1.length
  exact Pv.same W fun Q E kk => call_len_list (isListO (W.sub _ _ e1) lo) (by simp; lia) (by simp only [List.size_toArray]; rw [this]; exact kk _ _ (.int _ _))⟩
theorem bc_len_tuple (hz : ds.length ≤ 3000) : BC (.builtin "len") [.tuple ds] (.int ds.length) := ⟨fun W AO hs => by
  obtain ⟨v, rfl, i⟩ := isAll1 hs; obtain ⟨l, ws, n, rfl, e1, i1⟩ := isTuple i
  have := i1.length
  exact Pv.same W fun Q E kk => len_tuple (isTupOf (W.sub _ _ e1)) (by simp; lia) (by simp only [List.size_toArray]; rw [this]; exact kk _ _ (.int _ _))⟩
theorem bc_len_bytes (hz : u.length ≤ 3000) : BC (.builtin "len") [.bytes u] (.int u.length) := ⟨fun W AO hs => by
  obtain ⟨v, rfl, i⟩ := isAll1 hs; obtain ⟨t, rfl⟩ := isBytes i
  exact Pv.same W fun Q E kk => len_bytes (by simp; lia) (by simp only [List.size_toArray]; exact kk _ _ (.int _ _))⟩
theorem bc_sum (ns : List Int) : BC (.builtin "sum") [.list (ns.map .int)] (.int ns.sum) := ⟨fun W AO hs => by
  obtain ⟨v, rfl, i⟩ := isAll1 hs; obtain ⟨l, ws, n, rfl, e2, lo, i1⟩ := isList i
  exact fun Q E kk => sum_rule AO.hh (isListO (W.sub _ _ e2) lo) i1.ints fun h' t tk hk => kk _ _ _ _ (Grow.only W hk) (.int _ _)⟩
theorem bc_max (h : ns ≠ []) : BC (.builtin "max") [.list (ns.map .int)] (.int (maxI ns)) := ⟨fun W AO hs => by
  obtain ⟨v, rfl, i⟩ := isAll1 hs; obtain ⟨l, ws, n, rfl, e2, lo, i1⟩ := isList i
  exact fun Q E kk => max_rule AO.hh (isListO (W.sub _ _ e2) lo) i1.ints (List.length_pos_iff.mpr h) fun h' t tk hk => kk _ _ _ _ (Grow.only W hk) (.int _ _)⟩
theorem bc_max2 : BC (.builtin "max") [.int a, .int b] (.int (max a b)) := ⟨fun W AO hs => by
  obtain ⟨v, v', rfl, i, j⟩ := isAll2 hs; obtain ⟨t, rfl⟩ := isInt i; obtain ⟨u, rfl⟩ := isInt j
  refine fun Q E kk => max_two_ints AO.hh fun h' tk hk => ?_
  by_cases q : b > a
  · rw [if_pos q]; exact kk _ _ _ _ (Grow.only W hk) (by rw [Int.max_eq_right (by lia)]; exact .int _ _)
  · rw [if_neg q]; exact kk _ _ _ _ (Grow.only W hk) (by rw [Int.max_eq_left (by lia)]; exact .int _ _)⟩
theorem bc_sorted (hz : ns.length < 64) : BC (.builtin "sorted") [.list (ns.map .int)] (.list ((sortI ns).map .int)) := ⟨fun {C F M s A k vs} W AO hs => by
  obtain ⟨v, rfl, i⟩ := isAll1 hs; obtain ⟨l, ws, n, rfl, e2, lo, i1⟩ := isList i
  refine fun Q E kk => sorted_ints (isListO (W.sub _ _ e2) lo) i1.ints (by have := i1.ints.length; lia) fun out ns' a1 a2 a3 => ?_
  obtain ⟨ep, he⟩ := sortedAll_at s.heap ws out
  have g := (Grow.only W (h' := sortedAll s.heap ws out) fun a o q => sortedAll_old q).freeze W (a := s.heap.objs.size + 1) (by
    cases q : s.heap.get? (s.heap.objs.size + 1) with
    | none => rfl
    | some o => exact absurd (Nat.lt_trans (Nat.lt_succ_self _) (Heap.lt_size q)) (Nat.lt_irrefl _)) he
  refine kk _ _ s.toks _ g ?_
  rw [sorted_unique ((sortI_perm ns).trans a2.symm) (sortI_pw ns) a3]
  exact Is.list (vs := out.toList) (by rw [fset_self]) ⟨rfl, ⟨ep, rfl⟩, rfl, rfl⟩ (isAll_ofInts a1)⟩
theorem bc_abs : BC (.builtin "abs") [.int a] (.int (if a < 0 then -a else a)) := ⟨fun W AO hs => by
  obtain ⟨v, rfl, i⟩ := isAll1 hs; obtain ⟨t, rfl⟩ := isInt i
  exact Pv.same W fun Q E kk => call_abs_int fun u tk => kk _ _ (.int _ _)⟩
theorem bc_divmod (h1 : 0 < b) (h2 : b < 1073741824) : BC (.builtin "divmod") [.int a, .int b] (.tuple [.int (a / b), .int (a % b)]) := ⟨fun {C F M s A k vs} W AO hs => by
  obtain ⟨v, v', rfl, i, j⟩ := isAll2 hs; obtain ⟨t, rfl⟩ := isInt i; obtain ⟨u, rfl⟩ := isInt j
  exact Pv.made W (tupOf #[.int _ s.toks, .int _ (s.toks + 1)] 0) rfl (fun F' e' le => Is.tuple (vs := [_, _]) e' (.cons (.int _ _) (.cons (.int _ _) .nil))) fun Q E kk => divmod_int (by lia) (by rw [fdiv_pos h1, fmod_pos h1]; exact kk _) (.inl (PyProof.noPylong_small (by lia)))⟩
theorem bc_int : BC (.type "int") [.int a] (.int a) := ⟨fun {C F M s A k vs} W AO hs => by
  obtain ⟨v, rfl, i⟩ := isAll1 hs; obtain ⟨t, rfl⟩ := isInt i
  exact Pv.same W fun Q E kk => call_int_int (kk _ s.toks (.int _ _))⟩
theorem bc_int_str (h1 : x.length ≤ 640) (h2 : PySem.intText? x = some a) : BC (.type "int") [.str x] (.int a) := ⟨fun W AO hs => by
  obtain ⟨v, rfl, i⟩ := isAll1 hs; obtain ⟨t, rfl⟩ := isStr i
  exact Pv.same W fun Q E kk => KIN.call_text h2 h1 (kk _ _ (.int _ _))⟩
theorem bc_str (h : Sm a) : BC (.type "str") [.int a] (.str (Str.ofString (toString a))) := ⟨fun W AO hs => by
  obtain ⟨v, rfl, i⟩ := isAll1 hs; obtain ⟨t, rfl⟩ := isInt i
  exact Pv.same W fun Q E kk => P.str_of_int (str_small h) (kk _ _ (.str _ _))⟩
theorem bc_tuple (h : ds.length ≤ 3000) : BC (.type "tuple") [.list ds] (.tuple ds) := ⟨fun {C F M s A k vs} W AO hs => by
  obtain ⟨v, rfl, i⟩ := isAll1 hs; obtain ⟨l, ws, n, rfl, e2, lo, i1⟩ := isList i
  have := i1.length
  refine fun Q E kk => call_tuple_list (isListO (W.sub _ _ e2) lo) (fun h' hk => ?_) (by simp; rw [sizeLine_eq]; lia)
  have g := (Grow.only W (h' := h'.push { cls := .type "tuple", data := .seq ws.toArray }) fun a o q => Heap.get?_push_of_some _ (hk a o q)).freeze W (a := h'.objs.size) (by
    cases q : s.heap.get? h'.objs.size with
    | none => rfl
    | some o => exact absurd (Heap.lt_size (hk _ _ q)) (Nat.lt_irrefl _)) (Heap.get?_push_size _ rfl)
  exact kk _ _ s.toks _ g (Is.tuple (fset_self _ _ _) (i1.mono g.mono))⟩
theorem bc_bytes (h1 : ns.length ≤ 3000) (h2 : ∀ n ∈ ns, 0 ≤ n ∧ n < 256) : BC (.type "bytes") [.list (ns.map .int)] (.bytes (bytesOf ns)) := ⟨fun W AO hs => by
  obtain ⟨v, rfl, i⟩ := isAll1 hs; obtain ⟨l, ws, n, rfl, e2, lo, i1⟩ := isList i
  exact fun Q E kk => call_bytes_ints (isListO (W.sub _ _ e2) lo) i1.ints h2 (by have := i1.ints.length; rw [sizeLine_eq]; lia) AO.hh fun h' t tk hk => kk _ _ _ _ (Grow.only W hk) (.bytes _ _)⟩
end
end
section
structure Cx.Ok (C : Cx) : Prop where
  kin : C.K.In C.hb
  names : ∃ mg mb, C.hb.Ns mainGlobals mg ∧ C.hb.Ns builtinsNs mb ∧ ∀ x v, C.glob x = some v → mg x = some v ∨ (mg x = none ∧ mb x = some v)
  nolimit : C.hb.NoLimit
structure EvS (C : Cx) (A : Around) (env : En) (S : PS) (e : Expr) (d : PV) : Prop where
  run : ∀ (s : Shared) (F : Fz) (M : Mz), Rep C env F M S s.heap → Pv C A F s (eval e env.e) d
section
variable {C : Cx} {env : En} {F F' F'' : Fz} {M M' M'' : Mz} {h h' h'' : Heap} {S : PS} {A : Around} {s : Shared} {E : Value → Shared → Prop} {k : Nat}
theorem Wd.kin (O : C.Ok) (W : Wd C F M h) : C.K.In h := fun a o e => W.baseH a o (O.kin a o e)
theorem Pv.bind (W : Wd C F M s.heap) {α : Type} {t : Sem Value} {d : PV} {f : Value → Sem α} (x : Pv C A F s t d) {Q : α → Shared → Prop}
    (y : ∀ v h' tk F', Grow C F s.heap F' h' → Is F' v d → wpAny (model C.prog C.w) A (f v) Q E { s with heap := h', toks := tk }) : wpAny (model C.prog C.w) A (t >>= f) Q E s :=
  wpAny_bind (x _ _ fun v h' tk F' g i => y v h' tk F' g i)
theorem ev_none {k' : Nat} {pos : Pos} : EvS C A env S (.Constant .none k' pos) .none := .mk fun _ F _ R => Pv.same R.toWd fun _ _ kk => wpAny_Constant_none (kk _ _ (.none))
theorem ev_bool {b : Bool} {k' : Nat} {pos : Pos} : EvS C A env S (.Constant (.bool b) k' pos) (.bool b) := .mk fun _ F _ R => Pv.same R.toWd fun _ _ kk => wpAny_Constant_bool (kk _ _ (.bool b))
theorem ev_int {i : Int} {k' : Nat} {pos : Pos} : EvS C A env S (.Constant (.int i) k' pos) (.int i) := .mk fun _ F _ R => Pv.same R.toWd fun _ _ kk => wpAny_Constant_int (kk _ _ (.int _ _))
theorem ev_str {x : Str} {k' : Nat} {pos : Pos} : EvS C A env S (.Constant (.str x) k' pos) (.str x) := .mk fun _ F _ R => Pv.same R.toWd fun _ _ kk => wpAny_Constant_str (kk _ _ (.str _ _))
theorem ev_bytes {x : List UInt8} {k' : Nat} {pos : Pos} : EvS C A env S (.Constant (.bytes x) k' pos) (.bytes x) := .mk fun s F _ R => Pv.same R.toWd fun Q E kk => show wpAny _ _ (mkTextBytes x.toArray) _ _ _ from fun _ _ _ => kk (.bytes x.toArray s.toks) (s.toks + 1) (.bytes _ _)
theorem ev_name {x : Str} {d : PV} {pos : Pos} (e : get S x = some (.val d)) (hd : (x == ("__debug__" : Str)) = false) : EvS C A env S (.Name x pos) d := .mk fun s F M R =>
  Pv.same R.toWd fun Q E kk => wpAny_Name (ld_var R e fun v i => kk v s.toks i) hd
theorem ev_glob (O : C.Ok) {x : Str} {v : Value} {pos : Pos} (e : C.glob x = some v) (hk : env.e.kindOf x = some .globalImplicit) (hd : (x == ("__debug__" : Str)) = false) : EvS C A env S (.Name x pos) (.raw v) := .mk fun s F M R => by
  refine Pv.same R.toWd fun Q E kk => Name_function_global R.ev.fn hk ?_ hd
  obtain ⟨mg, mb, hg, hb, hv⟩ := O.names
  have hg' : s.heap.Ns env.e.globals mg := by rw [R.ev.gl]; exact hg.keeps R.baseH
  have hb' : s.heap.Ns env.e.builtins mb := by rw [R.ev.bt]; exact hb.keeps R.baseH
  rcases hv x v e with q | ⟨q1, q2⟩
  · exact loadGlobal_global hg' q (kk _ s.toks (.raw _))
  · exact loadGlobal_builtin hg' q1 hb' q2 (kk _ s.toks (.raw _))
theorem EvS.two {l r : Expr} {a b : PV} (x : EvS C A env S l a) (y : EvS C A env S r b) (R : Rep C env F M S s.heap) {Q : Value → Value → Shared → Prop}
    (kk : ∀ va vb h' tk F', Grow C F s.heap F' h' → Is F' va a → Is F' vb b → Q va vb { s with heap := h', toks := tk }) :
    wpAny (model C.prog C.w) A (eval l env.e) (fun va s₁ => wpAny (model C.prog C.w) A (eval r env.e) (fun vb s₂ => Q va vb s₂) E s₁) E s :=
  x.run s F M R _ _ fun va h' tk F' g i => y.run { s with heap := h', toks := tk } F' M (R.grow g) _ _ fun vb h'' tk' F'' g' j => kk va vb h'' tk' F'' (g.trans g') (i.mono g'.mono) j
theorem ev_binop {op : Operator} {l r : Expr} {a b d : PV} {pos : Pos} (x : EvS C A env S l a) (y : EvS C A env S r b) (e : Bo op a b d) : EvS C A env S (.BinOp l op r pos) d := .mk fun s F M R Q E kk =>
  wpAny_BinOp (EvS.two x y R fun va vb h' tk F' g i j => e.run (s := { s with heap := h', toks := tk }) (R.toWd.grow g) i j Q E fun v h'' tk' F'' g' i' => kk v h'' tk' F'' (g.trans g') i')
theorem ev_cmp (AO : AOk A k) {op : CmpOp} {l r : Expr} {a b : PV} {c : Bool} {pos : Pos} (x : EvS C A env S l a) (y : EvS C A env S r b) (e : Cm op a b c) (hm : behindInMarks op r = false) : EvS C A env S (.Compare l [op] [r] pos) (.bool c) := .mk fun s F M R Q E kk =>
  wpAny_Compare1 (EvS.two x y R fun va vb h' tk F' g i j => e.run (s := { s with heap := h', toks := tk }) (R.toWd.grow g) AO i j (kk _ h' tk F' g (.bool c))) hm
theorem ev_sub {v i : Expr} {a b d : PV} {pos : Pos} (x : EvS C A env S v a) (y : EvS C A env S i b) (e : Sb a b d) (hn : isSlice i = false) : EvS C A env S (.Subscript v i pos) d := .mk fun s F M R Q E kk =>
  Subscript_ (EvS.two x y R fun va vb h' tk F' g i' j => e.run (s := { s with heap := h', toks := tk }) (R.toWd.grow g) hn i' j Q E fun v h'' tk' F'' g' i'' => kk v h'' tk' F'' (g.trans g') i'')
noncomputable def EvO (C : Cx) (A : Around) (env : En) (S : PS) : Option Expr → Option Int → Prop
  | none, none => True
  | some e, some i => EvS C A env S e (.int i)
  | _, _ => False
theorem EvO.part {le : Option Expr} {lo : Option Int} (x : EvO C A env S le lo) (R : Rep C env F M S s.heap) {Q : Value → Shared → Prop}
    (kk : ∀ v h' tk F', Grow C F s.heap F' h' → Is F' v (optPV lo) → Q v { s with heap := h', toks := tk }) : wpAny (model C.prog C.w) A (evalPart le env.e) Q E s := by
  cases le with
  | none =>
    cases lo with
    | none => rw [evalPart_none]; exact wpAny_pure (kk _ _ s.toks _ (Grow.refl R.toWd) .none)
    | some i => exact x.elim
  | some e =>
    cases lo with
    | none => exact x.elim
    | some i => rw [evalPart_some]; exact x.run s F M R _ _ kk
theorem ev_slice {v : Expr} {le ue : Option Expr} {lo hi : Option Int} {a d : PV} {p pos : Pos} (x : EvS C A env S v a) (y : EvO C A env S le lo) (z : EvO C A env S ue hi) (e : Sl a lo hi d) : EvS C A env S (.Subscript v (.Slice le ue none p) pos) d := .mk fun s F M R Q E kk => by
  refine Subscript_ (x.run s F M R _ _ fun va h' tk F' g i => ?_)
  refine wpAny_Slice (EvO.part (s := { s with heap := h', toks := tk }) y (R.grow g) fun vl h2 tk2 F2 g2 i2 => EvO.part (s := { s with heap := h2, toks := tk2 }) z ((R.grow g).grow g2) fun vu h3 tk3 F3 g3 i3 => ?_)
  rw [evalPart_none]
  refine wpAny_pure ?_
  have R3 := ((R.grow g).grow g2).grow g3
  exact e.run (s := { s with heap := h3, toks := tk3 }) R3.toWd (i.mono (g2.mono.trans g3.mono)) (i2.mono g3.mono) i3 Q E fun v h4 tk4 F4 g4 i4 => kk v h4 tk4 F4 (((g.trans g2).trans g3).trans g4) i4
inductive EvAll (C : Cx) (A : Around) (env : En) (S : PS) : List Expr → List PV → Prop
  | nil : EvAll C A env S [] []
  | cons {e : Expr} {es : List Expr} {d : PV} {ds : List PV} : EvS C A env S e d → (∀ en : Env, ∀ r : List Expr, starEach (e :: r) en = (false, eval e en) :: starEach r en) → EvAll C A env S es ds → EvAll C A env S (e :: es) (d :: ds)
theorem EvAll.spliced {es : List Expr} {ds : List PV} (x : EvAll C A env S es ds) {pos : Pos} : ∀ {s : Shared} {F : Fz} {M : Mz}, Rep C env F M S s.heap → ∀ {Q : List Value → Shared → Prop},
    (∀ vs h' tk F', Grow C F s.heap F' h' → IsAll F' vs ds → Q vs { s with heap := h', toks := tk }) → wpAny (model C.prog C.w) A (spliced (backTo pos (starEach es env.e))) Q E s := by
  induction x with
  | nil => intro s F M R Q kk; exact spliced_nil (kk _ _ s.toks _ (Grow.refl R.toWd) .nil)
  | cons h hs r ih =>
    intro s F M R Q kk
    rw [hs]
    show wpAny _ _ (PySem.spliced ((false, eval _ env.e) :: backTo pos (starEach _ env.e))) _ _ _
    refine spliced_cons (h.run s F M R _ _ fun v h' tk F' g i => ?_)
    exact ih (s := { s with heap := h', toks := tk }) (R.grow g) fun vs h2 tk2 F2 g2 i2 => kk _ h2 tk2 F2 (g.trans g2) (.cons (i.mono g2.mono) i2)
theorem ev_tuple {es : List Expr} {ds : List PV} {c : Nat} {pos : Pos} (x : EvAll C A env S es ds) (hz : lenOk ds.length = true) : EvS C A env S (.Tuple es c pos) (.tuple ds) := .mk fun s F M R Q E kk => by
  rw [arm_eval_Tuple]
  refine wpAny_bind (wpAny_standAt (wpAny_bind (x.spliced R fun vs h' tk F' g i => ?_)))
  refine wpAny_newTuple ?_ (by have := lenOk_le hz; have := i.length; rw [sizeLine_eq]; lia)
  have W' := R.toWd.grow g
  have g2 := (Grow.only W' (h' := h'.push (tupOf vs.toArray 0)) fun a o e => Heap.get?_push_of_some _ e).freeze W' (size_none h') (Heap.get?_push_size h' rfl)
  exact kk _ _ _ _ (g.trans g2) (Is.tuple (fset_self _ _ _) (i.mono g2.mono))
theorem ev_list {es : List Expr} {ds : List PV} {pos : Pos} (x : EvAll C A env S es ds) (hz : lenOk ds.length = true) : EvS C A env S (.List es pos) (.list ds) := .mk fun s F M R Q E kk => by
  rw [arm_eval_List]
  refine wpAny_bind (wpAny_standAt (wpAny_bind (x.spliced R fun vs h' tk F' g i => ?_)))
  refine wpAny_newList ?_ (by have := lenOk_le hz; have := i.length; rw [sizeLine_eq]; lia)
  have W' := R.toWd.grow g
  have g2 := (Grow.only W' (h' := h'.push (listOf vs.toArray 0)) fun a o e => Heap.get?_push_of_some _ e).freeze W' (size_none h') (Heap.get?_push_size h' rfl)
  exact kk _ _ _ _ (g.trans g2) (Is.list (fset_self _ _ _) (LObj.of _ _) (i.mono g2.mono))
end
end
section
noncomputable abbrev nFind : Str := "find"
noncomputable abbrev nSplit : Str := "split"
noncomputable abbrev nJoin : Str := "join"
noncomputable def sumLen (ss : List Str) : Nat := (ss.map (·.length)).sum
structure SM (name : Str) (x : Str) (args : List PV) (d : PV) : Prop where
  get : ∀ {C : Cx} {A : Around} {s : Shared} {E : Value → Shared → Prop} {t : Tok} {pl : Sem Bool} {Q : Value × List Value → Shared → Prop}, (∀ id, (∀ (k : Nat) (F : Fz) (M : Mz) (s : Shared) (vs : List Value), Wd C F M s.heap → AOk A k → IsAll F vs args → Pv C A F s (call (.builtin id) (.str x t :: vs)) d) → Q (.builtin id, [.str x t]) s) →
    wpAny (model C.prog C.w) A (getMethod (.str x t) name pl) Q E s
noncomputable def FnOk (C : Cx) (f : Addr) (k : Nat) (args : List PV) (d : PV) : Prop :=
  ∀ (A : Around) (s : Shared) (F : Fz) (M : Mz) (vs : List Value), Wd C F M s.heap → AOk A k → IsAll F vs args → Pv C A F s (call (.ref f) vs) d
section
variable {C : Cx} {env : En} {F F' F'' : Fz} {M M' M'' : Mz} {h h' h'' : Heap} {S : PS} {A : Around} {s : Shared} {E : Value → Shared → Prop} {k : Nat}
theorem EvAll.plain {es : List Expr} {ds : List PV} (x : EvAll C A env S es ds) {en : Env} {pos : Pos} : (backTo pos (starEach es en)).any (·.1) = false := by
  induction x with
  | nil => rfl
  | cons h hs r ih => rw [hs]; exact ih
theorem EvAll.all {es : List Expr} {ds : List PV} (x : EvAll C A env S es ds) {en : Env} {pos : Pos} : (backTo pos (starEach es en)).all (!·.1) = true := by
  induction x with
  | nil => rfl
  | cons h hs r ih => rw [hs]; exact ih
theorem EvAll.args {es : List Expr} {ds : List PV} (x : EvAll C A env S es ds) {f : Value} {pos : Pos} (R : Rep C env F M S s.heap) {Q : Args → Shared → Prop}
    (kk : ∀ vs h' tk F', Grow C F s.heap F' h' → IsAll F' vs ds → Q ⟨vs, []⟩ { s with heap := h', toks := tk }) : wpAny (model C.prog C.w) A (evalArgs f true (backTo pos (starEach es env.e)) []) Q E s := by
  cases x with
  | nil => exact PySem.evalArgs_none (kk [] _ s.toks _ (Grow.refl R.toWd) .nil)
  | cons h hs r =>
    have y : EvAll C A env S (_ :: _) (_ :: _) := .cons h hs r
    have z := y.spliced (pos := pos) (E := E) R (Q := fun vs s' => Q ⟨vs, []⟩ s') kk
    rw [hs] at z ⊢
    exact Calls.evalArgs_plain z
theorem ev_call (O : C.Ok) (AO : AOk A k) {x : Str} {f : Addr} {es : List Expr} {ds : List PV} {d : PV} {p pos : Pos} (e : C.glob x = some (.ref f)) (hk : env.e.kindOf x = some .globalImplicit) (hd : (x == ("__debug__" : Str)) = false)
    (hkeep : keepIn C.K (.ref f) = true) (xs : EvAll C A env S es ds) (ok : FnOk C f k ds d) : EvS C A env S (.Call (.Name x p) es [] pos) d := .mk fun s F M R Q E kk => by
  refine Call_Name rfl ((ev_glob O (pos := p) e hk hd).run s F M R _ _ fun v h' tk F' g i => ?_)
  obtain rfl := isRaw i
  have R' := R.grow g
  refine callWith_of (P := fun h => C.K.In h) (by rw [xs.plain]; rfl) (keeps_K hkeep) (xs.args (s := { s with heap := h', toks := tk }) R' fun vs h2 tk2 F2 g2 i2 => ?_)
  have W2 := R'.toWd.grow g2
  exact ⟨W2.kin O, ok A { s with heap := h2, toks := tk2 } F2 M vs W2 AO i2 Q E fun v h3 tk3 F3 g3 i3 => kk v h3 tk3 F3 ((g.trans g2).trans g3) i3⟩
theorem ev_bcall (O : C.Ok) (AO : AOk A k) {x : Str} {id : String} {es : List Expr} {ds : List PV} {d : PV} {p pos : Pos} (e : C.glob x = some (.builtin id)) (hk : env.e.kindOf x = some .globalImplicit) (hd : (x == ("__debug__" : Str)) = false)
    (xs : EvAll C A env S es ds) (ok : BC (.builtin id) ds d) : EvS C A env S (.Call (.Name x p) es [] pos) d := .mk fun s F M R Q E kk => by
  refine Call_Name rfl ((ev_glob O (pos := p) e hk hd).run s F M R _ _ fun v h' tk F' g i => ?_)
  obtain rfl := isRaw i
  have R' := R.grow g
  refine Calls.callWith_builtin xs.plain (xs.args (s := { s with heap := h', toks := tk }) R' fun vs h2 tk2 F2 g2 i2 => ?_)
  have W2 := R'.toWd.grow g2
  exact ok.run (s := { s with heap := h2, toks := tk2 }) W2 AO i2 Q E fun v h3 tk3 F3 g3 i3 => kk v h3 tk3 F3 ((g.trans g2).trans g3) i3
theorem ev_tcall (O : C.Ok) (AO : AOk A k) {x : Str} {id : String} {es : List Expr} {ds : List PV} {d : PV} {p pos : Pos} (e : C.glob x = some (.type id)) (hk : env.e.kindOf x = some .globalImplicit) (hd : (x == ("__debug__" : Str)) = false)
    (xs : EvAll C A env S es ds) (ok : BC (.type id) ds d) : EvS C A env S (.Call (.Name x p) es [] pos) d := .mk fun s F M R Q E kk => by
  refine Call_Name rfl ((ev_glob O (pos := p) e hk hd).run s F M R _ _ fun v h' tk F' g i => ?_)
  obtain rfl := isRaw i
  have R' := R.grow g
  refine PyProof.Rows.callWith_type xs.plain (xs.args (s := { s with heap := h', toks := tk }) R' fun vs h2 tk2 F2 g2 i2 => ?_)
  have W2 := R'.toWd.grow g2
  exact ok.run (s := { s with heap := h2, toks := tk2 }) W2 AO i2 Q E fun v h3 tk3 F3 g3 i3 => kk v h3 tk3 F3 ((g.trans g2).trans g3) i3
theorem methodCall_any {o : Expr} {name : Str} {apos pos : Pos} {args : List Expr} {Q : Value → Shared → Prop} {en : Env}
    (hb : attributeBase o name en (eval o en) = eval o en) (hfew : (backTo pos (starEach args en)).all (!·.1) = true) (hn : args.length < 20) (hline : (apos.endLine == pos.line) = true)
    (h : wpAny (model C.prog C.w) A (eval o en) (fun ov s₁ => ∀ pl, wpAny (model C.prog C.w) A (getMethod ov name pl) (fun fx s₂ => wpAny (model C.prog C.w) A (callWith pos fx.1 fx.2 (backTo pos (starEach args en)) []) Q E s₂) E s₁) E s) :
    wpAny (model C.prog C.w) A (eval (.Call (.Attribute o name apos) args [] pos) en) Q E s := by
  rw [arm_eval_Call, hb]
  refine wpAny_bind (wpAny_mono h (fun ov s₁ h₁ => ?_) fun _ _ e => e)
  refine wpAny_bind (wpAny_standAt ?_)
  have hform : methodCallForm (args.length + ([] : List Keyword).length) (backTo pos (starEach args en)) (backToKw pos (keywordEach [] en)) = true := by
    unfold methodCallForm
    rw [hfew]
    rw [show backToKw pos (keywordEach [] en) = [] from rfl]
    simp
    lia
  have hpos : methodCallPos true o en apos pos = pure pos := by unfold methodCallPos; simp [hline]
  unfold methodCall
  rw [hform]
  refine wpAny_bind (wpAny_holding (wpAny_mono (h₁ _) (fun fx s₂ h₂ => ?_) fun _ _ e => e))
  exact wpAny_bind (wpAny_of_eq hpos h₂)
theorem isAll_strs (F : Fz) : ∀ l : List (Str × Tok), IsAll F (strValues l) ((l.map (·.1)).map .str)
  | [] => .nil
  | p :: r => .cons (.str _ _) (isAll_strs F r)
open Builtin Builtin.Str in
theorem split_pv {x y : Str} {t u : Tok} (W : Wd C F M s.heap) (hy : (y.length == 0) = false) (hx : x.length ≤ 3000) (ho : (Builtin.Str.occurrences x y 0 x.length (x.length + 1)).length ≤ 3000) :
    Pv C A F s (call (.builtin "str.split") [.str x t, .str y u]) (.list ((Txt.split x y).map .str)) := by
  have hsz : x.length ≤ sizeLine := by rw [sizeLine_eq]; lia
  have hsz2 : (partsBetween x (occurrences x y 0 x.length (x.length + 1)) y.length).length ≤ sizeLine := by rw [PySem.length_partsBetween, sizeLine_eq]; lia
  have mk : ∀ l : List (Str × Tok), l.map (·.1) = Txt.split x y → (∀ (Q : Value → Shared → Prop) (E : Value → Shared → Prop), (∀ tk, Q (.ref s.heap.objs.size) { s with heap := s.heap.push (listOf (strValues l).toArray 0), toks := tk }) → wpAny (model C.prog C.w) A (call (.builtin "str.split") [.str x t, .str y u]) Q E s) →
      Pv C A F s (call (.builtin "str.split") [.str x t, .str y u]) (.list ((Txt.split x y).map .str)) := fun l hl H =>
    Pv.made W _ rfl (fun F' e' le => Is.list e' (LObj.of _ _) (by rw [← hl]; exact isAll_strs F' l)) H
  cases h1 : (decide (x.length < y.length) || decide (strKind x < strKind y))
  · cases hf : (occurrences x y 0 x.length (x.length + 1)).isEmpty
    · refine mk (numbered s.toks _) ((numbered_texts _ _).trans ((if_neg (ne_true_of_eq_false h1)).trans (if_neg (ne_true_of_eq_false hf))).symm) fun Q E kk => ?_
      refine call_meets PySem.F.slot_str_split (typeIs_str _ _ _) PySem.F.entry_str_split (PySem.F.args_str_split_2 _ _) (meets_str_split_sep x y t u h1 hy hf hsz hsz2) ?_
      show wants Q E _ { s with toks := _, heap := s.heap.push { cls := .type "list", data := .seq (strsFrom s.toks (partsBetween x (occurrences x y 0 x.length (x.length + 1)) y.length)).toArray } }
      rw [strsFrom_eq]
      exact kk _
    · exact mk [(x, t)] ((if_neg (ne_true_of_eq_false h1)).trans (if_pos hf)).symm fun Q E kk => call_meets PySem.F.slot_str_split (typeIs_str _ _ _) PySem.F.entry_str_split (PySem.F.args_str_split_2 _ _) (meets_str_split_not_found x y t u h1 hy hf) (kk s.toks)
  · exact mk [(x, t)] (if_pos h1).symm fun Q E kk => call_meets PySem.F.slot_str_split (typeIs_str _ _ _) PySem.F.entry_str_split (PySem.F.args_str_split_2 _ _) (meets_str_split_cannot_occur x y t u h1) (kk s.toks)
theorem strs_of : ∀ {vs : List Value} {ns : List Str}, IsAll F vs (ns.map .str) → StrsAre vs ns
  | _, [], i => by cases i; exact .nil
  | _, n :: ns, i => by
    rw [List.map_cons] at i
    cases i with | cons i r => obtain ⟨t, rfl⟩ := isStr i; exact .cons _ _ (strs_of r)
section
variable {x y : Str} {n : Int} {ss : List Str}
theorem sm_find : SM nFind x [.str y] (.int (Txt.find x y)) := ⟨fun h => GM.find (h _ fun k F M s vs W AO hs => by
  obtain ⟨v, rfl, i⟩ := isAll1 hs; obtain ⟨u, rfl⟩ := isStr i
  exact Pv.same W fun Q E kk => SC.find (kk _ _ (.int _ _)))⟩
theorem sm_find3 : SM nFind x [.str y, .int n] (.int (Txt.find3 x y n)) := ⟨fun h => GM.find (h _ fun k F M s vs W AO hs => by
  obtain ⟨v, v', rfl, i, j⟩ := isAll2 hs; obtain ⟨u, rfl⟩ := isStr i; obtain ⟨v, rfl⟩ := isInt j
  exact Pv.same W fun Q E kk => SC.find3 (kk _ _ (.int _ _)))⟩
theorem sm_split (hy : (y.length == 0) = false) (hx : x.length ≤ 3000) (ho : (Builtin.Str.occurrences x y 0 x.length (x.length + 1)).length ≤ 3000) : SM nSplit x [.str y] (.list ((Txt.split x y).map .str)) := ⟨fun h => GM.split (h _ fun k F M s vs W AO hs => by
  obtain ⟨v, rfl, i⟩ := isAll1 hs; obtain ⟨u, rfl⟩ := isStr i
  exact split_pv W hy hx ho)⟩
theorem sm_join (h1 : sumLen ss ≤ 3000) (h2 : ss.length ≤ 3000) (h3 : x.length ≤ 64) : SM nJoin x [.list (ss.map .str)] (.str (Txt.join x ss)) := ⟨fun h => GM.join (h _ fun k F M s vs W AO hs => by
  obtain ⟨v, rfl, i⟩ := isAll1 hs; obtain ⟨l, ws, n, rfl, e2, lo, i1⟩ := isList i
  exact Pv.same W fun Q E kk => join_list (isListO (W.sub _ _ e2) lo) (strs_of i1) (by unfold sumLen at *; have : ss.length * x.length ≤ 3000 * 64 := Nat.mul_le_mul h2 h3; lia) fun t' tk => kk _ _ (.str _ _))⟩
end
end
end
section
noncomputable def getf : List (Str × PV) → Str → Option PV
  | [], _ => none
  | (y, d) :: r, x => if y = x then some d else getf r x
noncomputable def putf : List (Str × PV) → Str → PV → List (Str × PV)
  | [], x, d => [(x, d)]
  | (y, c) :: r, x, d => if y = x then (x, d) :: r else (y, c) :: putf r x d
noncomputable def notRaw : PV → Bool
  | .raw _ => false
  | _ => true
structure InstCls (C : Cx) (cl : Addr) : Prop where
  hga : findIn C.K (.ref cl) "__getattribute__" = some (some (.builtin "object.__getattribute__"))
  hgt : findIn C.K (.ref cl) "__getattr__" = some none
  cd : ∃ cd, clsIn C.K cl = some cd ∧ cd.hasDict = true
section
variable {C : Cx} {env : En} {F F' F'' : Fz} {M M' M'' : Mz} {h h' h'' : Heap} {S : PS} {A : Around} {s : Shared} {E : Value → Shared → Prop} {k : Nat}
theorem Is.handed {v : Value} {d : PV} (i : Is F v d) (hr : notRaw d = true) : handedIn v = true := by
  cases i <;> first | rfl | cases hr
theorem IsDict.find {es : List DictEntry} {fs : List (Str × PV)} (i : IsDict F es fs) {x : Str} {d : PV} (e : getf fs x = some d) : ∃ en v, es.find? (·.key.isStr x) = some en ∧ en.val = v ∧ Is F v d := by
  induction fs generalizing es with
  | nil => cases e
  | cons p r ih =>
    obtain ⟨y, c⟩ := p
    cases i with
    | cons iv ir =>
      simp only [getf] at e
      by_cases hy : y = x
      · subst hy
        rw [if_pos rfl] at e; cases e
        exact ⟨_, _, List.find?_cons_of_pos (by simp [Value.isStr]), rfl, iv⟩
      · rw [if_neg hy] at e
        obtain ⟨en, v, e1, e2, e3⟩ := ih ir e
        exact ⟨en, v, by rw [List.find?_cons_of_neg (by simp [Value.isStr, hy])]; exact e1, e2, e3⟩
theorem IsDict.noRef {es : List DictEntry} {fs : List (Str × PV)} (i : IsDict F es fs) : es.any (·.refKey) = false := by
  induction fs generalizing es with
  | nil => cases i; rfl
  | cons p r ih =>
    cases i with
    | cons iv ir => rw [List.any_cons, ih ir]; rfl
theorem IsDict.findN {es : List DictEntry} {fs : List (Str × PV)} (i : IsDict F es fs) {x : Str} (e : getf fs x = none) : es.find? (·.key.isStr x) = none := by
  induction fs generalizing es with
  | nil => cases i; rfl
  | cons p r ih =>
    obtain ⟨y, c⟩ := p
    cases i with
    | cons iv ir =>
      simp only [getf] at e
      by_cases hy : y = x
      · subst hy; rw [if_pos rfl] at e; cases e
      · rw [if_neg hy] at e
        rw [List.find?_cons_of_neg (by simp [Value.isStr, hy])]
        exact ih ir e
theorem IsDict.look {es : List DictEntry} {fs : List (Str × PV)} (i : IsDict F es fs) {x : Str} {d : PV} {n : Nat} (e : getf fs x = some d) : ∃ v, lookIn x (dictOf es n) = some (some v) ∧ Is F v d := by
  obtain ⟨en, v, e1, e2, e3⟩ := i.find e
  refine ⟨v, ?_, e3⟩
  rw [lookIn_dict]
  unfold getL
  rw [e1, ← e2]
theorem IsDict.lookN {es : List DictEntry} {fs : List (Str × PV)} (i : IsDict F es fs) {x : Str} {n : Nat} (e : getf fs x = none) : lookIn x (dictOf es n) = some none := by
  rw [lookIn_dict]
  unfold getL
  rw [i.findN e, i.noRef]
  simp
theorem findObj_own {K : Frag} {cl : Addr} {cd : ClassData} {od : Obj} {name : Str} {v : Value} (hc : clsIn K cl = some cd) (hd : cd.hasDict = true) (hn : findIn K (.ref cl) name = some none) (hl : lookIn name od = some (some v)) :
    findObj K cl (some od) name = some (.value v) := by
  unfold findObj
  rw [hc, Option.bind_some, hn, Option.bind_some]
  simp only [Option.bind_some]
  unfold PySem.W.ownOf
  rw [if_pos hd]
  dsimp only
  rw [hl]
  rfl
theorem instAt_of {h : Heap} {a dx cl : Addr} {es : List DictEntry} {n : Nat} (e1 : h.get? a = some (instObj cl dx)) (e2 : h.get? dx = some (dictOf es n)) : InstAt h a (instObj cl dx) cl (some (dictOf es n)) := ⟨e1, rfl, rfl, e2⟩
theorem attr_sound (O : C.Ok) (W : Wd C F M s.heap) {cl : Addr} (IC : InstCls C cl) {a dx : Addr} {es : List DictEntry} {n : Nat} {fs : List (Str × PV)} {name : Str} {d : PV} {expr : Bool}
    (e1 : s.heap.get? a = some (instObj cl dx)) (e2 : s.heap.get? dx = some (dictOf es n)) (i : IsDict F es fs) (e : getf fs name = some d) (hr : notRaw d = true) (hn : findIn C.K (.ref cl) name = some none) :
    Pv C A F s (getAttr (.ref a) name expr) d := by
  obtain ⟨cd, hc, hd⟩ := IC.cd
  obtain ⟨v, hl, iv⟩ := i.look (n := n) e
  exact Pv.same W fun Q E kk => get_value (W.kin O) (instAt_of e1 e2) IC.hga (findObj_own hc hd hn hl) (iv.handed hr) (kk _ _ iv)
theorem isInst {v : Value} {cl : Addr} {fs : List (Str × PV)} (h : Is F v (.inst cl fs)) : ∃ a dx n es, v = .ref a ∧ F a = some (instObj cl dx) ∧ F dx = some (dictOf es n) ∧ IsDict F es fs := by
  cases h; exact ⟨_, _, _, _, rfl, by assumption, by assumption, by assumption⟩
theorem ev_attr (O : C.Ok) {x name : Str} {cl : Addr} {fs : List (Str × PV)} {d : PV} {np pos : Pos} (e : get S x = some (.val (.inst cl fs))) (hd : (x == ("__debug__" : Str)) = false) (IC : InstCls C cl) (hn : findIn C.K (.ref cl) name = some none) (ef : getf fs name = some d) (hr : notRaw d = true) :
    EvS C A env S (.Attribute (.Name x np) name pos) d := .mk fun s F M R Q E kk => by
  refine Attribute_name ((ev_name (pos := np) e hd).run s F M R _ _ fun v h' tk F' g i => ?_)
  obtain ⟨a, dx, n, es, rfl, e1, e2, i1⟩ := isInst i
  have W' := R.toWd.grow g
  exact attr_sound (s := { s with heap := h', toks := tk }) O W' IC (W'.sub _ _ e1) (W'.sub _ _ e2) i1 ef hr hn Q E fun v h2 tk2 F2 g2 i2 => kk v h2 tk2 F2 (g.trans g2) i2
theorem ev_attr_self (O : C.Ok) {x name : Str} {a cl : Addr} {fs : List (Str × PV)} {d : PV} {np pos : Pos} (e : get S x = some (.self a cl fs)) (hd : (x == ("__debug__" : Str)) = false) (IC : InstCls C cl) (hn : findIn C.K (.ref cl) name = some none) (ef : getf fs name = some d) (hr : notRaw d = true) :
    EvS C A env S (.Attribute (.Name x np) name pos) d := .mk fun s F M R Q E kk => by
  refine Attribute_name (wpAny_Name (ld_var R e fun v i => ?_) hd)
  obtain ⟨dx, es, n, rfl, _, _, e1, e2, i1⟩ := i
  exact attr_sound O R.toWd IC e1 e2 i1 ef hr hn Q E kk
theorem ev_cattr (O : C.Ok) {x name : Str} {cl : Addr} {y : Str} {t : Tok} {np pos : Pos} (e : C.glob x = some (.ref cl)) (hk : env.e.kindOf x = some .globalImplicit) (hd : (x == ("__debug__" : Str)) = false)
    (hr : readsIn C.K cl (.type "type") = true) (hf : findCls C.K (.ref cl) (.type "type") name = some (.val (.str y t))) : EvS C A env S (.Attribute (.Name x np) name pos) (.str y) := .mk fun s F M R Q E kk => by
  refine Attribute_name ((ev_glob O (pos := np) e hk hd).run s F M R _ _ fun v h' tk F' g i => ?_)
  obtain rfl := isRaw i
  have W' := R.toWd.grow g
  exact cls_value (s := { s with heap := h', toks := tk }) (W'.kin O) hr hf rfl (kk _ _ _ _ g (.str _ _))
theorem ev_smeth (AO : AOk A k) {o : Expr} {name : Str} {x : Str} {es : List Expr} {ds : List PV} {d : PV} {apos pos : Pos} (hb : attributeBase o name env.e (eval o env.e) = eval o env.e) (hn : es.length < 20) (hline : (apos.endLine == pos.line) = true)
    (xo : EvS C A env S o (.str x)) (xs : EvAll C A env S es ds) (e : SM name x ds d) : EvS C A env S (.Call (.Attribute o name apos) es [] pos) d := .mk fun s F M R Q E kk => by
  refine methodCall_any hb xs.all hn hline (xo.run s F M R _ _ fun v h' tk F' g i pl => ?_)
  obtain ⟨t, rfl⟩ := isStr i
  have R' := R.grow g
  refine e.get fun id H => ?_
  refine Calls.callWith_builtin xs.plain (xs.args (s := { s with heap := h', toks := tk }) R' fun vs h2 tk2 F2 g2 i2 => ?_)
  exact H k F2 M { s with heap := h2, toks := tk2 } vs (R'.toWd.grow g2) AO i2 Q E fun v h3 tk3 F3 g3 i3 => kk v h3 tk3 F3 ((g.trans g2).trans g3) i3
theorem ev_meth (O : C.Ok) (AO : AOk A k) {x name : Str} {cl f : Addr} {fs : List (Str × PV)} {es : List Expr} {ds : List PV} {d : PV} {np apos pos : Pos} (e : get S x = some (.val (.inst cl fs))) (hd : (x == ("__debug__" : Str)) = false) (IC : InstCls C cl)
    (hf : findIn C.K (.ref cl) name = some (some (.ref f))) (ht : typeIn C.K (.ref f) = some (.type "function")) (hkeep : keepIn C.K (.ref f) = true) (hs : getf fs name = none) (hn : es.length < 20) (hline : (apos.endLine == pos.line) = true)
    (xs : EvAll C A env S es ds) (ok : FnOk C f k (.inst cl fs :: ds) d) : EvS C A env S (.Call (.Attribute (.Name x np) name apos) es [] pos) d := .mk fun s F M R Q E kk => by
  refine methodCall_any rfl xs.all hn hline ((ev_name (pos := np) e hd).run s F M R _ _ fun v h' tk F' g i pl => ?_)
  obtain ⟨a, dx, n, es', rfl, e1, e2, i1⟩ := isInst i
  have R' := R.grow g
  have W' := R'.toWd
  refine method_fn (s := { s with heap := h', toks := tk }) (W'.kin O) (instAt_of (W'.sub _ _ e1) (W'.sub _ _ e2)) IC.hga IC.hgt hf ht (by show ((lookIn name (dictOf es' n)).map (·.isSome)) = some false; rw [i1.lookN hs]; rfl) ?_
  refine callWith_of (P := fun h => C.K.In h) (by rw [xs.plain]; rfl) (keeps_K hkeep) (xs.args (s := { s with heap := h', toks := tk }) R' fun vs h2 tk2 F2 g2 i2 => ?_)
  have W2 := R'.toWd.grow g2
  exact ⟨W2.kin O, ok A { s with heap := h2, toks := tk2 } F2 M (_ :: vs) W2 AO (.cons (i.mono g2.mono) i2) Q E fun v h3 tk3 F3 g3 i3 => kk v h3 tk3 F3 ((g.trans g2).trans g3) i3⟩
end
end
section
inductive PFl where
  | next | brk | cont | ret (d : PV)
noncomputable def FlIs (F : Fz) : Flow → PFl → Prop
  | .next, .next => True
  | .brk, .brk => True
  | .cont, .cont => True
  | .ret v, .ret d => Is F v d
  | _, _ => False
noncomputable def After (C : Cx) (env : En) (F : Fz) (M : Mz) (s : Shared) (S' : PS) (fl : PFl) (Q : Flow → Shared → Prop) : Prop :=
  ∀ fv h' tk F' M', Stp F M s.heap F' M' h' → Rep C env F' M' S' h' → FlIs F' fv fl → Q fv { s with heap := h', toks := tk }
structure ExS (C : Cx) (A : Around) (env : En) (S : PS) (st : Stmt) (S' : PS) (fl : PFl) : Prop where
  run : ∀ (s : Shared) (F : Fz) (M : Mz), Rep C env F M S s.heap → ∀ (Q : Flow → Shared → Prop) (E : Value → Shared → Prop), After C env F M s S' fl Q → wpAny (model C.prog C.w) A (exec st env.e) Q E s
structure ExA (C : Cx) (A : Around) (env : En) (S : PS) (st : List Stmt) (S' : PS) (fl : PFl) : Prop where
  run : ∀ (s : Shared) (F : Fz) (M : Mz), Rep C env F M S s.heap → ∀ (Q : Flow → Shared → Prop) (E : Value → Shared → Prop), After C env F M s S' fl Q → wpAny (model C.prog C.w) A (execs st env.e) Q E s
structure TsS (C : Cx) (A : Around) (env : En) (S : PS) (e : Expr) (b : Bool) : Prop where
  run : ∀ (s : Shared) (F : Fz) (M : Mz), Rep C env F M S s.heap → ∀ (Q : Bool → Shared → Prop) (E : Value → Shared → Prop), (∀ h' tk F', Grow C F s.heap F' h' → Q b { s with heap := h', toks := tk }) → wpAny (model C.prog C.w) A (isTrue e env.e (eval e env.e)) Q E s
section
variable {C : Cx} {env : En} {F F' F'' : Fz} {M M' M'' : Mz} {h h' h'' : Heap} {S S' S'' : PS} {A : Around} {s : Shared} {E : Value → Shared → Prop} {k : Nat} {st : Stmt} {rest : List Stmt} {fl : PFl} {pos : Pos}
theorem After.grow {Q : Flow → Shared → Prop} (W : Wd C F M s.heap) (g : Grow C F s.heap F' h') {tk : Nat} (a : After C env F M s S' fl Q) : After C env F' M { s with heap := h', toks := tk } S' fl Q :=
  fun fv h2 tk2 F2 M2 st2 R2 i => a fv h2 tk2 F2 M2 ((g.stp W).trans st2) R2 i
theorem After.step {Q : Flow → Shared → Prop} (x : Stp F M s.heap F' M' h') {tk : Nat} (a : After C env F M s S' fl Q) : After C env F' M' { s with heap := h', toks := tk } S' fl Q :=
  fun fv h2 tk2 F2 M2 st2 R2 i => a fv h2 tk2 F2 M2 (x.trans st2) R2 i
theorem ea_nil : ExA C A env S [] S .next := .mk fun s F M R Q E a => wpAny_execs_nil (a .next s.heap s.toks F M (Stp.refl _ _ _) R trivial)
theorem ea_cons (x : ExS C A env S st S' .next) (y : ExA C A env S' rest S'' fl) : ExA C A env S (st :: rest) S'' fl := .mk fun s F M R Q E a =>
  wpAny_execs_cons (x.run s F M R _ _ fun fv h' tk F' M' sp R' i => by
    cases fv with
    | next => exact y.run { s with heap := h', toks := tk } F' M' R' Q E (a.step sp)
    | _ => exact i.elim)
theorem ea_stop (x : ExS C A env S st S' fl) (hf : fl ≠ .next) : ExA C A env S (st :: rest) S' fl := .mk fun s F M R Q E a =>
  wpAny_execs_cons (x.run s F M R _ _ fun fv h' tk F' M' sp R' i => by
    cases fv with
    | next => cases fl <;> first | exact absurd rfl hf | exact i.elim
    | _ => exact a _ _ _ _ _ sp R' i)
theorem ex_ret {e : Expr} {d : PV} (x : EvS C A env S e d) : ExS C A env S (.Return (some e) pos) S (.ret d) := .mk fun s F M R Q E a =>
  wpAny_Return_some (x.run s F M R _ _ fun v h' tk F' g i => a (.ret v) h' tk F' M (g.stp R.toWd) (R.grow g) i)
theorem ex_brk : ExS C A env S (.Break pos) S .brk := .mk fun s F M R Q E a => wpAny_Break (a .brk s.heap s.toks F M (Stp.refl _ _ _) R trivial)
theorem ex_pass : ExS C A env S (.Pass pos) S .next := .mk fun s F M R Q E a => wpAny_Pass (a .next s.heap s.toks F M (Stp.refl _ _ _) R trivial)
theorem ex_if {t : Expr} {b : Bool} {body orelse : List Stmt} (x : TsS C A env S t b) (y : ExA C A env S (if b then body else orelse) S' fl) : ExS C A env S (.If t body orelse pos) S' fl := .mk fun s F M R Q E a =>
  wpAny_If (x.run s F M R _ _ fun h' tk F' g => by
    have z := y.run { s with heap := h', toks := tk } F' M (R.grow g) Q E (a.grow R.toWd g)
    cases b <;> exact z)
theorem ex_set {x : Str} {px : Pos} {e : Expr} {d : PV} (hk : env.e.kindOf x = some .local ∨ x ∈ env.ow) (hs : swapsWith e (some (.Name x px)) pos.line env.e = pure false) (y : EvS C A env S e d) : ExS C A env S (.Assign [.Name x px] e pos) (put S x (.val d)) .next := .mk fun s F M R Q E a =>
  wpAny_Assign_Name (y.run s F M R _ _ fun v h' tk F' g i => st_var (s := { s with heap := h', toks := tk }) (R.grow g) hk (pv := .val d) i fun h2 tk2 R2 sp => a .next h2 tk2 F' M ((g.stp R.toWd).trans sp) R2 trivial) hs
noncomputable def PvL (C : Cx) (A : Around) (F : Fz) (s : Shared) (t : Sem Value) (ds : List PV) : Prop :=
  ∀ (Q : Value → Shared → Prop) (E : Value → Shared → Prop), (∀ a o vs h' tk F', Grow C F s.heap F' h' → s.heap.get? a = none → F' a = none → h'.get? a = some o → LObj o vs → IsAll F' vs ds → Q (.ref a) { s with heap := h', toks := tk }) → wpAny (model C.prog C.w) A t Q E s
structure EvL (C : Cx) (A : Around) (env : En) (S : PS) (e : Expr) (ds : List PV) : Prop where
  run : ∀ (s : Shared) (F : Fz) (M : Mz), Rep C env F M S s.heap → PvL C A F s (eval e env.e) ds
theorem el_list {es : List Expr} {ds : List PV} {p : Pos} (x : EvAll C A env S es ds) (hz : lenOk ds.length = true) : EvL C A env S (.List es p) ds := .mk fun s F M R Q E kk => by
  rw [arm_eval_List]
  refine wpAny_bind (wpAny_standAt (wpAny_bind (x.spliced R fun vs h' tk F' g i => ?_)))
  refine wpAny_newList ?_ (by have := lenOk_le hz; have := i.length; rw [sizeLine_eq]; lia)
  have W' := R.toWd.grow g
  have g2 := Grow.only W' (h' := h'.push (listOf vs.toArray 0)) fun a o e => Heap.get?_push_of_some _ e
  refine kk _ _ vs _ _ _ (g.trans g2) ?_ (W'.none_of_new (size_none h')) (Heap.get?_push_size h' rfl) (LObj.of _ _) i
  cases q : s.heap.get? h'.objs.size with
  | none => rfl
  | some o =>
    by_cases ht : C.ex h'.objs.size
    · obtain ⟨ps, hp, _⟩ := g.tab _ ht
      exact absurd (Heap.lt_size hp) (Nat.lt_irrefl _)
    · exact absurd (Heap.lt_size (g.ext _ _ ht q)) (Nat.lt_irrefl _)
theorem Stp.own (W : Wd C F M h) (g : Grow C F h F' h') {a : Addr} {l : Option Lab} (hn : h.get? a = none) : Stp F M h F' (mset M a l) h' := by
  have st := g.stp W
  refine ⟨st.ext, st.mono, st.fnew, fun b l' e => ?_⟩
  unfold mset at e
  split at e
  · rename_i hb; subst hb; exact .inr hn
  · exact .inl (by rw [e]; simp)
theorem Wd.mnone (W : Wd C F M h) {a : Addr} (e : h.get? a = none) : M a = none := by
  cases q : M a with
  | none => rfl
  | some l => obtain ⟨o, ho⟩ := W.mex a l q; rw [e] at ho; cases ho
theorem ex_own {x : Str} {px : Pos} {e : Expr} {ds : List PV} (hk : env.e.kindOf x = some .local ∨ x ∈ env.ow) (hs : swapsWith e (some (.Name x px)) pos.line env.e = pure false) (y : EvL C A env S e ds) : ExS C A env S (.Assign [.Name x px] e pos) (put S x (.own ds)) .next := .mk fun s F M R Q E a =>
  wpAny_Assign_Name (y.run s F M R _ _ fun b o vs h' tk F' g hn hF ho lo i => by
    have R' := R.grow g
    have hM := R.toWd.mnone hn
    have R2 := R'.owned x hF hM ho (fun v q => by obtain ⟨_, ⟨n, q2⟩, _⟩ := lo; rw [q] at q2; cases q2)
    exact st_var (s := { s with heap := h', toks := tk }) R2 hk (pv := .own ds) ⟨b, vs, o, rfl, mset_self _ _ _, ho, lo, i⟩ fun h2 tk2 R3 sp => a .next h2 tk2 F' _ ((Stp.own R.toWd g hn).trans sp) R3 trivial) hs
theorem own_upd (R : Rep C env F M S h) {x : Str} {ds ds' : List PV} {a : Addr} {o : Obj} {vs vs' : List Value} {m : Str → Option Value} (hn : h.Ns env.e.locals m) (hv : ∀ y pv, get S y = some pv → ∃ v, Loc C env M h m y v ∧ VarIs F M h y v pv)
    (l : Loc C env M h m x (.ref a)) (hM : M a = some (.own x)) (hs : Heap.SameBut a h h') (ho : h'.get? a = some o) (lo : LObj o vs') (i : IsAll F vs' ds') : Rep C env F M (put S x (.own ds')) h' ∧ Stp F M h F M h' := by
  refine ⟨⟨R.toWd.at hs hM (by nofun) ⟨o, ho⟩, ⟨m, hn.sameBut hs (fun q => by have := R.frame; rw [q, hM] at this; cases this), fun y pv e => ?_⟩, R.frame, fun y ky => ?_, R.ev⟩, Stp.at hs hM⟩
  · rw [get_put] at e
    split at e
    · rename_i hy; subst hy; cases e
      exact ⟨_, l.at hs hM (by nofun), a, vs', o, rfl, hM, ho, lo, i⟩
    · rename_i hy
      obtain ⟨u, lu, iu⟩ := hv y pv e
      exact ⟨u, lu.at hs hM (by nofun), iu.at hs hM (by intro q; cases q; exact hy rfl) (by nofun)⟩
  · obtain ⟨k1, c, e1, e2, ov, ob, e3, e4⟩ := R.cells y ky
    exact ⟨k1, c, e1, e2, ov, ob, (hs.2 c (fun q => by rw [q, hM] at e2; cases e2)).trans e3, e4⟩
theorem notInter (ev : EnvOk env) : interactive env.e = false := by unfold interactive; rw [ev.fn]; rfl
noncomputable abbrev nAppend : Str := "append"
theorem append_sound {a : Addr} {o : Obj} {vs : List Value} {v : Value} {Q : Value → Shared → Prop} (ho : s.heap.get? a = some o) (lo : LObj o vs) (hz : vs.length ≤ 5000)
    (h : ∀ h', Heap.SameBut a s.heap h' → (∃ o', h'.get? a = some o' ∧ LObj o' (vs ++ [v])) → Q .none { s with heap := h' }) : wpAny (model C.prog C.w) A (call (.builtin "list.append") [.ref a, v]) Q E s := by
  obtain ⟨n, rfl⟩ := lo.exact
  refine call_meets PySem.F.slot_list_append ⟨_, ho, rfl⟩ PySem.F.entry_list_append (PySem.F.args_list_append_2 _ _) (list_append a vs.toArray n v (by simp; rw [sizeLine_eq]; lia)) ⟨ho, ?_⟩
  refine h _ (Heap.SameBut.update ..) ⟨_, Heap.get?_update_self _ ho rfl, rfl, ⟨if (vs.toArray.push v).size == vs.toArray.size then n else n + 1, ?_⟩, rfl, rfl⟩
  show Data.seq (vs.toArray.push v) _ = _
  simp only [List.push_toArray]
theorem ex_append {x : Str} {np apos cpos : Pos} {e : Expr} {d : PV} {ds : List PV} (hx : get S x = some (.own ds)) (hd : (x == ("__debug__" : Str)) = false) (y : EvS C A env S e d) (hst : ∀ en : Env, starEach [e] en = [(false, eval e en)]) (hz : lenOk ds.length = true) (hline : (apos.endLine == cpos.line) = true) :
    ExS C A env S (.Expr (.Call (.Attribute (.Name x np) nAppend apos) [e] [] cpos) pos) (put S x (.own (ds ++ [d]))) .next := .mk fun s F M R Q E a => by
  refine wpAny_Expr ?_ (notInter R.ev) rfl
  refine methodCall_any (C := C) rfl (by rw [hst]; rfl) (by show 1 < 20; decide) hline (wpAny_Name ?_ hd)
  obtain ⟨m, hn, hv⟩ := R.vars
  obtain ⟨v0, l, b, vs, o, rfl, hM, ho, lo, i⟩ := hv x _ hx
  refine ld_loc R.ev hn l (fun pl => getMethod_list_append ho lo.1 lo.2.2.1 ?_)
  have xs : EvAll C A env S [e] [d] := .cons y (fun en r => by have := hst en; cases e <;> first | rfl | exact absurd (congrArg (List.map Prod.fst) this) (fun q => by cases q)) .nil
  refine Calls.callWith_builtin xs.plain (xs.args R fun ws h' tk F' g i2 => ?_)
  cases i2 with
  | cons i2 r =>
    cases r
    have R' := R.grow g
    have W := R.toWd
    have ht : ¬ C.ex b := fun q => by rw [W.mtab _ q] at hM; cases hM
    have ho' := g.ext _ _ ht ho
    refine append_sound (s := { s with heap := h', toks := tk }) ho' lo (by have := lenOk_le hz; have := i.length; lia) fun h2 hs2 ⟨o2, ho2, lo2⟩ => ?_
    have hn' : h'.Ns env.e.locals m := hn.at' fun o e => g.ext _ _ (fun q => by have := R.frame; rw [W.mtab _ q] at this; cases this) e
    obtain ⟨R2, sp⟩ := own_upd R' hn' (fun y pv e => by obtain ⟨u, lu, iu⟩ := hv y pv e; exact ⟨u, lu.grow W g, iu.grow W g⟩) (ds := ds) (vs := vs) (l.grow W g) hM hs2 ho2 lo2 ((i.mono g.mono).append (.cons i2 .nil))
    exact a .next h2 tk F' M ((g.stp W).trans sp) R2 trivial
end
end
section
section
variable {C : Cx} {env : En} {F F' F'' : Fz} {M M' M'' : Mz} {h h' h'' : Heap} {S S' S'' : PS} {A : Around} {s : Shared} {E : Value → Shared → Prop} {k : Nat} {st : Stmt} {rest : List Stmt} {fl : PFl} {pos : Pos}
/-! reading an own list -/
theorem ev_len_own (O : C.Ok) {x y : Str} {ds : List PV} {p np : Pos} (e : C.glob x = some (.builtin "len")) (hk : env.e.kindOf x = some .globalImplicit) (hd : (x == ("__debug__" : Str)) = false) (hy : get S y = some (.own ds)) (hdy : (y == ("__debug__" : Str)) = false) (hz : lenOk ds.length = true) :
    EvS C A env S (.Call (.Name x p) [.Name y np] [] pos) (.int ds.length) := .mk fun s F M R Q E kk => by
  refine Call_Name1 ((ev_glob O (pos := p) e hk hd).run s F M R _ _ fun v h' tk F' g i => ?_) rfl
  obtain rfl := isRaw i
  have R' := R.grow g
  refine Calls.callWith_builtin rfl (Calls.evalArgs_plain (Calls.spliced_cons (wpAny_Name (ld_var (s := { s with heap := h', toks := tk }) R' hy fun v i => ?_) hdy)))
  obtain ⟨b, vs, o, rfl, hM, ho, lo, i⟩ := i
  refine Calls.spliced_nil (call_len_list (s := { s with heap := h', toks := tk }) (isListO ho lo) (by have := lenOk_le hz; have := i.length; simp; lia) ?_)
  have := i.length
  simp only [List.size_toArray]
  rw [this]
  exact kk _ _ _ _ g (.int _ _)
theorem ev_sub_own {y : Str} {ie : Expr} {ds : List PV} {kx : Int} {d : PV} {np : Pos} (hy : get S y = some (.own ds)) (hdy : (y == ("__debug__" : Str)) = false) (z : EvS C A env S ie (.int kx)) (e : idx ds kx = some d) (hn : isSlice ie = false) : EvS C A env S (.Subscript (.Name y np) ie pos) d := .mk fun s F M R Q E kk => by
  refine Subscript_ (wpAny_Name (ld_var R hy fun v i => ?_) hdy)
  obtain ⟨b, vs, o, rfl, hM, ho, lo, i⟩ := i
  refine z.run s F M R _ _ fun v h' tk F' g j => ?_
  obtain ⟨u, rfl⟩ := isInt j
  have W := R.toWd
  have ht : ¬ C.ex b := fun q => by rw [W.mtab _ q] at hM; cases hM
  obtain ⟨w, e2, i2⟩ := idx_is (i.mono g.mono) e
  exact list_idx (C := C) (s := { s with heap := h', toks := tk }) hn (isListO (g.ext _ _ ht ho) lo) e2 (kk _ _ _ _ g i2)
theorem el_add_own {y : Str} {re : Expr} {ds es : List PV} {np : Pos} (hy : get S y = some (.own ds)) (hdy : (y == ("__debug__" : Str)) = false) (z : EvS C A env S re (.list es)) (h1 : lenOk ds.length = true) (h2 : lenOk es.length = true) : EvL C A env S (.BinOp (.Name y np) .Add re pos) (ds ++ es) := .mk fun s F M R Q E kk => by
  refine wpAny_BinOp (wpAny_Name (ld_var R hy fun v i => ?_) hdy)
  obtain ⟨b, vs, o, rfl, hM, ho, lo, i⟩ := i
  refine z.run s F M R _ _ fun v h' tk F' g j => ?_
  have W := R.toWd
  have W' := W.grow g
  have ht : ¬ C.ex b := fun q => by rw [W.mtab _ q] at hM; cases hM
  obtain ⟨n1, rfl⟩ := lo.exact
  obtain ⟨l2, vs2, o2, rfl, e2, lo2, i2⟩ := isList j
  obtain ⟨n2, rfl⟩ := lo2.exact
  have q1 := lenOk_le h1
  have q2 := lenOk_le h2
  have := i.length
  have := i2.length
  refine P.add_list (s := { s with heap := h', toks := tk }) (g.ext _ _ ht ho) (W'.sub _ _ e2) ?_ (by simp only [List.size_toArray]; rw [sizeLine_eq]; lia)
  have g2 := Grow.only W' (h' := h'.push (listOf (vs ++ vs2).toArray 0)) fun a o e => Heap.get?_push_of_some _ e
  have ho3 : (h'.push (listOf (vs ++ vs2).toArray 0)).get? h'.objs.size = some (listOf (vs ++ vs2).toArray 0) := Heap.get?_push_size h' rfl
  have := kk h'.objs.size _ (vs ++ vs2) _ tk F' (g.trans g2) ?_ (W'.none_of_new (size_none h')) ho3 (LObj.of _ _) ((i.mono g.mono).append i2)
  · simpa using this
  · cases q : s.heap.get? h'.objs.size with
    | none => rfl
    | some o =>
      by_cases ht : C.ex h'.objs.size
      · obtain ⟨ps, hp, _⟩ := g.tab _ ht
        exact absurd (Heap.lt_size hp) (Nat.lt_irrefl _)
      · exact absurd (Heap.lt_size (g.ext _ _ ht q)) (Nat.lt_irrefl _)
/-! tests -/
theorem ts_val {e : Expr} {d : PV} {b : Bool} (x : EvS C A env S e d) (ht : truth d = some b) (he : ∀ (en : Env) (w : Sem Value), isTrue e en w = (do let v ← w; standAt e.pos; holding [v] (truthy v))) : TsS C A env S e b := .mk fun s F M R Q E kk =>
  wpAny_isTrue_value (x.run s F M R _ _ fun v h' tk F' g i => truth_sound (C := C) (s := { s with heap := h', toks := tk }) ht i (kk _ _ _ g)) (he _ _)
theorem ts_cmp (AO : AOk A k) {op : CmpOp} {l r : Expr} {a b : PV} {c : Bool} {p : Pos} (x : EvS C A env S l a) (y : EvS C A env S r b) (e : Cm op a b c) (hm : behindInMarks op r = false) : TsS C A env S (.Compare l [op] [r] p) c := .mk fun s F M R Q E kk =>
  wpAny_isTrue_Compare1 (EvS.two x y R fun va vb h' tk F' g i j => e.run (s := { s with heap := h', toks := tk }) (R.toWd.grow g) AO i j (wpAny_truthy_bool (kk _ _ _ g))) hm
theorem ts_notin_own (AO : AOk A k) {l : Expr} {y : Str} {np : Pos} {a : PV} {ds : List PV} {c : Bool} {p : Pos} (x : EvS C A env S l a) (hy : get S y = some (.own ds)) (hdy : (y == ("__debug__" : Str)) = false) (e : inPV a ds = some c) : TsS C A env S (.Compare l [.NotIn] [.Name y np] p) (!c) := .mk fun s F M R Q E kk => by
  refine wpAny_isTrue_Compare1 (x.run s F M R _ _ fun v h' tk F' g j => wpAny_Name (ld_var (s := { s with heap := h', toks := tk }) (R.grow g) hy fun v i => ?_) hdy) rfl
  obtain ⟨b, vs, o, rfl, hM, ho, lo, i⟩ := i
  exact inPV_sound (C := C) (s := { s with heap := h', toks := tk }) AO (R.grow g).sub e j ho lo i (wpAny_truthy_bool (kk _ _ _ g))
theorem ts_and_nil {p : Pos} : TsS C A env S (.BoolOp .And [] p) true := .mk fun s F M R Q E kk => wpAny_isTrue_BoolOp (wpAny_allTrue_And_nil (kk _ s.toks _ (Grow.refl R.toWd)))
theorem ts_and_t {e : Expr} {es : List Expr} {p : Pos} {b : Bool} (x : TsS C A env S e true) (y : TsS C A env S (.BoolOp .And es p) b) : TsS C A env S (.BoolOp .And (e :: es) p) b := .mk fun s F M R Q E kk =>
  wpAny_isTrue_BoolOp (wpAny_allTrue_And_cons (x.run s F M R _ _ fun h' tk F' g => by
    have z := y.run { s with heap := h', toks := tk } F' M (R.grow g) Q E fun h2 tk2 F2 g2 => kk _ _ _ (g.trans g2)
    rw [arm_isTrue_BoolOp] at z
    exact z))
theorem ts_and_f {e : Expr} {es : List Expr} {p : Pos} (x : TsS C A env S e false) : TsS C A env S (.BoolOp .And (e :: es) p) false := .mk fun s F M R Q E kk =>
  wpAny_isTrue_BoolOp (wpAny_allTrue_And_cons (x.run s F M R _ _ fun h' tk F' g => kk _ _ _ g))
theorem ts_or_nil {p : Pos} : TsS C A env S (.BoolOp .Or [] p) false := .mk fun s F M R Q E kk => wpAny_isTrue_BoolOp (wpAny_allTrue_Or_nil (kk _ s.toks _ (Grow.refl R.toWd)))
theorem ts_or_f {e : Expr} {es : List Expr} {p : Pos} {b : Bool} (x : TsS C A env S e false) (y : TsS C A env S (.BoolOp .Or es p) b) : TsS C A env S (.BoolOp .Or (e :: es) p) b := .mk fun s F M R Q E kk =>
  wpAny_isTrue_BoolOp (wpAny_allTrue_Or_cons (x.run s F M R _ _ fun h' tk F' g => by
    have z := y.run { s with heap := h', toks := tk } F' M (R.grow g) Q E fun h2 tk2 F2 g2 => kk _ _ _ (g.trans g2)
    rw [arm_isTrue_BoolOp] at z
    exact z))
theorem ts_or_t {e : Expr} {es : List Expr} {p : Pos} (x : TsS C A env S e true) : TsS C A env S (.BoolOp .Or (e :: es) p) true := .mk fun s F M R Q E kk =>
  wpAny_isTrue_BoolOp (wpAny_allTrue_Or_cons (x.run s F M R _ _ fun h' tk F' g => kk _ _ _ g))
/-! an own list given away -/
theorem ea_freeze {x : Str} {ds : List PV} {sts : List Stmt} (e : get S x = some (.own ds)) (y : ExA C A env (put S x (.val (.list ds))) sts S' fl) : ExA C A env S sts S' fl := .mk fun s F M R Q E a => by
  obtain ⟨F', M', R', sp, _⟩ := freeze_own R e
  exact y.run s F' M' R' Q E (a.step (tk := s.toks) sp)
theorem setItem_sound {a : Addr} {o : Obj} {vs : List Value} {v : Value} {kx : Int} {t : Tok} {Q : Unit → Shared → Prop} (ho : s.heap.get? a = some o) (lo : LObj o vs) (h0 : 0 ≤ kx) (h1 : kx < vs.length) (hz : vs.length ≤ 5000)
    (h : ∀ h', Heap.SameBut a s.heap h' → (∃ o', h'.get? a = some o' ∧ LObj o' (vs.set kx.toNat v)) → Q () { s with heap := h' }) : wpAny (model C.prog C.w) A (setItem (.ref a) (.int kx t) v) Q E s := by
  obtain ⟨n, rfl⟩ := lo.exact
  refine ki_setAt ho h0 (by lia) (by simpa using h1) ?_
  refine h _ (Heap.SameBut.update ..) ⟨_, Heap.get?_update_self _ ho rfl, rfl, ⟨if (vs.toArray.setIfInBounds kx.toNat v).size == vs.toArray.size then n else n + 1, ?_⟩, rfl, rfl⟩
  show Data.seq (vs.toArray.setIfInBounds kx.toNat v) _ = _
  simp only [List.setIfInBounds_toArray]
theorem asg_item {y : Str} {ie : Expr} {np p : Pos} {ds : List PV} {kx : Int} {d : PV} (hy : get S y = some (.own ds)) (hdy : (y == ("__debug__" : Str)) = false) (z : EvS C A env S ie (.int kx)) (h0 : 0 ≤ kx) (h1 : kx < ds.length) (hz : lenOk ds.length = true)
    (R : Rep C env F M S s.heap) {v : Value} (iv : Is F v d) {Q : Unit → Shared → Prop} (kk : ∀ h' tk F', Stp F M s.heap F' M h' → Rep C env F' M (put S y (.own (ds.set kx.toNat d))) h' → Q () { s with heap := h', toks := tk }) :
    wpAny (model C.prog C.w) A (assign (.Subscript (.Name y np) ie p) env.e v) Q E s := by
  rw [arm_assign_Subscript]
  obtain ⟨m, hn, hv⟩ := R.vars
  obtain ⟨v0, l, b, vs, o, rfl, hM, ho, lo, i⟩ := hv y _ hy
  refine wpAny_bind (wpAny_holding (wpAny_Name (ld_loc R.ev hn l ?_) hdy))
  refine wpAny_bind (wpAny_holding (z.run s F M R _ _ fun v1 h' tk F' g j => ?_))
  obtain ⟨u, rfl⟩ := isInt j
  have R' := R.grow g
  have W := R.toWd
  have ht : ¬ C.ex b := fun q => by rw [W.mtab _ q] at hM; cases hM
  have hl := i.length
  have hzz := lenOk_le hz
  refine wpAny_bind (wpAny_standAt (wpAny_bind (wpAny_holding (setItem_sound (C := C) (s := { s with heap := h', toks := tk }) (g.ext _ _ ht ho) lo h0 (by rw [hl]; exact h1) (by lia) fun h2 hs2 ⟨o2, ho2, lo2⟩ => ?_))))
  refine fun Γ p hΓ => ?_
  rw [Sem.wp_release]
  have hn' : h'.Ns env.e.locals m := hn.at' fun o e => g.ext _ _ (fun q => by have := R.frame; rw [W.mtab _ q] at this; cases this) e
  obtain ⟨R2, sp⟩ := own_upd R' hn' (fun y pv e => by obtain ⟨u, lu, iu⟩ := hv y pv e; exact ⟨u, lu.grow W g, iu.grow W g⟩) (ds := ds) (vs := vs) (l.grow W g) hM hs2 ho2 lo2 ((i.mono g.mono).set kx.toNat (iv.mono g.mono))
  exact kk _ _ F' ((g.stp W).trans sp) R2
theorem ex_item {y : Str} {ie ve : Expr} {np p : Pos} {ds : List PV} {kx : Int} {d : PV} (hy : get S y = some (.own ds)) (hdy : (y == ("__debug__" : Str)) = false) (x : EvS C A env S ve d) (z : EvS C A env S ie (.int kx)) (h0 : 0 ≤ kx) (h1 : kx < ds.length) (hz : lenOk ds.length = true)
    (hs : swapsWithSole [.Subscript (.Name y np) ie p] ve pos.line env.e = pure false) (hw : swappedStores [.Subscript (.Name y np) ie p] ve env.e = pure none) : ExS C A env S (.Assign [.Subscript (.Name y np) ie p] ve pos) (put S y (.own (ds.set kx.toNat d))) .next := .mk fun s F M R Q E a => by
  refine wpAny_Assign_stores (x.run s F M R _ _ fun v h' tk F' g i => ?_) hs hw
  exact asg_item (s := { s with heap := h', toks := tk }) hy hdy z h0 h1 hz (R.grow g) i fun h2 tk2 F2 sp R2 => a .next h2 tk2 F2 M ((g.stp R.toWd).trans sp) R2 trivial
theorem ex_augitem {y : Str} {ie ve : Expr} {np p : Pos} {ds : List PV} {kx n n' : Int} (hy : get S y = some (.own ds)) (hdy : (y == ("__debug__" : Str)) = false) (x : EvS C A env S ve (.int n')) (z : EvS C A env S ie (.int kx)) (h0 : 0 ≤ kx) (h1 : kx < ds.length) (hz : lenOk ds.length = true) (hg : ds[kx.toNat]? = some (.int n))
    (hi : ∀ ov iv new, augStore ie ov iv new = (do holding [new, ov, iv] (setItem ov iv new); release [new, ov, iv] []; pure .next)) : ExS C A env S (.AugAssign (.Subscript (.Name y np) ie p) .Add ve pos) (put S y (.own (ds.set kx.toNat (.int (n + n'))))) .next := .mk fun s F M R Q E a => by
  refine wpAny_AugAssign_SubscriptAny ?_ hi
  obtain ⟨m, hn, hv⟩ := R.vars
  obtain ⟨v0, l, b, vs, o, rfl, hM, ho, lo, i⟩ := hv y _ hy
  refine wpAny_Name (ld_loc R.ev hn l ?_) hdy
  refine z.run s F M R _ _ fun v1 h' tk F' g j => ?_
  obtain ⟨u, rfl⟩ := isInt j
  have R' := R.grow g
  have W := R.toWd
  have ht : ¬ C.ex b := fun q => by rw [W.mtab _ q] at hM; cases hM
  have hl := i.length
  have hzz := lenOk_le hz
  obtain ⟨w, hw, iw⟩ := i.get hg
  obtain ⟨t2, rfl⟩ := isInt iw
  refine wpAny_getItem_list (s := { s with heap := h', toks := tk }) (isListO (g.ext _ _ ht ho) lo) h0 (by lia) (by simpa using hw) ?_
  refine x.run { s with heap := h', toks := tk } F' M R' _ _ fun v2 h2 tk2 F2 g2 j2 => ?_
  obtain ⟨u2, rfl⟩ := isInt j2
  refine iadd_int ?_
  have g3 := g.trans g2
  refine setItem_sound (C := C) (s := { s with heap := h2, toks := tk2 + 1 }) (g3.ext _ _ ht ho) lo h0 (by rw [hl]; exact h1) (by lia) fun h4 hs4 ⟨o4, ho4, lo4⟩ => ?_
  have hn' : h2.Ns env.e.locals m := hn.at' fun o e => g3.ext _ _ (fun q => by have := R.frame; rw [W.mtab _ q] at this; cases this) e
  obtain ⟨R5, sp⟩ := own_upd (R.grow g3) hn' (fun y pv e => by obtain ⟨u, lu, iu⟩ := hv y pv e; exact ⟨u, lu.grow W g3, iu.grow W g3⟩) (ds := ds) (vs := vs) (l.grow W g3) hM hs4 ho4 lo4 ((i.mono g3.mono).set kx.toNat (.int _ _))
  exact a .next h4 _ F2 M ((g3.stp W).trans sp) R5 trivial
end
end
section
structure GrowW (C : Cx) (wr : List Addr) (F : Fz) (h : Heap) (F' : Fz) (h' : Heap) : Prop where
  ext : ∀ a o, ¬ C.ex a → a ∉ wr → h.get? a = some o → h'.get? a = some o
  mono : Le F F'
  sub : ∀ a o, F' a = some o → h'.get? a = some o
  fnew : ∀ a o, F' a = some o → F a = some o ∨ h.get? a = none
  tab : TabOk C F' h'
noncomputable def NoCell (h : Heap) (wr : List Addr) : Prop := ∀ b ∈ wr, ∃ o, h.get? b = some o ∧ ∀ v, o.data ≠ .cell v
section
variable {C : Cx} {env : En} {F F' F'' : Fz} {M M' M'' : Mz} {h h' h'' : Heap} {S S' S'' : PS} {A : Around} {s : Shared} {E : Value → Shared → Prop} {k : Nat} {st : Stmt} {rest : List Stmt} {fl : PFl} {pos : Pos} {wr : List Addr}
theorem GrowW.of (W : Wd C F M h) (hF : ∀ b ∈ wr, F b = none) (hM : ∀ b ∈ wr, M b = none) (hk : ∀ b o, b ∉ wr → h.get? b = some o → h'.get? b = some o) : GrowW C wr F h F h' := by
  refine ⟨fun a o _ hw e => hk a o hw e, Le.refl _, fun a o e => hk a o (fun q => by rw [hF a q] at e; cases e) (W.sub a o e), fun a o e => .inl e, ?_⟩
  intro a ha
  obtain ⟨ps, hp, ht⟩ := W.tab a ha
  exact ⟨ps, hk _ _ (fun q => by have := hM _ q; rw [W.mtab _ ha] at this; cases this) hp, ht⟩
theorem Wd.growW (W : Wd C F M h) (g : GrowW C wr F h F' h') (hM : ∀ b ∈ wr, M b = none) : Wd C F' M h' := by
  refine ⟨g.sub, fun a o e => ?_, fun a l e => ?_, fun a o e => g.mono _ _ (W.base a o e), g.tab, W.mtab⟩
  · rcases g.fnew a o e with e' | e'
    · exact W.dis a o e'
    · exact W.mnone e'
  · by_cases ha : C.ex a
    · obtain ⟨ps, hp, _⟩ := g.tab a ha
      exact ⟨_, hp⟩
    · obtain ⟨o, ho⟩ := W.mex a l e
      exact ⟨o, g.ext a o ha (fun q => by rw [hM _ q] at e; cases e) ho⟩
theorem VarIs.growW (W : Wd C F M h) (g : GrowW C wr F h F' h') (hM : ∀ b ∈ wr, M b = none) {x : Str} {v : Value} {pv : PVar} (H : VarIs F M h x v pv) : VarIs F' M h' x v pv := by
  have ne : ∀ a l, M a = some l → l ≠ .tab → ¬ C.ex a := fun a l e hl q => by rw [W.mtab _ q] at e; cases e; exact hl rfl
  have nw : ∀ a l, M a = some l → a ∉ wr := fun a l e q => by rw [hM _ q] at e; cases e
  cases pv with
  | val d => exact Is.mono g.mono H
  | own ds =>
    obtain ⟨a, vs, n, e1, e2, e3, l, e4⟩ := H
    exact ⟨a, vs, n, e1, e2, g.ext _ _ (ne _ _ e2 (by nofun)) (nw _ _ e2) e3, l, e4.mono g.mono⟩
  | self a cl fs =>
    obtain ⟨dx, es, n, e1, e2, e3, e4, e5, e6⟩ := H
    exact ⟨dx, es, n, e1, e2, e3, g.ext _ _ (ne _ _ e2 (by nofun)) (nw _ _ e2) e4, g.ext _ _ (ne _ _ e3 (by nofun)) (nw _ _ e3) e5, e6.mono g.mono⟩
theorem Loc.growW (W : Wd C F M h) (g : GrowW C wr F h F' h') (hM : ∀ b ∈ wr, M b = none) (hc : NoCell h wr) {m : Str → Option Value} {x : Str} {v : Value} (H : Loc C env M h m x v) : Loc C env M h' m x v := by
  have key : ∀ {ov : Option Value}, CellAt C env M h x ov → CellAt C env M h' x ov := fun {ov} i => by
    obtain ⟨c, e1, e2, o, e3, e4⟩ := i
    refine ⟨c, e1, e2, o, g.ext _ _ (fun q => ?_) (fun q => ?_) e3, e4⟩
    · rcases e2 with e2 | e2
      · rw [W.mtab _ q] at e2; cases e2
      · exact e2.2 q
    · obtain ⟨o', ho, hv⟩ := hc _ q
      rw [e3] at ho; cases ho
      exact hv _ e4
  rcases H with H | ⟨k, H⟩ | ⟨k, kk, H⟩
  · exact .inl H
  · exact .inr (.inl ⟨k, key H⟩)
  · exact .inr (.inr ⟨k, kk, key H⟩)
theorem Rep.growW (R : Rep C env F M S h) (g : GrowW C wr F h F' h') (hM : ∀ b ∈ wr, M b = none) (hc : NoCell h wr) : Rep C env F' M S h' := by
  have W := R.toWd
  have nw : ∀ a l, M a = some l → a ∉ wr := fun a l e q => by rw [hM _ q] at e; cases e
  refine ⟨W.growW g hM, ?_, R.frame, ?_, R.ev⟩
  · obtain ⟨m, hn, hv⟩ := R.vars
    refine ⟨m, ?_, fun x pv e => ?_⟩
    · exact hn.at' fun o e => g.ext _ _ (fun q => by have := R.frame; rw [W.mtab _ q] at this; cases this) (nw _ _ R.frame) e
    · obtain ⟨v, l, i⟩ := hv x pv e
      exact ⟨v, l.growW W g hM hc, i.growW W g hM⟩
  · intro x k
    obtain ⟨k1, c, e1, e2, ov, o, e3, e4⟩ := R.cells x k
    exact ⟨k1, c, e1, e2, ov, o, g.ext _ _ (fun q => by rw [W.mtab _ q] at e2; cases e2) (nw _ _ e2) e3, e4⟩
theorem Stp.growW {F₀ : Fz} {M₀ : Mz} {h₀ : Heap} (x : Stp F₀ M₀ h₀ F M h) (W : Wd C F M h) (g : GrowW C wr F h F' h') (hw : ∀ b ∈ wr, h₀.get? b = none) : Stp F₀ M₀ h₀ F' M h' := by
  refine ⟨fun a o hm e => g.ext a o (fun q => ?_) (fun q => by rw [hw _ q] at e; cases e) (x.ext a o hm e), x.mono.trans g.mono, fun a o e => ?_, x.mnew⟩
  · rcases x.mnew a .tab (W.mtab a q) with r | r
    · exact r hm
    · rw [r] at e; cases e
  · rcases g.fnew a o e with e' | e'
    · exact x.fnew a o e'
    · exact .inr (x.back e')
structure Itr (C : Cx) (A : Around) (F : Fz) (tgt : Expr) (I : Addr) (wr : List Addr) (ds : List PV) (St : Nat → Heap → Prop) : Prop where
  live : ∀ i h, St i h → NoCell h wr
  frame : ∀ i h h', St i h → (∀ b o, (b ∈ wr ∨ F b ≠ none) → h.get? b = some o → h'.get? b = some o) → St i h'
  item : ∀ (i : Nat) (d : PV) (s : Shared) (F' : Fz) (M' : Mz) (Q : Value → Shared → Prop) (E : Value → Shared → Prop), ds[i]? = some d → St i s.heap → Le F F' → Wd C F' M' s.heap → (∀ b ∈ wr, F' b = none) → (∀ b ∈ wr, M' b = none) →
    (∀ v h' tk F'', GrowW C wr F' s.heap F'' h' → (∀ b ∈ wr, F'' b = none) → Is F'' v d → St (i + 1) h' → Q v { s with heap := h', toks := tk }) →
    wpAny (model C.prog C.w) A (pyNext (.ref I)) (fun r s₁ => ∃ v, r = some v ∧ ∀ E', wpAny (model C.prog C.w) A (letOwnedTupleGo tgt (.ref I) v) (fun _ s' => Q v s') E' s₁) E s
  done : ∀ (s : Shared) (Q : Option Value → Shared → Prop) (E : Value → Shared → Prop), St ds.length s.heap → (∀ h' tk, (∀ b o, b ∉ wr → s.heap.get? b = some o → h'.get? b = some o) → Q none { s with heap := h', toks := tk }) → wpAny (model C.prog C.w) A (pyNext (.ref I)) Q E s
  self : ∀ (i : Nat) (s : Shared) (Q : Value → Shared → Prop) (E : Value → Shared → Prop), St i s.heap → Q (.ref I) s → wpAny (model C.prog C.w) A (pyIter (.ref I)) Q E s
noncomputable def owners : List String := ["enumerate", "zip", "dict_itemiterator", "dict_reverseitemiterator", "odict_iterator", "itertools.zip_longest", "itertools.pairwise"]
noncomputable def ItO (h : Heap) (I : Addr) : Prop := ∃ o n vs, h.get? I = some o ∧ o.cls = .type n ∧ o.data = .fields vs ∧ owners.contains n = false
theorem go_plain {tgt : Expr} {I : Addr} {v : Value} {Q : Unit → Shared → Prop} (hi : ItO s.heap I) (hQ : Q () s) : wpAny (model C.prog C.w) A (letOwnedTupleGo tgt (.ref I) v) Q E s := by
  obtain ⟨o, n, vs, ho, hc, hd, hn⟩ := hi
  have key : ∀ a : Addr, wpAny (model C.prog C.w) A (do
      let o ← load I
      match o.cls, o.data with
      | .type n, .fields vs =>
        if ["enumerate", "zip", "dict_itemiterator", "dict_reverseitemiterator", "odict_iterator", "itertools.zip_longest", "itertools.pairwise"].contains n && vs[0]? == some (rawInt a) then
          rule "for.unpacks-the-owned-tuple"
          updateField I 0 .none
      | _, _ => pure ()) Q E s := fun a => by
    refine wpAny_bind (wpAny_load ho ?_)
    rw [hc, hd]
    dsimp only
    have hn' : (["enumerate", "zip", "dict_itemiterator", "dict_reverseitemiterator", "odict_iterator", "itertools.zip_longest", "itertools.pairwise"].contains n && vs[0]? == some (rawInt a)) = false := by
      have : (["enumerate", "zip", "dict_itemiterator", "dict_reverseitemiterator", "odict_iterator", "itertools.zip_longest", "itertools.pairwise"].contains n) = false := hn
      rw [this, Bool.false_and]
    rw [if_neg (by rw [hn']; decide)]
    exact wpAny_pure hQ
  cases tgt <;> first | exact wpAny_pure hQ | (cases v <;> first | exact wpAny_pure hQ | exact key _)
theorem Itr.of {tgt : Expr} {I : Addr} {fp : List Addr} {ds : List PV} {P : Nat → Value → Prop} {St : Nat → Heap → Prop} (W : Walks C.prog C.w A I fp [I] ds.length P St) (hfp : ∀ b ∈ fp, b = I ∨ F b ≠ none) (hO : ∀ i h, St i h → ItO h I)
    (hP : ∀ i v, P i v → ∀ d, ds[i]? = some d → Is F v d) : Itr C A F tgt I [I] ds St where
  live := fun i h st b hb => by
    rw [List.mem_singleton] at hb; subst hb
    obtain ⟨o, n, vs, ho, hc, hd, hn⟩ := hO i h st
    exact ⟨o, ho, fun v q => by rw [hd] at q; cases q⟩
  frame := fun i h h' st hk => W.frame i h h' st fun b hb o e => hk b o (by rcases hfp b hb with q | q <;> simp [q]) e
  item := fun i d s F' M' Q E hd st le wd hF hM hQ => by
    have hi : i < ds.length := (List.getElem?_eq_some_iff.mp hd).1
    refine W.item i s _ E hi st fun v h' tk pv st' hk => ⟨v, rfl, fun E' => ?_⟩
    exact go_plain (s := { s with heap := h', toks := tk }) (hO _ _ st') (hQ v h' tk F' (GrowW.of wd hF hM hk) hF ((hP i v pv d hd).mono le) st')
  done := fun s Q E st hQ => W.done s Q E st fun h' tk hk => hQ h' tk hk
  self := W.self
structure ItS (C : Cx) (A : Around) (env : En) (S : PS) (tgt iter : Expr) (ds : List PV) : Prop where
  run : ∀ (s : Shared) (F : Fz) (M : Mz), Rep C env F M S s.heap → ∀ (Q : Value → Shared → Prop) (E : Value → Shared → Prop),
    (∀ I wr St h' tk F', Grow C F s.heap F' h' → (∀ b ∈ wr, s.heap.get? b = none) → (∀ b ∈ wr, F' b = none) → Itr C A F' tgt I wr ds St → St 0 h' → Q (.ref I) { s with heap := h', toks := tk }) →
    wpAny (model C.prog C.w) A (eval iter env.e) (fun x s₁ => wpAny (model C.prog C.w) A (pyIter x) Q E s₁) E s
theorem Grow.nobody (g : Grow C F h F' h') (W : Wd C F M h) {a : Addr} (e : h'.get? a = none) : h.get? a = none := by
  cases q : h.get? a with
  | none => rfl
  | some o =>
    by_cases ht : C.ex a
    · obtain ⟨ps, hp, _⟩ := g.tab a ht
      rw [e] at hp; cases hp
    · rw [g.ext _ _ ht q] at e; cases e
theorem pushI (W : Wd C F M h) (o : Obj) : Grow C F h F (h.push o) := Grow.only W fun a p e => Heap.get?_push_of_some _ e
theorem it_list {iter tgt : Expr} {ds : List PV} (hh : A.handled = none) (x : EvS C A env S iter (.list ds)) : ItS C A env S tgt iter ds := .mk fun s F M R Q E kk => by
  refine x.run s F M R _ _ fun v h' tk F' g i => ?_
  obtain ⟨l, vs, o, rfl, e1, lo, i1⟩ := isList i
  have W' := R.toWd.grow g
  have hl := isListO (W'.sub _ _ e1) lo
  refine wpAny_pyIter_list (s := { s with heap := h', toks := tk }) hl ?_
  have g2 := pushI W' { cls := .type "list_iterator", data := .fields #[.ref l, .int 0 0] }
  have hF : F' h'.objs.size = none := W'.none_of_new (size_none h')
  have hne : l ≠ h'.objs.size := fun q => by rw [q, hF] at e1; cases e1
  refine kk h'.objs.size [h'.objs.size] (fun i h => h.IsListIter h'.objs.size l i ∧ h.IsList l vs.toArray) _ tk F' (g.trans g2) (by simpa using g.nobody R.toWd (size_none h')) (by simpa using hF) (Itr.of (P := fun i v => vs.toArray[i]? = some v) (by have := Walks.list (prog := C.prog) (w := C.w) hh h'.objs.size l hne vs.toArray; simpa [i1.length] using this) ?_ ?_ ?_) ⟨⟨_, Heap.get?_push_size h' rfl, rfl, rfl⟩, hl.at fun o e => Heap.get?_push_of_some _ e⟩
  · intro b hb
    simp only [List.mem_cons, List.mem_nil_iff, or_false] at hb
    rcases hb with rfl | rfl
    · exact .inl rfl
    · exact .inr (by rw [e1]; simp)
  · rintro i h ⟨⟨o, ho, hc, hd⟩, _⟩
    exact ⟨o, _, _, ho, hc, hd, by decide⟩
  · intro i v hv d hd
    obtain ⟨v', e1, e2⟩ := i1.get hd
    simp only [List.getElem?_toArray] at hv
    rw [hv] at e1; cases e1
    exact e2
theorem it_bytes {iter tgt : Expr} {b : List UInt8} (hh : A.handled = none) (x : EvS C A env S iter (.bytes b)) : ItS C A env S tgt iter (b.map fun c => .int c.toNat) := .mk fun s F M R Q E kk => by
  refine x.run s F M R _ _ fun v h' tk F' g i => ?_
  obtain ⟨t, rfl⟩ := isBytes i
  have W' := R.toWd.grow g
  refine KBw.pyIter_bytes (s := { s with heap := h', toks := tk }) ?_
  have g2 := pushI W' { cls := .type "bytes_iterator", data := .fields #[.bytes b.toArray t, .int 0 0] }
  have hF : F' h'.objs.size = none := W'.none_of_new (size_none h')
  refine kk h'.objs.size [h'.objs.size] (fun i h => KBw.IsBytesIter h h'.objs.size b.toArray t i) _ tk F' (g.trans g2) (by simpa using g.nobody R.toWd (size_none h')) (by simpa using hF) (Itr.of (P := fun i v => ∃ c u, b.toArray[i]? = some c ∧ v = .int (c.toNat : Int) u) (by have := KBw.walks (prog := C.prog) (w := C.w) hh h'.objs.size b.toArray t; simpa using this) ?_ ?_ ?_) ⟨_, Heap.get?_push_size h' rfl, rfl, rfl⟩
  · intro b hb
    simp only [List.mem_cons, List.mem_nil_iff, or_false] at hb
    exact .inl hb
  · rintro i h ⟨o, ho, hc, hd⟩
    exact ⟨o, _, _, ho, hc, hd, by decide⟩
  · rintro i v ⟨c, u, hv, rfl⟩ d hd
    simp only [List.getElem?_toArray] at hv
    rw [List.getElem?_map, hv] at hd
    cases hd
    exact .int _ _
theorem it_str {iter tgt : Expr} {y : Str} (hh : A.handled = none) (x : EvS C A env S iter (.str y)) : ItS C A env S tgt iter (y.cps.toList.map fun c => .str ⟨#[c]⟩) := .mk fun s F M R Q E kk => by
  refine x.run s F M R _ _ fun v h' tk F' g i => ?_
  obtain ⟨t, rfl⟩ := isStr i
  have W' := R.toWd.grow g
  have hF : F' h'.objs.size = none := W'.none_of_new (size_none h')
  have fin : ∀ ty : String, owners.contains ty = false → Walks C.prog C.w A h'.objs.size [h'.objs.size] [h'.objs.size] y.cps.size (SignAt y) (fun i h => h.IsStrIter h'.objs.size ty y t i) →
      Q (.ref h'.objs.size) { s with heap := h'.push { cls := .type ty, data := .fields #[.str y t, .int 0 0] }, toks := tk } := fun ty ht wk => by
    have g2 := pushI W' { cls := .type ty, data := .fields #[.str y t, .int 0 0] }
    refine kk h'.objs.size [h'.objs.size] (fun i h => h.IsStrIter h'.objs.size ty y t i) _ tk F' (g.trans g2) (by simpa using g.nobody R.toWd (size_none h')) (by simpa using hF) (Itr.of (P := SignAt y) (by simpa using wk) ?_ ?_ ?_) ⟨_, Heap.get?_push_size h' rfl, rfl, rfl⟩
    · intro b hb
      simp only [List.mem_cons, List.mem_nil_iff, or_false] at hb
      exact .inl hb
    · rintro i h ⟨o, ho, hc, hd⟩
      exact ⟨o, _, _, ho, hc, hd, ht⟩
    · rintro i v ⟨c, u, hv, rfl⟩ d hd
      rw [List.getElem?_map, Array.getElem?_toList, hv] at hd
      cases hd
      exact .str _ _
  cases ha : y.cps.all (· < 128)
  · exact wpAny_pyIter_wide ha (fin _ (by decide) (Walks.strWide hh _ y t))
  · exact wpAny_pyIter_ascii ha (fin _ (by decide) (Walks.strAscii hh _ y t))
theorem walks_range {prog : Program} {w : World} (hh : A.handled = none) (I : Addr) (a : Int) (n : Nat) :
    Walks prog w A I [I] [I] n (fun i v => ∃ t, v = .int (a + i) t) (fun i h => IsRangeIter h I (a + (i : Nat)) ((n : Int) - (i : Nat)) 1) where
  sub := fun _ hb => hb
  frame := fun _ _ _ st hk => hk I (by simp) _ st
  item := fun i s Q E hi st hQ => by
    refine wpAny_pyNext_range_item st (by lia) fun h' hit' hs' => ?_
    refine hQ _ h' _ ⟨_, rfl⟩ ?_ fun b o hb e => hs'.extBut b o (fun h => hb (by simp [h])) e
    have e1 : a + ((i + 1 : Nat) : Int) = a + (i : Int) + 1 := by lia
    have e2 : (n : Int) - ((i + 1 : Nat) : Int) = (n : Int) - (i : Int) - 1 := by lia
    rw [e1, e2]; exact hit'
  done := fun s Q E st hQ => wpAny_pyNext_range_end hh st (by lia) fun h' he' => hQ h' s.toks fun b o hb e => he' b o (fun h => hb (by simp [h])) e
  self := fun _ _ _ _ st hQ => wpAny_pyIter_rangeiter st hQ
noncomputable def rangeL (a b : Int) : List PV := (List.range (b - a).toNat).map fun i : Nat => .int (a + (i : Int))
theorem range_fin {tgt : Expr} (hh : A.handled = none) (R : Rep C env F M S s.heap) {a b : Int} {t u v : Tok} {tk : Nat} (g : Grow C F s.heap F' h') (hr : IsRange h' h''.objs.size a b 1 t u v) (hs : -(2 ^ 62) ≤ a ∧ a < 2 ^ 62 ∧ -(2 ^ 62) ≤ b ∧ b < 2 ^ 62)
    {Q : Value → Shared → Prop} (kk : ∀ I wr St h' tk F', Grow C F s.heap F' h' → (∀ b ∈ wr, s.heap.get? b = none) → (∀ b ∈ wr, F' b = none) → Itr C A F' tgt I wr (rangeL a b) St → St 0 h' → Q (.ref I) { s with heap := h', toks := tk }) :
    wpAny (model C.prog C.w) A (pyIter (.ref h''.objs.size)) Q E { s with heap := h', toks := tk } := by
  have W' := R.toWd.grow g
  refine wpAny_pyIter_range (s := { s with heap := h', toks := tk }) hr (small_one hs.1 hs.2.1 hs.2.2.1 hs.2.2.2) ?_
  have g2 := pushI W' { cls := .type "range_iterator", data := .fields #[rawInt a, rawInt (Builtin.Range.rangeSize a b 1), rawInt 1] }
  have hF : F' h'.objs.size = none := W'.none_of_new (size_none h')
  have hlen : (rangeL a b).length = (b - a).toNat := by unfold rangeL; simp
  refine kk h'.objs.size [h'.objs.size] (fun i h => IsRangeIter h h'.objs.size (a + (i : Nat)) (((rangeL a b).length : Int) - (i : Nat)) 1) _ tk F' (g.trans g2) (by simpa using g.nobody R.toWd (size_none h')) (by simpa using hF) (Itr.of (P := fun i v => ∃ t, v = .int (a + i) t) (walks_range hh h'.objs.size a _) ?_ ?_ ?_) ?_
  · intro b hb
    simp only [List.mem_cons, List.mem_nil_iff, or_false] at hb
    exact .inl hb
  · rintro i h st
    exact ⟨_, _, _, st, rfl, rfl, by decide⟩
  · rintro i v ⟨t, rfl⟩ d hd
    unfold rangeL at hd
    rw [List.getElem?_map] at hd
    cases q : (List.range (b - a).toNat)[i]? with
    | none => rw [q] at hd; cases hd
    | some j =>
      rw [q] at hd; cases hd
      have := (List.getElem?_eq_some_iff.mp q).2
      simp only [List.getElem_range] at this
      subst this
      exact .int _ _
  · show IsRangeIter _ _ _ _ _
    have e1 : a + ((0 : Nat) : Int) = a := by lia
    have e2 : ((rangeL a b).length : Int) - ((0 : Nat) : Int) = Builtin.Range.rangeSize a b 1 := by
      rw [hlen, rangeSize_one]; split <;> lia
    rw [e1, e2]
    exact Heap.get?_push_size h' rfl
theorem it_range2 (O : C.Ok) (hh : A.handled = none) {tgt : Expr} {x : Str} {ae be : Expr} {a b : Int} {p : Pos} (e : C.glob x = some (.type "range")) (hk : env.e.kindOf x = some .globalImplicit) (hd : (x == ("__debug__" : Str)) = false)
    (xs : EvAll C A env S [ae, be] [.int a, .int b]) (hs : -(2 ^ 62) ≤ a ∧ a < 2 ^ 62 ∧ -(2 ^ 62) ≤ b ∧ b < 2 ^ 62) : ItS C A env S tgt (.Call (.Name x p) [ae, be] [] pos) (rangeL a b) := .mk fun s F M R Q E kk => by
  refine Call_Name rfl ((ev_glob O (pos := p) e hk hd).run s F M R _ _ fun v h' tk F' g i => ?_)
  obtain rfl := isRaw i
  have R' := R.grow g
  refine PyProof.Rows.callWith_type xs.plain (xs.args (s := { s with heap := h', toks := tk }) R' fun vs h2 tk2 F2 g2 i2 => ?_)
  cases i2 with | cons i r => cases r with | cons j r => cases r; obtain ⟨t, rfl⟩ := isInt i; obtain ⟨u, rfl⟩ := isInt j; exact call_range_2 (s := { s with heap := h2, toks := tk2 }) (range_fin (h'' := h2) hh R ((g.trans g2).trans (pushI (R'.toWd.grow g2) _)) (Heap.get?_push_size h2 rfl) hs kk)
theorem it_range1 (O : C.Ok) (hh : A.handled = none) {tgt : Expr} {x : Str} {be : Expr} {b : Int} {p : Pos} (e : C.glob x = some (.type "range")) (hk : env.e.kindOf x = some .globalImplicit) (hd : (x == ("__debug__" : Str)) = false)
    (xs : EvAll C A env S [be] [.int b]) (hs : -(2 ^ 62) ≤ b ∧ b < 2 ^ 62) : ItS C A env S tgt (.Call (.Name x p) [be] [] pos) (rangeL 0 b) := .mk fun s F M R Q E kk => by
  refine Call_Name rfl ((ev_glob O (pos := p) e hk hd).run s F M R _ _ fun v h' tk F' g i => ?_)
  obtain rfl := isRaw i
  have R' := R.grow g
  refine PyProof.Rows.callWith_type xs.plain (xs.args (s := { s with heap := h', toks := tk }) R' fun vs h2 tk2 F2 g2 i2 => ?_)
  cases i2 with | cons i r => cases r; obtain ⟨t, rfl⟩ := isInt i; exact call_range_1 (s := { s with heap := h2, toks := tk2 }) (range_fin (h'' := h2) hh R ((g.trans g2).trans (pushI (R'.toWd.grow g2) _)) (Heap.get?_push_size h2 rfl) (by lia) kk)
end
end
section
structure TgS (C : Cx) (A : Around) (env : En) (S : PS) (tgt : Expr) (d : PV) (S' : PS) : Prop where
  run : ∀ (s : Shared) (F : Fz) (M : Mz), Rep C env F M S s.heap → ∀ v, Is F v d → ∀ (Q : Unit → Shared → Prop) (E : Value → Shared → Prop), (∀ h' tk F' M', Stp F M s.heap F' M' h' → Rep C env F' M' S' h' → Q () { s with heap := h', toks := tk }) → wpAny (model C.prog C.w) A (assign tgt env.e v) Q E s
section
variable {C : Cx} {env : En} {F F' F'' : Fz} {M M' M'' : Mz} {h h' h'' : Heap} {S S' S'' : PS} {A : Around} {s : Shared} {E : Value → Shared → Prop} {k : Nat} {st : Stmt} {rest : List Stmt} {fl : PFl} {pos : Pos} {wr : List Addr}
noncomputable def Sto (env : En) (x : Str) : Prop := env.e.kindOf x = some .local ∨ x ∈ env.ow
theorem tg_name {x : Str} {p : Pos} {d : PV} (hk : Sto env x) : TgS C A env S (.Name x p) d (put S x (.val d)) := .mk fun s F M R v i Q E kk =>
  wpAny_assign_Name (st_var R hk (pv := .val d) i fun h' tk R' sp => kk h' tk F M sp R')
theorem unpack2 (hh : A.handled = none) {a b : Str} {pa pb p : Pos} {n : Nat} {d1 d2 : PV} (ha : Sto env a) (hb : Sto env b) : TgS C A env S (.Tuple [.Name a pa, .Name b pb] n p) (.tuple [d1, d2]) (put (put S a (.val d1)) b (.val d2)) := .mk fun s F M R v i Q E kk => by
  obtain ⟨t, vs, m, rfl, e1, i1⟩ := isTuple i
  cases i1 with
  | cons j1 r =>
    cases r with
    | cons j2 r =>
      cases r
      refine assign_Tuple_tuple hh (isTupOf (R.sub _ _ e1)) rfl rfl fun h' he => ?_
      have g : Grow C F s.heap F h' := Grow.only R.toWd fun b o e => he b o (Nat.ne_of_lt (Heap.lt_size e)) e
      show wpAny _ _ (assignInOrder [assign (.Name a pa) env.e, assign (.Name b pb) env.e] [_, _]) _ _ _
      refine assignInOrder_cons ((tg_name ha).run { s with heap := h' } F M (R.grow g) _ j1 _ _ fun h2 tk2 F2 M2 sp2 R2 => ?_)
      refine assignInOrder_cons ((tg_name hb).run { s with heap := h2, toks := tk2 } F2 M2 R2 _ (j2.mono sp2.mono) _ _ fun h3 tk3 F3 M3 sp3 R3 => ?_)
      exact assignInOrder_nil (kk h3 tk3 F3 M3 (((g.stp R.toWd).trans sp2).trans sp3) R3)
theorem ex_tuple {elts : List Expr} {n : Nat} {tp : Pos} {e : Expr} {d : PV} (x : EvS C A env S e d) (t : TgS C A env S (.Tuple elts n tp) d S') (hs : swapsWithSole [.Tuple elts n tp] e pos.line env.e = pure false) (hw : swappedStores [.Tuple elts n tp] e env.e = pure none) :
    ExS C A env S (.Assign [.Tuple elts n tp] e pos) S' .next := .mk fun s F M R Q E a =>
  Assign_Tuple (x.run s F M R _ _ fun v h' tk F' g i => t.run { s with heap := h', toks := tk } F' M (R.grow g) v i _ _ fun h2 tk2 F2 M2 sp R2 => a .next h2 tk2 F2 M2 ((g.stp R.toWd).trans sp) R2 trivial) hs hw
theorem ex_swapped (hh : A.handled = none) {elts : List Expr} {a b : Str} {n : Nat} {tp : Pos} {e : Expr} {d1 d2 : PV} (ha : Sto env a) (hb : Sto env b) (x : EvS C A env S e (.tuple [d1, d2])) (hs : swapsWithSole [.Tuple elts n tp] e pos.line env.e = pure false) (hw : swappedStores [.Tuple elts n tp] e env.e = pure (some [a, b])) :
    ExS C A env S (.Assign [.Tuple elts n tp] e pos) (put (put S b (.val d2)) a (.val d1)) .next := .mk fun s F M R Q E kk => by
  refine Assign_Tuple_swapped (x.run s F M R _ _ fun v h' tk F' g i => ?_) hs hw
  have R' := R.grow g
  obtain ⟨t, vs, m, rfl, e1, i1⟩ := isTuple i
  cases i1 with
  | cons j1 r =>
    cases r with
    | cons j2 r =>
      cases r
      refine unpackItems_tuple (s := { s with heap := h', toks := tk }) (items := #[_, _]) hh (isTupOf (R'.sub _ _ e1)) fun h2 he => ?_
      have g2 : Grow C F' h' F' h2 := Grow.only R'.toWd fun b o e => he b o (Nat.ne_of_lt (Heap.lt_size e)) e
      show wpAny _ _ (assignInOrder [bindName env.e b, bindName env.e a] [_, _]) _ _ _
      refine assignInOrder_cons (bindName_ (st_var (s := { s with heap := h2, toks := tk }) (R'.grow g2) hb (pv := .val d2) j2 fun h3 tk3 R3 sp3 => ?_))
      refine assignInOrder_cons (bindName_ (st_var (s := { s with heap := h3, toks := tk3 }) R3 ha (pv := .val d1) j1 fun h4 tk4 R4 sp4 => ?_))
      exact assignInOrder_nil (kk .next h4 tk4 F' M ((((g.trans g2).stp R.toWd).trans sp3).trans sp4) R4 trivial)
theorem ex_three {t₁ t₂ t₃ : Expr} {S1 S2 S3 : PS} {e : Expr} {d : PV} (x : EvS C A env S e d) (h1 : TgS C A env S t₁ d S1) (h2 : TgS C A env S1 t₂ d S2) (h3 : TgS C A env S2 t₃ d S3)
    (he : (assignEach [t₁, t₂, t₃] env.e).map (·.2) = [assign t₁ env.e, assign t₂ env.e, assign t₃ env.e]) (hw : swappedStores [t₁, t₂, t₃] e env.e = pure none) :
    ExS C A env S (.Assign [t₁, t₂, t₃] e pos) S3 .next := .mk fun s F M R Q E a =>
  wpAny_Assign_three (x.run s F M R _ _ fun v h' tk F' g i => h1.run { s with heap := h', toks := tk } F' M (R.grow g) v i _ _ fun ha tka Fa Ma sa Ra => h2.run { s with heap := ha, toks := tka } Fa Ma Ra v (i.mono sa.mono) _ _ fun hb tkb Fb Mb sb Rb =>
    h3.run { s with heap := hb, toks := tkb } Fb Mb Rb v ((i.mono sa.mono).mono sb.mono) _ _ fun hc tkc Fc Mc sc Rc => a .next hc tkc Fc Mc ((((g.stp R.toWd).trans sa).trans sb).trans sc) Rc trivial) he hw
/-! loops -/
inductive ForS (C : Cx) (A : Around) (env : En) (tgt : Expr) (body : List Stmt) (Sf : PS) (fl : PFl) : List PV → PS → Prop
  | done : fl = .next → ForS C A env tgt body Sf fl [] Sf
  | step {d : PV} {ds : List PV} {S S1 S2 : PS} : TgS C A env S tgt d S1 → ExA C A env S1 body S2 .next → ForS C A env tgt body Sf fl ds S2 → ForS C A env tgt body Sf fl (d :: ds) S
  | brk {d : PV} {ds : List PV} {S S1 : PS} : TgS C A env S tgt d S1 → ExA C A env S1 body Sf .brk → fl = .next → ForS C A env tgt body Sf fl (d :: ds) S
  | ret {d r : PV} {ds : List PV} {S S1 : PS} : TgS C A env S tgt d S1 → ExA C A env S1 body Sf (.ret r) → fl = .ret r → ForS C A env tgt body Sf fl (d :: ds) S
theorem Stp.wfree (x : Stp F M h F' M' h') (hl : NoCell h wr) (hF : ∀ b ∈ wr, F b = none) (hM : ∀ b ∈ wr, M b = none) : (∀ b ∈ wr, F' b = none) ∧ (∀ b ∈ wr, M' b = none) := by
  refine ⟨fun b hb => ?_, fun b hb => ?_⟩
  · cases q : F' b with
    | none => rfl
    | some o =>
      obtain ⟨o', ho, _⟩ := hl b hb
      rcases x.fnew b o q with r | r | r
      · rw [hF b hb] at r; cases r
      · rw [ho] at r; cases r
      · exact absurd (hM b hb) r
  · cases q : M' b with
    | none => rfl
    | some l =>
      obtain ⟨o', ho, _⟩ := hl b hb
      rcases x.mnew b l q with r | r
      · exact absurd (hM b hb) r
      · rw [ho] at r; cases r
section
variable {tgt : Expr} {body : List Stmt} {Sf S4 : PS} {ds : List PV} {d : PV} {I : Addr} {St : Nat → Heap → Prop} {F₀ Fi F4 : Fz} {M₀ M4 : Mz} {h₀ h4 : Heap} {i : Nat}
noncomputable def AtS (s : Shared) (J : Nat → Heap → Prop) (n : Nat) (s' : Shared) : Prop := ∃ h' tk, s' = { s with heap := h', toks := tk } ∧ J n h'
theorem st_keep (T : Itr C A Fi tgt I wr ds St) (st : St i h) (hs : ∀ b p, Fi b = some p → h.get? b = some p ∧ h4.get? b = some p) (hw : ∀ b p, b ∈ wr → h.get? b = some p → h4.get? b = some p) : St i h4 := T.frame _ _ _ st fun b p hb e => by
  rcases hb with hb | hb
  · exact hw b p hb e
  · cases q : Fi b with
    | none => exact absurd q hb
    | some p' =>
      obtain ⟨a1, a2⟩ := hs b p' q
      rw [a2, ← a1, e]
theorem Itr.turn {tgt : Expr} {ds : List PV} {I : Addr} {St : Nat → Heap → Prop} {Fi : Fz} {i : Nat} {d : PV} {K : Value → Shared → Prop} {N : Shared → Prop} (T : Itr C A Fi tgt I wr ds St) (hd : ds[i]? = some d) (st : St i s.heap) (le : Le Fi F) (W : Wd C F M s.heap) (hF : ∀ b ∈ wr, F b = none) (hM : ∀ b ∈ wr, M b = none)
    (kk : ∀ v h' tk F', GrowW C wr F s.heap F' h' → (∀ b ∈ wr, F' b = none) → Is F' v d → St (i + 1) h' → K v { s with heap := h', toks := tk }) :
    wpAny (model C.prog C.w) A (pyNext (.ref I)) (fun r s₁ => match r with
      | none => N s₁
      | some v => wpAny (model C.prog C.w) A (letOwnedTupleGo tgt (.ref I) v) (fun _ s₀ => K v s₀) E s₁) E s :=
  wpAny_mono (T.item i d s F M K E hd st le W hF hM kk) (fun r s₁ hr => by obtain ⟨v, rfl, hv⟩ := hr; exact hv _) fun _ _ e => e
theorem drop_at {ds : List PV} {i : Nat} {d : PV} (h : ds[i]? = some d) : ds.drop i = d :: ds.drop (i + 1) := by
  rw [List.drop_eq_getElem_cons (List.getElem?_eq_some_iff.mp h).1]
  congr 1
  exact (List.getElem?_eq_some_iff.mp h).2
structure LF (C : Cx) (env : En) (Fi F₀ : Fz) (M₀ : Mz) (h₀ : Heap) (wr : List Addr) (St : Nat → Heap → Prop) (i : Nat) (F : Fz) (M : Mz) (S : PS) (h : Heap) : Prop where
  R : Rep C env F M S h
  le : Le Fi F
  sp : Stp F₀ M₀ h₀ F M h
  hF : ∀ b ∈ wr, F b = none
  hM : ∀ b ∈ wr, M b = none
  st : St i h
theorem LF.item (T : Itr C A Fi tgt I wr ds St) (hw : ∀ b ∈ wr, h₀.get? b = none) (L : LF C env Fi F₀ M₀ h₀ wr St i F M S h) (g : GrowW C wr F h F4 h4) (hF4 : ∀ b ∈ wr, F4 b = none) (st : St (i + 1) h4) : LF C env Fi F₀ M₀ h₀ wr St (i + 1) F4 M S h4 :=
  ⟨L.R.growW g L.hM (T.live _ _ L.st), L.le.trans g.mono, L.sp.growW L.R.toWd g hw, hF4, L.hM, st⟩
theorem LF.stp (T : Itr C A Fi tgt I wr ds St) (L : LF C env Fi F₀ M₀ h₀ wr St i F M S h) (sp : Stp F M h F4 M4 h4) (R4 : Rep C env F4 M4 S4 h4) : LF C env Fi F₀ M₀ h₀ wr St i F4 M4 S4 h4 :=
  ⟨R4, L.le.trans sp.mono, L.sp.trans sp, (sp.wfree (T.live _ _ L.st) L.hF L.hM).1, (sp.wfree (T.live _ _ L.st) L.hF L.hM).2,
    st_keep T L.st (fun b p e => ⟨L.R.sub b p (L.le _ _ e), R4.sub b p (sp.mono _ _ (L.le _ _ e))⟩) fun b p hb e => sp.ext b p (L.hM b hb) e⟩
noncomputable def ForK (C : Cx) (A : Around) (env : En) (tgt : Expr) (body : List Stmt) (Sf : PS) (fl : PFl) (ds : List PV) (S : PS) : PFl → Prop
  | .next => ForS C A env tgt body Sf fl ds S
  | .brk => S = Sf ∧ fl = .next
  | .ret r => S = Sf ∧ fl = .ret r
  | .cont => False
theorem ForS.inv (H : ForS C A env tgt body Sf fl (d :: ds) S) : ∃ S1 S2 f, TgS C A env S tgt d S1 ∧ ExA C A env S1 body S2 f ∧ ForK C A env tgt body Sf fl ds S2 f := by
  cases H with
  | step t b r => exact ⟨_, _, .next, t, b, r⟩
  | brk t b hf => exact ⟨_, _, .brk, t, b, rfl, hf⟩
  | ret t b hf => exact ⟨_, _, .ret _, t, b, rfl, hf⟩
theorem ForS.inv0 (H : ForS C A env tgt body Sf fl [] S) : S = Sf ∧ fl = .next := by
  cases H with | done hf => exact ⟨rfl, hf⟩
noncomputable def JF (C : Cx) (A : Around) (env : En) (tgt : Expr) (body : List Stmt) (Sf : PS) (fl : PFl) (ds : List PV) (Fi F₀ : Fz) (M₀ : Mz) (h₀ : Heap) (wr : List Addr) (St : Nat → Heap → Prop) (n : Nat) (h : Heap) : Prop :=
  ∃ F M S i, i + n = ds.length ∧ ForS C A env tgt body Sf fl (ds.drop i) S ∧ LF C env Fi F₀ M₀ h₀ wr St i F M S h
theorem for_turn {ds' : List PV} {N KK Qb : Shared → Prop} {Qr : Value → Shared → Prop} (T : Itr C A Fi tgt I wr ds St) (hw : ∀ b ∈ wr, h₀.get? b = none) (hd : ds[i]? = some d) (H : ForS C A env tgt body Sf fl (d :: ds') S) (L : LF C env Fi F₀ M₀ h₀ wr St i F M S s.heap)
    (f1 : ∀ h' tk F' M' S', ForS C A env tgt body Sf fl ds' S' → LF C env Fi F₀ M₀ h₀ wr St (i + 1) F' M' S' h' → KK { s with heap := h', toks := tk })
    (f2 : fl = .next → ∀ h' tk F' M', Stp F₀ M₀ h₀ F' M' h' → Rep C env F' M' Sf h' → Qb { s with heap := h', toks := tk })
    (f3 : ∀ r v, fl = .ret r → ∀ h' tk F' M', Stp F₀ M₀ h₀ F' M' h' → Rep C env F' M' Sf h' → Is F' v r → Qr v { s with heap := h', toks := tk }) :
    wpAny (model C.prog C.w) A (pyNext (.ref I)) (fun r s₁ => match r with
      | none => N s₁
      | some v => wpAny (model C.prog C.w) A (letOwnedTupleGo tgt (.ref I) v) (fun _ s₀ => wpAny (model C.prog C.w) A (assign tgt env.e v) (fun _ s₂ => wpAny (model C.prog C.w) A (execs body env.e) (fun f s₃ => match f with
            | .next | .cont => KK s₃
            | .brk => Qb s₃
            | .ret v => Qr v s₃) E s₂) E s₀) E s₁) E s := by
  obtain ⟨S1, S2, f, t, b, k⟩ := H.inv
  refine T.turn hd L.st L.le L.R.toWd L.hF L.hM fun v h2 tk2 F2 g hF2 iv st2 => ?_
  have L2 := L.item T hw g hF2 st2
  refine t.run { s with heap := h2, toks := tk2 } F2 M L2.R v iv _ _ fun h3 tk3 F3 M3 sp3 R3 => ?_
  have L3 := L2.stp T sp3 R3
  refine b.run { s with heap := h3, toks := tk3 } F3 M3 R3 _ _ fun fv h4 tk4 F4 M4 sp4 R4 i4 => ?_
  have L4 := L3.stp T sp4 R4
  clear L L2 L3 sp3 R3 sp4 g t b H T
  cases f with
  | next => cases fv with
    | next => exact f1 h4 tk4 F4 M4 S2 k L4
    | _ => exact i4.elim
  | brk => cases fv with
    | brk => exact f2 k.2 h4 tk4 F4 M4 L4.sp (k.1 ▸ L4.R)
    | _ => exact i4.elim
  | ret r => cases fv with
    | ret v => exact f3 r v k.2 h4 tk4 F4 M4 L4.sp (k.1 ▸ L4.R) i4
    | _ => exact i4.elim
  | cont => exact k.elim
theorem for_loop (T : Itr C A Fi tgt I wr ds St)
    (H : ForS C A env tgt body Sf fl ds S) (R : Rep C env F M S s.heap) (le : Le Fi F) (sp : Stp F₀ M₀ h₀ F M s.heap) (hw : ∀ b ∈ wr, h₀.get? b = none) (hF : ∀ b ∈ wr, F b = none) (hM : ∀ b ∈ wr, M b = none) (st : St 0 s.heap) {Q : Flow → Shared → Prop} {E : Value → Shared → Prop}
    (a : ∀ fv h' tk F' M', Stp F₀ M₀ h₀ F' M' h' → Rep C env F' M' Sf h' → FlIs F' fv fl → Q fv { s with heap := h', toks := tk }) :
    codeAny (model C.prog C.w) A (.forLoop tgt (.ref I) body [] env.e) (fun r s' => match r with | .ok f => Q f s' | .error e => cameBackBy (model C.prog C.w) A env.e E e s') s := by
  refine codeAny_forLoop_any (AtS s (JF C A env tgt body Sf fl ds Fi F₀ M₀ h₀ wr St)) ?_ ds.length ⟨s.heap, s.toks, rfl, F, M, S, 0, Nat.zero_add _, H, R, le, sp, hF, hM, st⟩
  rintro n _ ⟨h, tk, rfl, F, M, S, i, hn, H, L⟩
  cases hd : ds[i]? with
  | none =>
    have hi := List.getElem?_eq_none_iff.mp hd
    rw [List.drop_of_length_le hi] at H
    obtain ⟨rfl, hf⟩ := H.inv0
    refine T.done _ _ _ ((show i = ds.length by lia) ▸ L.st) fun h' tk' hk => ?_
    have g := GrowW.of L.R.toWd L.hF L.hM hk
    exact wpAny_execs_nil (a .next h' tk' F M (L.sp.growW L.R.toWd g hw) (L.R.growW g L.hM (T.live _ _ L.st)) (hf ▸ trivial))
  | some d =>
    have hlt := (List.getElem?_eq_some_iff.mp hd).1
    rw [drop_at hd] at H
    exact for_turn (s := { s with heap := h, toks := tk }) T hw hd H L (fun h' tk F' M' S' H' L' => ⟨n - 1, by lia, h', tk, rfl, F', M', S', i + 1, by lia, H', L'⟩)
      (fun hf h' tk F' M' sp' R' => a .next h' tk F' M' sp' R' (hf ▸ trivial)) (fun r v hf h' tk F' M' sp' R' iv => a (.ret v) h' tk F' M' sp' R' (hf ▸ iv))
end
theorem ex_for {tgt iter : Expr} {body : List Stmt} {ds : List PV} (x : ItS C A env S tgt iter ds) (H : ForS C A env tgt body S' fl ds S) (hs : ∀ x, foldedSetIterable iter env.e x = pure x) : ExS C A env S (.For tgt iter body [] pos) S' fl := .mk fun s F M R Q E a => by
  refine wpAny_For (x.run s F M R _ _ fun I wr St h' tk F' g hw hF T st => ?_) hs
  exact for_loop (s := { s with heap := h', toks := tk }) T H (R.grow g) (Le.refl _) (g.stp R.toWd) hw hF (fun b hb => R.toWd.mnone (hw b hb)) st a
inductive WhS (C : Cx) (A : Around) (env : En) (test : Expr) (body : List Stmt) (Sf : PS) (fl : PFl) : Nat → PS → Prop
  | done {n : Nat} : TsS C A env Sf test false → fl = .next → WhS C A env test body Sf fl n Sf
  | step {n : Nat} {S S2 : PS} : TsS C A env S test true → ExA C A env S body S2 .next → WhS C A env test body Sf fl n S2 → WhS C A env test body Sf fl (n + 1) S
theorem WhS.last {test : Expr} {body : List Stmt} {Sf : PS} {n : Nat} (H : WhS C A env test body Sf fl n S) : fl = .next := by
  induction H with
  | done _ h => exact h
  | step _ _ _ ih => exact ih
theorem ex_while {test : Expr} {body : List Stmt} {n : Nat} (H : WhS C A env test body S' .next n S) : ExS C A env S (.While test body [] pos) S' .next := .mk fun s F M R Q E a => by
  refine wpAny_While (codeAny_whileLoop (fun n s' => ∃ h' tk F' M' S1, s' = { s with heap := h', toks := tk } ∧ WhS C A env test body S' .next n S1 ∧ Rep C env F' M' S1 h' ∧ Stp F M s.heap F' M' h') ?_ n ⟨s.heap, s.toks, F, M, S, rfl, H, R, Stp.refl _ _ _⟩)
  rintro n _ ⟨h, tk, F1, M1, S1, rfl, H, R1, sp⟩
  cases H with
  | done t hf =>
    refine t.run { s with heap := h, toks := tk } F1 M1 R1 _ _ fun h' tk' F' g => ?_
    exact wpAny_execs_nil (a .next h' tk' F' M1 (sp.trans (g.stp R1.toWd)) (R1.grow g) trivial)
  | step t b r =>
    refine t.run { s with heap := h, toks := tk } F1 M1 R1 _ _ fun h' tk' F' g => ?_
    refine b.run { s with heap := h', toks := tk' } F' M1 (R1.grow g) _ _ fun fv h2 tk2 F2 M2 sp2 R2 i2 => ?_
    cases fv with
    | next => exact ⟨_, Nat.lt_succ_self _, h2, tk2, F2, M2, _, rfl, r, R2, (sp.trans (g.stp R1.toWd)).trans sp2⟩
    | _ => exact i2.elim
end
end
section
section
variable {C : Cx} {env cenv : En} {F F' F'' : Fz} {M M' M'' : Mz} {h h' h'' : Heap} {S S' S'' : PS} {A : Around} {s : Shared} {E : Value → Shared → Prop} {k : Nat} {st : Stmt} {rest : List Stmt} {fl : PFl} {pos : Pos} {wr : List Addr}
/-! an inner frame: everything that is mutable in it is new -/
noncomputable def MD (C : Cx) (h₀ : Heap) (M : Mz) : Prop := ∀ b l, M b = some l → C.ex b ∨ h₀.get? b = none
theorem Grow.nobody' {G : Fz} (g : Grow C F h F' h') (W : TabOk C G h) {a : Addr} (e : h'.get? a = none) : h.get? a = none := by
  cases q : h.get? a with
  | none => rfl
  | some o =>
    by_cases ht : C.ex a
    · obtain ⟨ps, hp, _⟩ := g.tab a ht
      rw [e] at hp; cases hp
    · rw [g.ext _ _ ht q] at e; cases e
theorem Grow.inner {F₀ : Fz} {h₀ : Heap} (g : Grow C F₀ h₀ F h) (sp : Stp F M h F' M' h') (md : MD C h₀ M) (W : Wd C F' M' h') : Grow C F₀ h₀ F' h' ∧ MD C h₀ M' := by
  have bk : ∀ a, h.get? a = none → C.ex a ∨ h₀.get? a = none := fun a e => by
    by_cases ht : C.ex a
    · exact .inl ht
    · refine .inr ?_
      cases q : h₀.get? a with
      | none => rfl
      | some o => rw [g.ext _ _ ht q] at e; cases e
  refine ⟨⟨fun a o ht e => sp.ext a o ?_ (g.ext a o ht e), g.mono.trans sp.mono, W.sub, fun a o e => ?_, W.tab⟩, fun b l e => ?_⟩
  · cases q : M a with
    | none => rfl
    | some l =>
      rcases md a l q with r | r
      · exact absurd r ht
      · rw [r] at e; cases e
  · have nt : ¬ C.ex a := fun q => by rw [W.tbF _ q] at e; cases e
    rcases sp.fnew a o e with r | r | r
    · exact g.fnew a o r
    · exact .inr ((bk a r).resolve_left nt)
    · cases q : M a with
      | none => exact absurd q r
      | some l => exact .inr ((md a l q).resolve_left nt)
  · rcases sp.mnew b l e with r | r
    · cases q : M b with
      | none => exact absurd q r
      | some l => exact md b l q
    · exact bk b r
noncomputable def dictNew : Obj := { cls := .type "dict", data := .dict #[] }
noncomputable def cellNew : Obj := { cls := .type "cell", data := .cell none }
noncomputable def ownCells (own : Option Str) (a : Addr) (cl : List (Str × Addr)) : List (Str × Addr) := match own with | none => cl | some x => (x, a) :: cl
noncomputable def ownHeap (own : Option Str) (h : Heap) : Heap := match own with | none => h | some _ => h.push cellNew
noncomputable def CompCells (scope : Scope) (own : Option Str) : Prop := ∀ h n acc, cellsFrom n scope.names acc = ownCells own n acc ∧ pushCells h scope.names = ownHeap own h
noncomputable def compE (scope : Scope) (own : Option Str) (cl : List (Str × Addr)) (a : Addr) (env : Env) : Env :=
  { scope := relabel scope env, locals := a, globals := env.globals, cells := ownCells own (a + 1) cl, qual := env.qual, func := none, code := env.code, frame := env.frame, builtins := env.builtins }
noncomputable def compEn (scope : Scope) (own : Option Str) (cl : List (Str × Addr)) (a : Addr) (env : En) : En := ⟨compE scope own cl a env.e, own.toList⟩
theorem newEnv_comp {scope : Scope} {own : Option Str} {cl : List (Str × Addr)} {en : Env} {Q : Env → Shared → Prop} {Mo : Model} (hc : CompCells scope own)
    (h : ∀ ev : Env, ({ ev with scope := relabel scope en } : Env) = compE scope own cl s.heap.objs.size en → ev.locals = s.heap.objs.size → Q ev { s with heap := ownHeap own (s.heap.push dictNew) }) :
    wpAny Mo A (newFunctionEnv scope en.globals cl [] en.qual none .none (some en)) Q E s := by
  simp only [newFunctionEnv, Option.isSome_some, if_true]
  refine wpAny_bind (wpAny_alloc ?_)
  refine wpAny_bind (wpAny_layCells _ (fun name kind cells => by cases hkc : kind == NameKind.cell <;> simp) _ _ _ _ ?_)
  have hsz : ({ s with heap := s.heap.push { cls := .type "dict", data := .dict #[] } } : Shared).heap.objs.size = s.heap.objs.size + 1 := Heap.size_push ..
  rw [hsz, (hc default (s.heap.objs.size + 1) cl).1]
  have := (hc (s.heap.push { cls := .type "dict", data := .dict #[] }) 0 []).2
  dsimp only
  rw [this]
  refine wpAny_bind ?_
  rw [List.forIn_nil]
  exact wpAny_pure (wpAny_pure (h _ rfl rfl))
open Classical in
noncomputable def compM (C : Cx) (own : Option Str) (a : Addr) : Mz := fun b => if C.ex b then some .tab else if b = a then some .frame else match own with | none => none | some x => if b = a + 1 then some (.cell x) else none
structure CompFit (env : En) (S S₁ : PS) (scope : Scope) (own : Option Str) (cl : List (Str × Addr)) : Prop where
  clos : closureFor scope env.e = pure cl
  cells : CompCells scope own
  kind : scope.kind = .function
  names : ∀ x ∈ scope.names, x.2 = .local → scope.names.lookup x.1 = some .local
  fit : ∀ x pv, get S₁ x = some pv → ∃ d, pv = .val d ∧ get S x = some (.val d) ∧ (∀ a, (compE scope own cl a env.e).cells.lookup x = env.e.cells.lookup x) ∧
    (∀ a, (compE scope own cl a env.e).kindOf x = some .cell ∨ ((compE scope own cl a env.e).kindOf x = some .free ∧ (x == ("__classdict__" : Str)) = false)) ∧ (env.e.kindOf x = some .cell ∨ env.e.kindOf x = some .free)
  own : ∀ x ∈ own.toList, ∀ a, (compE scope own cl a env.e).kindOf x = some .cell
theorem comp_rep {scope : Scope} {own : Option Str} {cl : List (Str × Addr)} {S₁ : PS} (fit : CompFit env S S₁ scope own cl) (R : Rep C env F M S h) :
    Rep C (compEn scope own cl h.objs.size env) F (compM C own h.objs.size) S₁ (ownHeap own (h.push dictNew)) ∧ Grow C F h F (ownHeap own (h.push dictNew)) ∧ MD C h (compM C own h.objs.size) := by
  have W := R.toWd
  have hka : ∀ b o, h.get? b = some o → (ownHeap own (h.push dictNew)).get? b = some o := fun b o e => by
    unfold ownHeap
    split
    · exact Heap.get?_push_of_some _ e
    · exact Heap.get?_push_of_some _ (Heap.get?_push_of_some _ e)
  have g : Grow C F h F (ownHeap own (h.push dictNew)) := Grow.only W hka
  have hfr : (ownHeap own (h.push dictNew)).get? h.objs.size = some dictNew := by
    unfold ownHeap
    split
    · exact Heap.get?_push_size h rfl
    · exact Heap.get?_push_of_some _ (Heap.get?_push_size h rfl)
  have hce : ∀ x, own = some x → (ownHeap own (h.push dictNew)).get? (h.objs.size + 1) = some cellNew := fun x e => by
    subst e
    have : (h.push dictNew).objs.size = h.objs.size + 1 := Heap.size_push ..
    rw [← this]
    exact Heap.get?_push_size _ rfl
  have htn : ∀ n, h.objs.size ≤ n → ¬ C.ex n := fun n hn q => by
    obtain ⟨ps, hp, _⟩ := W.tab n q
    have := Heap.lt_size hp
    exact Nat.lt_irrefl _ (Nat.lt_of_lt_of_le this hn)
  have h0 := htn _ (Nat.le_refl _)
  have h1 := htn _ (Nat.le_succ h.objs.size)
  have hnone : ∀ n, h.objs.size ≤ n → h.get? n = none := fun n hn => by
    cases q : h.get? n with
    | none => rfl
    | some o => exact absurd (Heap.lt_size q) (Nat.not_lt.mpr hn)
  have md : MD C h (compM C own h.objs.size) := fun b l e => by
    unfold compM at e
    split at e
    · rename_i hb; exact .inl hb
    · split at e
      · rename_i hb; exact .inr (hnone _ (by rw [hb]; exact Nat.le_refl _))
      · split at e
        · cases e
        · split at e
          · rename_i hb; exact .inr (hnone _ (by rw [hb]; exact Nat.le_succ _))
          · cases e
  have mfr : compM C own h.objs.size h.objs.size = some .frame := by unfold compM; rw [if_neg h0, if_pos rfl]
  have mce : ∀ x, own = some x → compM C own h.objs.size (h.objs.size + 1) = some (.cell x) := fun x e => by
    subst e
    unfold compM; rw [if_neg h1, if_neg (Nat.succ_ne_self _)]
    dsimp only
    rw [if_pos rfl]
  refine ⟨⟨⟨g.sub, fun b o e => ?_, fun b l e => ?_, fun b o e => W.base b o e, g.tab, ?_⟩, ⟨fun _ => none, ?_, fun x pv e => ?_⟩, mfr, fun x hx => ?_, ?_⟩, g, md⟩
  · cases q : compM C own h.objs.size b with
    | none => rfl
    | some l =>
      rcases md b l q with r | r
      · rw [W.tbF _ r] at e; cases e
      · have := W.sub b o e; rw [r] at this; cases this
  · unfold compM at e
    split at e
    · rename_i hb; obtain ⟨ps, hp, _⟩ := g.tab b hb; exact ⟨_, hp⟩
    · split at e
      · rename_i hb; subst hb; exact ⟨_, hfr⟩
      · split at e
        · cases e
        · split at e
          · rename_i x _ hb; subst hb; exact ⟨_, hce _ rfl⟩
          · cases e
  · intro b hb; unfold compM; rw [if_pos hb]
  · have := Heap.Ns.new h (.type "dict")
    refine this.at' fun o e => ?_
    unfold ownHeap
    split
    · exact e
    · exact Heap.get?_push_of_some _ e
  · obtain ⟨d, rfl, ed, hcl, hk, hk2⟩ := fit.fit x pv e
    obtain ⟨m, hn, hv⟩ := R.vars
    obtain ⟨v, l, i⟩ := hv x _ ed
    refine ⟨v, ?_, i⟩
    have hca : ∃ c, env.e.cells.lookup x = some c ∧ (M c = some (.cell x) ∨ (M c = none ∧ ¬ C.ex c)) ∧ h.IsCell c (some v) := by
      rcases l with ⟨k, _⟩ | ⟨_, l⟩ | ⟨_, _, l⟩
      · rcases hk2 with q | q <;> (rw [q] at k; cases k)
      · exact l
      · exact l
    obtain ⟨c, e1, e2, o, e3, e4⟩ := hca
    have hct : ¬ C.ex c := by
      rcases e2 with e2 | e2
      · intro q; rw [W.mtab _ q] at e2; cases e2
      · exact e2.2
    have hm : compM C own h.objs.size c = none := by
      cases q : compM C own h.objs.size c with
      | none => rfl
      | some l =>
        rcases md c l q with r | r
        · exact absurd r hct
        · rw [r] at e3; cases e3
    have ca : CellAt C (compEn scope own cl h.objs.size env) (compM C own h.objs.size) (ownHeap own (h.push dictNew)) x (some v) := ⟨c, (hcl _).trans e1, .inr ⟨hm, hct⟩, o, hka _ _ e3, e4⟩
    rcases hk h.objs.size with q | ⟨q, q2⟩
    · exact .inr (.inl ⟨q, ca⟩)
    · exact .inr (.inr ⟨q, q2, ca⟩)
  · have hown : own = some x := by
      cases own with
      | none => cases hx
      | some y => rw [List.mem_singleton.mp hx]
    refine ⟨fit.own x hx _, h.objs.size + 1, ?_, mce x hown, none, _, hce x hown, rfl⟩
    subst hown
    show List.lookup x ((x, h.objs.size + 1) :: cl) = _
    rw [List.lookup_cons, beq_self_eq_true]
  · exact ⟨fit.kind, R.ev.gl, R.ev.bt⟩
end
end
section
noncomputable def TestP (Mo : Model) (A : Around) (EE : Value → Shared → Prop) (co : Option Expr) (env : Env) (P : Bool → Shared → Prop) (s : Shared) : Prop := match co with
  | none => P true s
  | some c => wpAny Mo A (isTrue c env (eval c env)) P EE s
noncomputable def CtS (C : Cx) (A : Around) (env : En) (S : PS) (co : Option Expr) (b : Bool) : Prop := match co with
  | none => b = true
  | some c => TsS C A env S c b
inductive CmpB (C : Cx) (A : Around) (env : En) (tgt : Expr) (co : Option Expr) (elt : Expr) (W : PS → Prop) : List PV → PS → List PV → Prop
  | nil {S : PS} : W S → CmpB C A env tgt co elt W [] S []
  | take {d e : PV} {ds out : List PV} {S S1 : PS} : TgS C A env S tgt d S1 → CtS C A env S1 co true → EvS C A env S1 elt e → CmpB C A env tgt co elt W ds S1 out → CmpB C A env tgt co elt W (d :: ds) S (e :: out)
  | skip {d : PV} {ds out : List PV} {S S1 : PS} : TgS C A env S tgt d S1 → CtS C A env S1 co false → CmpB C A env tgt co elt W ds S1 out → CmpB C A env tgt co elt W (d :: ds) S out
theorem CmpB.inv0 {C : Cx} {A : Around} {env : En} {tgt elt : Expr} {co : Option Expr} {W : PS → Prop} {S : PS} {out : List PV} (H : CmpB C A env tgt co elt W [] S out) : W S ∧ out = [] := by
  cases H; exact ⟨by assumption, rfl⟩
theorem CmpB.inv {C : Cx} {A : Around} {env : En} {tgt elt : Expr} {co : Option Expr} {W : PS → Prop} {d : PV} {ds out : List PV} {S : PS} (H : CmpB C A env tgt co elt W (d :: ds) S out) : ∃ S1 b, TgS C A env S tgt d S1 ∧ CtS C A env S1 co b ∧
    (b = true → ∃ e r, EvS C A env S1 elt e ∧ out = e :: r ∧ CmpB C A env tgt co elt W ds S1 r) ∧ (b = false → CmpB C A env tgt co elt W ds S1 out) := by
  cases H with
  | take t c y r => exact ⟨_, true, t, c, fun _ => ⟨_, _, y, rfl, r⟩, fun q => absurd q (by decide)⟩
  | skip t c r => exact ⟨_, false, t, c, fun q => absurd q (by decide), fun _ => r⟩
noncomputable abbrev CmpS (C : Cx) (A : Around) (env : En) (tgt : Expr) (co : Option Expr) (elt : Expr) (ds : List PV) (S : PS) (out : List PV) : Prop := CmpB C A env tgt co elt (fun _ => True) ds S out
noncomputable def LoopRule (prog : Program) (w : World) (A : Around) (code : Code) (target : Expr) (co : Option Expr) (elt : Expr) (it acc : Value) (env : Env) : Prop :=
  ∀ (R : Result → Shared → Prop) (s : Shared) (I : Nat → Shared → Prop),
    (∀ n s, I n s → wpAny (model prog w) A (pyNext it) (fun r s₁ => match r with
      | none => R (.ok .next) s₁
      | some v => wpAny (model prog w) A (letOwnedTupleGo target it v) (fun _ s₀ => wpAny (model prog w) A (assign target env v) (fun _ s₂ =>
          TestP (model prog w) A (notedBy (model prog w) A env fun e s' => R (.error e) s') co env (fun ok s₃ => if ok = true then wpAny (model prog w) A (eval elt env) (fun x s₄ =>
            wpAny (model prog w) A (call (.builtin "list.append") [acc, x]) (fun _ s₅ => ∃ m, m < n ∧ I m s₅) (notedBy (model prog w) A env fun e s' => R (.error e) s') s₄) (notedBy (model prog w) A env fun e s' => R (.error e) s') s₃
            else ∃ m, m < n ∧ I m s₃) s₂)
          (notedBy (model prog w) A env fun e s' => R (.error e) s') s₀) (notedBy (model prog w) A env fun e s' => R (.error e) s') s₁) (notedBy (model prog w) A env fun e s' => R (.error e) s') s) →
    ∀ n, I n s → codeAny (model prog w) A code R s
section
variable {C : Cx} {env cenv : En} {F F' F'' : Fz} {M M' M'' : Mz} {h h' h'' : Heap} {S S' S'' S₁ : PS} {A : Around} {s : Shared} {E : Value → Shared → Prop} {k : Nat} {st : Stmt} {rest : List Stmt} {fl : PFl} {pos : Pos} {wr : List Addr}
theorem cloop {elt target iter : PySem.Expr} {co : Option Expr} {scope : Scope} {pos : Pos} {it acc : Value} {env : Env} {R : Result → Shared → Prop} {prog : Program} {w : World} (I : Nat → Shared → Prop)
    (turn : ∀ n s, I n s → wpAny (model prog w) A (pyNext it) (fun r s₁ => match r with
      | none => R (.ok .next) s₁
      | some v => wpAny (model prog w) A (letOwnedTupleGo target it v) (fun _ s₀ => wpAny (model prog w) A (assign target env v) (fun _ s₂ =>
          TestP (model prog w) A (notedBy (model prog w) A env fun e s' => R (.error e) s') co env (fun ok s₃ => if ok = true then wpAny (model prog w) A (eval elt env) (fun x s₄ =>
            wpAny (model prog w) A (call (.builtin "list.append") [acc, x]) (fun _ s₅ => ∃ m, m < n ∧ I m s₅) (notedBy (model prog w) A env fun e s' => R (.error e) s') s₄) (notedBy (model prog w) A env fun e s' => R (.error e) s') s₃
            else ∃ m, m < n ∧ I m s₃) s₂)
          (notedBy (model prog w) A env fun e s' => R (.error e) s') s₀) (notedBy (model prog w) A env fun e s' => R (.error e) s') s₁) (notedBy (model prog w) A env fun e s' => R (.error e) s') s)
    (n : Nat) (h : I n s) : codeAny (model prog w) A (.compLoop (.ListComp elt [⟨target, iter, co.toList, 0⟩] scope pos) 0 it acc env) R s := by
  refine codeAny_loop rfl I (fun n s hI => ?_) n h
  show wpAny _ A ((compTurn (.ListComp elt [⟨target, iter, co.toList, 0⟩] scope pos) 0 it acc env).onRaise (fun x => do noteFrame x env; theTreesLotGoes x)) _ _ s
  refine wpAny_noted ?_
  rw [compTurn_list]
  refine wpAny_bind (wpAny_standAt (wpAny_bind (wpAny_mono (turn n s hI) (fun r s₁ h₁ => ?_) fun _ _ h' => h')))
  cases r with
  | none => exact wpAny_pure h₁
  | some v =>
    refine wpAny_bind (wpAny_mono h₁ (fun _ s₀ h₀' => ?_) fun _ _ h' => h')
    refine wpAny_bind (wpAny_mono h₀' (fun _ s₂ h₂ => ?_) fun _ _ h' => h')
    cases co with
    | none =>
      refine wpAny_bind (wpAny_tests_nil ?_)
      have h₂ := h₂
      unfold TestP at h₂
      dsimp only at h₂
      rw [if_pos rfl] at h₂
      exact wpAny_bind (wpAny_bind (wpAny_mono h₂ (fun x s₄ h₄ => wpAny_bind (wpAny_mono h₄ (fun _ s₅ h₅ => wpAny_pure (wpAny_pure ⟨rfl, h₅⟩)) fun _ _ h' => h')) fun _ _ h' => h'))
    | some c =>
      refine wpAny_bind (wpAny_tests_one (wpAny_mono h₂ (fun okb s₃ h₃ => ?_) fun _ _ h' => h'))
      cases okb with
      | false => exact wpAny_pure ⟨rfl, h₃⟩
      | true => exact wpAny_bind (wpAny_bind (wpAny_mono h₃ (fun x s₄ h₄ => wpAny_bind (wpAny_mono h₄ (fun _ s₅ h₅ => wpAny_pure (wpAny_pure ⟨rfl, h₅⟩)) fun _ _ h' => h')) fun _ _ h' => h'))
theorem Grow.growW {F₀ : Fz} {h₀ : Heap} (g : Grow C F₀ h₀ F h) (g2 : GrowW C wr F h F' h') (hw : ∀ b ∈ wr, h₀.get? b = none) (ht : ∀ a, C.ex a → F' a = none) : Grow C F₀ h₀ F' h' := by
  refine ⟨fun a o ha e => g2.ext a o ha (fun q => by rw [hw _ q] at e; cases e) (g.ext a o ha e), g.mono.trans g2.mono, g2.sub, fun a o e => ?_, g2.tab⟩
  rcases g2.fnew a o e with r | r
  · exact g.fnew a o r
  · refine .inr ?_
    cases q : h₀.get? a with
    | none => rfl
    | some o' =>
      have : ¬ C.ex a := fun z => by rw [ht _ z] at e; cases e
      rw [g.ext _ _ this q] at r; cases r
structure LB (C : Cx) (cenv : En) (Fi F₀ : Fz) (h₀ : Heap) (wr : List Addr) (D : Addr) (St : Nat → Heap → Prop) (o : Obj) (vs : List Value) (done : List PV) (i : Nat) (F : Fz) (M : Mz) (S : PS) (h : Heap) : Prop where
  R : Rep C cenv F M S h
  le : Le Fi F
  g : Grow C F₀ h₀ F h
  md : MD C h₀ M
  hF : ∀ b ∈ D :: wr, F b = none
  hM : ∀ b ∈ D :: wr, M b = none
  ho : h.get? D = some o
  lo : LObj o vs
  iv : IsAll F vs done
  st : St i h
section
variable {tgt : Expr} {ds done : List PV} {I D : Addr} {St : Nat → Heap → Prop} {F₀ Fi F4 : Fz} {h₀ h4 : Heap} {M4 : Mz} {S4 : PS} {o : Obj} {vs : List Value} {i : Nat}
theorem LB.nx (L : LB C cenv Fi F₀ h₀ wr D St o vs done i F M S h) : ∀ b ∈ D :: wr, ¬ C.ex b := fun b hb q => by have := L.hM b hb; rw [L.R.mtab _ q] at this; cases this
theorem LB.noC (T : Itr C A Fi tgt I wr ds St) (L : LB C cenv Fi F₀ h₀ wr D St o vs done i F M S h) : NoCell h (D :: wr) := fun b hb => by
  rcases List.mem_cons.mp hb with rfl | hb
  · obtain ⟨_, ⟨n, q2⟩, _⟩ := L.lo; exact ⟨o, L.ho, fun v q => by rw [q] at q2; cases q2⟩
  · exact T.live _ _ L.st b hb
theorem LB.grow (T : Itr C A Fi tgt I wr ds St) (L : LB C cenv Fi F₀ h₀ wr D St o vs done i F M S h) (g4 : Grow C F h F4 h4) : LB C cenv Fi F₀ h₀ wr D St o vs done i F4 M S h4 :=
  ⟨L.R.grow g4, L.le.trans g4.mono, L.g.trans g4, L.md, ((g4.stp L.R.toWd).wfree (L.noC T) L.hF L.hM).1, L.hM, g4.ext D o (L.nx D (.head _)) L.ho, L.lo, L.iv.mono g4.mono,
    st_keep T L.st (fun b p e => ⟨L.R.sub b p (L.le _ _ e), g4.sub b p (g4.mono _ _ (L.le _ _ e))⟩) fun b p hb e => g4.ext b p (L.nx b (List.mem_cons_of_mem _ hb)) e⟩
theorem LB.stp (T : Itr C A Fi tgt I wr ds St) (L : LB C cenv Fi F₀ h₀ wr D St o vs done i F M S h) (sp : Stp F M h F4 M4 h4) (R4 : Rep C cenv F4 M4 S4 h4) : LB C cenv Fi F₀ h₀ wr D St o vs done i F4 M4 S4 h4 :=
  ⟨R4, L.le.trans sp.mono, (L.g.inner sp L.md R4.toWd).1, (L.g.inner sp L.md R4.toWd).2, (sp.wfree (L.noC T) L.hF L.hM).1, (sp.wfree (L.noC T) L.hF L.hM).2, sp.ext D o (L.hM D (.head _)) L.ho, L.lo, L.iv.mono sp.mono,
    st_keep T L.st (fun b p e => ⟨L.R.sub b p (L.le _ _ e), R4.sub b p (sp.mono _ _ (L.le _ _ e))⟩) fun b p hb e => sp.ext b p (L.hM b (List.mem_cons_of_mem _ hb)) e⟩
theorem LB.item (T : Itr C A Fi tgt I wr ds St) (hw : ∀ b ∈ D :: wr, h₀.get? b = none) (hD : D ∉ wr) (L : LB C cenv Fi F₀ h₀ wr D St o vs done i F M S h) (g : GrowW C wr F h F4 h4) (hF4 : ∀ b ∈ wr, F4 b = none) (st : St (i + 1) h4) : LB C cenv Fi F₀ h₀ wr D St o vs done (i + 1) F4 M S h4 := by
  have R4 := L.R.growW g (fun b hb => L.hM b (List.mem_cons_of_mem _ hb)) (T.live _ _ L.st)
  refine ⟨R4, L.le.trans g.mono, L.g.growW g (fun b hb => hw b (List.mem_cons_of_mem _ hb)) R4.tbF, L.md, fun b hb => ?_, L.hM, g.ext D o (L.nx D (.head _)) hD L.ho, L.lo, L.iv.mono g.mono, st⟩
  rcases List.mem_cons.mp hb with rfl | hb
  · cases q : F4 b with
    | none => rfl
    | some p =>
      rcases g.fnew b p q with r | r
      · rw [L.hF b (.head _)] at r; cases r
      · rw [L.ho] at r; cases r
  · exact hF4 b hb
theorem LB.app (T : Itr C A Fi tgt I wr ds St) (hw : ∀ b ∈ D :: wr, h₀.get? b = none) (hD : D ∉ wr) (L : LB C cenv Fi F₀ h₀ wr D St o vs done i F M S h) {o' : Obj} {x : Value} {e : PV} (hk : ∀ b, b ≠ D → h4.get? b = h.get? b) (ho : h4.get? D = some o') (lo : LObj o' (vs ++ [x])) (ix : Is F x e) :
    LB C cenv Fi F₀ h₀ wr D St o' (vs ++ [x]) (done ++ [e]) i F M S h4 := by
  have one : ∀ {P : Addr → Prop}, P D → ∀ b ∈ [D], P b := fun p b hb => by rw [List.mem_singleton.mp hb]; exact p
  have gD : GrowW C [D] F h F h4 := GrowW.of L.R.toWd (one (L.hF D (.head _))) (one (L.hM D (.head _))) fun b p hb e => (hk b (fun q => hb (q ▸ .head _))).trans e
  have R4 := L.R.growW gD (one (L.hM D (.head _))) (one (L.noC T D (.head _)))
  refine ⟨R4, L.le, L.g.growW gD (one (hw D (.head _))) R4.tbF, L.md, L.hF, L.hM, ho, lo, L.iv.append (.cons ix .nil), T.frame _ _ _ L.st fun b p hb e => (hk b fun q => ?_).trans e⟩
  subst q
  rcases hb with hb | hb
  · exact hD hb
  · cases q : Fi b with
    | none => exact hb q
    | some o' => have := L.hF b (.head _); rw [L.le _ _ q] at this; cases this
end
noncomputable def JB (C : Cx) (A : Around) (cenv : En) (tgt : Expr) (co : Option Expr) (elt : Expr) (W : PS → Prop) (ds total : List PV) (d0 : Nat) (Fi F₀ : Fz) (h₀ : Heap) (wr : List Addr) (D : Addr) (St : Nat → Heap → Prop) (n : Nat) (h : Heap) : Prop :=
  ∃ F M S i o vs done rest, i + n = ds.length ∧ CmpB C A cenv tgt co elt W (ds.drop i) S rest ∧ done ++ rest = total ∧ done.length ≤ d0 + i ∧ LB C cenv Fi F₀ h₀ wr D St o vs done i F M S h
theorem tests_ok {co : Option Expr} {b : Bool} {EE : Value → Shared → Prop} {P : Bool → Shared → Prop} (c : CtS C A cenv S co b) (R : Rep C cenv F M S s.heap) (fin : ∀ h4 tk4 F4, Grow C F s.heap F4 h4 → P b { s with heap := h4, toks := tk4 }) : TestP (model C.prog C.w) A EE co cenv.e P s := by
  cases co with
  | none => cases c; exact fin s.heap s.toks F (Grow.refl R.toWd)
  | some e => exact TsS.run c s F M R P EE fin
theorem comp_turn {tgt elt : Expr} {co : Option Expr} {W : PS → Prop} {ds ds' done rest : List PV} {vs : List Value} {d : PV} {i : Nat} {I D : Addr} {St : Nat → Heap → Prop} {F₀ Fi : Fz} {h₀ : Heap} {o : Obj} {N KK : Shared → Prop} (T : Itr C A Fi tgt I wr ds St) (hw : ∀ b ∈ D :: wr, h₀.get? b = none) (hD : D ∉ wr) (hd : ds[i]? = some d)
    (H : CmpB C A cenv tgt co elt W (d :: ds') S rest) (L : LB C cenv Fi F₀ h₀ wr D St o vs done i F M S s.heap) (hz : done.length ≤ 5000)
    (fin : ∀ h' tk F' M' S' o' vs' done' rest', done' ++ rest' = done ++ rest → done'.length ≤ done.length + 1 → CmpB C A cenv tgt co elt W ds' S' rest' → LB C cenv Fi F₀ h₀ wr D St o' vs' done' (i + 1) F' M' S' h' → KK { s with heap := h', toks := tk }) :
    wpAny (model C.prog C.w) A (pyNext (.ref I)) (fun r s₁ => match r with
      | none => N s₁
      | some v => wpAny (model C.prog C.w) A (letOwnedTupleGo tgt (.ref I) v) (fun _ s₀ => wpAny (model C.prog C.w) A (assign tgt cenv.e v) (fun _ s₂ =>
          TestP (model C.prog C.w) A E co cenv.e (fun ok s₃ => if ok = true then wpAny (model C.prog C.w) A (eval elt cenv.e) (fun x s₄ => wpAny (model C.prog C.w) A (call (.builtin "list.append") [.ref D, x]) (fun _ s₅ => KK s₅) E s₄) E s₃ else KK s₃) s₂) E s₀) E s₁) E s := by
  obtain ⟨S1, b, t, c, hb⟩ := H.inv
  refine T.turn hd L.st L.le L.R.toWd (fun b hb => L.hF b (List.mem_cons_of_mem _ hb)) (fun b hb => L.hM b (List.mem_cons_of_mem _ hb)) fun v h2 tk2 F2 g hF2 iv2 st2 => ?_
  have L2 := L.item T hw hD g hF2 st2
  refine t.run { s with heap := h2, toks := tk2 } F2 M L2.R v iv2 _ _ fun h3 tk3 F3 M3 sp R3 => ?_
  have L3 := L2.stp T sp R3
  refine tests_ok (s := { s with heap := h3, toks := tk3 }) c L3.R fun h4 tk4 F4 g4 => ?_
  have L4 := L3.grow T g4
  clear L2 L3 L sp R3 g4 g hF2 st2
  cases b with
  | true =>
    obtain ⟨e, r, y, hr, H⟩ := hb.1 rfl
    rw [if_pos rfl]
    refine y.run { s with heap := h4, toks := tk4 } F4 M3 L4.R _ _ fun x h5 tk5 F5 g5 ix => ?_
    have L5 := L4.grow T g5
    refine append_sound (C := C) (s := { s with heap := h5, toks := tk5 }) L5.ho L5.lo (L5.iv.length ▸ hz) fun h6 hs6 ⟨o6, ho6, lo6⟩ => ?_
    exact fin h6 tk5 F5 M3 _ o6 _ (done ++ [e]) r (by rw [hr, List.append_assoc]; rfl) (by rw [List.length_append]; exact Nat.le_refl _) H (L5.app T hw hD (fun b hb => hs6.2 b hb) ho6 lo6 ix)
  | false =>
    rw [if_neg Bool.false_ne_true]
    exact fin h4 tk4 F4 M3 _ o vs done rest rfl (Nat.le_succ _) (hb.2 rfl) L4
theorem comp_loopG {tgt elt : Expr} {co : Option Expr} {code : Code} {W : PS → Prop} {ds out done0 : List PV} {vs0 : List Value} {I D : Addr} {St : Nat → Heap → Prop} {F₀ Fi : Fz} {h₀ : Heap} {o₀ : Obj} (LR : LoopRule C.prog C.w A code tgt co elt (.ref I) (.ref D) cenv.e) (T : Itr C A Fi tgt I wr ds St)
    (H : CmpB C A cenv tgt co elt W ds S out) (R : Rep C cenv F M S s.heap) (le : Le Fi F) (g₀ : Grow C F₀ h₀ F s.heap) (md : MD C h₀ M) (hw : ∀ b ∈ D :: wr, h₀.get? b = none) (hF : ∀ b ∈ D :: wr, F b = none) (hM : ∀ b ∈ D :: wr, M b = none) (hD : D ∉ wr)
    (ho : s.heap.get? D = some o₀) (lo : LObj o₀ vs0) (iv0 : IsAll F vs0 done0) (st : St 0 s.heap) (hz : done0.length + ds.length ≤ 3000) {RR : Result → Shared → Prop}
    (a : ∀ h' tk F' M' S' o vs, Grow C F₀ h₀ F' h' → Rep C cenv F' M' S' h' → W S' → Le Fi F' → MD C h₀ M' → (∀ b ∈ D :: wr, F' b = none) → (∀ b ∈ D :: wr, M' b = none) → h'.get? D = some o → LObj o vs → IsAll F' vs (done0 ++ out) → RR (.ok .next) { s with heap := h', toks := tk }) :
    codeAny (model C.prog C.w) A code RR s := by
  refine LR _ _ (AtS s (JB C A cenv tgt co elt W ds (done0 ++ out) done0.length Fi F₀ h₀ wr D St)) ?_ ds.length
    ⟨s.heap, s.toks, rfl, F, M, S, 0, o₀, vs0, done0, out, Nat.zero_add _, H, rfl, Nat.le_refl _, R, le, g₀, md, hF, hM, ho, lo, iv0, st⟩
  clear H R le g₀ md hF hM ho lo iv0 st
  rintro n _ ⟨h, tk, rfl, F, M, S, i, o, vs, done, rest, hn, H, hout, hdl, L⟩
  cases hd : ds[i]? with
  | none =>
    have hi := List.getElem?_eq_none_iff.mp hd
    rw [List.drop_of_length_le hi] at H
    obtain ⟨hW, h0⟩ := H.inv0
    refine T.done _ _ _ ((show i = ds.length by lia) ▸ L.st) fun h' tk' hk => ?_
    have hMw : ∀ b ∈ wr, M b = none := fun b hb => L.hM b (List.mem_cons_of_mem _ hb)
    have g := GrowW.of L.R.toWd (fun b hb => L.hF b (List.mem_cons_of_mem _ hb)) hMw hk
    have R' := L.R.growW g hMw (T.live _ _ L.st)
    exact a h' tk' F M S o vs (L.g.growW g (fun b hb => hw b (List.mem_cons_of_mem _ hb)) R'.tbF) R' hW L.le L.md L.hF L.hM (hk _ _ hD L.ho) L.lo (by rw [← hout, h0, List.append_nil]; exact L.iv)
  | some d =>
    have hlt := (List.getElem?_eq_some_iff.mp hd).1
    rw [drop_at hd] at H
    exact comp_turn (s := { s with heap := h, toks := tk }) T hw hD hd H L (by lia) fun h' tk F' M' S' o' vs' done' rest' e1 e2 H' L' => ⟨n - 1, by lia, h', tk, rfl, F', M', S', i + 1, o', vs', done', rest', by lia, H', e1.trans hout, by lia, L'⟩
theorem cloop_rule {elt target iter : PySem.Expr} {co : Option Expr} {scope : Scope} {pos : Pos} {it acc : Value} {env : Env} {prog : Program} {w : World} : LoopRule prog w A (.compLoop (.ListComp elt [⟨target, iter, co.toList, 0⟩] scope pos) 0 it acc env) target co elt it acc env := fun R s I turn n h => cloop I turn n h
theorem comp_loop {tgt iter elt : Expr} {co : Option Expr} {scope : Scope} {ds out : List PV} {I D : Addr} {St : Nat → Heap → Prop} {F₀ Fi : Fz} {h₀ : Heap} {o₀ : Obj} (T : Itr C A Fi tgt I wr ds St)
    (H : CmpS C A cenv tgt co elt ds S out) (R : Rep C cenv F M S s.heap) (le : Le Fi F) (g₀ : Grow C F₀ h₀ F s.heap) (md : MD C h₀ M) (hw : ∀ b ∈ D :: wr, h₀.get? b = none) (hF : ∀ b ∈ D :: wr, F b = none) (hM : ∀ b ∈ D :: wr, M b = none) (hD : D ∉ wr)
    (ho : s.heap.get? D = some o₀) (lo : LObj o₀ []) (st : St 0 s.heap) (hz : ds.length ≤ 3000) {RR : Result → Shared → Prop}
    (a : ∀ h' tk F' M' S' o vs, Grow C F₀ h₀ F' h' → Rep C cenv F' M' S' h' → M' cenv.e.locals = some .frame → (∀ b ∈ D :: wr, F' b = none) → h'.get? D = some o → LObj o vs → IsAll F' vs out → RR (.ok .next) { s with heap := h', toks := tk }) :
    codeAny (model C.prog C.w) A (.compLoop (.ListComp elt [⟨tgt, iter, co.toList, 0⟩] scope pos) 0 (.ref I) (.ref D) cenv.e) RR s :=
  comp_loopG (done0 := []) (vs0 := []) cloop_rule T H R le g₀ md hw hF hM hD ho lo .nil st (by rw [List.length_nil]; lia) fun h' tk F' M' S' o vs g R' _ _ _ hF' _ ho' lo' iv' => a h' tk F' M' S' o vs g R' R'.frame hF' ho' lo' iv'
noncomputable def LoopOk (C : Cx) (A : Around) (cenv : En) (e tgt : Expr) (ds : List PV) (S : PS) (out : List PV) : Prop :=
  ∀ {wr : List Addr} {I D : Addr} {St : Nat → Heap → Prop} {F₀ Fi F : Fz} {h₀ : Heap} {o₀ : Obj} {M : Mz} {s : Shared} {RR : Result → Shared → Prop}, Itr C A Fi tgt I wr ds St → Rep C cenv F M S s.heap → Le Fi F → Grow C F₀ h₀ F s.heap → MD C h₀ M → (∀ b ∈ D :: wr, h₀.get? b = none) → (∀ b ∈ D :: wr, F b = none) → (∀ b ∈ D :: wr, M b = none) → D ∉ wr →
    s.heap.get? D = some o₀ → LObj o₀ [] → St 0 s.heap →
    (∀ h' tk F' M' S' o vs, Grow C F₀ h₀ F' h' → Rep C cenv F' M' S' h' → M' cenv.e.locals = some .frame → (∀ b ∈ D :: wr, F' b = none) → h'.get? D = some o → LObj o vs → IsAll F' vs out → RR (.ok .next) { s with heap := h', toks := tk }) →
    codeAny (model C.prog C.w) A (.compLoop e 0 (.ref I) (.ref D) cenv.e) RR s
theorem loop_ok {tgt iter elt : Expr} {co : Option Expr} {scope : Scope} {ds out : List PV} (H : CmpS C A cenv tgt co elt ds S out) (hz : lenOk ds.length = true) : LoopOk C A cenv (.ListComp elt [⟨tgt, iter, co.toList, 0⟩] scope pos) tgt ds S out :=
  fun T R le g₀ md hw hF hM hD ho lo st a => comp_loop T H R le g₀ md hw hF hM hD ho lo st (lenOk_le hz) a
end
end
section
section
variable {C : Cx} {env cenv : En} {F F' F'' : Fz} {M M' M'' : Mz} {h h' h'' : Heap} {S S' S'' S₁ : PS} {A : Around} {s : Shared} {E : Value → Shared → Prop} {k : Nat} {st : Stmt} {rest : List Stmt} {fl : PFl} {pos : Pos} {wr : List Addr}
theorem comp_coreG {tgt iter elt : Expr} {ifs : List Expr} {gs : List Comprehension} {scope : Scope} {own : Option Str} {cl : List (Str × Addr)} {ds out : List PV} {RR : Value → Addr → Result → Shared → Prop} (fit : CompFit env S S₁ scope own cl) (x : ItS C A env S tgt iter ds)
    (LO : ∀ a, LoopOk C A (compEn scope own cl a env) (.ListComp elt (⟨tgt, iter, ifs, 0⟩ :: gs) scope pos) tgt ds S₁ out) (R : Rep C env F M S s.heap)
    (kk : ∀ D a h' tk F' o vs, Grow C F s.heap F' h' → s.heap.get? D = none → s.heap.get? a = none → F' a = none → F' D = none → h'.get? D = some o → LObj o vs → IsAll F' vs out → a ≠ D → (∃ m, h'.Ns a m) → RR (.ref D) a (.ok .next) { s with heap := h', toks := tk }) :
    wpAny (model C.prog C.w) A (eval iter env.e) (fun x s₁ => wpAny (model C.prog C.w) A (pyIter x) (fun it s₂ => wpAny (model C.prog C.w) A (newList []) (fun acc s₃ => wpAny (model C.prog C.w) A (newFunctionEnv scope env.e.globals cl [] env.e.qual none .none (some env.e)) (fun ev s₄ =>
      codeAny (model C.prog C.w) A (.compStart (.ListComp elt (⟨tgt, iter, ifs, 0⟩ :: gs) scope pos) 0 it acc { ev with scope := relabel scope env.e }) (RR acc ev.locals) s₄) E s₃) E s₂) E s₁) E s := by
  refine x.run s F M R _ _ fun I wr St h1 tk1 F1 g1 hw hF T st => ?_
  have R1 := R.grow g1
  refine wpAny_newObj_type (s := { s with heap := h1, toks := tk1 }) ?_
  let oD : Obj := { cls := .type "list", dict := none, data := .seq ([] : List Value).toArray }
  have g2 : Grow C F1 h1 F1 (h1.push oD) := pushI R1.toWd oD
  have R2 := R1.grow g2
  have hD1 : h1.get? h1.objs.size = none := size_none h1
  have hDo : (h1.push oD).get? h1.objs.size = some oD := Heap.get?_push_size h1 rfl
  obtain ⟨R3, g3, md⟩ := comp_rep fit R2
  refine newEnv_comp (s := { s with heap := h1.push oD, toks := tk1 }) fit.cells fun ev he hl => ?_
  rw [he, hl]
  have gA := (g1.trans g2)
  have gB := gA.trans g3
  have nt : ∀ b, s.heap.get? b = none → ¬ C.ex b := fun b e q => by
    obtain ⟨ps, hp, _⟩ := R.tab b q
    rw [hp] at e; cases e
  have hDn : s.heap.get? h1.objs.size = none := g1.nobody' R.tab hD1
  have hne : (h1.push oD).objs.size ≠ h1.objs.size := by
    have : (h1.push oD).objs.size = h1.objs.size + 1 := Heap.size_push ..
    rw [this]; exact Nat.succ_ne_self _
  have hDw : h1.objs.size ∉ wr := fun q => by
    obtain ⟨o, ho, _⟩ := T.live _ _ st _ q
    rw [hD1] at ho; cases ho
  have hwn : ∀ b ∈ h1.objs.size :: wr, s.heap.get? b = none := fun b hb => by
    rcases List.mem_cons.mp hb with rfl | hb
    · exact hDn
    · exact hw b hb
  have hkeep : ∀ b o, ¬ C.ex b → h1.get? b = some o → (ownHeap own ((h1.push oD).push dictNew)).get? b = some o := fun b o hb e => g3.ext b o hb (g2.ext b o hb e)
  have hDo3 : (ownHeap own ((h1.push oD).push dictNew)).get? h1.objs.size = some oD := g3.ext _ _ (nt _ hDn) hDo
  have st3 : St 0 (ownHeap own ((h1.push oD).push dictNew)) := T.frame _ _ _ st fun b o hb e => hkeep b o (by
    rcases hb with hb | hb
    · exact nt b (hw b hb)
    · intro q; rw [R1.tbF _ q] at hb; exact hb rfl) e
  have hMn : ∀ b ∈ h1.objs.size :: wr, compM C own (h1.push oD).objs.size b = none := fun b hb => by
    cases q : compM C own (h1.push oD).objs.size b with
    | none => rfl
    | some l =>
      rcases md b l q with r | r
      · exact absurd r (nt b (hwn b hb))
      · rcases List.mem_cons.mp hb with rfl | hb
        · rw [hDo] at r; cases r
        · obtain ⟨o, ho, _⟩ := T.live _ _ st b hb
          rw [g2.ext _ _ (nt b (hw b hb)) ho] at r; cases r
  have hFn : ∀ b ∈ h1.objs.size :: wr, F1 b = none := fun b hb => by
    rcases List.mem_cons.mp hb with rfl | hb
    · exact R1.toWd.none_of_new hD1
    · exact hF b hb
  have md' : MD C s.heap (compM C own (h1.push oD).objs.size) := fun b l e => (md b l e).imp id fun r => gA.nobody' R.tab r
  have loop : codeAny (model C.prog C.w) A (.compLoop (.ListComp elt (⟨tgt, iter, ifs, 0⟩ :: gs) scope pos) 0 (.ref I) (.ref h1.objs.size) (compEn scope own cl (h1.push oD).objs.size env).e) (RR (.ref h1.objs.size) (h1.push oD).objs.size) { s with heap := ownHeap own ((h1.push oD).push dictNew), toks := tk1 } := by
    refine LO _ (s := { s with heap := ownHeap own ((h1.push oD).push dictNew), toks := tk1 }) T R3 (Le.refl _) gB md' hwn hFn hMn hDw hDo3 ⟨rfl, ⟨0, rfl⟩, rfl, rfl⟩ st3 fun h4 tk4 F4 M4 S4 o vs g4 R4 hfr hFD ho lo iv => ?_
    have hFa : F4 (h1.push oD).objs.size = none := by
      cases q : F4 (h1.push oD).objs.size with
      | none => rfl
      | some p => have := R4.dis _ _ q; rw [show M4 (h1.push oD).objs.size = some .frame from hfr] at this; cases this
    obtain ⟨m, hn, _⟩ := R4.vars
    exact kk _ _ h4 tk4 F4 o vs g4 hDn (gA.nobody' R.tab (size_none _)) hFa (hFD _ (.head _)) ho lo iv hne ⟨m, hn⟩
  exact codeAny_compStart_list loop (T.self 0 _ _ _ st3 loop)
theorem comp_core {tgt iter elt : Expr} {co : Option Expr} {scope : Scope} {own : Option Str} {cl : List (Str × Addr)} {ds out : List PV} {RR : Value → Addr → Result → Shared → Prop} (fit : CompFit env S S₁ scope own cl) (x : ItS C A env S tgt iter ds)
    (H : ∀ a, CmpS C A (compEn scope own cl a env) tgt co elt ds S₁ out) (hz : lenOk ds.length = true) (R : Rep C env F M S s.heap)
    (kk : ∀ D a h' tk F' o vs, Grow C F s.heap F' h' → s.heap.get? D = none → s.heap.get? a = none → F' a = none → F' D = none → h'.get? D = some o → LObj o vs → IsAll F' vs out → a ≠ D → (∃ m, h'.Ns a m) → RR (.ref D) a (.ok .next) { s with heap := h', toks := tk }) :
    wpAny (model C.prog C.w) A (eval iter env.e) (fun x s₁ => wpAny (model C.prog C.w) A (pyIter x) (fun it s₂ => wpAny (model C.prog C.w) A (newList []) (fun acc s₃ => wpAny (model C.prog C.w) A (newFunctionEnv scope env.e.globals cl [] env.e.qual none .none (some env.e)) (fun ev s₄ =>
      codeAny (model C.prog C.w) A (.compStart (.ListComp elt [⟨tgt, iter, co.toList, 0⟩] scope pos) 0 it acc { ev with scope := relabel scope env.e }) (RR acc ev.locals) s₄) E s₃) E s₂) E s₁) E s :=
  comp_coreG fit x (fun a => loop_ok (H a) hz) R kk
theorem el_compG {tgt iter elt : Expr} {ifs : List Expr} {gs : List Comprehension} {scope : Scope} {own : Option Str} {cl : List (Str × Addr)} {ds out : List PV} (fit : CompFit env S S₁ scope own cl) (x : ItS C A env S tgt iter ds)
    (LO : ∀ a, LoopOk C A (compEn scope own cl a env) (.ListComp elt (⟨tgt, iter, ifs, 0⟩ :: gs) scope pos) tgt ds S₁ out) (hs : ∀ x, foldedSetIterable iter env.e x = pure x) : EvL C A env S (.ListComp elt (⟨tgt, iter, ifs, 0⟩ :: gs) scope pos) out := .mk fun s F M R Q E kk => by
  rw [eval_ListComp]
  refine wpAny_comprehension_free (use := none) rfl hs fit.clos fit.kind fit.names (comp_coreG (RR := fun acc a => compPost (model C.prog C.w) A E none Q acc a) fit x LO R fun D a h' tk F' o vs g hD ha hFa hFD ho lo iv hne hns => ?_)
  obtain ⟨m, hn⟩ := hns
  refine ⟨m, hn, fun h2 hs2 => ?_⟩
  have hat : ¬ C.ex a := fun q => by obtain ⟨ps, hp, _⟩ := R.tab a q; rw [hp] at ha; cases ha
  refine kk D o vs h2 tk F' ⟨fun b p hb e => (hs2.2 b (fun q => by rw [q, ha] at e; cases e)).trans (g.ext b p hb e), g.mono, fun b p e => (hs2.2 b (fun q => by rw [q, hFa] at e; cases e)).trans (g.sub b p e), g.fnew, ?_⟩ hD hFD ((hs2.2 D (Ne.symm hne)).trans ho) lo iv
  intro b hb
  obtain ⟨ps, hp, ht⟩ := g.tab b hb
  exact ⟨ps, (hs2.2 _ (fun q => hat (q ▸ hb))).trans hp, ht⟩
theorem el_comp {tgt iter elt : Expr} {co : Option Expr} {scope : Scope} {own : Option Str} {cl : List (Str × Addr)} {ds out : List PV} (fit : CompFit env S S₁ scope own cl) (x : ItS C A env S tgt iter ds)
    (H : ∀ a, CmpS C A (compEn scope own cl a env) tgt co elt ds S₁ out) (hz : lenOk ds.length = true) (hs : ∀ x, foldedSetIterable iter env.e x = pure x) : EvL C A env S (.ListComp elt [⟨tgt, iter, co.toList, 0⟩] scope pos) out :=
  el_compG fit x (fun a => loop_ok (H a) hz) hs
theorem el_ev {e : Expr} {ds : List PV} (x : EvL C A env S e ds) : EvS C A env S e (.list ds) := .mk fun s F M R Q E kk =>
  x.run s F M R Q E fun a o vs h' tk F' g hn hF ho lo i => by
    have g' := g.freeze R.toWd hn ho
    exact kk _ h' tk _ g' (Is.list (fset_self _ _ _) lo (i.mono (g.le_freeze ho)))
theorem ex_comp {tgt iter elt : Expr} {co : Option Expr} {scope : Scope} {own : Option Str} {cl : List (Str × Addr)} {ds out : List PV} {y : Str} {py p : Pos} (fit : CompFit env S S₁ scope own cl) (x : ItS C A env S tgt iter ds)
    (H : ∀ a, CmpS C A (compEn scope own cl a env) tgt co elt ds S₁ out) (hz : lenOk ds.length = true) (hs : ∀ x, foldedSetIterable iter env.e x = pure x) (hk : Sto env y) (hw : swapsWith (.ListComp elt [⟨tgt, iter, co.toList, 0⟩] scope p) (some (.Name y py)) pos.line env.e = pure true) :
    ExS C A env S (.Assign [.Name y py] (.ListComp elt [⟨tgt, iter, co.toList, 0⟩] scope p) pos) (put S y (.val (.list out))) .next := .mk fun s F M R Q E kk => by
  rw [exec_Assign_Name_used _ _ _ _ hw]
  refine wpAny_bind (wpAny_standAt (wpAny_bind ?_))
  show wpAny _ A (do let _ ← comprehension (.ListComp elt [⟨tgt, iter, co.toList, 0⟩] scope p) scope env.e _ (newList []) false (eval iter env.e) (some (assign (.Name y py) env.e))) _ _ s
  refine wpAny_bind (wpAny_mono (wpAny_comprehension_free (use := some (assign (.Name y py) env.e)) (Q := fun _ s' => Q .next s') rfl hs fit.clos fit.kind fit.names
    (comp_core (RR := fun acc a => compPost (model C.prog C.w) A E (some (assign (.Name y py) env.e)) (fun _ s' => Q .next s') acc a) fit x H hz R fun D a h' tk F' o vs g hD ha hFa hFD ho lo iv hne hns => ?_)) (fun _ s' hq => wpAny_pure (wpAny_pure hq)) fun _ _ e => e)
  obtain ⟨m, hn⟩ := hns
  have g' := g.freeze R.toWd hD ho
  have R' := R.grow g'
  have hMa : M a = none := R.toWd.mnone ha
  have hFa' : fset F' D o a = none := by unfold fset; rw [if_neg hne]; exact hFa
  refine wpAny_assign_Name (st_var (s := { s with heap := h', toks := tk }) R' hk (pv := .val (.list out)) (Is.list (fset_self _ _ _) lo (iv.mono (g.le_freeze ho))) fun h2 tk2 R2 sp => ?_)
  have ns2 : h2.Ns a m := hn.at' fun o e => sp.ext a o hMa e
  refine ⟨m, ns2, fun h3 hs3 => ?_⟩
  have hM1 : ∀ b ∈ [a], M b = none := fun b hb => by rw [List.mem_singleton.mp hb]; exact hMa
  have gW : GrowW C [a] (fset F' D o) h2 (fset F' D o) h3 := GrowW.of R2.toWd (fun b hb => by rw [List.mem_singleton.mp hb]; exact hFa') hM1 fun b p hb e => (hs3.2 b (by simpa using hb)).trans e
  have hc : NoCell h2 [a] := fun b hb => by
    rw [List.mem_singleton.mp hb]
    obtain ⟨o, es, ep, e1, e2, _⟩ := ns2
    exact ⟨o, e1, fun v q => by rw [e2] at q; cases q⟩
  exact kk .next h3 tk2 _ M (((g'.stp R.toWd).trans sp).growW R2.toWd gW (fun b hb => by rw [List.mem_singleton.mp hb]; exact ha)) (R2.growW gW hM1 hc) trivial
end
end
section
theorem AOk.deeper {A : Around} {k : Nat} (a : AOk A (k + 1)) (env : Env) : AOk (A.deeper env) k :=
  ⟨a.hh, by have := a.depth; show A.depth + 1 + 4 * k + 4 < _; lia, by have := a.units; show A.units + 3 + 40 * k + 200 < _; lia⟩
theorem AOk.le {A : Around} {k j : Nat} (a : AOk A k) (h : j ≤ k) : AOk A j := ⟨a.hh, by have := a.depth; lia, by have := a.units; lia⟩
theorem bindL_none {kd : Str → Option NameKind} {x : Str} : ∀ {binds : List (Str × Value)} {m : Str → Option Value}, (∀ p ∈ binds, p.1 ≠ x) → bindL kd binds m x = m x ∧ bindC kd binds m x = m x
  | [], _, _ => ⟨rfl, rfl⟩
  | (n, v) :: r, m, h => by
    have hn : x ≠ n := Ne.symm (h _ (.head _))
    unfold bindL bindC
    obtain ⟨h1, h2⟩ := bindL_none (kd := kd) (x := x) (binds := r) (m := if kd n = some .local then fun y => if y = n then some v else m y else m) fun p hp => h p (.tail _ hp)
    obtain ⟨h3, h4⟩ := bindL_none (kd := kd) (x := x) (binds := r) (m := if kd n = some .local then m else fun y => if y = n then some v else m y) fun p hp => h p (.tail _ hp)
    refine ⟨h1.trans ?_, h4.trans ?_⟩ <;> (split <;> simp [hn])
theorem binds_get {kd : Str → Option NameKind} {x : Str} {v : Value} : ∀ {binds : List (Str × Value)} {m : Str → Option Value}, binds.Pairwise (fun a b => a.1 ≠ b.1) → (x, v) ∈ binds →
    (kd x = some .local → bindL kd binds m x = some v) ∧ (kd x ≠ some .local → bindC kd binds m x = some v)
  | (n, u) :: r, m, hp, hm => by
    obtain ⟨h1, h2⟩ := List.pairwise_cons.mp hp
    unfold bindL bindC
    rcases List.mem_cons.mp hm with e | hm
    · obtain ⟨rfl, rfl⟩ := Prod.mk.inj e
      obtain ⟨q1, -⟩ := bindL_none (kd := kd) (x := x) (binds := r) (m := if kd x = some .local then fun y => if y = x then some v else m y else m) fun p hp => Ne.symm (h1 p hp)
      obtain ⟨-, q2⟩ := bindL_none (kd := kd) (x := x) (binds := r) (m := if kd x = some .local then m else fun y => if y = x then some v else m y) fun p hp => Ne.symm (h1 p hp)
      exact ⟨fun k => by rw [q1, if_pos k]; simp, fun k => by rw [q2, if_neg k]; simp⟩
    · exact ⟨fun k => (binds_get h2 hm).1 k, fun k => (binds_get h2 hm).2 k⟩
noncomputable def zipP : List Str → List PVar → PS
  | n :: ns, d :: ds => (n, d) :: zipP ns ds
  | _, _ => []
inductive ParsIs (F : Fz) : List Value → List PVar → Prop
  | nil : ParsIs F [] []
  | cons {v : Value} {vs : List Value} {d : PV} {ps : List PVar} : Is F v d → ParsIs F vs ps → ParsIs F (v :: vs) (.val d :: ps)
theorem IsAll.pars {F : Fz} : ∀ {vs : List Value} {ds : List PV}, IsAll F vs ds → ParsIs F vs (ds.map .val)
  | _, _, .nil => .nil
  | _, _, .cons h r => .cons h r.pars
theorem ParsIs.find {F : Fz} {x : Str} {pv : PVar} : ∀ {ns : List Str} {vs : List Value} {ps : List PVar}, ParsIs F vs ps → get (zipP ns ps) x = some pv → ∃ v d, pv = .val d ∧ Is F v d ∧ (x, v) ∈ ns.zip vs
  | [], _, _, _, e => by cases e
  | n :: ns, _, _, .nil, e => by cases e
  | n :: ns, _, _, .cons (v := v) (d := d) h r, e => by
    simp only [zipP, get] at e
    split at e
    · rename_i q; subst q; cases e; exact ⟨v, d, rfl, h, .head _⟩
    · obtain ⟨v', d', e1, e2, e3⟩ := r.find e
      exact ⟨v', d', e1, e2, .tail _ e3⟩
theorem zip_pw {α : Type} : ∀ {ns : List Str} {vs : List α}, ns.Pairwise (· ≠ ·) → (ns.zip vs).Pairwise (fun a b => a.1 ≠ b.1)
  | [], _, _ => by simp
  | n :: ns, [], _ => by simp
  | n :: ns, v :: vs, h => by
    obtain ⟨h1, h2⟩ := List.pairwise_cons.mp h
    rw [List.zip_cons_cons]
    refine List.pairwise_cons.mpr ⟨fun p hp => h1 p.1 (List.of_mem_zip hp).1, zip_pw h2⟩
structure FnIn (C : Cx) (f : Addr) (fd : FuncData) (body : List Stmt) (ns : List Str) (ow : List Str) : Prop where
  at_ : ∃ oc od sl, C.K.lookup f = some ⟨oc, od, .func fd, sl⟩
  code : codeIn C.K fd.code fd.qualname = true
  body : fd.body = .stmts body
  clo : fd.closure = []
  gl : fd.globals = mainGlobals
  bt : fd.builtins = builtinsNs
  co : fd.scope.isCoroutine = false
  gen : fd.scope.isGenerator = false
  kind : fd.scope.kind = .function
  bind : ∀ vs : List Value, vs.length = ns.length → bindArgs fd ⟨vs, []⟩ = pure (ns.zip vs)
  nd : ns.Pairwise (· ≠ ·)
  par : ∀ x ∈ ns, fd.scope.names.lookup x = some .local ∨ (fd.scope.names.lookup x = some .cell ∧ ∀ L : Addr, ((cellsFrom (L + 1) fd.scope.names []).lookup x).isSome = true)
  ow : ∀ x ∈ ow, fd.scope.names.lookup x = some .cell ∧ ∀ L : Addr, ((cellsFrom (L + 1) fd.scope.names []).lookup x).isSome = true
open Classical in
noncomputable def fnM (C : Cx) (L : Addr) (cs : List (Str × Addr)) : Mz := fun b => if C.ex b then some .tab else if b = L then some .frame else (cs.find? (fun p => p.2 == b && cs.lookup p.1 == some b)).map fun p => .cell p.1
section
variable {C : Cx} {env cenv : En} {F F' F'' : Fz} {M M' M'' : Mz} {h h' h'' : Heap} {S S' S'' S₁ : PS} {A : Around} {s : Shared} {E : Value → Shared → Prop} {k : Nat} {st : Stmt} {rest : List Stmt} {fl : PFl} {pos : Pos} {wr : List Addr}
  {f : Addr} {fd : FuncData} {body : List Stmt} {ns ow : List Str}
theorem fnM_cell {L : Addr} {cs : List (Str × Addr)} (ap : cs.Pairwise fun x y => x.2 ≠ y.2) (above : ∀ n c, (n, c) ∈ cs → L < c) (ht : ∀ n c, (n, c) ∈ cs → ¬ C.ex c) {x : Str} {c : Addr} (e : cs.lookup x = some c) : fnM C L cs c = some (.cell x) := by
  have hm := mem_of_lookup e
  unfold fnM
  rw [if_neg (ht _ _ hm), if_neg (Nat.ne_of_gt (above _ _ hm))]
  cases q : cs.find? (fun p => p.2 == c && cs.lookup p.1 == some c) with
  | none => exact absurd (List.find?_eq_none.mp q _ hm) (by simp [e])
  | some p =>
    have h1 := List.mem_of_find?_eq_some q
    have h2 : p.2 = c := by have := List.find?_some q; simp only [Bool.and_eq_true, beq_iff_eq] at this; exact this.1
    obtain ⟨n, c'⟩ := p
    simp only at h2
    subst h2
    rw [name_of_addr ap h1 hm]
    rfl
theorem call_rep (FI : FnIn C f fd body ns ow) (W : Wd C F M s.heap) {vs : List Value} {ps : List PVar} (i : ParsIs F vs ps) {s₁ : Shared}
    (I : InCallC s (callEnvC fd s.heap.objs.size f).locals (bindL (callEnvC fd s.heap.objs.size f).kindOf (ns.zip vs) fun _ => none) (callEnvC fd s.heap.objs.size f).cells (bindC (callEnvC fd s.heap.objs.size f).kindOf (ns.zip vs) fun _ => none) s₁) :
    ∃ h₁ tk M₁, s₁ = { s with heap := h₁, toks := tk } ∧ Rep C ⟨callEnvC fd s.heap.objs.size f, ow⟩ F M₁ (zipP ns ps) h₁ ∧ Grow C F s.heap F h₁ ∧ MD C s.heap M₁ := by
  obtain ⟨h₁, tk, rfl, hk⟩ := I.done
  have g : Grow C F s.heap F h₁ := Grow.only W hk
  have fresh : ∀ b, s.heap.objs.size ≤ b → s.heap.get? b = none := fun b hb => by
    cases q : s.heap.get? b with
    | none => rfl
    | some o => exact absurd (Heap.lt_size q) (Nat.not_lt.mpr hb)
  have nt : ∀ b, s.heap.get? b = none → ¬ C.ex b := fun b e q => by
    obtain ⟨ps, hp, _⟩ := W.tab b q
    rw [hp] at e; cases e
  have habove : ∀ n c, (n, c) ∈ (callEnvC fd s.heap.objs.size f).cells → s.heap.objs.size < c := I.above
  have hcn : ∀ n c, (n, c) ∈ (callEnvC fd s.heap.objs.size f).cells → s.heap.get? c = none := fun n c hm => fresh _ (Nat.le_of_lt (habove n c hm))
  let M₁ : Mz := fnM C s.heap.objs.size (callEnvC fd s.heap.objs.size f).cells
  have mfr : M₁ s.heap.objs.size = some .frame := by
    show fnM _ _ _ _ = _
    unfold fnM
    rw [if_neg (nt _ (fresh _ (Nat.le_refl _))), if_pos rfl]
  have mce : ∀ x c, (callEnvC fd s.heap.objs.size f).cells.lookup x = some c → M₁ c = some (.cell x) := fun x c e => fnM_cell I.apart habove (fun n c hm => nt _ (hcn n c hm)) e
  have md : MD C s.heap M₁ := fun b l e => by
    have e : fnM _ _ _ _ = _ := e
    unfold fnM at e
    split at e
    · rename_i hb; exact .inl hb
    · split at e
      · rename_i hb; exact .inr (fresh b (by rw [hb]; exact Nat.le_refl _))
      · cases q : (callEnvC fd s.heap.objs.size f).cells.find? (fun p => p.2 == b && (callEnvC fd s.heap.objs.size f).cells.lookup p.1 == some b) with
        | none => rw [q] at e; cases e
        | some p =>
          have h1 := List.mem_of_find?_eq_some q
          have h2 : p.2 = b := by have := List.find?_some q; simp only [Bool.and_eq_true, beq_iff_eq] at this; exact this.1
          subst h2
          exact .inr (hcn p.1 p.2 h1)
  have hns : h₁.Ns s.heap.objs.size _ := I.toInCall.ns
  refine ⟨h₁, tk, M₁, rfl, ⟨⟨g.sub, fun b o e => ?_, fun b l e => ?_, fun b o e => W.base b o e, g.tab, ?_⟩, ⟨_, hns, fun x pv e => ?_⟩, mfr, fun x hx => ?_, ⟨FI.kind, FI.gl, FI.bt⟩⟩, g, md⟩
  · cases q : M₁ b with
    | none => rfl
    | some l =>
      rcases md b l q with r | r
      · rw [W.tbF _ r] at e; cases e
      · have := W.sub b o e; rw [r] at this; cases this
  · have e : fnM _ _ _ _ = _ := e
    unfold fnM at e
    split at e
    · rename_i hb; obtain ⟨ps, hp, _⟩ := g.tab b hb; exact ⟨_, hp⟩
    · split at e
      · rename_i hb; subst hb; obtain ⟨o, _, _, ho, _⟩ := hns; exact ⟨o, ho⟩
      · cases q : (callEnvC fd s.heap.objs.size f).cells.find? (fun p => p.2 == b && (callEnvC fd s.heap.objs.size f).cells.lookup p.1 == some b) with
        | none => rw [q] at e; cases e
        | some p =>
          have h1 := List.mem_of_find?_eq_some q
          have h2 := List.find?_some q
          simp only [Bool.and_eq_true, beq_iff_eq] at h2
          obtain ⟨o, ho, _⟩ := I.cell _ _ h2.2
          exact ⟨o, ho⟩
  · intro b hb
    show fnM _ _ _ _ = _
    unfold fnM; rw [if_pos hb]
  · obtain ⟨v, d, rfl, iv, hm⟩ := i.find e
    have hz := binds_get (kd := (callEnvC fd s.heap.objs.size f).kindOf) (m := fun _ => none) (zip_pw FI.nd) hm
    refine ⟨v, ?_, iv⟩
    rcases FI.par x (List.of_mem_zip hm).1 with q | ⟨q1, q2⟩
    · exact .inl ⟨q, hz.1 q⟩
    · obtain ⟨c, hc⟩ := Option.isSome_iff_exists.mp (q2 s.heap.objs.size)
      have := I.cell x c hc
      rw [hz.2 (by show fd.scope.names.lookup x ≠ _; rw [q1]; decide)] at this
      exact .inr (.inl ⟨q1, c, hc, .inl (mce x c hc), this⟩)
  · obtain ⟨q1, q2⟩ := FI.ow x hx
    obtain ⟨c, hc⟩ := Option.isSome_iff_exists.mp (q2 s.heap.objs.size)
    exact ⟨q1, c, hc, mce x c hc, _, I.cell x c hc⟩
theorem call_in (O : C.Ok) (FI : FnIn C f fd body ns ow) (AO : AOk A (k + 1)) (W : Wd C F M s.heap) {vs : List Value} {ps : List PVar} (i : ParsIs F vs ps) (hlen : vs.length = ns.length) {R : Result → Shared → Prop}
    (H : ∀ h₁ tk L M₁, AOk (A.deeper (callEnvC fd L f)) k → Rep C ⟨callEnvC fd L f, ow⟩ F M₁ (zipP ns ps) h₁ → Grow C F s.heap F h₁ → MD C s.heap M₁ →
      wpAny (model C.prog C.w) (A.deeper (callEnvC fd L f)) (execs body (callEnvC fd L f)) (fun fv s' => R (.ok (.ret (match fv with | .ret v => v | _ => .none))) s')
        (fun e s' => wpAny (model C.prog C.w) (A.deeper (callEnvC fd L f)) (leaving (callEnvC fd L f) e) (fun _ s'' => R (.error e) s'') (fun e' s'' => R (.error e') s'') s') { s with heap := h₁, toks := tk }) :
    codeAny (model C.prog C.w) A (.call (.ref f) ⟨vs, []⟩) R s := by
  obtain ⟨oc, od, sl, ho⟩ := FI.at_
  have X := W.kin O
  refine codeAny_call_cells (fd := fd) (by have := AO.depth; lia) (X _ _ ho) rfl (O.nolimit.keeps W.baseH) (codeRec_of X FI.code) FI.body (FI.bind vs hlen) FI.clo (fun p hp => ?_) (fun s₁ I => ?_) FI.co FI.gen FI.kind
  · rcases FI.par p.1 (List.of_mem_zip hp).1 with q | ⟨q1, q2⟩
    · exact .inl q
    · exact .inr ⟨q1, q2 _⟩
  · obtain ⟨h₁, tk, M₁, rfl, R, g, md⟩ := call_rep FI W i I
    exact H h₁ tk s.heap.objs.size M₁ (AO.deeper _) R g md
end
end
section
section
variable {C : Cx} {env cenv : En} {F F' F'' : Fz} {M M' M'' : Mz} {h h' h'' : Heap} {S S' S'' S₁ : PS} {A : Around} {s : Shared} {E : Value → Shared → Prop} {k : Nat} {st : Stmt} {rest : List Stmt} {fl : PFl} {pos : Pos} {wr : List Addr}
  {f : Addr} {fd : FuncData} {body : List Stmt} {ns ow : List Str}
noncomputable def calleeEn (fd : FuncData) (ow : List Str) (L f : Addr) : En := ⟨callEnvC fd L f, ow⟩
noncomputable def outOf : PFl → Option PV
  | .ret d => some d
  | .next => some .none
  | _ => none
theorem fn_ok (O : C.Ok) (FI : FnIn C f fd body ns ow) {ds : List PV} {d : PV} (hlen : ds.length = ns.length) (hfl : outOf fl = some d)
    (B : ∀ A L, AOk A k → ExA C A (calleeEn fd ow L f) (zipP ns (ds.map .val)) body S' fl) : FnOk C f (k + 1) ds d := fun A s F M vs W AO i Q E kk => by
  refine wpAny_call (call_in O FI AO W i.pars (by rw [i.length]; exact hlen) fun h₁ tk L M₁ AO' R g md => ?_)
  refine (B _ L AO').run { s with heap := h₁, toks := tk } F M₁ R _ _ fun fv h' tk' F' M' sp R' j => ?_
  obtain ⟨g', _⟩ := g.inner sp md R'.toWd
  cases fv with
  | ret v =>
    cases fl with
    | ret d' => cases hfl; exact kk v h' tk' F' g' j
    | _ => exact j.elim
  | next =>
    cases fl with
    | next => cases hfl; exact kk .none h' tk' F' g' .none
    | _ => exact j.elim
  | brk => cases fl <;> first | exact j.elim | cases hfl
  | cont => cases fl <;> first | exact j.elim | cases hfl
theorem FnOk.le {ds : List PV} {d : PV} {j : Nat} (x : FnOk C f j ds d) (h : j ≤ k) : FnOk C f k ds d := fun A s F M vs W AO i => x A s F M vs W (AO.le h) i
end
end
section
structure InstSet (C : Cx) (cl : Addr) : Prop where
  hs : findIn C.K (.ref cl) "__setattr__" = some (some (.builtin "object.__setattr__"))
  hp : plainOver C.K cl = true
section
variable {C : Cx} {env cenv : En} {F F' F'' : Fz} {M M' M'' : Mz} {h h' h'' : Heap} {S S' S'' S₁ : PS} {A : Around} {s : Shared} {E : Value → Shared → Prop} {k : Nat} {st : Stmt} {rest : List Stmt} {fl : PFl} {pos : Pos} {wr : List Addr}
  {f : Addr} {fd : FuncData} {body : List Stmt} {ns ow : List Str}
theorem put_len {name : Str} {hsh : Int} {key v : Value} : ∀ es : List DictEntry, (putL name hsh key v es).length ≤ es.length + 1
  | [] => Nat.le_refl _
  | e :: r => by
    unfold putL
    split
    · simp
    · have := put_len (name := name) (hsh := hsh) (key := key) (v := v) r
      simp only [List.length_cons]; lia
theorem IsDict.put {es : List DictEntry} {fs : List (Str × PV)} (i : IsDict F es fs) {name : Str} {hsh : Int} {t : Tok} {v : Value} {d : PV} (iv : Is F v d) : IsDict F (putL name hsh (.str name t) v es) (putf fs name d) := by
  induction fs generalizing es with
  | nil => cases i; exact .cons iv .nil
  | cons p r ih =>
    obtain ⟨y, c⟩ := p
    cases i with
    | cons jv jr =>
      unfold putL putf
      by_cases hy : y = name
      · subst hy
        rw [if_pos rfl, if_pos (by simp [Value.isStr])]
        exact .cons iv jr
      · rw [if_neg hy, if_neg (by simp [Value.isStr, hy])]
        exact .cons jv (ih jr)
theorem IsDict.len {es : List DictEntry} {fs : List (Str × PV)} (i : IsDict F es fs) : es.length = fs.length := by
  induction fs generalizing es with
  | nil => cases i; rfl
  | cons p r ih => cases i with | cons jv jr => rw [List.length_cons, List.length_cons, ih jr]
theorem osa_raw {K : Frag} {prog : Program} {w : World} {R : Result → Shared → Prop} {x dx cl : Addr} {name : Str} {tk : Tok} {v : Value} {es : List DictEntry} {n : Nat} (X : K.In s.heap) (e1 : s.heap.get? x = some (instObj cl dx)) (e2 : s.heap.get? dx = some (dictOf es n))
    (hp : plainOver K cl = true) (ht : takerIn K cl name = some none) {cd : ClassData} (hc : clsIn K cl = some cd) (hd' : cd.hasDict = true) (hr : es.any (·.refKey) = false) (hz : es.length ≤ 900)
    (h : R (.ok (.ret .none)) { s with heap := s.heap.update dx (Obj.putName name (PyData.keyHash w.params name) (.str name s.toks) v), toks := s.toks + 1 }) :
    codeAny (model prog w) A (.call (.builtin "object.__setattr__") ⟨[.ref x, .str name tk, v], []⟩) R s := by
  refine osa_open X (instAt_of e1 e2) hp ht fun b => ?_
  have D' : (s.heap.update dx (Obj.putName name (PyData.keyHash w.params name) (.str name s.toks) v)).get? dx = some (dictOf (putL name (PyData.keyHash w.params name) (.str name s.toks) v es) (putN name es n)) := by
    rw [← putName_dict]
    exact Heap.get?_update_self _ e2 (by rw [putName_dict]; rfl)
  refine wpAny_bind (wpAny_pure (wpAny_bind (wpAny_bind (wpAny_loadPart e1 (wpAny_bind ((looks_clsIn X hc).here ?_))))))
  rw [hd']
  refine wpAny_pure (a := some dx) (wpAny_bind (wpAny_pure (wpAny_bind ?_)))
  unfold nsSet
  refine wpAny_bind (wpAny_bind (wpAny_askSetting (wpAny_pure (wpAny_bind (wpAny_mkText (wpAny_bind (wpAny_loadPart e2 ?_)))))))
  dsimp only
  have c : (!es.toArray.any (·.key.isStr name) && es.toArray.any (·.refKey)) = false := by
    have : es.toArray.any (fun x => x.refKey) = false := by rw [← Array.any_toList]; exact hr
    rw [this, Bool.and_false]
  rw [aRefKeyMayBeTheName_at, c]
  refine wpAny_updatePart e2 ?_
  refine wpAny_bind (wpAny_lookBehind D' (pastItsLine_dict (by rw [List.size_toArray, sizeLine_eq]; have := put_len (name := name) (hsh := PyData.keyHash w.params name) (key := .str name s.toks) (v := v) es; lia)) ?_)
  exact wpAny_pure h
theorem set_sound (O : C.Ok) (W : C.K.In s.heap) {cl : Addr} (IC : InstCls C cl) (IS : InstSet C cl) {a dx : Addr} {es : List DictEntry} {n : Nat} {fs : List (Str × PV)} {name : Str} {v : Value} {d : PV} (e1 : s.heap.get? a = some (instObj cl dx)) (e2 : s.heap.get? dx = some (dictOf es n)) (i : IsDict F es fs)
    (iv : Is F v d) (ht : takerIn C.K cl name = some none) (hz : fs.length ≤ 100) {Q : Unit → Shared → Prop}
    (kk : ∀ h' tk, Heap.SameBut dx s.heap h' → (∃ es' n', h'.get? dx = some (dictOf es' n') ∧ IsDict F es' (putf fs name d)) → Q () { s with heap := h', toks := tk }) : wpAny (model C.prog C.w) A (setAttr (.ref a) name v) Q E s := by
  obtain ⟨cd, hc, hd⟩ := IC.cd
  refine set_plain W (instAt_of e1 e2) IS.hs (osa_raw (s := { s with toks := s.toks + 1 }) W e1 e2 IS.hp ht hc hd i.noRef (by rw [i.len]; lia) ?_)
  refine kk _ _ (Heap.SameBut.update ..) ⟨_, putN name es n, ?_, i.put (hsh := PyData.keyHash C.w.params name) (t := s.toks + 1) iv⟩
  rw [← putName_dict]
  exact Heap.get?_update_self _ e2 (by rw [putName_dict]; rfl)
theorem self_upd (R : Rep C env F M S h) {x : Str} {a dx cl : Addr} {fs : List (Str × PV)} {es : List DictEntry} {n : Nat} {m : Str → Option Value} (hn : h.Ns env.e.locals m) (hv : ∀ y pv, get S y = some pv → ∃ v, Loc C env M h m y v ∧ VarIs F M h y v pv)
    (l : Loc C env M h m x (.ref a)) (hM : M a = some (.own x)) (hMd : M dx = some (.ini x)) (e1 : h.get? a = some (instObj cl dx)) (hs : Heap.SameBut dx h h') (ho : h'.get? dx = some (dictOf es n)) (i : IsDict F es fs) : Rep C env F M (put S x (.self a cl fs)) h' ∧ Stp F M h F M h' := by
  refine ⟨⟨R.toWd.at hs hMd (by nofun) ⟨_, ho⟩, ⟨m, hn.sameBut hs (fun q => by have := R.frame; rw [q, hMd] at this; cases this), fun y pv e => ?_⟩, R.frame, fun y ky => ?_, R.ev⟩, Stp.at hs hMd⟩
  · rw [get_put] at e
    split at e
    · rename_i hy; subst hy; cases e
      exact ⟨_, l.at hs hMd (by nofun), dx, es, n, rfl, hM, hMd, (hs.2 a (fun q => by rw [q, hMd] at hM; cases hM)).trans e1, ho, i⟩
    · rename_i hy
      obtain ⟨u, lu, iu⟩ := hv y pv e
      exact ⟨u, lu.at hs hMd (by nofun), iu.at hs hMd (by nofun) (by intro q; cases q; exact hy rfl)⟩
  · obtain ⟨k1, c, e1, e2, ov, ob, e3, e4⟩ := R.cells y ky
    exact ⟨k1, c, e1, e2, ov, ob, (hs.2 c (fun q => by rw [q, hMd] at e2; cases e2)).trans e3, e4⟩
theorem ex_setattr (O : C.Ok) {x name : Str} {a cl : Addr} {fs : List (Str × PV)} {d : PV} {np ap : Pos} {e : Expr} (hx : get S x = some (.self a cl fs)) (hd : (x == ("__debug__" : Str)) = false) (IC : InstCls C cl) (IS : InstSet C cl) (ht : takerIn C.K cl name = some none) (hz : fs.length ≤ 100)
    (y : EvS C A env S e d) (hs : swapsWith e (some (.Attribute (.Name x np) name ap)) pos.line env.e = pure false) : ExS C A env S (.Assign [.Attribute (.Name x np) name ap] e pos) (put S x (.self a cl (putf fs name d))) .next := .mk fun s F M R Q E kk => by
  refine plainObj_wpAny_Assign_Attribute (y.run s F M R _ _ fun v h' tk F' g iv => ?_) hs
  have R' := R.grow g
  obtain ⟨m, hn, hv⟩ := R'.vars
  obtain ⟨v0, l, dx, es, n, rfl, hM, hMd, e1, e2, i⟩ := hv x _ hx
  refine wpAny_Name (ld_loc (s := { s with heap := h', toks := tk }) R'.ev hn l ?_) hd
  refine set_sound (s := { s with heap := h', toks := tk }) O (R'.toWd.kin O) IC IS e1 e2 i iv ht hz fun h2 tk2 hs2 ⟨es2, n2, ho2, i2⟩ => ?_
  obtain ⟨R2, sp⟩ := self_upd R' hn hv l hM hMd e1 hs2 ho2 i2
  exact kk .next h2 tk2 F' M ((g.stp R.toWd).trans sp) R2 trivial
theorem Rep.selfed (R : Rep C env F M S h) {x : Str} {a dx cl : Addr} {es : List DictEntry} {n : Nat} {fs : List (Str × PV)} (hx : get S x = some (.val (.raw (.ref a)))) (hne : a ≠ dx) (hFa : F a = none) (hFd : F dx = none) (hMa : M a = none) (hMd : M dx = none) (e1 : h.get? a = some (instObj cl dx)) (e2 : h.get? dx = some (dictOf es n)) (i : IsDict F es fs) :
    Rep C env F (mset (mset M a (some (.own x))) dx (some (.ini x))) (put S x (.self a cl fs)) h := by
  have hta : ¬ C.ex a := fun q => by rw [R.mtab _ q] at hMa; cases hMa
  have htd : ¬ C.ex dx := fun q => by rw [R.mtab _ q] at hMd; cases hMd
  have up : ∀ b l, M b = some l → mset (mset M a (some (.own x))) dx (some (.ini x)) b = some l := fun b l e => by
    rw [mset_ne _ _ (fun q => by rw [q, hMd] at e; cases e), mset_ne _ _ (fun q => by rw [q, hMa] at e; cases e)]; exact e
  obtain ⟨m, hn, hv⟩ := R.vars
  have key : ∀ {y : Str} {ov : Option Value}, CellAt C env M h y ov → CellAt C env (mset (mset M a (some (.own x))) dx (some (.ini x))) h y ov := fun {y ov} i => by
    obtain ⟨c, f1, f2, o', f3, f4⟩ := i
    refine ⟨c, f1, ?_, o', f3, f4⟩
    rcases f2 with f2 | f2
    · exact .inl (up _ _ f2)
    · refine .inr ⟨?_, f2.2⟩
      rw [mset_ne _ _ (fun z => by rw [z, e2] at f3; cases f3; cases f4), mset_ne _ _ (fun z => by rw [z, e1] at f3; cases f3; cases f4)]; exact f2.1
  have keyL : ∀ {y : Str} {u : Value}, Loc C env M h m y u → Loc C env (mset (mset M a (some (.own x))) dx (some (.ini x))) h m y u := fun {y u} l => by
    rcases l with l | ⟨k, l⟩ | ⟨k, kk, l⟩
    · exact .inl l
    · exact .inr (.inl ⟨k, key l⟩)
    · exact .inr (.inr ⟨k, kk, key l⟩)
  refine ⟨⟨R.sub, fun b p e => ?_, fun b l e => ?_, R.base, R.tab, fun b hb => up _ _ (R.mtab b hb)⟩, ⟨m, hn, fun y pv q => ?_⟩, up _ _ R.frame, fun y ky => ?_, R.ev⟩
  · rw [mset_ne _ _ (fun q => by rw [q, hFd] at e; cases e), mset_ne _ _ (fun q => by rw [q, hFa] at e; cases e)]; exact R.dis b p e
  · unfold mset at e; split at e
    · rename_i hb; subst hb; exact ⟨_, e2⟩
    · split at e
      · rename_i hb; subst hb; exact ⟨_, e1⟩
      · exact R.mex b l e
  · rw [get_put] at q
    split at q
    · rename_i hy; subst hy; cases q
      obtain ⟨u, l, iu⟩ := hv _ _ hx
      have : u = .ref a := isRaw iu
      subst this
      exact ⟨_, keyL l, dx, es, n, rfl, by rw [mset_ne _ _ hne, mset_self], mset_self _ _ _, e1, e2, i⟩
    · obtain ⟨u, l, iu⟩ := hv y pv q
      refine ⟨u, keyL l, ?_⟩
      cases pv with
      | val d => exact iu
      | own ds' => obtain ⟨b, vs', n', f1, f2, f3, l3, f4⟩ := iu; exact ⟨b, vs', n', f1, up _ _ f2, f3, l3, f4⟩
      | self b cl fs => obtain ⟨dx, es, n', f1, f2, f3, f4, f5, f6⟩ := iu; exact ⟨dx, es, n', f1, up _ _ f2, up _ _ f3, f4, f5, f6⟩
  · obtain ⟨k1, c, f1, f2, f3⟩ := R.cells y ky
    exact ⟨k1, c, f1, up _ _ f2, f3⟩
theorem cls_ok (O : C.Ok) {cl : Addr} (hm : makesIn C.K cl = true) (hi : findIn C.K (.ref cl) "__init__" = some (some (.ref f))) (hf : typeIn C.K (.ref f) = some (.type "function")) {xs : Str} (FI : FnIn C f fd body (xs :: ns) ow) {ds : List PV} (hlen : ds.length = ns.length) {fs : List (Str × PV)}
    (B : ∀ A L a, AOk A k → ∃ S', get S' xs = some (.self a cl fs) ∧ ExA C A (calleeEn fd ow L f) ((xs, .self a cl []) :: zipP ns (ds.map .val)) body S' .next) : FnOk C cl (k + 2) ds (.inst cl fs) := fun A s F M vs W AO i Q E kk => by
  have X := W.kin O
  obtain ⟨hh, g0, d0, t0, os⟩ := s
  refine wpAny_call (make_core (makes_of X hm) (looks_findIn X hi) (fun self => bind_fn X self hf) (.inl rfl) ?_)
  have W0 : Wd C F M hh := W
  have g1 : Grow C F hh F (hh.push emptyDict) := pushI W0 emptyDict
  have W1 := W0.grow g1
  have g2 : Grow C F (hh.push emptyDict) F ((hh.push emptyDict).push (instObj cl hh.objs.size)) := pushI W1 (instObj cl hh.objs.size)
  have W2 := W1.grow g2
  have hsz : (hh.push emptyDict).objs.size = hh.objs.size + 1 := Heap.size_push ..
  have ea : ((hh.push emptyDict).push (instObj cl hh.objs.size)).get? (hh.objs.size + 1) = some (instObj cl hh.objs.size) := by rw [← hsz]; exact Heap.get?_push_size _ rfl
  have ed : ((hh.push emptyDict).push (instObj cl hh.objs.size)).get? hh.objs.size = some emptyDict := Heap.get?_push_of_some _ (Heap.get?_push_size hh rfl)
  have na : hh.get? (hh.objs.size + 1) = none := by
    cases q : hh.get? (hh.objs.size + 1) with
    | none => rfl
    | some o => exact absurd (Heap.lt_size q) (Nat.not_lt.mpr (Nat.le_succ _))
  have nd := size_none hh
  have hne : hh.objs.size + 1 ≠ hh.objs.size := Nat.succ_ne_self _
  have AO' : AOk (A.under (.builtin "type.__call__" ⟨.ref cl :: vs, []⟩)) (k + 1) := by
    refine ⟨AO.hh, ?_, ?_⟩
    · have := AO.depth
      show A.depth + 1 + 4 * (k + 1) + 4 < _
      lia
    · have := AO.units
      have hu : (Code.builtin "type.__call__" ⟨.ref cl :: vs, []⟩).cUnits ≤ 4 := Nat.le_of_ble_eq_true (by rfl)
      show A.units + Code.cUnits _ + 40 * (k + 1) + 200 < _
      lia
  refine call_in (s := ⟨(hh.push emptyDict).push (instObj cl hh.objs.size), g0, d0, t0, os⟩) O FI AO' W2 (vs := .ref (hh.objs.size + 1) :: vs) (ps := .val (.raw (.ref (hh.objs.size + 1))) :: ds.map .val) (.cons (.raw _) i.pars) (by rw [List.length_cons, List.length_cons, i.length, hlen]) fun h₁ tk L M₁ AO2 R g3 md => ?_
  have fresh : ∀ b, ((hh.push emptyDict).push (instObj cl hh.objs.size)).get? b ≠ none → ¬ C.ex b → M₁ b = none := fun b hb ht => by
    cases q : M₁ b with
    | none => rfl
    | some l =>
      rcases md b l q with r | r
      · exact absurd r ht
      · exact absurd r hb
  have nt : ∀ b, hh.get? b = none → ¬ C.ex b := fun b e q => by
    obtain ⟨ps, hp, _⟩ := W0.tab b q
    rw [hp] at e; cases e
  have hMa := fresh _ (by rw [ea]; simp) (nt _ na)
  have hMd := fresh _ (by rw [ed]; simp) (nt _ nd)
  have ea1 := g3.ext _ _ (nt _ na) ea
  have ed1 := g3.ext _ _ (nt _ nd) ed
  have R2 := R.selfed (x := xs) (es := []) (n := 0) (fs := []) (by simp [zipP, get]) hne (W0.none_of_new na) (W0.none_of_new nd) hMa hMd ea1 ed1 .nil
  have hput : put (zipP (xs :: ns) (.val (.raw (.ref (hh.objs.size + 1))) :: ds.map .val)) xs (.self (hh.objs.size + 1) cl []) = (xs, .self (hh.objs.size + 1) cl []) :: zipP ns (ds.map .val) := by
    simp [zipP, put]
  rw [hput] at R2
  obtain ⟨S', hS', B⟩ := B _ L (hh.objs.size + 1) AO2
  have gA : Grow C F hh F h₁ := (g1.trans g2).trans g3
  have md2 : MD C hh (mset (mset M₁ (hh.objs.size + 1) (some (.own xs))) hh.objs.size (some (.ini xs))) := fun b l e => by
    unfold mset at e
    split at e
    · rename_i hb; subst hb; exact .inr nd
    · split at e
      · rename_i hb; subst hb; exact .inr na
      · exact (md b l e).imp id fun r => (g1.trans g2).nobody' W0.tab r
  refine B.run ⟨h₁, g0, d0, tk, os⟩ F _ R2 _ _ fun fv h' tk' F' M' sp R' j => ?_
  obtain ⟨g', _⟩ := gA.inner sp md2 R'.toWd
  cases fv with
  | next =>
    refine ⟨rfl, ?_⟩
    obtain ⟨m, hn, hv⟩ := R'.vars
    obtain ⟨v, l, dx, es, n, rfl, hMa', hMd', e1, e2, i2⟩ := hv xs _ hS'
    have nd' : hh.get? dx = none := by
      have g'' := (gA.inner sp md2 R'.toWd).2 dx _ hMd'
      rcases g'' with r | r
      · rw [R'.mtab _ r] at hMd'; cases hMd'
      · exact r
    have gF := (g'.freeze W0 nd' e2).freeze W0 na (o := instObj cl dx) e1
    refine kk (.ref (hh.objs.size + 1)) h' tk' _ gF ?_
    have hne2 : dx ≠ hh.objs.size + 1 := fun q => by rw [q, hMa'] at hMd'; cases hMd'
    refine Is.inst (n := n) (fset_self _ _ _) ?_ (i2.mono ?_)
    · unfold fset; rw [if_neg hne2, if_pos rfl]
    · exact (g'.le_freeze e2).trans ((g'.freeze W0 nd' e2).le_freeze e1)
  | _ => exact j.elim
end
end
section
section
variable {C : Cx} {env cenv : En} {F F' F'' : Fz} {M M' M'' : Mz} {h h' h'' : Heap} {S S' S'' S₁ S1 S2 : PS} {A : Around} {s : Shared} {E : Value → Shared → Prop} {k : Nat} {st : Stmt} {rest : List Stmt} {fl : PFl} {pos : Pos} {wr : List Addr}
theorem ea_one (x : ExS C A env S st S' fl) : ExA C A env S [st] S' fl := .mk fun s F M R Q E a =>
  wpAny_execs_cons (x.run s F M R _ _ fun fv h' tk F' M' sp R' i => by
    cases fv with
    | next => exact wpAny_execs_nil (a .next h' tk F' M' sp R' i)
    | _ => exact a _ _ _ _ _ sp R' i)
noncomputable def Sub (S' S : PS) : Prop := ∀ x pv, get S' x = some pv → get S x = some pv
theorem Sub.refl (S : PS) : Sub S S := fun _ _ e => e
theorem Sub.nil : Sub [] S := fun _ _ e => by cases e
theorem Sub.cons {x : Str} {pv : PVar} (h : get S x = some pv) (r : Sub S' S) : Sub ((x, pv) :: S') S := fun y qv e => by
  simp only [get] at e
  split at e
  · rename_i q; subst q; cases e; exact h
  · exact r y qv e
theorem Rep.weaken (R : Rep C env F M S h) (w : Sub S' S) : Rep C env F M S' h := ⟨R.toWd, by obtain ⟨m, hn, hv⟩ := R.vars; exact ⟨m, hn, fun x pv e => hv x pv (w x pv e)⟩, R.frame, R.cells, R.ev⟩
theorem ExA.weaken {st : List Stmt} (x : ExA C A env S st S' fl) (w : Sub S'' S') : ExA C A env S st S'' fl := .mk fun s F M R Q E a => x.run s F M R Q E fun fv h' tk F' M' sp R' i => a fv h' tk F' M' sp (R'.weaken w) i
theorem ExA.drop {st : List Stmt} (x : ExA C A env S st S' fl) : ExA C A env S st [] fl := x.weaken Sub.nil
theorem ExA.pre {st : List Stmt} (x : ExA C A env S st S' fl) (w : Sub S S'') : ExA C A env S'' st S' fl := .mk fun s F M R Q E a => x.run s F M (R.weaken w) Q E a
theorem ExS.pre (x : ExS C A env S st S' fl) (w : Sub S S'') : ExS C A env S'' st S' fl := .mk fun s F M R Q E a => x.run s F M (R.weaken w) Q E a
theorem EvS.pre {e : Expr} {d : PV} (x : EvS C A env S e d) (w : Sub S S'') : EvS C A env S'' e d := .mk fun s F M R => x.run s F M (R.weaken w)
theorem TgS.weaken {e : Expr} {d : PV} (x : TgS C A env S e d S') (w : Sub S'' S') : TgS C A env S e d S'' := .mk fun s F M R v i Q E a => x.run s F M R v i Q E fun h' tk F' M' sp R' => a h' tk F' M' sp (R'.weaken w)
theorem ForS.fold {α β : Type} {tgt : Expr} {body : List Stmt} (enc : α → PS) (g : β → PV) (f : α → β → α) {S1 S2 : α → β → PS} (t : ∀ a x, TgS C A env (enc a) tgt (g x) (S1 a x)) (b : ∀ a x, ExA C A env (S1 a x) body (S2 a x) .next) (w : ∀ a x, Sub (enc (f a x)) (S2 a x)) :
    ∀ (l : List β) (a : α), ForS C A env tgt body (enc (l.foldl f a)) .next (l.map g) (enc a)
  | [], a => .done rfl
  | x :: l, a => .step (t a x) ((b a x).weaken (w a x)) (ForS.fold enc g f t b w l (f a x))
theorem ForS.foldP {α β : Type} {tgt : Expr} {body : List Stmt} (enc : α → PS) (g : β → PV) (f : α → β → α) (P : α → Prop) (V : β → Prop) {S1 S2 : α → β → PS} (hP : ∀ a x, P a → V x → P (f a x))
    (t : ∀ a x, TgS C A env (enc a) tgt (g x) (S1 a x)) (b : ∀ a x, P a → V x → ExA C A env (S1 a x) body (S2 a x) .next) (w : ∀ a x, Sub (enc (f a x)) (S2 a x)) :
    ∀ (l : List β) (a : α), P a → (∀ x ∈ l, V x) → ForS C A env tgt body (enc (l.foldl f a)) .next (l.map g) (enc a)
  | [], a, _, _ => .done rfl
  | x :: l, a, h, hv => .step (t a x) ((b a x h (hv x (.head _))).weaken (w a x)) (ForS.foldP enc g f P V hP t b w l (f a x) (hP a x h (hv x (.head _))) fun y hy => hv y (.tail _ hy))
theorem ForS.foldI {α β : Type} {tgt : Expr} {body : List Stmt} (enc : α → PS) (g : β → PV) (f : α → β → α) (P : Nat → α → Prop) (l₀ : List β) {S1 S2 : α → β → PS} (hP : ∀ i a x, l₀[i]? = some x → P i a → P (i + 1) (f a x))
    (t : ∀ a x, TgS C A env (enc a) tgt (g x) (S1 a x)) (b : ∀ i a x, l₀[i]? = some x → P i a → ExA C A env (S1 a x) body (S2 a x) .next) (w : ∀ a x, Sub (enc (f a x)) (S2 a x)) :
    ∀ (l : List β) (i : Nat) (a : α), l₀.drop i = l → P i a → ForS C A env tgt body (enc (l.foldl f a)) .next (l.map g) (enc a)
  | [], i, a, _, _ => .done rfl
  | x :: l, i, a, e, h => by
    have hx : l₀[i]? = some x := by
      have := congrArg (fun z => z[0]?) e
      simpa using this
    have hl : l₀.drop (i + 1) = l := by rw [← List.drop_drop, e]; rfl
    exact .step (t a x) ((b i a x hx h).weaken (w a x)) (ForS.foldI enc g f P l₀ hP t b w l (i + 1) (f a x) hl (hP i a x hx h))
theorem ForS.idx {α β : Type} {tgt : Expr} {body : List Stmt} (enc : α → PS) (g : β → PV) (f : α → β → α) (P : Nat → α → Prop) (l : List β) (a : α) (h0 : P 0 a) {S1 S2 : α → β → PS} (hP : ∀ i a x, l[i]? = some x → P i a → P (i + 1) (f a x))
    (t : ∀ a x, TgS C A env (enc a) tgt (g x) (S1 a x)) (b : ∀ i a x, l[i]? = some x → P i a → ExA C A env (S1 a x) body (S2 a x) .next) (w : ∀ a x, Sub (enc (f a x)) (S2 a x)) : ForS C A env tgt body (enc (l.foldl f a)) .next (l.map g) (enc a) :=
  ForS.foldI enc g f P l hP t b w l 0 a rfl h0
theorem range_get {n i x : Nat} (h : (List.range n)[i]? = some x) : x = i ∧ i < n := by
  obtain ⟨h1, h2⟩ := List.getElem?_eq_some_iff.mp h
  rw [List.length_range] at h1
  rw [List.getElem_range] at h2
  exact ⟨h2.symm, h1⟩
theorem EvO.nil : EvO C A env S none none := trivial
theorem EvO.val {e : Expr} {i : Int} (x : EvS C A env S e (.int i)) : EvO C A env S (some e) (some i) := x
theorem TgS.pre {e : Expr} {d : PV} (x : TgS C A env S e d S') (w : Sub S S'') : TgS C A env S'' e d S' := .mk fun s F M R v i Q E a => x.run s F M (R.weaken w) v i Q E a
theorem CmpS.map {β : Type} {tgt elt : Expr} {S₀ : PS} (g : β → PV) (f : β → PV) (V : β → Prop) {S1 : β → PS} : ∀ (l : List β) {S : PS}, Sub S₀ S → (∀ x ∈ l, V x) → (∀ x, V x → TgS C A env S₀ tgt (g x) (S1 x)) → (∀ x, Sub S₀ (S1 x)) → (∀ x, V x → EvS C A env (S1 x) elt (f x)) → CmpS C A env tgt none elt (l.map g) S (l.map f)
  | [], S, _, _, _, _, _ => .nil trivial
  | x :: l, S, h, hv, t, w, y => .take ((t x (hv x (.head _))).pre h) rfl (y x (hv x (.head _))) (CmpS.map g f V l (w x) (fun z hz => hv z (.tail _ hz)) t w y)
theorem CmpS.filt {β : Type} {tgt elt c : Expr} {S₀ : PS} (g : β → PV) (p : β → Bool) (f : β → PV) (V : β → Prop) {S1 : β → PS} : ∀ (l : List β) {S : PS}, Sub S₀ S → (∀ x ∈ l, V x) → (∀ x, V x → TgS C A env S₀ tgt (g x) (S1 x)) → (∀ x, Sub S₀ (S1 x)) → (∀ x, V x → TsS C A env (S1 x) c (p x)) → (∀ x, V x → EvS C A env (S1 x) elt (f x)) → CmpS C A env tgt (some c) elt (l.map g) S ((l.filter p).map f)
  | [], S, _, _, _, _, _, _ => .nil trivial
  | x :: l, S, h, hv, t, w, hc, y => by
    have vx := hv x (.head _)
    have hv' : ∀ z ∈ l, V z := fun z hz => hv z (.tail _ hz)
    cases q : p x with
    | true => rw [List.filter_cons_of_pos q]; exact .take ((t x vx).pre h) (by have := hc x vx; rw [q] at this; exact this) (y x vx) (CmpS.filt g p f V l (w x) hv' t w hc y)
    | false => rw [List.filter_cons_of_neg (by rw [q]; decide)]; exact .skip ((t x vx).pre h) (by have := hc x vx; rw [q] at this; exact this) (CmpS.filt g p f V l (w x) hv' t w hc y)
end
end
section
variable {k : Int} {ds : List PV}
theorem idx_pos {α : Type} {ds : List α} {d : α} (h1 : ds.length ≤ 3000) (h2 : 0 ≤ k) (h3 : k < 2 ^ 60) (h4 : ds[k.toNat]? = some d) : idx ds k = some d := by
  unfold idx; rw [if_pos (lenOk_of h1), if_pos h2, if_pos h3]; exact h4
theorem idx_neg {α : Type} {ds : List α} {d : α} (h1 : ds.length ≤ 3000) (h2 : k < 0) (h3 : -(ds.length : Int) ≤ k) (h4 : ds[(k + ds.length).toNat]? = some d) : idx ds k = some d := by
  unfold idx; rw [if_pos (lenOk_of h1), if_neg (by lia), if_pos h3]; exact h4
end
section
inductive Nice : Nat → PV → Prop
  | none (n : Nat) : Nice n .none
  | int (n : Nat) (i : Int) : Nice n (.int i)
  | str (n : Nat) (x : Str) : PyData.strOk x = true → Nice n (.str x)
  | list (n : Nat) (ds : List PV) : (∀ d ∈ ds, Nice n d) → Nice (n + 1) (.list ds)
  | tuple (n : Nat) (ds : List PV) : (∀ d ∈ ds, Nice n d) → Nice (n + 1) (.tuple ds)
theorem nice_all {n : Nat} : ∀ {ds : List PV}, (∀ d ∈ ds, ∃ x, toPD d = some x ∧ x.canLay0 = true ∧ x.depth ≤ n) → ∃ xs, toPDs ds = some xs ∧ PyData.canLayAll0 xs = true ∧ PyData.depthAll xs ≤ n
  | [], _ => ⟨[], rfl, rfl, Nat.zero_le _⟩
  | d :: ds, h => by
    obtain ⟨x, e1, e2, e3⟩ := h d (.head _)
    obtain ⟨xs, f1, f2, f3⟩ := nice_all (ds := ds) fun d' hd => h d' (.tail _ hd)
    refine ⟨x :: xs, by rw [toPDs, e1, f1], by rw [PyData.canLayAll0, e2, f2]; rfl, ?_⟩
    rw [PyData.depthAll]
    exact Nat.max_le.mpr ⟨e3, f3⟩
theorem Nice.pd {n : Nat} {d : PV} (h : Nice n d) : ∃ x, toPD d = some x ∧ x.canLay0 = true ∧ x.depth ≤ n + 1 := by
  induction h with
  | none n => exact ⟨.none, rfl, rfl, by unfold PyData.depth; lia⟩
  | int n i => exact ⟨.int i, rfl, rfl, by unfold PyData.depth; lia⟩
  | str n x hx => exact ⟨.str x, rfl, by rw [PyData.canLay0]; exact hx, by unfold PyData.depth; lia⟩
  | list n ds _ ih =>
    obtain ⟨xs, e1, e2, e3⟩ := nice_all ih
    exact ⟨.list xs, by rw [toPD, e1]; rfl, e2, by unfold PyData.depth; lia⟩
  | tuple n ds _ ih =>
    obtain ⟨xs, e1, e2, e3⟩ := nice_all ih
    exact ⟨.tuple xs, by rw [toPD, e1]; rfl, e2, by unfold PyData.depth; lia⟩
theorem eqv_all {P : PV → Prop} : ∀ {ds es : List PV} {xs ys : List PyData}, (∀ d ∈ ds, ∀ e ∈ es, ∀ x y, toPD d = some x → toPD e = some y → (PyData.eqv x y = true ↔ d = e)) → toPDs ds = some xs → toPDs es = some ys → (PyData.eqvAll xs ys = true ↔ ds = es)
  | [], [], xs, ys, _, e1, e2 => by cases e1; cases e2; simp [PyData.eqvAll]
  | [], e :: es, xs, ys, _, e1, e2 => by
    cases e1
    simp only [toPDs] at e2
    split at e2 <;> cases e2
    simp [PyData.eqvAll]
  | d :: ds, [], xs, ys, _, e1, e2 => by
    cases e2
    simp only [toPDs] at e1
    split at e1 <;> cases e1
    simp [PyData.eqvAll]
  | d :: ds, e :: es, xs, ys, h, e1, e2 => by
    simp only [toPDs] at e1 e2
    split at e1 <;> cases e1
    split at e2 <;> cases e2
    rename_i o1 o2 x xs p1 p2 o3 o4 y ys q1 q2
    rw [PyData.eqvAll, Bool.and_eq_true, h d (.head _) e (.head _) x y p1 q1, eqv_all (P := P) (fun d' hd e' he => h d' (.tail _ hd) e' (.tail _ he)) p2 q2, List.cons.injEq]
theorem Nice.eqv {n : Nat} {a : PV} (ha : Nice n a) : ∀ {m : Nat} {b : PV}, Nice m b → ∀ x y, toPD a = some x → toPD b = some y → (PyData.eqv x y = true ↔ a = b) := by
  induction ha with
  | none n =>
    intro m b hb x y e1 e2
    cases e1
    cases hb with
    | none => cases e2; simp [PyData.eqv]
    | int => cases e2; simp [PyData.eqv]
    | str => cases e2; simp [PyData.eqv]
    | list => simp only [toPD, Option.map_eq_some_iff] at e2; obtain ⟨_, _, rfl⟩ := e2; simp [PyData.eqv]
    | tuple => simp only [toPD, Option.map_eq_some_iff] at e2; obtain ⟨_, _, rfl⟩ := e2; simp [PyData.eqv]
  | int n i =>
    intro m b hb x y e1 e2
    cases e1
    cases hb with
    | none => cases e2; simp [PyData.eqv]
    | int => cases e2; simp [PyData.eqv]
    | str => cases e2; simp [PyData.eqv]
    | list => simp only [toPD, Option.map_eq_some_iff] at e2; obtain ⟨_, _, rfl⟩ := e2; simp [PyData.eqv]
    | tuple => simp only [toPD, Option.map_eq_some_iff] at e2; obtain ⟨_, _, rfl⟩ := e2; simp [PyData.eqv]
  | str n i hi =>
    intro m b hb x y e1 e2
    cases e1
    cases hb with
    | none => cases e2; simp [PyData.eqv]
    | int => cases e2; simp [PyData.eqv]
    | str => cases e2; simp [PyData.eqv]
    | list => simp only [toPD, Option.map_eq_some_iff] at e2; obtain ⟨_, _, rfl⟩ := e2; simp [PyData.eqv]
    | tuple => simp only [toPD, Option.map_eq_some_iff] at e2; obtain ⟨_, _, rfl⟩ := e2; simp [PyData.eqv]
  | list n ds _ ih =>
    intro m b hb x y e1 e2
    simp only [toPD, Option.map_eq_some_iff] at e1
    obtain ⟨xs, e1, rfl⟩ := e1
    cases hb with
    | none => cases e2; simp [PyData.eqv]
    | int => cases e2; simp [PyData.eqv]
    | str => cases e2; simp [PyData.eqv]
    | list m es hes =>
      simp only [toPD, Option.map_eq_some_iff] at e2
      obtain ⟨ys, e2, rfl⟩ := e2
      rw [PyData.eqv, eqv_all (P := fun _ => True) (fun d hd e he => ih d hd (hes e he)) e1 e2, PV.list.injEq]
    | tuple => simp only [toPD, Option.map_eq_some_iff] at e2; obtain ⟨_, _, rfl⟩ := e2; simp [PyData.eqv]
  | tuple n ds _ ih =>
    intro m b hb x y e1 e2
    simp only [toPD, Option.map_eq_some_iff] at e1
    obtain ⟨xs, e1, rfl⟩ := e1
    cases hb with
    | none => cases e2; simp [PyData.eqv]
    | int => cases e2; simp [PyData.eqv]
    | str => cases e2; simp [PyData.eqv]
    | list => simp only [toPD, Option.map_eq_some_iff] at e2; obtain ⟨_, _, rfl⟩ := e2; simp [PyData.eqv]
    | tuple m es hes =>
      simp only [toPD, Option.map_eq_some_iff] at e2
      obtain ⟨ys, e2, rfl⟩ := e2
      rw [PyData.eqv, eqv_all (P := fun _ => True) (fun d hd e he => ih d hd (hes e he)) e1 e2, PV.tuple.injEq]
theorem eqPV_nice {n m : Nat} {a b : PV} (ha : Nice n a) (hb : Nice m b) (hn : n ≤ 60) (hm : m ≤ 60) (P : Prop) [Decidable P] (h : a = b ↔ P) : eqPV a b = some (decide P) := by
  obtain ⟨x, e1, e2, e3⟩ := ha.pd
  obtain ⟨y, f1, f2, f3⟩ := hb.pd
  have key : ∀ r : Bool, (r = true ↔ a = b) → r = decide P := fun r hr => by
    cases r
    · exact (decide_eq_false fun q => by have := hr.mpr (h.mpr q); cases this).symm
    · exact (decide_eq_true (h.mp (hr.mp rfl))).symm
  have gen : (match toPD a, toPD b with | some x, some y => if (SeqAt.shaped x && SeqAt.shaped y) = true then some (PyData.eqv x y) else none | _, _ => none) = some (decide P) := by
    rw [e1, f1]
    dsimp only
    rw [if_pos, key _ (ha.eqv hb x y e1 f1)]
    unfold SeqAt.shaped
    rw [e2, f2, decide_eq_true (show x.depth ≤ 64 by lia), decide_eq_true (show y.depth ≤ 64 by lia)]; rfl
  unfold eqPV
  split
  · cases ha
  · rename_i i j; rw [key (decide (i = j)) (by simp)]
  · rename_i i j; rw [key (decide (i = j)) (by simp)]
  · exact gen
theorem inPV_ints {a : Int} {l : List Int} : inPV (.int a) (l.map .int) = some (decide (a ∈ l)) := by
  have h1 : toPDs (l.map .int) = some (l.map PyData.int) := by
    induction l with
    | nil => rfl
    | cons x r ih => rw [List.map_cons, toPDs, ih]; rfl
  have h2 : PyData.canLayAll0 (l.map PyData.int) = true := by
    clear h1
    induction l with
    | nil => rfl
    | cons x r ih => rw [List.map_cons, PyData.canLayAll0, ih]; rfl
  unfold inPV
  rw [h1]
  show (if (PyData.canLay0 (.int a) && PyData.canLayAll0 (l.map .int) && decide ((PyData.int a).depth ≤ 20)) = true then _ else _) = _
  rw [h2, if_pos (by rfl)]
  congr 1
  rw [List.any_map, Bool.eq_iff_iff, List.any_eq_true, decide_eq_true_eq]
  constructor
  · rintro ⟨x, hx, e⟩
    simp [PyData.eqv] at e
    exact e ▸ hx
  · intro h
    exact ⟨a, h, by simp [PyData.eqv]⟩
theorem nice_ints {n : Nat} {l : List Int} : ∀ d ∈ l.map PV.int, Nice n d := fun d hd => by
  obtain ⟨i, _, rfl⟩ := List.mem_map.mp hd
  exact .int n i
end
section
noncomputable def Cx.add (C : Cx) (L : Addr) (o : Obj) : Cx := { C with ex := fun a => C.ex a ∨ a = L, exo := fun a p => (C.ex a ∧ C.exo a p) ∨ (a = L ∧ ∃ sl, p = { o with slots := sl }) }
open Classical in
noncomputable def exM (C : Cx) : Mz := fun a => if C.ex a then some .tab else none
structure GrowL (C : Cx) (L : Addr) (F : Fz) (h : Heap) (F' : Fz) (h' : Heap) : Prop where
  ext : ∀ a o, ¬ C.ex a → a ≠ L → h.get? a = some o → h'.get? a = some o
  mono : Le F F'
  sub : ∀ a o, F' a = some o → h'.get? a = some o
  fnew : ∀ a o, F' a = some o → F a = some o ∨ h.get? a = none
  tab : TabOk C F' h'
structure EvX (C : Cx) (A : Around) (env : En) (S : PS) (e : Expr) (d : PV) : Prop where
  run : ∀ (s : Shared) (F : Fz) (M : Mz), Rep C env F M S s.heap → ∀ (Q : Value → Shared → Prop) (E : Value → Shared → Prop), (∀ v h' tk F', GrowL C env.e.locals F s.heap F' h' → Rep C env F' M S h' → Is F' v d → Q v { s with heap := h', toks := tk }) → wpAny (model C.prog C.w) A (eval e env.e) Q E s
structure TsX (C : Cx) (A : Around) (env : En) (S : PS) (e : Expr) (b : Bool) : Prop where
  run : ∀ (s : Shared) (F : Fz) (M : Mz), Rep C env F M S s.heap → ∀ (Q : Bool → Shared → Prop) (E : Value → Shared → Prop), (∀ h' tk F', GrowL C env.e.locals F s.heap F' h' → Rep C env F' M S h' → Q b { s with heap := h', toks := tk }) → wpAny (model C.prog C.w) A (isTrue e env.e (eval e env.e)) Q E s
structure ItX (C : Cx) (A : Around) (env : En) (S : PS) (tgt iter : Expr) (ds : List PV) : Prop where
  run : ∀ (s : Shared) (F : Fz) (M : Mz), Rep C env F M S s.heap → ∀ (Q : Value → Shared → Prop) (E : Value → Shared → Prop),
    (∀ I wr St h' tk F', GrowL C env.e.locals F s.heap F' h' → Rep C env F' M S h' → (∀ b ∈ wr, s.heap.get? b = none) → (∀ b ∈ wr, F' b = none) → (∀ ex exo, Itr { C with ex := ex, exo := exo } A F' tgt I wr ds St) → St 0 h' → Q (.ref I) { s with heap := h', toks := tk }) →
    wpAny (model C.prog C.w) A (eval iter env.e) (fun x s₁ => wpAny (model C.prog C.w) A (pyIter x) Q E s₁) E s
section
variable {C : Cx} {env : En} {F F' F'' : Fz} {M M' M'' : Mz} {h h' h'' : Heap} {S S' S'' S₁ : PS} {A : Around} {s : Shared} {E : Value → Shared → Prop} {k : Nat} {st : Stmt} {rest : List Stmt} {fl : PFl} {pos : Pos} {wr : List Addr}
theorem GrowL.of {L : Addr} (g : Grow C F h F' h') : GrowL C L F h F' h' := ⟨fun a o q _ e => g.ext a o q e, g.mono, g.sub, g.fnew, g.tab⟩
theorem GrowL.trans {L : Addr} (x : GrowL C L F h F' h') (y : GrowL C L F' h' F'' h'') (hx : ∀ a, C.ex a → ∃ o, h'.get? a = some o) (hL : ∃ o, h'.get? L = some o) : GrowL C L F h F'' h'' := by
  refine ⟨fun a o q r e => y.ext a o q r (x.ext a o q r e), x.mono.trans y.mono, y.sub, fun a o e => ?_, y.tab⟩
  rcases y.fnew a o e with e' | e'
  · exact x.fnew a o e'
  · refine .inr ?_
    cases q : h.get? a with
    | none => rfl
    | some o' =>
      by_cases h1 : C.ex a
      · obtain ⟨p, hp⟩ := hx a h1; rw [e'] at hp; cases hp
      · by_cases h2 : a = L
        · obtain ⟨p, hp⟩ := hL; rw [h2, hp] at e'; cases e'
        · rw [x.ext a o' h1 h2 q] at e'; cases e'
theorem Rep.ownAt (R : Rep C env F M S h) : ∃ o, h.get? env.e.locals = some o := by obtain ⟨m, ⟨o, _, _, ho, _⟩, _⟩ := R.vars; exact ⟨o, ho⟩
theorem GrowL.trans' (x : GrowL C env.e.locals F h F' h') (R : Rep C env F' M S h') (y : GrowL C env.e.locals F' h' F'' h'') : GrowL C env.e.locals F h F'' h'' :=
  x.trans y (fun a ha => by obtain ⟨o, ho, _⟩ := R.tab a ha; exact ⟨o, ho⟩) R.ownAt
theorem GrowL.stp (R : Rep C env F M S h) (g : GrowL C env.e.locals F h F' h') : Stp F M h F' M h' :=
  ⟨fun a o hm e => g.ext a o (fun q => by rw [R.mtab _ q] at hm; cases hm) (fun q => by rw [q, R.frame] at hm; cases hm) e, g.mono, fun a o e => (g.fnew a o e).imp id .inl, fun a l e => .inl (by rw [e]; simp)⟩
theorem EvX.of {e : Expr} {d : PV} (x : EvS C A env S e d) : EvX C A env S e d := .mk fun s F M R Q E kk => x.run s F M R Q E fun v h' tk F' g i => kk v h' tk F' (.of g) (R.grow g) i
theorem TsX.of {e : Expr} {b : Bool} (x : TsS C A env S e b) : TsX C A env S e b := .mk fun s F M R Q E kk => x.run s F M R Q E fun h' tk F' g => kk h' tk F' (.of g) (R.grow g)
theorem GrowL.back (g : GrowL C env.e.locals F h F' h') (R : Rep C env F' M S h') {a : Addr} (e : h'.get? a = none) : h.get? a = none := by
  cases q : h.get? a with
  | none => rfl
  | some o =>
    by_cases h1 : C.ex a
    · obtain ⟨p, hp, _⟩ := R.tab a h1; rw [e] at hp; cases hp
    · by_cases h2 : a = env.e.locals
      · obtain ⟨p, hp⟩ := R.ownAt; rw [h2, hp] at e; cases e
      · rw [g.ext a o h1 h2 q] at e; cases e
theorem Rep.own_out (R : Rep C env F M S h) : ¬ C.ex env.e.locals := fun q => by have := R.mtab _ q; rw [R.frame] at this; cases this
theorem enter (R : Rep C env F M S h) {o : Obj} (ho : h.get? env.e.locals = some o) : Wd (C.add env.e.locals o) F (exM (C.add env.e.locals o)) h := by
  refine ⟨R.sub, fun b p e => ?_, fun b l e => ?_, R.base, fun a ha => ?_, fun a ha => by unfold exM; rw [if_pos ha]⟩
  · unfold exM
    rw [if_neg]
    rintro (q | q)
    · rw [R.toWd.tbF b q] at e; cases e
    · subst q; have := R.dis _ _ e; rw [R.frame] at this; cases this
  · unfold exM at e
    split at e
    · rename_i q
      rcases q with q | q
      · obtain ⟨p, hp, _⟩ := R.tab b q; exact ⟨p, hp⟩
      · subst q; exact ⟨o, ho⟩
    · cases e
  · rcases ha with q | q
    · obtain ⟨p, hp, hx, hN⟩ := R.tab a q
      exact ⟨p, hp, .inl ⟨q, hx⟩, hN⟩
    · subst q
      obtain ⟨m, ⟨o', es, ep, e1, e2, _⟩, _⟩ := R.vars
      rw [ho] at e1; cases e1
      exact ⟨o, ho, .inr ⟨rfl, o.slots, rfl⟩, .no fun vs e => by rw [e2] at e; cases e⟩
theorem ns_slots {L : Addr} {o : Obj} {m : Str → Option Value} (hn : h.Ns L m) (ho : h.get? L = some o) {sl : Array (Option Value)} (ho' : h'.get? L = some { o with slots := sl }) : h'.Ns L m := by
  obtain ⟨o1, es, ep, e1, e2, r⟩ := hn
  rw [ho] at e1; cases e1
  exact ⟨_, es, ep, ho', e2, r⟩
theorem Rep.framedW (R : Rep C env F M S h) {m : Str → Option Value} (hv : ∀ x pv, get S x = some pv → ∃ v, Loc C env M h m x v ∧ VarIs F M h x v pv) (hn' : h'.Ns env.e.locals m) (hM : ∀ b ∈ wr, M b = none) (hc : NoCell h wr) (ext : ∀ a o, ¬ C.ex a → a ≠ env.e.locals → a ∉ wr → h.get? a = some o → h'.get? a = some o)
    (mono : Le F F') (sub : ∀ a o, F' a = some o → h'.get? a = some o) (fnew : ∀ a o, F' a = some o → F a = some o ∨ h.get? a = none) (tab : TabOk C F' h') : Rep C env F' M S h' := by
  have W := R.toWd
  have ne : ∀ a l, M a = some l → l ≠ .tab → ¬ C.ex a := fun a l e hl q => by rw [W.mtab _ q] at e; cases e; exact hl rfl
  have nL : ∀ a l, M a = some l → l ≠ .frame → a ≠ env.e.locals := fun a l e hl q => by rw [q, R.frame] at e; cases e; exact hl rfl
  have nw : ∀ a l, M a = some l → a ∉ wr := fun a l e q => by rw [hM a q] at e; cases e
  have keep : ∀ a l o, M a = some l → l ≠ .tab → l ≠ .frame → h.get? a = some o → h'.get? a = some o := fun a l o e h1 h2 ho => ext a o (ne a l e h1) (nL a l e h2) (nw a l e) ho
  have cellL : ∀ {x : Str} {ov : Option Value}, CellAt C env M h x ov → CellAt C env M h' x ov := fun {x ov} i => by
    obtain ⟨c, e1, e2, o, e3, e4⟩ := i
    refine ⟨c, e1, e2, o, ?_, e4⟩
    rcases e2 with e2 | e2
    · exact keep c _ o e2 (by nofun) (by nofun) e3
    · refine ext c o e2.2 (fun q => by rw [q, R.frame] at e2; cases e2.1) (fun q => ?_) e3
      obtain ⟨o', ho', hno⟩ := hc c q
      rw [e3] at ho'; cases ho'
      exact hno _ e4
  refine ⟨⟨sub, fun a o e => ?_, fun a l e => ?_, fun a o e => mono _ _ (W.base a o e), tab, W.mtab⟩, ⟨m, hn', fun x pv e => ?_⟩, R.frame, fun x kx => ?_, R.ev⟩
  · rcases fnew a o e with e' | e'
    · exact W.dis a o e'
    · exact W.mnone e'
  · by_cases q : C.ex a
    · obtain ⟨p, hp, _⟩ := tab a q; exact ⟨p, hp⟩
    · by_cases q2 : a = env.e.locals
      · obtain ⟨o, _, _, ho, _⟩ := hn'; exact ⟨o, q2 ▸ ho⟩
      · obtain ⟨o, ho⟩ := W.mex a l e; exact ⟨o, ext a o q q2 (nw a l e) ho⟩
  · obtain ⟨v, l, i⟩ := hv x pv e
    refine ⟨v, ?_, ?_⟩
    · rcases l with l | ⟨k, l⟩ | ⟨k, kk, l⟩
      · exact .inl l
      · exact .inr (.inl ⟨k, cellL l⟩)
      · exact .inr (.inr ⟨k, kk, cellL l⟩)
    · cases pv with
      | val d => exact Is.mono mono i
      | own ds => obtain ⟨b, vs, o, f1, f2, f3, f4, f5⟩ := i; exact ⟨b, vs, o, f1, f2, keep b _ o f2 (by nofun) (by nofun) f3, f4, f5.mono mono⟩
      | self b cl fs => obtain ⟨dx, es, n, f1, f2, f3, f4, f5, f6⟩ := i; exact ⟨dx, es, n, f1, f2, f3, keep b _ _ f2 (by nofun) (by nofun) f4, keep dx _ _ f3 (by nofun) (by nofun) f5, f6.mono mono⟩
  · obtain ⟨k1, c, e1, e2, ov, o, e3, e4⟩ := R.cells x kx
    exact ⟨k1, c, e1, e2, ov, o, keep c _ o e2 (by nofun) (by nofun) e3, e4⟩
theorem Rep.framed (R : Rep C env F M S h) {m : Str → Option Value} (hv : ∀ x pv, get S x = some pv → ∃ v, Loc C env M h m x v ∧ VarIs F M h x v pv) (hn' : h'.Ns env.e.locals m) (ext : ∀ a o, ¬ C.ex a → a ≠ env.e.locals → h.get? a = some o → h'.get? a = some o)
    (mono : Le F F') (sub : ∀ a o, F' a = some o → h'.get? a = some o) (fnew : ∀ a o, F' a = some o → F a = some o ∨ h.get? a = none) (tab : TabOk C F' h') : Rep C env F' M S h' ∧ GrowL C env.e.locals F h F' h' :=
  ⟨R.framedW (wr := []) hv hn' (fun _ hb => nomatch hb) (fun _ hb => nomatch hb) (fun a o q1 q2 _ e => ext a o q1 q2 e) mono sub fnew tab, ⟨ext, mono, sub, fnew, tab⟩⟩
theorem leave (R : Rep C env F M S h) {o : Obj} (ho : h.get? env.e.locals = some o) (g : Grow (C.add env.e.locals o) F h F' h') : Rep C env F' M S h' ∧ GrowL C env.e.locals F h F' h' := by
  obtain ⟨m, hn, hv⟩ := R.vars
  have hL : ∃ sl, h'.get? env.e.locals = some { o with slots := sl } := by
    obtain ⟨p, hp, q, _⟩ := g.tab env.e.locals (.inr rfl)
    rcases q with ⟨q, _⟩ | ⟨_, sl, q⟩
    · exact absurd q R.own_out
    · exact ⟨sl, q ▸ hp⟩
  obtain ⟨sl, hL⟩ := hL
  refine R.framed hv (ns_slots hn ho hL) (fun a p hx hl e => g.ext a p (fun q => q.elim hx hl) e) g.mono g.sub g.fnew fun a ha => ?_
  obtain ⟨p, hp, q, hN⟩ := g.tab a (.inl ha)
  rcases q with ⟨_, q⟩ | ⟨q, _⟩
  · exact ⟨p, hp, q, hN⟩
  · subst q; exact absurd ha R.own_out
theorem ts_valX {e : Expr} {d : PV} {b : Bool} (x : EvX C A env S e d) (ht : truth d = some b) (he : ∀ (en : Env) (w : Sem Value), isTrue e en w = (do let v ← w; standAt e.pos; holding [v] (truthy v))) : TsX C A env S e b := .mk fun s F M R Q E kk =>
  wpAny_isTrue_value (x.run s F M R _ _ fun v h' tk F' sp R' i => truth_sound (C := C) (s := { s with heap := h', toks := tk }) ht i (kk _ _ _ sp R')) (he _ _)
theorem ev_cmpX (AO : AOk A k) {op : CmpOp} {l r : Expr} {a b : PV} {c : Bool} {p : Pos} (x : EvX C A env S l a) (y : EvS C A env S r b) (e : Cm op a b c) (hm : behindInMarks op r = false) : EvX C A env S (.Compare l [op] [r] p) (.bool c) := .mk fun s F M R Q E kk =>
  wpAny_Compare1 (x.run s F M R _ _ fun va h' tk F' sp R' i => y.run { s with heap := h', toks := tk } F' M R' _ _ fun vb h2 tk2 F2 g j => e.run (s := { s with heap := h2, toks := tk2 }) (R'.toWd.grow g) AO (i.mono g.mono) j (kk _ h2 tk2 F2 (sp.trans' R' (.of g)) (R'.grow g) (.bool c))) hm
theorem ts_cmpX (AO : AOk A k) {op : CmpOp} {l r : Expr} {a b : PV} {c : Bool} {p : Pos} (x : EvX C A env S l a) (y : EvS C A env S r b) (e : Cm op a b c) (hm : behindInMarks op r = false) : TsX C A env S (.Compare l [op] [r] p) c := .mk fun s F M R Q E kk =>
  wpAny_isTrue_Compare1 (x.run s F M R _ _ fun va h' tk F' sp R' i => y.run { s with heap := h', toks := tk } F' M R' _ _ fun vb h2 tk2 F2 g j => e.run (s := { s with heap := h2, toks := tk2 }) (R'.toWd.grow g) AO (i.mono g.mono) j (wpAny_truthy_bool (kk h2 tk2 F2 (sp.trans' R' (.of g)) (R'.grow g)))) hm
theorem ts_and_tX {e : Expr} {es : List Expr} {p : Pos} {b : Bool} (x : TsX C A env S e true) (y : TsX C A env S (.BoolOp .And es p) b) : TsX C A env S (.BoolOp .And (e :: es) p) b := .mk fun s F M R Q E kk =>
  wpAny_isTrue_BoolOp (wpAny_allTrue_And_cons (x.run s F M R _ _ fun h' tk F' sp R' => by
    have z := y.run { s with heap := h', toks := tk } F' M R' Q E fun h2 tk2 F2 sp2 R2 => kk _ _ _ (sp.trans' R' sp2) R2
    rw [arm_isTrue_BoolOp] at z
    exact z))
theorem ex_ifX {t : Expr} {b : Bool} {body orelse : List Stmt} (x : TsX C A env S t b) (y : ExA C A env S (if b then body else orelse) S' fl) : ExS C A env S (.If t body orelse pos) S' fl := .mk fun s F M R Q E a =>
  wpAny_If (x.run s F M R _ _ fun h' tk F' sp R' => by
    have z := y.run { s with heap := h', toks := tk } F' M R' Q E (a.step (sp.stp R))
    cases b <;> exact z)
theorem ex_retX {e : Expr} {d : PV} (x : EvX C A env S e d) : ExS C A env S (.Return (some e) pos) S (.ret d) := .mk fun s F M R Q E a =>
  wpAny_Return_some (x.run s F M R _ _ fun v h' tk F' sp R' i => a (.ret v) h' tk F' M (sp.stp R) R' i)
theorem ex_setX {x : Str} {px : Pos} {e : Expr} {d : PV} (hk : Sto env x) (hs : swapsWith e (some (.Name x px)) pos.line env.e = pure false) (y : EvX C A env S e d) : ExS C A env S (.Assign [.Name x px] e pos) (put S x (.val d)) .next := .mk fun s F M R Q E a =>
  wpAny_Assign_Name (y.run s F M R _ _ fun v h' tk F' sp R' i => st_var (s := { s with heap := h', toks := tk }) R' hk (pv := .val d) i fun h2 tk2 R2 sp2 => a .next h2 tk2 F' M ((sp.stp R).trans sp2) R2 trivial) hs
theorem it_listX {iter tgt : Expr} {ds : List PV} (hh : A.handled = none) (x : EvX C A env S iter (.list ds)) : ItX C A env S tgt iter ds := .mk fun s F M R Q E kk => by
  refine x.run s F M R _ _ fun v h' tk F' sp R' i => ?_
  obtain ⟨l, vs, o, rfl, e1, lo, i1⟩ := isList i
  have W' := R'.toWd
  have hl := isListO (W'.sub _ _ e1) lo
  refine wpAny_pyIter_list (s := { s with heap := h', toks := tk }) hl ?_
  have g2 := pushI W' { cls := .type "list_iterator", data := .fields #[.ref l, .int 0 0] }
  have hF : F' h'.objs.size = none := W'.none_of_new (size_none h')
  have hne : l ≠ h'.objs.size := fun q => by rw [q, hF] at e1; cases e1
  have hn0 : s.heap.get? h'.objs.size = none := sp.back R' (size_none h')
  refine kk h'.objs.size [h'.objs.size] (fun i h => h.IsListIter h'.objs.size l i ∧ h.IsList l vs.toArray) _ tk F' (sp.trans' R' (.of g2)) (R'.grow g2) (by simpa using hn0) (by simpa using hF) (fun ex exo => Itr.of (P := fun i v => vs.toArray[i]? = some v) (by have := Walks.list (prog := C.prog) (w := C.w) hh h'.objs.size l hne vs.toArray; simpa [i1.length] using this) ?_ ?_ ?_) ⟨⟨_, Heap.get?_push_size h' rfl, rfl, rfl⟩, hl.at fun o e => Heap.get?_push_of_some _ e⟩
  · intro b hb
    simp only [List.mem_cons, List.mem_nil_iff, or_false] at hb
    rcases hb with rfl | rfl
    · exact .inl rfl
    · exact .inr (by rw [e1]; simp)
  · rintro i h ⟨⟨o, ho, hc, hd⟩, _⟩
    exact ⟨o, _, _, ho, hc, hd, by decide⟩
  · intro i v hv d hd
    obtain ⟨v', e1, e2⟩ := i1.get hd
    simp only [List.getElem?_toArray] at hv
    rw [hv] at e1; cases e1
    exact e2
end
end
section
noncomputable def FrameEx (C : Cx) (L : Addr) : Prop := C.ex L ∧ (∀ o, C.exo L o → ∀ vs, o.data ≠ .fields vs) ∧ ∀ o sl, C.exo L o → C.exo L { o with slots := sl }
noncomputable def FrOk (C : Cx) (ch : List Env) : Prop := ∀ e ∈ ch, e.scope.kind ≠ .module ∧ ∃ L, e.frame = some L ∧ FrameEx C L
noncomputable def ChainOk (C : Cx) (A : Around) : Prop := ∃ ch, A.frames = some ch ∧ FrOk C ch
noncomputable def ChainB (C : Cx) (A : Around) (L : Addr) : Prop := ∃ e₀ ch, A.frames = some (e₀ :: ch) ∧ e₀.scope.kind ≠ .module ∧ e₀.frame = some L ∧ FrOk C ch
noncomputable def FnOkX (C : Cx) (f : Addr) (k : Nat) (args : List PV) (d : PV) : Prop :=
  ∀ (A : Around) (s : Shared) (F : Fz) (M : Mz) (vs : List Value), Wd C F M s.heap → AOk A k → ChainOk C A → IsAll F vs args → Pv C A F s (call (.ref f) vs) d
section
variable {C : Cx} {env : En} {F F' F'' : Fz} {M M' M'' : Mz} {h h' h'' : Heap} {S S' S'' S₁ : PS} {A : Around} {s : Shared} {E : Value → Shared → Prop} {k : Nat} {st : Stmt} {rest : List Stmt} {fl : PFl} {pos : Pos} {wr : List Addr}
  {f : Addr} {fd : FuncData} {body : List Stmt} {ns ow : List Str}
theorem ChainB.add {L : Addr} {o : Obj} (c : ChainB C A L) (hn : ¬ C.ex L) (ho : ∀ vs, o.data ≠ .fields vs) : ChainOk (C.add L o) A := by
  obtain ⟨e₀, ch, h1, h2, h3, h4⟩ := c
  refine ⟨_, h1, fun e he => ?_⟩
  rcases List.mem_cons.mp he with rfl | he
  · refine ⟨h2, L, h3, .inr rfl, fun p hp => ?_, fun p sl hp => ?_⟩
    · rcases hp with ⟨q, _⟩ | ⟨_, sl, rfl⟩
      · exact absurd q hn
      · exact ho
    · rcases hp with ⟨q, _⟩ | ⟨_, sl', rfl⟩
      · exact absurd q hn
      · exact .inr ⟨rfl, sl, rfl⟩
  · obtain ⟨k1, L', k2, k3, k4, k5⟩ := h4 e he
    have hne : L' ≠ L := fun q => hn (q ▸ k3)
    refine ⟨k1, L', k2, .inl k3, fun p hp => ?_, fun p sl hp => ?_⟩
    · rcases hp with ⟨_, q⟩ | ⟨q, _⟩
      · exact k4 p q
      · exact absurd q hne
    · rcases hp with ⟨_, q⟩ | ⟨q, _⟩
      · exact .inl ⟨k3, k5 p sl q⟩
      · exact absurd q hne
theorem ns_plain {L : Addr} {m : Str → Option Value} {o : Obj} (hn : h.Ns L m) (ho : h.get? L = some o) : ∀ vs, o.data ≠ .fields vs := by
  obtain ⟨o1, es, ep, e1, e2, _⟩ := hn
  rw [ho] at e1; cases e1
  intro vs q; rw [e2] at q; cases q
theorem ev_callX (O : C.Ok) (AO : AOk A k) (ch : ChainB C A env.e.locals) {x : Str} {f : Addr} {es : List Expr} {ds : List PV} {d : PV} {p pos : Pos} (e : C.glob x = some (.ref f)) (hk : env.e.kindOf x = some .globalImplicit) (hd : (x == ("__debug__" : Str)) = false)
    (hkeep : keepIn C.K (.ref f) = true) (xs : EvAll C A env S es ds) (ok : ∀ o, FnOkX (C.add env.e.locals o) f k ds d) : EvX C A env S (.Call (.Name x p) es [] pos) d := .mk fun s F M R Q E kk => by
  refine Call_Name rfl ((ev_glob O (pos := p) e hk hd).run s F M R _ _ fun v h' tk F' g i => ?_)
  obtain rfl := isRaw i
  have R' := R.grow g
  refine callWith_of (P := fun h => C.K.In h) (by rw [xs.plain]; rfl) (keeps_K hkeep) (xs.args (s := { s with heap := h', toks := tk }) R' fun vs h2 tk2 F2 g2 i2 => ?_)
  have R2 := R'.grow g2
  obtain ⟨o, ho⟩ := R2.ownAt
  have hn : ∀ vs, o.data ≠ .fields vs := by obtain ⟨m, hn, _⟩ := R2.vars; exact ns_plain hn ho
  refine ⟨R2.toWd.kin O, ok o A { s with heap := h2, toks := tk2 } F2 _ vs (enter R2 ho) AO (ch.add R2.own_out hn) i2 Q E fun v h3 tk3 F3 g3 i3 => ?_⟩
  obtain ⟨R3, sp⟩ := leave R2 ho g3
  exact kk v h3 tk3 F3 ((GrowL.of (g.trans g2)).trans' R2 sp) R3 i3
theorem ev_callA (O : C.Ok) (AO : AOk A k) (ch : ChainOk C A) {x : Str} {f : Addr} {es : List Expr} {ds : List PV} {d : PV} {p pos : Pos} (e : C.glob x = some (.ref f)) (hk : env.e.kindOf x = some .globalImplicit) (hd : (x == ("__debug__" : Str)) = false)
    (hkeep : keepIn C.K (.ref f) = true) (xs : EvAll C A env S es ds) (ok : FnOkX C f k ds d) : EvS C A env S (.Call (.Name x p) es [] pos) d := .mk fun s F M R Q E kk => by
  refine Call_Name rfl ((ev_glob O (pos := p) e hk hd).run s F M R _ _ fun v h' tk F' g i => ?_)
  obtain rfl := isRaw i
  have R' := R.grow g
  refine callWith_of (P := fun h => C.K.In h) (by rw [xs.plain]; rfl) (keeps_K hkeep) (xs.args (s := { s with heap := h', toks := tk }) R' fun vs h2 tk2 F2 g2 i2 => ?_)
  have W2 := R'.toWd.grow g2
  exact ⟨W2.kin O, ok A { s with heap := h2, toks := tk2 } F2 M vs W2 AO ch i2 Q E fun v h3 tk3 F3 g3 i3 => kk v h3 tk3 F3 ((g.trans g2).trans g3) i3⟩
theorem fn_okX (O : C.Ok) (FI : FnIn C f fd body ns ow) {ds : List PV} {d : PV} (hlen : ds.length = ns.length) (hfl : outOf fl = some d)
    (B : ∀ A L, AOk A k → ChainB C A L → (∃ ch, A.frames = some ((calleeEn fd ow L f).e :: ch)) → ExA C A (calleeEn fd ow L f) (zipP ns (ds.map .val)) body S' fl) : FnOkX C f (k + 1) ds d := fun A s F M vs W AO hch i Q E kk => by
  refine wpAny_call (call_in O FI AO W i.pars (by rw [i.length]; exact hlen) fun h₁ tk L M₁ AO' R g md => ?_)
  obtain ⟨ch, h1, h2⟩ := hch
  have hf : (A.deeper (callEnvC fd L f)).frames = some (callEnvC fd L f :: ch) := by show A.frames.map _ = _; rw [h1]; rfl
  have hB : ChainB C (A.deeper (callEnvC fd L f)) L := ⟨callEnvC fd L f, ch, hf, by show fd.scope.kind ≠ _; rw [FI.kind]; decide, rfl, h2⟩
  refine (B _ L AO' hB ⟨ch, hf⟩).run { s with heap := h₁, toks := tk } F M₁ R _ _ fun fv h' tk' F' M' sp R' j => ?_
  obtain ⟨g', _⟩ := g.inner sp md R'.toWd
  cases fv with
  | ret v =>
    cases fl with
    | ret d' => cases hfl; exact kk v h' tk' F' g' j
    | _ => exact j.elim
  | next =>
    cases fl with
    | next => cases hfl; exact kk .none h' tk' F' g' .none
    | _ => exact j.elim
  | brk => cases fl <;> first | exact j.elim | cases hfl
  | cont => cases fl <;> first | exact j.elim | cases hfl
theorem FnOkX.le {ds : List PV} {d : PV} {j : Nat} (x : FnOkX C f j ds d) (h : j ≤ k) : FnOkX C f k ds d := fun A s F M vs W AO ch i => x A s F M vs W (AO.le h) ch i
theorem FnOk.x {ds : List PV} {d : PV} (x : FnOk C f k ds d) : FnOkX C f k ds d := fun A s F M vs W AO _ i => x A s F M vs W AO i
theorem Rep.toAdd {cenv : En} (R : Rep C cenv F M S h) {L : Addr} {o : Obj} (ho : h.get? L = some o) (hd : ∃ es n, o.data = .dict es n) (hF : F L = none) (hM : M L = none) (hne : ¬ C.ex L) : Rep (C.add L o) cenv F (mset M L (some .tab)) S h := by
  have up : ∀ b l, M b = some l → mset M L (some .tab) b = some l := fun b l e => by rw [mset_ne _ _ (fun q => by rw [q, hM] at e; cases e)]; exact e
  have key : ∀ {y : Str} {ov : Option Value}, CellAt C cenv M h y ov → CellAt (C.add L o) cenv (mset M L (some .tab)) h y ov := fun {y ov} i => by
    obtain ⟨c, f1, f2, o', f3, f4⟩ := i
    refine ⟨c, f1, ?_, o', f3, f4⟩
    have hc : c ≠ L := fun q => by rw [q, ho] at f3; cases f3; obtain ⟨es, n, hd⟩ := hd; rw [hd] at f4; cases f4
    rcases f2 with f2 | f2
    · exact .inl (up _ _ f2)
    · exact .inr ⟨by rw [mset_ne _ _ hc]; exact f2.1, fun q => q.elim f2.2 hc⟩
  obtain ⟨m, hn, hv⟩ := R.vars
  refine ⟨⟨R.sub, fun b p e => ?_, fun b l e => ?_, R.base, fun a ha => ?_, fun a ha => ?_⟩, ⟨m, hn, fun y pv q => ?_⟩, up _ _ R.frame, fun y ky => ?_, R.ev⟩
  · rw [mset_ne _ _ (fun q => by rw [q, hF] at e; cases e)]; exact R.dis b p e
  · unfold mset at e; split at e
    · rename_i hb; subst hb; exact ⟨o, ho⟩
    · exact R.mex b l e
  · rcases ha with q | q
    · obtain ⟨p, hp, hx, hN⟩ := R.tab a q; exact ⟨p, hp, .inl ⟨q, hx⟩, hN⟩
    · subst q; exact ⟨o, ho, .inr ⟨rfl, o.slots, rfl⟩, .no fun vs e => by obtain ⟨es, n, hd⟩ := hd; rw [hd] at e; cases e⟩
  · rcases ha with q | q
    · exact up _ _ (R.mtab a q)
    · subst q; exact mset_self _ _ _
  · obtain ⟨u, l, i⟩ := hv y pv q
    refine ⟨u, ?_, ?_⟩
    · rcases l with l | ⟨k, l⟩ | ⟨k, kk, l⟩
      · exact .inl l
      · exact .inr (.inl ⟨k, key l⟩)
      · exact .inr (.inr ⟨k, kk, key l⟩)
    · cases pv with
      | val d => exact i
      | own ds' => obtain ⟨b, vs', n', f1, f2, f3, l3, f4⟩ := i; exact ⟨b, vs', n', f1, up _ _ f2, f3, l3, f4⟩
      | self b cl fs => obtain ⟨dx, es, n', f1, f2, f3, f4, f5, f6⟩ := i; exact ⟨dx, es, n', f1, up _ _ f2, up _ _ f3, f4, f5, f6⟩
  · obtain ⟨k1, c, f1, f2, f3⟩ := R.cells y ky
    exact ⟨k1, c, f1, up _ _ f2, f3⟩
theorem evx_comp {tgt iter elt : Expr} {co : Option Expr} {scope : Scope} {own : Option Str} {cl : List (Str × Addr)} {ds out : List PV} (fit : CompFit env S S₁ scope own cl) (x : ItX C A env S tgt iter ds)
    (H : ∀ a o, (∀ vs, o.data ≠ .fields vs) → ¬ C.ex env.e.locals → CmpS (C.add env.e.locals o) A (compEn scope own cl a env) tgt co elt ds S₁ out) (hz : lenOk ds.length = true) (hs : ∀ x, foldedSetIterable iter env.e x = pure x) : EvX C A env S (.ListComp elt [⟨tgt, iter, co.toList, 0⟩] scope pos) (.list out) := .mk fun s F M R Q E kk => by
  rw [eval_ListComp]
  refine wpAny_comprehension_free (use := none) rfl hs fit.clos fit.kind fit.names ?_
  refine x.run s F M R _ _ fun I wr St h1 tk1 F1 g1 R1 hw hF T st => ?_
  refine wpAny_newObj_type (s := { s with heap := h1, toks := tk1 }) ?_
  let oD : Obj := { cls := .type "list", dict := none, data := .seq ([] : List Value).toArray }
  have g2 : Grow C F1 h1 F1 (h1.push oD) := pushI R1.toWd oD
  have R2 := R1.grow g2
  have hD1 : h1.get? h1.objs.size = none := size_none h1
  have hDo : (h1.push oD).get? h1.objs.size = some oD := Heap.get?_push_size h1 rfl
  obtain ⟨R3, g3, md⟩ := comp_rep fit R2
  refine newEnv_comp (s := { s with heap := h1.push oD, toks := tk1 }) fit.cells fun ev he hl => ?_
  rw [he, hl]
  obtain ⟨oL, hoL⟩ := R.ownAt
  obtain ⟨oL1, hoL1⟩ := R1.ownAt
  have hLd : ∃ es n, oL1.data = .dict es n := by obtain ⟨m, ⟨o, es, n, e1, e2, _⟩, _⟩ := R1.vars; rw [hoL1] at e1; cases e1; exact ⟨es, n, e2⟩
  have hLx := R.own_out
  have hFL : F1 env.e.locals = none := by
    cases q : F1 env.e.locals with
    | none => rfl
    | some p => have := R1.dis _ _ q; rw [R1.frame] at this; cases this
  have nt : ∀ b, s.heap.get? b = none → ¬ C.ex b := fun b e q => by
    obtain ⟨ps, hp, _⟩ := R.tab b q
    rw [hp] at e; cases e
  have nL : ∀ b, s.heap.get? b = none → b ≠ env.e.locals := fun b e q => by rw [q, hoL] at e; cases e
  have hDn : s.heap.get? h1.objs.size = none := g1.back R1 hD1
  have hne : (h1.push oD).objs.size ≠ h1.objs.size := by
    have : (h1.push oD).objs.size = h1.objs.size + 1 := Heap.size_push ..
    rw [this]; exact Nat.succ_ne_self _
  have g12 : GrowL C env.e.locals F s.heap F1 (h1.push oD) := g1.trans' R1 (.of g2)
  have han : s.heap.get? (h1.push oD).objs.size = none := g12.back R2 (size_none _)
  have hDw : h1.objs.size ∉ wr := fun q => by
    obtain ⟨o, ho, _⟩ := (T C.ex C.exo).live _ _ st _ q
    rw [hD1] at ho; cases ho
  have hwn : ∀ b ∈ h1.objs.size :: wr, s.heap.get? b = none := fun b hb => by
    rcases List.mem_cons.mp hb with rfl | hb
    · exact hDn
    · exact hw b hb
  let h3 : Heap := ownHeap own ((h1.push oD).push dictNew)
  have hkeep : ∀ b o, ¬ C.ex b → h1.get? b = some o → h3.get? b = some o := fun b o hb e => g3.ext b o hb (g2.ext b o hb e)
  have hDo3 : h3.get? h1.objs.size = some oD := g3.ext _ _ (nt _ hDn) hDo
  have hL3 : h3.get? env.e.locals = some oL1 := hkeep _ _ hLx hoL1
  have st3 : St 0 h3 := (T C.ex C.exo).frame _ _ _ st fun b o hb e => hkeep b o (by
    rcases hb with hb | hb
    · exact nt b (hw b hb)
    · intro q; rw [R1.toWd.tbF _ q] at hb; exact hb rfl) e
  have hM3L : compM C own (h1.push oD).objs.size env.e.locals = none := by
    cases q : compM C own (h1.push oD).objs.size env.e.locals with
    | none => rfl
    | some l =>
      rcases md _ l q with r | r
      · exact absurd r hLx
      · obtain ⟨p, hp⟩ := R2.ownAt; rw [hp] at r; cases r
  have R4 := R3.toAdd hL3 hLd hFL hM3L hLx
  have hMn : ∀ b ∈ h1.objs.size :: wr, mset (compM C own (h1.push oD).objs.size) env.e.locals (some .tab) b = none := fun b hb => by
    rw [mset_ne _ _ (nL b (hwn b hb))]
    cases q : compM C own (h1.push oD).objs.size b with
    | none => rfl
    | some l =>
      rcases md b l q with r | r
      · exact absurd r (nt b (hwn b hb))
      · rcases List.mem_cons.mp hb with rfl | hb
        · rw [hDo] at r; cases r
        · obtain ⟨o, ho, _⟩ := (T C.ex C.exo).live _ _ st b hb
          rw [g2.ext _ _ (nt b (hw b hb)) ho] at r; cases r
  have hFn : ∀ b ∈ h1.objs.size :: wr, F1 b = none := fun b hb => by
    rcases List.mem_cons.mp hb with rfl | hb
    · exact R1.toWd.none_of_new hD1
    · exact hF b hb
  have g123 := g12.trans' R2 (.of g3)
  have hlive : NoCell h1 wr := (T C.ex C.exo).live _ _ st
  let hx : Heap := hideAll h1 wr
  have gB : Grow (C.add env.e.locals oL1) F1 hx F1 h3 :=
    ⟨fun a o hx e => g3.ext a o (fun q => hx (.inl q)) (g2.ext a o (fun q => hx (.inl q)) (of_hideAll _ e)), Le.refl _, R3.sub, fun a o e => .inl e, R4.tab⟩
  have md' : MD (C.add env.e.locals oL1) hx (mset (compM C own (h1.push oD).objs.size) env.e.locals (some .tab)) := fun b l e => by
    unfold mset at e
    split at e
    · rename_i hb; exact .inl (.inr hb)
    · refine (md b l e).imp .inl fun r => ?_
      have r1 : h1.get? b = none := g2.nobody' R1.tab r
      cases q : hx.get? b with
      | none => rfl
      | some o => rw [of_hideAll _ q] at r1; cases r1
  have hwx : ∀ b ∈ h1.objs.size :: wr, hx.get? b = none := fun b hb => by
    rcases List.mem_cons.mp hb with rfl | hb
    · cases q : hx.get? h1.objs.size with
      | none => rfl
      | some o => rw [of_hideAll _ q] at hD1; cases hD1
    · exact hideAll_none _ hb
  have loop : codeAny (model C.prog C.w) A (.compLoop (.ListComp elt [⟨tgt, iter, co.toList, 0⟩] scope pos) 0 (.ref I) (.ref h1.objs.size) (compEn scope own cl (h1.push oD).objs.size env).e) (compPost (model C.prog C.w) A E none Q (.ref h1.objs.size) (h1.push oD).objs.size) { s with heap := h3, toks := tk1 } := by
    refine comp_loop (C := C.add env.e.locals oL1) (s := { s with heap := h3, toks := tk1 }) (T _ _) (H _ _ (fun vs q => by obtain ⟨es, n, hd⟩ := hLd; rw [hd] at q; cases q) hLx) R4 (Le.refl _) gB md' hwx hFn hMn hDw hDo3 ⟨rfl, ⟨0, rfl⟩, rfl, rfl⟩ st3 (lenOk_le hz) fun h4 tk4 F4 M4 S4 o vs g4 R5 hfr hFD ho lo iv => ?_
    have hFa : F4 (h1.push oD).objs.size = none := by
      cases q : F4 (h1.push oD).objs.size with
      | none => rfl
      | some p => have := R5.dis _ _ q; rw [show M4 (h1.push oD).objs.size = some .frame from hfr] at this; cases this
    obtain ⟨m, hn, _⟩ := R5.vars
    refine ⟨m, hn, fun h5 hs5 => ?_⟩
    have ha1 : h1.get? (h1.push oD).objs.size = none := by
      cases q : h1.get? (h1.push oD).objs.size with
      | none => rfl
      | some p => exact absurd (Heap.lt_size (g2.ext _ _ (nt _ han) q)) (Nat.lt_irrefl _)
    have hax : ¬ (C.add env.e.locals oL1).ex (h1.push oD).objs.size := fun q => q.elim (nt _ han) (nL _ han)
    have up5 : ∀ b p, ¬ (C.add env.e.locals oL1).ex b → b ∉ wr → h1.get? b = some p → h5.get? b = some p := fun b p hb hw e => (hs5.2 b (fun q => by rw [q, ha1] at e; cases e)).trans (g4.ext b p hb (hideAll_get _ e hw))
    have sub5 : ∀ b p, F4 b = some p → h5.get? b = some p := fun b p e => (hs5.2 b (fun q => by rw [q, hFa] at e; cases e)).trans (g4.sub b p e)
    have tab5 : TabOk (C.add env.e.locals oL1) F4 h5 := fun b hb => by
      obtain ⟨ps, hp, ht⟩ := g4.tab b hb
      exact ⟨ps, (hs5.2 _ (fun q => hax (q ▸ hb))).trans hp, ht⟩
    have tabC : TabOk C F4 h5 := fun a ha => by
      obtain ⟨p, hp, q, hN⟩ := tab5 a (.inl ha)
      rcases q with ⟨_, q⟩ | ⟨q, _⟩
      · exact ⟨p, hp, q, hN⟩
      · subst q; exact absurd ha hLx
    have ho5 : h5.get? h1.objs.size = some o := (hs5.2 _ (Ne.symm hne)).trans ho
    have hL5 : ∃ sl, h5.get? env.e.locals = some { oL1 with slots := sl } := by
      obtain ⟨p, hp, q, _⟩ := tab5 env.e.locals (.inr rfl)
      rcases q with ⟨q, _⟩ | ⟨_, sl, q⟩
      · exact absurd q hLx
      · exact ⟨sl, q ▸ hp⟩
    obtain ⟨sl, hL5⟩ := hL5
    obtain ⟨m2, hn2, hv2⟩ := R1.vars
    have fn5 : ∀ a p, F4 a = some p → F1 a = some p ∨ h1.get? a = none ∨ a ∈ wr := fun a p e => by
      rcases g4.fnew a p e with q | q
      · exact .inl q
      · cases r : h1.get? a with
        | none => exact .inr (.inl rfl)
        | some p' =>
          by_cases hw : a ∈ wr
          · exact .inr (.inr hw)
          · rw [show hx.get? a = some p' from hideAll_get _ r hw] at q; cases q
    have nwr : ∀ a p, F4 a = some p → a ∉ wr := fun a p e q => by
      rw [hFD a (List.mem_cons_of_mem _ q)] at e; cases e
    let F5 : Fz := fset F4 h1.objs.size o
    have hle : Le F4 F5 := fun b p e => by
      show (if b = h1.objs.size then some o else F4 b) = some p
      by_cases hb : b = h1.objs.size
      · rw [if_pos hb]; have := sub5 b p e; rw [hb, ho5] at this; exact this
      · rw [if_neg hb]; exact e
    have sub6 : ∀ b p, F5 b = some p → h5.get? b = some p := fun b p e => by
      have e : (if b = h1.objs.size then some o else F4 b) = some p := e
      split at e
      · rename_i hb; cases e; rw [hb]; exact ho5
      · exact sub5 b p e
    have fn6 : ∀ a p, F5 a = some p → F1 a = some p ∨ h1.get? a = none := fun a p e => by
      have e : (if a = h1.objs.size then some o else F4 a) = some p := e
      split at e
      · rename_i hb; exact .inr (by rw [hb]; exact hD1)
      · rcases fn5 a p e with q | q | q
        · exact .inl q
        · exact .inr q
        · exact absurd q (nwr a p e)
    have R6 : Rep C env F5 M S h5 := R1.framedW (wr := wr) hv2 (ns_slots hn2 hoL1 hL5) (fun b hb => R.toWd.mnone (hw b hb)) hlive (fun a p q1 q2 q3 e => up5 a p (fun q => q.elim q1 q2) q3 e) (g4.mono.trans hle) sub6 fn6 (tabC.mono hle)
    refine kk _ h5 tk4 F5 ⟨fun a p q1 q2 e => up5 a p (fun q => q.elim q1 q2) (fun q => by rw [hw a q] at e; cases e) (g1.ext a p q1 q2 e), g1.mono.trans (g4.mono.trans hle), sub6, fun a p e => ?_, tabC.mono hle⟩ R6 (Is.list (fset_self _ _ _) lo (iv.mono hle))
    rcases fn6 a p e with q | q
    · exact g1.fnew a p q
    · exact .inr (g1.back R1 q)
  exact codeAny_compStart_list loop ((T C.ex C.exo).self 0 _ _ _ st3 loop)
end
end
section
noncomputable abbrev exB : List Value := [.type "Exception", .type "BaseException", .type "object"]
noncomputable def ExcCls (C : Cx) (c : Addr) : Prop := ∃ bm N nm q bs hdct sn sub ab col dd k0 k1 k2 k3 k5 mN, C.hb.get? c = some (excClassObj nm q c N bs bm hdct sn sub ab col dd k0 k1 k2 k3 k5 "Exception.__new__") ∧ C.hb.Ns N mN ∧ mN "__init__" = none ∧ OwnTail C.hb exB bm
structure RaS (C : Cx) (A : Around) (env : En) (S : PS) (st : Stmt) (cls : Value) (eargs : List PV) : Prop where
  run : ∀ (s : Shared) (F : Fz) (M : Mz), Rep C env F M S s.heap → ∀ (Q : Flow → Shared → Prop) (E : Value → Shared → Prop), (∀ e h₂ h' tk F' M' S' vs, Stp F M s.heap F' M' h₂ → Rep C env F' M' S' h₂ → Heap.MadeExcOf h₂ h' e cls vs → IsAll F' vs eargs → E (.ref e) { s with heap := h', toks := tk }) → wpAny (model C.prog C.w) A (exec st env.e) Q E s
structure RaA (C : Cx) (A : Around) (env : En) (S : PS) (st : List Stmt) (cls : Value) (eargs : List PV) : Prop where
  run : ∀ (s : Shared) (F : Fz) (M : Mz), Rep C env F M S s.heap → ∀ (Q : Flow → Shared → Prop) (E : Value → Shared → Prop), (∀ e h₂ h' tk F' M' S' vs, Stp F M s.heap F' M' h₂ → Rep C env F' M' S' h₂ → Heap.MadeExcOf h₂ h' e cls vs → IsAll F' vs eargs → E (.ref e) { s with heap := h', toks := tk }) → wpAny (model C.prog C.w) A (execs st env.e) Q E s
noncomputable def Flew (C : Cx) (ch : List Env) (F : Fz) (s : Shared) (F' : Fz) (e : Addr) (cls : Value) (eargs : List PV) (h' : Heap) : Prop :=
  ∃ h₂ B t vs, Grow C F s.heap F' h₂ ∧ (∀ a o, h₂.get? a = some o → (∀ env ∈ ch, env.frame ≠ some a) → (s.heap.get? a ≠ none ∨ F' a ≠ none) → B.get? a = some o) ∧ Heap.FlyingW B ch e cls (.ref t) h' ∧ h₂.UpToSlots h' ∧ h'.TupAt t vs ∧ IsAll F' vs eargs ∧ (∀ env ∈ ch, ∀ a, env.frame = some a → B.get? a = none) ∧ h₂.get? e = none ∧ h₂.get? t = none
noncomputable def FnRaise (C : Cx) (f : Addr) (k : Nat) (args : List PV) (cls : Value) (eargs : List PV) : Prop :=
  ∀ (A : Around) (s : Shared) (F : Fz) (M : Mz) (vs : List Value) (ch : List Env), Wd C F M s.heap → AOk A k → A.frames = some ch → FrOk C ch → IsAll F vs args → ∀ (Q : Value → Shared → Prop) (E : Value → Shared → Prop), (∀ e h' tk F', Flew C ch F s F' e cls eargs h' → E (.ref e) { s with heap := h', toks := tk }) → wpAny (model C.prog C.w) A (call (.ref f) vs) Q E s
section
variable {C : Cx} {env : En} {F F' F'' : Fz} {M M' M'' : Mz} {h h' h'' : Heap} {S S' S'' S₁ : PS} {A : Around} {s : Shared} {E : Value → Shared → Prop} {k : Nat} {st : Stmt} {rest : List Stmt} {fl : PFl} {pos : Pos} {wr : List Addr}
  {f : Addr} {fd : FuncData} {body : List Stmt} {ns ow : List Str} {cls : Value} {eargs : List PV}
theorem ra_cons (x : ExS C A env S st S' .next) (y : RaA C A env S' rest cls eargs) : RaA C A env S (st :: rest) cls eargs := .mk fun s F M R Q E a =>
  wpAny_execs_cons (x.run s F M R _ _ fun fv h' tk F' M' sp R' i => by
    cases fv with
    | next => exact y.run { s with heap := h', toks := tk } F' M' R' Q E fun e h₂ h3 tk3 F3 M3 S3 vs sp3 R3 m i3 => a e h₂ h3 tk3 F3 M3 S3 vs (sp.trans sp3) R3 m i3
    | _ => exact i.elim)
theorem ra_here (x : RaS C A env S st cls eargs) : RaA C A env S (st :: rest) cls eargs := .mk fun s F M R Q E a => wpAny_execs_cons (x.run s F M R _ E a)
theorem ra_if {t : Expr} {b : Bool} {body orelse : List Stmt} (x : TsS C A env S t b) (y : RaA C A env S (if b then body else orelse) cls eargs) : RaS C A env S (.If t body orelse pos) cls eargs := .mk fun s F M R Q E a =>
  wpAny_If (x.run s F M R _ _ fun h' tk F' g => by
    have z := y.run { s with heap := h', toks := tk } F' M (R.grow g) Q E fun e h₂ h3 tk3 F3 M3 S3 vs sp3 R3 m i3 => a e h₂ h3 tk3 F3 M3 S3 vs ((g.stp R.toWd).trans sp3) R3 m i3
    cases b <;> exact z)
theorem ra_raise (O : C.Ok) (AO : AOk A k) {x : Str} {c : Addr} (X : ExcCls C c) {es : List Expr} {np cpos : Pos} (e : C.glob x = some (.ref c)) (hk : env.e.kindOf x = some .globalImplicit) (hd : (x == ("__debug__" : Str)) = false) (xs : EvAll C A env S es eargs) (hz : eargs.length ≤ 100) :
    RaS C A env S (.Raise (some (.Call (.Name x np) es [] cpos)) none pos) (.ref c) eargs := .mk fun s F M R Q E a => by
  obtain ⟨bm, N, nm, q, bs, hdct, sn, sub, ab, col, dd, k0, k1, k2, k3, k5, mN, hC, hN, hni, T⟩ := X
  refine wpAny_Raise_call_subU (C := c) (nm := nm) (q := q) (N := N) (bs := bs) (bm := bm) (hdct := hdct) (sn := sn) (sub := sub) (ab := ab) (col := col) (dd := dd) (k0 := k0) (k1 := k1) (k2 := k2) (k3 := k3) (k5 := k5)
    PySem.F.excBase_Exception (by decide) PySem.F.excBase_Exception (mN := mN) (T.hasType (b := true) rfl) AO.hh xs.plain hni ?_
  refine (ev_glob O (pos := np) e hk hd).run s F M R _ _ fun v h' tk F' g i => ?_
  obtain rfl := isRaw i
  have R' := R.grow g
  refine ⟨rfl, xs.args (s := { s with heap := h', toks := tk }) R' fun vs h2 tk2 F2 g2 i2 => ?_⟩
  have R2 := R'.grow g2
  refine ⟨rfl, ?_, R2.toWd.baseH _ _ hC, hN.keeps R2.toWd.baseH, T.keeps R2.toWd.baseH, fun h3 ea m => a ea h2 h3 tk2 F2 M S vs ((g.trans g2).stp R.toWd) R2 m i2⟩
  have := i2.length
  show vs.length ≤ _
  rw [sizeLine_eq]; lia
theorem frames_get {ch : List Env} {as : List Addr} (h : as = ch.filterMap (·.frame)) {e : Env} (he : e ∈ ch) {a : Addr} (ha : e.frame = some a) : a ∈ as := by
  rw [h]; exact List.mem_filterMap.mpr ⟨e, he, ha⟩
theorem funFrames_of {B : Heap} : ∀ {ch : List Env}, (∀ e ∈ ch, e.scope.kind ≠ .module ∧ ∃ L o, e.frame = some L ∧ B.get? L = none ∧ h.get? L = some o ∧ ∀ vs, o.data ≠ .fields vs) → h.FunFrames B ch
  | [], _ => trivial
  | e :: r, H => ⟨(H e (.head _)).1, (H e (.head _)).2, funFrames_of fun e' he => H e' (.tail _ he)⟩
theorem raise_leave (FI : FnIn C f fd body ns ow) {ch : List Env} (hfr : A.frames = some ch) (hch : FrOk C ch) {h₁ : Heap} {L : Addr} {M₁ : Mz} (hL : M₁ L = some .frame) (g : Grow C F s.heap F h₁) (md : MD C s.heap M₁) {e : Addr} {h₂ : Heap} {tk' : Nat} {ws : List Value}
    (sp : Stp F M₁ h₁ F' M' h₂) (R' : Rep C (calleeEn fd ow L f) F' M' S' h₂) (m : Heap.MadeExcOf h₂ h' e cls ws) (iv : IsAll F' ws eargs) {Q : Unit → Shared → Prop} (kk : ∀ h3, Flew C ch F s F' e cls eargs h3 → Q () { s with heap := h3, toks := tk' }) :
    wpAny (model C.prog C.w) (A.deeper (callEnvC fd L f)) (leaving (callEnvC fd L f) (.ref e)) Q E { s with heap := h', toks := tk' } := by
  obtain ⟨g', _⟩ := g.inner sp md R'.toWd
  obtain ⟨mk, me, t, ht1, ht2, ht3⟩ := m
  let as : List Addr := (callEnvC fd L f :: ch).filterMap (·.frame)
  let Bh : Heap := hideAll h₂ as
  have hBh : Bh.StaysIn h' := fun a o q => mk a o (of_hideAll _ q)
  have hBe : Bh.get? e = none := by
    cases q : Bh.get? e with
    | none => rfl
    | some o => rw [of_hideAll _ q] at me; cases me
  have hBf : ∀ env ∈ (callEnvC fd L f :: ch), ∀ a, env.frame = some a → Bh.get? a = none := fun env he a ha => hideAll_none _ (List.mem_filterMap.mpr ⟨env, he, ha⟩)
  have hFun : h'.FunFrames Bh (callEnvC fd L f :: ch) := funFrames_of fun env he => by
    rcases List.mem_cons.mp he with rfl | he'
    · obtain ⟨m, hn, _⟩ := R'.vars
      obtain ⟨o, ho⟩ := R'.ownAt
      exact ⟨by show fd.scope.kind ≠ _; rw [FI.kind]; decide, L, o, rfl, hBf _ (.head _) L rfl, mk _ _ ho, ns_plain hn ho⟩
    · obtain ⟨k1, L', k2, k3, k4, k5⟩ := hch env he'
      obtain ⟨o, ho, hx, _⟩ := R'.tab L' k3
      exact ⟨k1, L', o, k2, hBf _ he L' k2, mk _ _ ho, k4 o hx⟩
  refine wpAny_leaving_firstW (base := Bh) (outer := ch) (L := L) (by show A.frames.map _ = _; rw [hfr]; rfl) hFun rfl ht1 hBh hBe rfl rfl rfl fun h3 hl => ?_
  obtain ⟨l1, l2, l3, l4⟩ := hl
  refine kk h3 ⟨h₂, Bh, t, ws, g', fun a o ha hne hin => hideAll_get _ ha fun hm => ?_, ⟨l1, hBe, l2.2.2, l3⟩, fun b o hb hn => l4 b o (mk b o hb) hn, ?_, iv, fun env he a ha => hBf env (.tail _ he) a ha, me, ht2⟩
  · obtain ⟨env, he, hf⟩ := List.mem_filterMap.mp hm
    rcases List.mem_cons.mp he with rfl | he
    · have hf : some L = some a := hf
      cases hf
      rcases hin with q | q
      · have := md L .frame hL
        rcases this with r | r
        · exact R'.own_out r
        · exact q r
      · cases r : F' L with
        | none => exact q r
        | some o' =>
          have hd := R'.dis _ _ r
          rw [show M' L = some .frame from R'.frame] at hd; cases hd
    · exact hne env he hf
  · obtain ⟨sl, hs⟩ := l4 t _ ht3 (fun vs q => by cases q)
    exact ⟨_, 0, hs, rfl, rfl⟩
theorem fn_raise (O : C.Ok) (FI : FnIn C f fd body ns ow) {ds : List PV} (hlen : ds.length = ns.length) (B : ∀ A L, AOk A k → RaA C A (calleeEn fd ow L f) (zipP ns (ds.map .val)) body cls eargs) : FnRaise C f (k + 1) ds cls eargs := fun A s F M vs ch W AO hfr hch i Q E kk => by
  refine wpAny_call (call_in O FI AO W i.pars (by rw [i.length]; exact hlen) fun h₁ tk L M₁ AO' R g md => ?_)
  exact (B _ L AO').run { s with heap := h₁, toks := tk } F M₁ R _ _ fun e h₂ h' tk' F' M' S' ws sp R' m iv => raise_leave (s := s) FI hfr hch R.frame g md sp R' m iv fun h3 fl => kk e h3 tk' F' fl
end
end
section
section
variable {prog : Program} {w : World} {A : Around} {E : Value → Shared → Prop} {s : Shared} {K : Frag} {e t c : Addr} {m : Str} {tk : Tok}
noncomputable def ExcAtOwn (h : Heap) (e c t : Addr) (m : Str) (tk : Tok) : Prop := (∃ o vs, h.get? e = some o ∧ o.cls = .ref c ∧ o.data = .fields vs ∧ vs[0]? = some (.ref t)) ∧ h.TupAt t [.str m tk]
theorem ownStr_entry {Q : PySem.Fin → Shared → Prop} (x : ExcAtOwn s.heap e c t m tk) (hq : Q (.done (.ret (.str m tk))) s) : wpAny (model prog w) A (Builtin.«BaseException.__str__» ⟨[.ref e], []⟩) Q E s := by
  obtain ⟨⟨o, vs, ho, hc, hd, h0⟩, ot, k, hto, _, htd⟩ := x
  have bexc : ∀ {Q : Value × List Value → Shared → Prop}, Q (.ref t, [.str m tk]) s → wpAny (model prog w) A (Builtin.BaseException.bexcArgs (.ref e)) Q E s := fun {Q} hq => by
    unfold Builtin.BaseException.bexcArgs
    refine wpAny_bind (wpAny_field ho hd h0 (wpAny_bind (wpAny_seqItems hto htd ?_)))
    exact wpAny_pure hq
  unfold Builtin.«BaseException.__str__»
  repeat (first | with_reducible refine bexc ?_ | wp_step)
  exact hq
theorem special_str (X : K.In s.heap) (x : ExcAtOwn s.heap e c t m tk) (hf : findIn K (.ref c) "__str__" = some (some (.builtin "BaseException.__str__"))) (hm : mroIn K c (.type "BaseException") = some true) {Q : Option Value → Shared → Prop} (h : Q (some (.str m tk)) s) :
    wpAny (model prog w) A (callSpecial? (.ref e) "__str__" []) Q E s := by
  have LT : Looks (model prog w) s.heap (typeOf (.ref e)) (.ref c) := by
    obtain ⟨⟨o, vs, ho, hc, hd, h0⟩, _⟩ := x
    rw [← hc]; exact (Looks.ld ho).andThen .now
  have LI : Looks (model prog w) s.heap (isInstance (.ref e) (.type "BaseException")) true := LT.andThen (looks_mroIn X hm)
  refine wpAny_bind (wpAny_bind (LT.here ((looks_findIn X hf).here (wpAny_holding (wpAny_bind ?_)))))
  rw [PySem.F.excStr_Exception.str.bind]
  refine wpAny_pure (wpAny_bind (wpAny_call ?_))
  refine codeAny_call_builtin PySem.F.excStr_Exception.str.plain PySem.F.entry_bexc_str (@check_slot (model prog w) _ _ s "BaseException.__str__" "BaseException" "__str__" (.ref e) [] [] _ (by decide +kernel) (by decide +kernel) LI (PySem.F.args_bexc_str _) ?_)
  exact ownStr_entry x (wpAny_pure h)
theorem strOf_own (X : K.In s.heap) (x : ExcAtOwn s.heap e c t m tk) (hf : findIn K (.ref c) "__str__" = some (some (.builtin "BaseException.__str__"))) (hm : mroIn K c (.type "BaseException") = some true) (hu : A.units < cLine) {Q : Value → Shared → Prop} (h : Q (.str m tk) s) :
    wpAny (model prog w) A (Builtin.Str.strOf (.ref e)) Q E s := by
  unfold Builtin.Str.strOf
  repeat (first | with_reducible refine wpAny_cRoomFor hu ?_ | with_reducible refine special_str X x hf hm ?_ | wp_step)
  exact h
theorem str_own (X : K.In s.heap) (x : ExcAtOwn s.heap e c t m tk) (hf : findIn K (.ref c) "__str__" = some (some (.builtin "BaseException.__str__"))) (hm : mroIn K c (.type "BaseException") = some true) (hu : A.units + 2 < cLine) {Q : Value → Shared → Prop} (h : Q (.str m tk) s) :
    wpAny (model prog w) A (call (.type "str") [.ref e]) Q E s :=
  callType_new PySem.F.called_str (by decide) (PySem.F.typeCall_str_1 _) (PySem.F.newCall_str_1 _) (fun obj => PySem.F.args_object_init_2 obj _) PySem.F.entry_str_new
    (meets_str_new (S := fun A' R s' => A'.units + 1 < cLine ∧ K.In s'.heap ∧ ExcAtOwn s'.heap e c t m tk ∧ R (.ok (.ret (.str m tk))) s')
      fun _ _ A' _ _ hq => strOf_own (A := A'.in1) hq.2.1 hq.2.2.1 hf hm hq.1 hq.2.2.2)
    ⟨(show A.units + 1 + 1 < cLine from hu), X, x, typeIs_str _ _ _, h⟩
end
end
section
section
variable {C : Cx} {env : En} {F F' F'' : Fz} {M M' M'' : Mz} {h h' h'' : Heap} {S S' S'' S₁ : PS} {A : Around} {s s1 : Shared} {E : Value → Shared → Prop} {k : Nat} {st : Stmt} {rest : List Stmt} {fl : PFl} {pos : Pos} {wr : List Addr}
  {f : Addr} {fd : FuncData} {body : List Stmt} {ns ow : List Str} {cls : Value} {eargs : List PV}
theorem flew_rep {e₀ : Env} {ch : List Env} {o : Obj} {e : Addr} (R : Rep C env F M S s1.heap) (ho : s1.heap.get? env.e.locals = some o) (h0 : e₀.frame = some env.e.locals) (hch : FrOk C ch) (fl : Flew (C.add env.e.locals o) (e₀ :: ch) F s1 F' e cls eargs h') :
    ∃ B t vs, Heap.FlyingW B (e₀ :: ch) e cls (.ref t) h' ∧ h'.TupAt t vs ∧ IsAll F' vs eargs ∧ M e = none ∧ M t = none ∧ ∀ h4, B.StaysIn h4 → h'.UpToSlots h4 → Rep C env F' M S h4 ∧ GrowL C env.e.locals F s1.heap F' h4 := by
  obtain ⟨h₂, B, t, vs, g, hB, hfly, hsl, htup, iv, hBn, he2, ht2⟩ := fl
  have nL := R.own_out
  have back : ∀ a, h₂.get? a = none → s1.heap.get? a = none := fun a e => g.nobody' (enter R ho).tab e
  refine ⟨B, t, vs, hfly, htup, iv, R.toWd.mnone (back _ he2), R.toWd.mnone (back _ ht2), fun h4 hst hs4 => ?_⟩
  have hs24 := hsl.trans hs4
  obtain ⟨m, hn, hv⟩ := R.vars
  obtain ⟨p, hp, hx⟩ := g.tab env.e.locals (.inr rfl)
  have hp' : ∃ sl, p = { o with slots := sl } := by
    rcases hx with ⟨q, _⟩ | ⟨_, sl, q⟩
    · exact absurd q nL
    · exact ⟨sl, q⟩
  obtain ⟨sl, rfl⟩ := hp'
  obtain ⟨sl2, hL4⟩ := hs24 _ _ hp (ns_plain (ns_slots hn ho hp) hp)
  have chEx : ∀ env' ∈ (e₀ :: ch), ∀ a, env'.frame = some a → (C.add env.e.locals o).ex a := fun env' he a ha => by
    rcases List.mem_cons.mp he with rfl | he
    · rw [h0] at ha; cases ha; exact .inr rfl
    · obtain ⟨_, L', k2, k3, _⟩ := hch env' he
      rw [k2] at ha; cases ha; exact .inl k3
  have notCh : ∀ a, ¬ (C.add env.e.locals o).ex a → ∀ env' ∈ (e₀ :: ch), env'.frame ≠ some a := fun a ha env' he q => ha (chEx env' he a q)
  have F'x : ∀ a p, F' a = some p → ¬ (C.add env.e.locals o).ex a := fun a p e q => by
    rcases g.fnew a p e with r | r
    · rcases q with q | q
      · rw [R.toWd.tbF _ q] at r; cases r
      · subst q; have := R.dis _ _ r; rw [R.frame] at this; cases this
    · obtain ⟨p', hp', _⟩ := (enter R ho).tab a q; rw [r] at hp'; cases hp'
  refine R.framed hv (ns_slots hn ho hL4) (fun a p q1 q2 e => ?_) g.mono (fun a p e => ?_) g.fnew fun a ha => ?_
  · have nx : ¬ (C.add env.e.locals o).ex a := fun q => q.elim q1 q2
    exact hst _ _ (hB a p (g.ext a p nx e) (notCh a nx) (.inl (by rw [e]; simp)))
  · exact hst _ _ (hB a p (g.sub a p e) (notCh a (F'x a p e)) (.inr (by rw [e]; simp)))
  · obtain ⟨p, hp, hx, hN⟩ := g.tab a (.inl ha)
    have hx : C.exo a p := by
      rcases hx with ⟨_, q⟩ | ⟨q, _⟩
      · exact q
      · subst q; exact absurd ha nL
    by_cases hc : ∃ env' ∈ ch, env'.frame = some a
    · obtain ⟨env', he, hf⟩ := hc
      obtain ⟨_, L', k2, _, k4, k5⟩ := hch env' he
      rw [k2] at hf; cases hf
      obtain ⟨sl, hsl⟩ := hs24 _ _ hp (k4 p hx)
      exact ⟨_, hsl, k5 p sl hx, .no (k4 p hx)⟩
    · refine ⟨p, hst _ _ (hB a p hp (fun env' he q => ?_) (.inl ?_)), hx, hN⟩
      · rcases List.mem_cons.mp he with rfl | he
        · rw [h0] at q; cases q; exact nL ha
        · exact hc ⟨env', he, q⟩
      · obtain ⟨p', hp', _⟩ := R.tab a ha; rw [hp']; simp
noncomputable def HdOk (C : Cx) (A : Around) (env : En) (S : PS) (cls : Value) (eargs : List PV) (hs : List ExceptHandler) (S' : PS) (d : PV) : Prop :=
  ∀ (s₀ : Shared) (F₀ : Fz) (hh : Heap) (tk : Nat) (F : Fz) (M : Mz) (e t : Addr) (B : Heap) (ch : List Env) (vs : List Value), Rep C env F M S hh → Heap.FlyingW B ch e cls (.ref t) hh → hh.TupAt t vs → IsAll F vs eargs → M e = none → M t = none →
    (∀ h4, B.StaysIn h4 → hh.UpToSlots h4 → Rep C env F M S h4 ∧ Stp F₀ M s₀.heap F M h4) → ∀ (Q : Flow → Shared → Prop) (E : Value → Shared → Prop), After C env F₀ M s₀ S' (.ret d) Q → wpAny (model C.prog C.w) A (handleBy (.ref e) env.e hs) Q E { s₀ with heap := hh, toks := tk }
theorem glob_here (O : C.Ok) (R : Rep C env F M S s.heap) {x : Str} {v : Value} {np : Pos} {Q : Value → Shared → Prop} (e : C.glob x = some v) (hk : env.e.kindOf x = some .globalImplicit) (hd : (x == ("__debug__" : Str)) = false) (h : Q v s) : wpAny (model C.prog C.w) A (eval (.Name x np) env.e) Q E s := by
  refine Name_function_global R.ev.fn hk ?_ hd
  obtain ⟨mg, mb, hg, hb, hv⟩ := O.names
  have hg' : s.heap.Ns env.e.globals mg := by rw [R.ev.gl]; exact hg.keeps R.toWd.baseH
  have hb' : s.heap.Ns env.e.builtins mb := by rw [R.ev.bt]; exact hb.keeps R.toWd.baseH
  rcases hv x v e with q | ⟨q1, q2⟩
  · exact loadGlobal_global hg' q h
  · exact loadGlobal_builtin hg' q1 hb' q2 h
theorem fly_type {B : Heap} {ch : List Env} {e : Addr} {a0 : Value} {Mo : Model} (x : Heap.FlyingW B ch e cls a0 h) : Looks Mo h (typeOf (.ref e)) cls := by
  obtain ⟨ob, ho, hc⟩ := x.there
  rw [← hc]; exact (Looks.ld ho).andThen .now
theorem hd_miss (O : C.Ok) {x : Str} {c : Value} {np hpos : Pos} {name : Option Str} {suite : List Stmt} {hs : List ExceptHandler} {d : PV} (e : C.glob x = some c) (hk : env.e.kindOf x = some .globalImplicit) (hd : (x == ("__debug__" : Str)) = false) (hx : exmOne C.K cls c = some false)
    (r : HdOk C A env S cls eargs hs S' d) : HdOk C A env S cls eargs (.ExceptHandler (some (.Name x np)) name suite hpos :: hs) S' d := fun s F₀ hh tk F M ea t B ch vs R fly tup iv hMe hMt rs Q E a => by
  refine wpAny_handleBy_cons (codeAny_handlers_test (glob_here (s := { s with heap := hh, toks := tk }) O R e hk hd ?_)) (by intro q; cases q)
  refine (exm_one (R.toWd.kin O) (fly_type fly) hx) _ _ _ _ (fun _ _ q => q) ?_
  exact r s F₀ hh tk F M ea t B ch vs R fly tup iv hMe hMt rs Q E a
theorem hd_hit0 (O : C.Ok) {x : Str} {c : Value} {np hpos rpos lpos cpos : Pos} {y : Str} {k' : Nat} {hs : List ExceptHandler} (e : C.glob x = some c) (hk : env.e.kindOf x = some .globalImplicit) (hd : (x == ("__debug__" : Str)) = false) (hx : exmOne C.K cls c = some true) :
    HdOk C A env S cls eargs (.ExceptHandler (some (.Name x np)) none [.Return (some (.List [.Constant (.str y) k' cpos] lpos)) rpos] hpos :: hs) S (.list [.str y]) := fun s F₀ hh tk F M ea t B ch vs R fly tup iv hMe hMt rs Q E a => by
  refine wpAny_handleBy_cons (codeAny_handlers_test (glob_here (s := { s with heap := hh, toks := tk }) O R e hk hd ?_)) (by intro q; cases q)
  refine (exm_one (R.toWd.kin O) (fly_type fly) hx) _ _ _ _ (fun _ _ q => q) ?_
  refine codeAny_handlers_suite (lands_againW fly fun h4 fly4 sl4 => ?_)
  obtain ⟨R4, sp4⟩ := rs h4 fly4.1 sl4
  have ev : EvS C (A.mark (some (.ref ea))) env S (.List [.Constant (.str y) k' cpos] lpos) (.list [.str y]) := ev_list (.cons ev_str (fun _ _ => rfl) .nil) rfl
  exact ((ea_one (ex_ret ev)).run { s with heap := h4, toks := tk } F M R4 _ _ fun fv h5 tk5 F5 M5 sp5 R5 i5 => a fv h5 tk5 F5 M5 (sp4.trans sp5) R5 i5)
end
end
section
section
variable {C : Cx} {env : En} {F F' F'' : Fz} {M M' M'' : Mz} {h h' h'' : Heap} {S S' S'' S₁ : PS} {A : Around} {s s1 : Shared} {E : Value → Shared → Prop} {k : Nat} {st : Stmt} {rest : List Stmt} {fl : PFl} {pos : Pos} {wr : List Addr}
  {f : Addr} {fd : FuncData} {body : List Stmt} {ns ow : List Str} {cls : Value} {eargs : List PV}
theorem rep_goes (R : Rep C env F M S h) {n : Str} (hS : get S n = none) {m : Str → Option Value} (hv : ∀ x pv, get S x = some pv → ∃ v, Loc C env M h m x v ∧ VarIs F M h x v pv) {v : Option Value} (hn' : h'.Ns env.e.locals (fun x => if x = n then v else m x)) (hs : Heap.SameBut env.e.locals h h') : Rep C env F M S h' ∧ Stp F M h F M h' := by
  have hL : ∃ o, h'.get? env.e.locals = some o := by obtain ⟨o, _, _, ho, _⟩ := hn'; exact ⟨o, ho⟩
  refine ⟨⟨R.toWd.at hs R.frame (by nofun) hL, ⟨_, hn', fun y pv e => ?_⟩, R.frame, fun y ky => ?_, R.ev⟩, Stp.at hs R.frame⟩
  · have hy : y ≠ n := fun q => by rw [q, hS] at e; cases e
    obtain ⟨u, l, j⟩ := hv y pv e
    refine ⟨u, ?_, j.at hs R.frame (by nofun) (by nofun)⟩
    have l' := Loc.at (C := C) hs R.frame (by nofun) l
    rcases l' with ⟨k', e'⟩ | l' | l'
    · exact .inl ⟨k', by simp [hy, e']⟩
    · exact .inr (.inl l')
    · exact .inr (.inr l')
  · obtain ⟨k1, c, e1, e2, ov, o, e3, e4⟩ := R.cells y ky
    exact ⟨k1, c, e1, e2, ov, o, (hs.2 c (fun q => by have := R.frame; rw [q] at e2; rw [e2] at this; cases this)).trans e3, e4⟩
theorem hd_hit_as (O : C.Ok) {x n : Str} {c : Addr} {np hpos rpos lpos cpos p1 p2 p3 : Pos} {y m : Str} {k' : Nat} {hs : List ExceptHandler} (AO : AOk A k) (e : C.glob x = some (.ref c)) (hk : env.e.kindOf x = some .globalImplicit) (hd : (x == ("__debug__" : Str)) = false) (hx : exmOne C.K (.ref c) (.ref c) = some true)
    (hf : findIn C.K (.ref c) "__str__" = some (some (.builtin "BaseException.__str__"))) (hm : mroIn C.K c (.type "BaseException") = some true) (hg : C.glob "str" = some (.type "str")) (hks : env.e.kindOf "str" = some .globalImplicit) (hn : env.e.kindOf n = some .local) (hnd : (n == ("__debug__" : Str)) = false) (hS : get S n = none) :
    HdOk C A env S (.ref c) [.str m] (.ExceptHandler (some (.Name x np)) (some n) [.Return (some (.List [.Constant (.str y) k' cpos, .Call (.Name "str" p1) [.Name n p2] [] p3] lpos)) rpos] hpos :: hs) S (.list [.str y, .str m]) := fun s F₀ hh tk0 F M ea t B ch vs R fly tup iv hMe hMt rs Q E a => by
  refine wpAny_handleBy_cons (codeAny_handlers_test (glob_here (s := { s with heap := hh, toks := tk0 }) O R e hk hd ?_)) (by intro q; cases q)
  refine (exm_one (R.toWd.kin O) (fly_type fly) hx) _ _ _ _ (fun _ _ q => q) ?_
  refine codeAny_handlers_suite_as (lands_againW fly fun h4 fly4 sl4 => ?_)
  obtain ⟨R4, sp4⟩ := rs h4 fly4.1 sl4
  have tup4 : h4.TupAt t vs := tup.of_slots sl4
  refine st_var (s := { s with heap := h4, toks := tk0 }) R4 (.inl hn) (pv := .val (.raw (.ref ea))) (.raw _) fun h5 tk5 R5 sp5 => ?_
  cases iv with
  | cons iv r =>
    cases r
    obtain ⟨tk, rfl⟩ := isStr iv
    have exc : ExcAtOwn h5 ea c t m tk := by
      obtain ⟨oe, ws, T, oT, ts, he, ⟨hcl, h0⟩, hdt, _⟩ := fly4.2.2.2
      obtain ⟨ot, nn, hto, htc, htd⟩ := tup4
      exact ⟨⟨oe, ws, sp5.ext _ _ hMe he, hcl, hdt, h0⟩, ot, nn, sp5.ext _ _ hMt hto, htc, htd⟩
    have hgS : get (put S n (.val (.raw (.ref ea)))) n = some (.val (.raw (.ref ea))) := by rw [get_put, if_pos rfl]
    refine wpAny_execs_cons (wpAny_Return_some ?_)
    rw [arm_eval_List]
    refine wpAny_bind (wpAny_standAt (wpAny_bind ?_))
    show wpAny _ _ (PySem.spliced ((false, eval (.Constant (.str y) k' cpos) env.e) :: (false, eval (.Call (.Name "str" p1) [.Name n p2] [] p3) env.e) :: [])) _ _ _
    refine Calls.spliced_cons (wpAny_Constant_str ?_)
    refine Calls.spliced_cons ?_
    refine Call_Name1 (glob_here (s := { s with heap := h5, toks := tk5 + 1 }) O R5 hg hks rfl ?_) rfl
    refine PyProof.Rows.callWith_type rfl (Calls.evalArgs_plain (Calls.spliced_cons (wpAny_Name (ld_var (s := { s with heap := h5, toks := tk5 + 1 }) R5 hgS fun v i => ?_) hnd)))
    have : v = .ref ea := isRaw i
    subst this
    refine Calls.spliced_nil (str_own (s := { s with heap := h5, toks := tk5 + 1 }) (R5.toWd.kin O) exc hf hm (by have := AO.units; show A.units + 2 < _; lia) ?_)
    refine Calls.spliced_nil ?_
    refine wpAny_newList ?_ (by rw [sizeLine_eq]; exact Nat.le_of_ble_eq_true rfl)
    have W5 := R5.toWd
    have g6 := (Grow.only W5 (h' := h5.push (listOf [Value.str y tk5, Value.str m tk].toArray 0)) fun a o e => Heap.get?_push_of_some _ e).freeze W5 (size_none h5) (Heap.get?_push_size h5 rfl)
    have R6 := R5.grow g6
    obtain ⟨m6, hn6, hv6⟩ := R6.vars
    refine wpAny_nameGoes_keeps hn hn6 (by rw [R6.ev.fn]; rfl) fun h7 v7 hn7 hs7 => ?_
    have R6' : Rep C env _ M S _ := R6.weaken (fun x pv e => by rw [get_put, if_neg]; exact e; intro q; rw [q, hS] at e; cases e)
    obtain ⟨R7, sp7⟩ := rep_goes R6' hS (fun x pv e => hv6 x pv (by rw [get_put, if_neg]; exact e; intro q; rw [q, hS] at e; cases e)) hn7 hs7
    exact a (.ret (.ref h5.objs.size)) h7 _ _ M (((sp4.trans sp5).trans (g6.stp W5)).trans sp7) R7 (Is.list (vs := [Value.str y tk5, Value.str m tk]) (fset_self _ _ _) (LObj.of _ _) (.cons (.str _ _) (.cons (.str _ _) .nil)))
theorem ex_try_ok {body : List Stmt} {h₀ : ExceptHandler} {hs : List ExceptHandler} {d : PV} (x : ExA C A env S body S' (.ret d)) : ExS C A env S (.Try body (h₀ :: hs) [] [] pos) S' (.ret d) := .mk fun s F M R Q E a =>
  wpAny_Try_except (x.run s F M R _ _ fun fv h' tk F' M' sp R' i => by
    cases fv with
    | ret v => exact a (.ret v) h' tk F' M' sp R' i
    | _ => exact i.elim)
theorem try_lands {ch : List Env} (hch : A.frames = some (env.e :: ch)) (henv : env.e.frame = some env.e.locals) (hfr : FrOk C ch) {h2 h3 : Heap} {F2 F3 : Fz} {tk2 tk3 : Nat} {o : Obj} {ea : Addr} (R2 : Rep C env F2 M S h2) (ho : h2.get? env.e.locals = some o)
    (sp0 : Stp F M s.heap F2 M h2) (fl : Flew (C.add env.e.locals o) (env.e :: ch) F2 { s with heap := h2, toks := tk2 } F3 ea cls eargs h3) {hs : List ExceptHandler} {d : PV} (hh : HdOk C A env S cls eargs hs S' d) {Q : Flow → Shared → Prop} (a : After C env F M s S' (.ret d) Q) :
    wpAny (model C.prog C.w) A (noteFrame (.ref ea) env.e) (fun _ s₂ => wpAny (model C.prog C.w) A (setFlight (.ref ea) none) (fun _ s₃ => wpAny (model C.prog C.w) A (handleBy (.ref ea) env.e hs) Q E s₃) E s₂) E { s with heap := h3, toks := tk3 } := by
  obtain ⟨B, t, ws, fly, tup, iv, hMe, hMt, rs⟩ := flew_rep (s1 := { s with heap := h2, toks := tk2 }) R2 ho henv hfr fl
  refine wpAny_looks_onW (s := { s with heap := h3, toks := tk3 }) hch henv fly fun h4 held sl4 => ?_
  refine wpAny_landsW held fun h5 fly5 sl5 => ?_
  obtain ⟨R5, gl⟩ := rs h5 fly5.1 (sl4.trans sl5)
  refine hh s F h5 tk3 F3 M ea t B (env.e :: ch) ws R5 fly5 ((tup.of_slots sl4).of_slots sl5) iv hMe hMt (fun h6 st6 sl6 => ?_) Q E a
  obtain ⟨R6, gl6⟩ := rs h6 st6 ((sl4.trans sl5).trans sl6)
  exact ⟨R6, sp0.trans (gl6.stp R2)⟩
theorem chain_here (chB : ChainB C A env.e.locals) {ch : List Env} (hch : A.frames = some (env.e :: ch)) : FrOk C ch := by
  obtain ⟨e₀, ch', q1, _, _, q4⟩ := chB
  rw [hch] at q1
  obtain ⟨rfl, rfl⟩ := List.cons.inj (Option.some.inj q1)
  exact q4
theorem chain_add (chB : ChainB C A env.e.locals) {ch : List Env} (hch : A.frames = some (env.e :: ch)) {o : Obj} (hno : ¬ C.ex env.e.locals) (hn : ∀ vs, o.data ≠ .fields vs) : FrOk (C.add env.e.locals o) (env.e :: ch) := by
  obtain ⟨ch', q1, q2⟩ := chB.add hno hn
  rw [hch] at q1
  cases q1
  exact q2
theorem ex_try_raise (O : C.Ok) (AO : AOk A k) (chB : ChainB C A env.e.locals) (henv : env.e.frame = some env.e.locals) (hA : ∃ ch, A.frames = some (env.e :: ch)) {x : Str} {f : Addr} {es : List Expr} {ds : List PV} {np cpos rpos : Pos} {h₀ : ExceptHandler} {hs : List ExceptHandler} {d : PV}
    (e : C.glob x = some (.ref f)) (hk : env.e.kindOf x = some .globalImplicit) (hd : (x == ("__debug__" : Str)) = false) (hkeep : keepIn C.K (.ref f) = true) (xs : EvAll C A env S es ds) (ok : ∀ o, FnRaise (C.add env.e.locals o) f k ds cls eargs) (hh : HdOk C A env S cls eargs (h₀ :: hs) S' d) :
    ExS C A env S (.Try [.Return (some (.Call (.Name x np) es [] cpos)) rpos] (h₀ :: hs) [] [] pos) S' (.ret d) := .mk fun s F M R Q E a => by
  refine wpAny_Try_except (wpAny_execs_cons (wpAny_Return_some ?_))
  refine Call_Name rfl ((ev_glob O (pos := np) e hk hd).run s F M R _ _ fun v h' tk F' g i => ?_)
  obtain rfl := isRaw i
  have R' := R.grow g
  refine callWith_of (P := fun h => C.K.In h) (by rw [xs.plain]; rfl) (keeps_K hkeep) (xs.args (s := { s with heap := h', toks := tk }) R' fun vs h2 tk2 F2 g2 i2 => ?_)
  have R2 := R'.grow g2
  obtain ⟨o, ho⟩ := R2.ownAt
  have hn : ∀ vs, o.data ≠ .fields vs := by obtain ⟨m, hn, _⟩ := R2.vars; exact ns_plain hn ho
  obtain ⟨ch, hch⟩ := hA
  exact ⟨R2.toWd.kin O, ok o A { s with heap := h2, toks := tk2 } F2 _ vs (env.e :: ch) (enter R2 ho) AO hch (chain_add chB hch R2.own_out hn) i2 _ _ fun ea h3 tk3 F3 fl => try_lands hch henv (chain_here chB hch) R2 ho ((g.trans g2).stp R.toWd) fl hh a⟩
end
end
section
open Sem (wp)
noncomputable def CalB (l : List (Code × Pos)) : Prop := l.any (fun c => c.1.isCaller) = true
noncomputable def Cal (Γ : PySem.Ctx) : Prop := ∀ p, CalB ((Γ.code, p) :: Γ.below)
noncomputable def wpC {α : Type} (M : Model) (A : Around) (t : Sem α) (Q : α → Shared → Prop) (E : Value → Shared → Prop) (s : Shared) : Prop :=
  ∀ Γ p, Γ.In A → Cal Γ → wp M Γ t (fun a _ s' => Q a s') (fun e _ s' => E e s') p s
noncomputable def codeC (M : Model) (A : Around) (c : Code) (R : Result → Shared → Prop) (s : Shared) : Prop :=
  ∀ Γ p, Γ.code = c → Γ.Below A → CalB Γ.below → wpCode M Γ R p s
section
variable {α β : Type} {M : Model} {A : Around} {E : Value → Shared → Prop} {s : Shared}
theorem CalB.cons {l : List (Code × Pos)} (h : CalB l) (c : Code × Pos) : CalB (c :: l) := by
  unfold CalB at *; rw [List.any_cons, h, Bool.or_true]
theorem wpC_of {t : Sem α} {Q : α → Shared → Prop} (h : wpAny M A t Q E s) : wpC M A t Q E s := fun Γ p hΓ _ => h Γ p hΓ
theorem codeC_of {c : Code} {R : Result → Shared → Prop} (h : codeAny M A c R s) : codeC M A c R s := fun Γ p hc hΓ _ => h Γ p hc hΓ
theorem wpC_mono {t : Sem α} {Q Q' : α → Shared → Prop} {E' : Value → Shared → Prop} (h : wpC M A t Q E s) (hQ : ∀ a s, Q a s → Q' a s) (hE : ∀ e s, E e s → E' e s) : wpC M A t Q' E' s :=
  fun Γ p hΓ hc => Sem.wp_mono M Γ t (fun a _ s => hQ a s) (fun e _ s => hE e s) p s (h Γ p hΓ hc)
theorem codeC_mono {c : Code} {R R' : Result → Shared → Prop} (h : codeC M A c R s) (hR : ∀ r s, R r s → R' r s) : codeC M A c R' s :=
  fun Γ p hc hΓ hb => wpCode_mono hR (h Γ p hc hΓ hb)
theorem wpC_bind {m : Sem α} {f : α → Sem β} {Q : β → Shared → Prop} (h : wpC M A m (fun a s' => wpC M A (f a) Q E s') E s) : wpC M A (m >>= f) Q E s := fun Γ p hΓ hc => by
  rw [Sem.wp_bind']
  exact Sem.wp_mono M Γ m (fun a p' s' h' => h' Γ p' hΓ hc) (fun _ _ _ h' => h') p s (h Γ p hΓ hc)
theorem wpC_holding {vs : List Value} {m : Sem α} {Q : α → Shared → Prop} (h : wpC M A m Q E s) : wpC M A (holding vs m) Q E s :=
  fun Γ p hΓ hc => by rw [Sem.wp_holding]; exact h Γ p hΓ hc
theorem wpC_attempt {m : Sem α} {Q : Except Value α → Shared → Prop} (h : wpC M A m (fun a => Q (.ok a)) (fun e => Q (.error e)) s) : wpC M A m.attempt Q E s :=
  fun Γ p hΓ hc => by rw [Sem.wp_attempt]; exact h Γ p hΓ hc
theorem wpC_onRaise {m : Sem α} {k : Value → Sem Unit} {Q : α → Shared → Prop} (h : wpC M A m Q (fun e s' => wpC M A (k e) (fun _ s'' => E e s'') E s') s) : wpC M A (m.onRaise k) Q E s := fun Γ p hΓ hc => by
  rw [Sem.wp_onRaise]
  exact Sem.wp_mono M Γ m (fun _ _ _ h' => h') (fun e p' s' h' => h' Γ p' hΓ hc) p s (h Γ p hΓ hc)
theorem wpC_keep {vs : List Value} {m : Sem α} {Q : α → Shared → Prop} (h : wpC M A m Q E s) : wpC M A (m.keep vs) Q E s :=
  fun Γ p hΓ hc => by rw [Sem.wp_keep]; exact h Γ p hΓ hc
theorem wpC_runValue {c : Code} {Q : Value → Shared → Prop} (hc : codeC M A c (fun r s' => match r with | .ok (.ret v) => Q v s' | .ok _ => False | .error e => E e s') s) : wpC M A (runValue c) Q E s :=
  fun Γ p hΓ hC => by rw [Sem.wp_runValue]; exact hc _ p rfl (hΓ.enter c none p (by intro x; cases x)) (hC p)
theorem wpC_call {f : Value} {pos : List Value} {kw : List (Str × Value)} {Q : Value → Shared → Prop}
    (hc : codeC M A (.call f ⟨pos, kw⟩) (fun r s' => match r with | .ok (.ret v) => Q v s' | .ok _ => False | .error e => E e s') s) : wpC M A (call f pos kw) Q E s := wpC_runValue hc
theorem codeC_of_tree {c : Code} {R : Result → Shared → Prop}
    (h : wpC M (A.under c) (M.den c) (fun fin s' => match fin with | .done f => R (.ok f) s' | .again c' => c'.quiet = true ∧ codeC M A c' R s') (fun e s' => R (.error e) s') s) : codeC M A c R s := fun Γ p hc hΓ hb => by
  rw [wpCode_iff_wp, hc]
  refine Sem.wp_mono M Γ _ (fun fin p' s' h' => ?_) (fun _ _ _ h' => h') p s (h Γ p (hc ▸ hΓ.in) (fun q => hb.cons _))
  cases fin with
  | done f => exact h'
  | again c' => exact ⟨h'.1, h'.2 (Γ.goto c') p' rfl (hΓ.goto c') hb⟩
theorem mark_not {own : List String} {e : Value} {Q : Unit → Shared → Prop} (h : Q () s) : wpC M A (markTheRefusal own e) Q E s := fun Γ p hΓ hc => by
  have hp : pythonCodeMadeTheCall own (((Γ.code, p) :: Γ.below).map (·.1)) = false := by
    have := hc p
    unfold CalB at this
    have e2 : (((Γ.code, p) :: Γ.below).map (·.1)).any Code.isCaller = true := by
      rw [List.any_map]; exact this
    show (!((((Γ.code, p) :: Γ.below).map (·.1)).any Code.isCaller) && _ && _) = false
    rw [e2]; rfl
  unfold markTheRefusal
  rw [Sem.wp_bind']
  show wp M Γ (if pythonCodeMadeTheCall own (((Γ.code, p) :: Γ.below).map (·.1)) = true then _ else _) _ _ p s
  rw [hp]
  exact h
end
end
section
open PySem.NumText
open Sem (wp)
section
variable {α β : Type} {prog : Program} {w : World} {A : Around} {E : Value → Shared → Prop} {s : Shared}
theorem wpC_ite_true {M : Model} {c : Prop} [Decidable c] {a b : Sem α} {Q : α → Shared → Prop} (hc : c) (h : wpC M A a Q E s) : wpC M A (if c then a else b) Q E s := by rw [if_pos hc]; exact h
theorem wpC_ite_false {M : Model} {c : Prop} [Decidable c] {a b : Sem α} {Q : α → Shared → Prop} (hc : ¬ c) (h : wpC M A b Q E s) : wpC M A (if c then a else b) Q E s := by rw [if_neg hc]; exact h
theorem wpC_eq {M : Model} {m : Sem α} {a : α} {f : α → Sem β} {Q : β → Shared → Prop} (e : m = pure a) (h : wpC M A (f a) Q E s) : wpC M A (m >>= f) Q E s := wpC_bind (wpC_of (wpAny_of_eq e h))
theorem from_text {text : List Nat} {x : Str} {u : Tok} {Q : Value → Shared → Prop} (hh : A.handled = none) (hs : (text.takeWhile (· != 0)).length ≤ 640)
    (hr : (int_private% "readNumeral") 0 10 (text.takeWhile (· != 0)) = int_private% "Numeral.invalid") (hx : (reprText x).length ≤ 4000)
    (h : ∀ e h' tk m t, Heap.MadeExc s.heap h' e "ValueError" [.str m t] → E (.ref e) { s with heap := h', toks := tk }) : wpC (model prog w) A ((int_private% "intFromText") (.str x u) text 10) Q E s := by
  with_unfolding_all refine wpC_ite_true hs ?_
  refine wpC_bind (wpC_of (wpAny_pure ?_))
  dsimp only
  rw [hr]
  dsimp only
  refine wpC_eq rfl ?_
  refine wpC_ite_false (by simp) ?_
  refine wpC_bind (wpC_of (wpAny_rule ?_))
  refine wpC_eq rfl ?_
  dsimp only
  refine wpC_bind (wpC_of (wpAny_pyRepr_str ?_ (by rw [sizeLine_eq]; lia)))
  refine wpC_bind (wpC_of (wpAny_mkStr ?_ (by
    have e1 : ∀ a b : Str, (a ++ b).length = a.length + b.length := fun a b => by show (a.cps ++ b.cps).size = _; rw [Array.size_append]; rfl
    have e2 : (({ cps := (reprText x).cps.extract 0 200 } : Str)).length ≤ 200 := by show ((reprText x).cps.extract 0 200).size ≤ 200; rw [Array.size_extract]; lia
    have e3 : (Str.ofString (toString "invalid literal for int() with base " ++ toString 10 ++ toString ": ")).length ≤ 100 := by decide +kernel
    rw [sizeLine_eq, e1]; lia)))
  refine wpC_bind (wpC_of (wpAny_newExc_plain plainExc_ValueError (fun h' e m => ?_)))
  refine wpC_bind (mark_not ?_)
  exact wpC_of (wpAny_raiseNew_none hh (h e h' _ _ _ m))
theorem int_new_bad {x : Str} {u : Tok} {Q : PySem.Fin → Shared → Prop} (hh : A.handled = none) (hl : x.length ≤ 640) (hn : PySem.intText? x = none)
    (hr : (int_private% "readNumeral") 0 10 (numSeenOf x) = int_private% "Numeral.invalid") (hx : (reprText x).length ≤ 4000)
    (h : ∀ e h' tk m t, Heap.MadeExc s.heap h' e "ValueError" [.str m t] → E (.ref e) { s with heap := h', toks := tk }) : wpC (model prog w) A (Builtin.«int.__new__» ⟨[.type "int", .str x u], []⟩) Q E s := by
  have f1 := F.conv_sub_int
  have f2 := F.madeHere_int
  have f3 := KIN.str_int
  have f4 := KIN.str_idx
  have f5 := KIN.str_trunc
  have f6 : typeOf (.str x u) = pure (.type "str") := rfl
  unfold Builtin.«int.__new__»
  dsimp only
  refine wpC_eq rfl ?_
  refine wpC_ite_false (by simp) ?_
  refine wpC_eq f1 ?_
  refine wpC_ite_false (by simp) ?_
  refine wpC_eq f2 ?_
  refine wpC_ite_false (by simp) ?_
  refine wpC_ite_false (by simp) ?_
  refine wpC_eq rfl ?_
  refine wpC_bind ?_
  refine wpC_bind (wpC_of ?_)
  repeat wp_step
  refine wpC_bind (wpC_of ?_)
  repeat wp_step
  refine wpC_ite_false (by simp) ?_
  refine wpC_bind (wpC_of ?_)
  repeat wp_step
  refine wpC_bind (wpC_of ?_)
  repeat wp_step
  exact from_text (text := numTextOf x) hh (Nat.le_trans (seen_length x) hl) hr hx h
end
end
section
open PySem.NumText
section
variable {α β : Type} {prog : Program} {w : World} {A : Around} {E : Value → Shared → Prop} {s : Shared} {R : Result → Shared → Prop}
theorem codeC_builtin {id : String} {args : Args} {b : Builtin} (hb : entryFor table id = some b)
    (h : wpC (model prog w) (A.under (.builtin id args)) (b args) (fun fin s' => match fin with | .done f => R (.ok f) s' | .again c' => c'.quiet = true ∧ codeC (model prog w) A c' R s') (fun e s' => R (.error e) s') s) :
    codeC (model prog w) A (.builtin id args) R s := by
  refine codeC_of_tree ?_
  show wpC _ _ (match entryFor table id with | some b => b args | none => unsupported ((withoutEnding? id "#data").getD id)) _ _ s
  rw [hb]; exact h
theorem codeC_call_builtin {id : String} {args : Args} {b : Builtin} (hq : plainId id = true) (hc : checkBuiltinCall id args = pure ()) (hb : entryFor table id = some b)
    (h : wpC (model prog w) A.in1 (b args) (fun fin s' => match fin with | .done f => R (.ok f) s' | .again c' => c'.quiet = true ∧ codeC (model prog w) A c' R s') (fun e s' => R (.error e) s') s) :
    codeC (model prog w) A (.call (.builtin id) args) R s := by
  refine codeC_of_tree ?_
  show wpC _ A.in1 (do checkBuiltinCall id args; again (.builtin id args)) _ _ s
  refine wpC_eq hc (wpC_of (wpAny_pure ⟨plainId_quiet hq args, codeC_builtin hb ?_⟩))
  rw [Around.under_plainId hq args]; exact h
theorem call_int_bad {x : Str} {u : Tok} {Q : Value → Shared → Prop} (hh : A.handled = none) (hl : x.length ≤ 640) (hn : PySem.intText? x = none)
    (hr : (int_private% "readNumeral") 0 10 (numSeenOf x) = int_private% "Numeral.invalid") (hx : (reprText x).length ≤ 4000)
    (h : ∀ e h' tk m t, Heap.MadeExc s.heap h' e "ValueError" [.str m t] → E (.ref e) { s with heap := h', toks := tk }) : wpC (model prog w) A (call (.type "int") [.str x u]) Q E s := by
  have ft := F.called_int
  obtain ⟨c, tl, hmro⟩ := ft.mro
  have hmade := ft.made
  have hsub := ft.sub
  have h1 := ft.notType
  have h2 := ft.canCreate
  have h3 := F.typeCall_int_1 (.str x u)
  refine wpC_call (codeC_of_tree ?_)
  show wpC _ _ (callAny (.type "int") _) _ _ _
  refine wpC_of (wpAny_pure ⟨Code.quiet_builtin _ (by decide +kernel), codeC_builtin F.entry_type_call ?_⟩)
  rw [Around.under_plain (weight_type_call_type "int" [.str x u] []) (units_type_call_type "int" [.str x u] [])]
  unfold Builtin.«type.__call__»
  dsimp only
  refine wpC_ite_false (by rw [h1]; decide) ?_
  refine wpC_ite_false (by rw [h2]; decide) ?_
  refine wpC_eq h3 ?_
  refine wpC_eq hmro ?_
  refine wpC_ite_false (by simp) ?_
  refine wpC_eq hmade ?_
  dsimp only
  refine wpC_bind (wpC_of (wpAny_pure ?_))
  refine wpC_bind (wpC_holding (wpC_call ?_))
  exact codeC_call_builtin ft.plain (F.newCall_int_1 _) F.entry_int_new (int_new_bad hh hl hn hr hx h)
end
end
section
open Sem (wp)
section
variable {α β : Type} {M : Model} {A : Around} {E : Value → Shared → Prop} {s : Shared} {env : Env}
theorem wpC_execs_cons {st : Stmt} {rest : List Stmt} {Q : Flow → Shared → Prop}
    (h : wpC M A (exec st env) (fun f s' => match f with | .next => wpC M A (execs rest env) Q E s' | f => Q f s') E s) : wpC M A (execs (st :: rest) env) Q E s := fun Γ p hΓ hc => by
  rw [execs_cons, Sem.wp_bind']
  refine Sem.wp_mono M Γ _ (fun f p' s' h' => ?_) (fun _ _ _ h' => h') _ _ (h Γ p hΓ hc)
  cases f <;> first | exact h' Γ p' hΓ hc | exact h'
theorem wpC_If {test : Expr} {body orelse : List Stmt} {pos : Pos} {Q : Flow → Shared → Prop}
    (h : wpC M A (isTrue test env (eval test env)) (fun b s₂ => if b then wpC M A (execs body env) Q E s₂ else wpC M A (execs orelse env) Q E s₂) E s) : wpC M A (exec (.If test body orelse pos) env) Q E s := fun Γ p hΓ hc => by
  simp only [exec_If, Sem.wp_bind', Sem.wp_cmd_standAt]
  refine Sem.wp_mono M Γ _ (fun b p₂ s₂ h₂ => ?_) (fun _ _ _ h' => h') _ _ (h Γ _ hΓ hc)
  cases b <;> exact h₂ Γ p₂ hΓ hc
theorem wpC_Return_some {e : Expr} {pos : Pos} {Q : Flow → Shared → Prop} (h : wpC M A (eval e env) (fun v => Q (.ret v)) E s) : wpC M A (exec (.Return (some e) pos) env) Q E s := fun Γ p hΓ hc => by
  simp only [exec_Return_some, Sem.wp_bind', Sem.wp_cmd_standAt, Sem.wp_pure']; exact h Γ _ hΓ hc
theorem wpC_Assign_Name {x : Str} {pos' pos : Pos} {value : Expr} {Q : Flow → Shared → Prop}
    (h : wpC M A (eval value env) (fun v s₁ => wpC M A (storeName env x v) (fun _ => Q .next) E s₁) E s) (hs : swapsWith value (some (.Name x pos')) pos.line env = pure false) :
    wpC M A (exec (.Assign [.Name x pos'] value pos) env) Q E s := fun Γ p hΓ hc => by
  simp only [exec_Assign_Name env x pos' value pos hs, Sem.wp_bind', Sem.wp_cmd_standAt, Sem.wp_bindName, Sem.wp_pure']
  exact Sem.wp_mono M Γ _ (fun v _ s₁ h₁ => h₁ Γ _ hΓ hc) (fun _ _ _ h' => h') _ _ (h Γ _ hΓ hc)
theorem wpC_isTrue_Compare1 {l r : Expr} {op : CmpOp} {pos : Pos} {whole : Sem Value} {Q : Bool → Shared → Prop}
    (h : wpC M A (eval l env) (fun a s₁ => wpAny M A (eval r env) (fun b s₂ => wpAny M A (compareOp op a b) (fun c s₃ => wpAny M A (truthy c) Q E s₃) E s₂) E s₁) E s) (hm : behindInMarks op r = false) :
    wpC M A (isTrue (.Compare l [op] [r] pos) env whole) Q E s := fun Γ p hΓ hc => by
  simp only [isTrue_Compare1, markedBehindIn_of_false hm, Sem.wp_bind', Sem.wp_holding, Sem.wp_cmd_standAt, Sem.wp_operate]
  exact Sem.wp_mono M Γ _ (fun a p₁ s₁ h₁ => Sem.wp_mono M Γ _ (fun b _ s₂ h₂ => Sem.wp_mono M Γ _ (fun c p₃ s₃ h₃ => h₃ Γ p₃ hΓ)
    (fun _ _ _ h' => h') _ _ (h₂ Γ _ hΓ)) (fun _ _ _ h' => h') _ _ (h₁ Γ p₁ hΓ)) (fun _ _ _ h' => h') _ _ (h Γ p hΓ hc)
theorem wpC_Call_Name {x : Str} {p pos : Pos} {args : List Expr} {Q : Value → Shared → Prop}
    (h : wpAny M A (eval (.Name x p) env) (fun f s₁ => wpC M A (callWith pos f [] (backTo pos (starEach args env)) []) Q E s₁) E s) : wpC M A (eval (.Call (.Name x p) args [] pos) env) Q E s := wpC_bind (wpC_of h)
theorem wpC_callWith_of {P : Heap → Prop} {pos : Pos} {f : Value} {first : List Value} {args : List (Bool × Sem Value)} {keywords : List (Option Str × Sem Value)} {Q : Value → Shared → Prop} (hplain : (args.any (·.1) || keywords.any (·.1.isNone)) = false)
    (hk : ∀ h, P h → ∃ k, (k = Keeper.frame ∨ k = Keeper.machine ∨ k = Keeper.boundFrame) ∧ Looks M h (keeperOf f) k)
    (h : wpAny M A (evalArgs f true args keywords) (fun a s₁ => P s₁.heap ∧ wpC M A (call f (first ++ a.pos) a.kw) Q E s₁) E s) : wpC M A (callWith pos f first args keywords) Q E s := by
  unfold callWith
  refine wpC_bind (wpC_holding (wpC_of (wpAny_mono h (fun a s₁ h₁ => wpC_bind (wpC_of (wpAny_standAt ?_))) fun _ _ x => x)))
  obtain ⟨k, hk', L⟩ := hk _ h₁.1
  simp only [hplain]
  refine wpC_bind (wpC_of (L.here ?_))
  have tail : ∀ {t : Sem Value}, wpC M A t Q E s₁ → wpC M A (t >>= fun r => holding [r] point >>= fun _ => pure r) Q E s₁ :=
    fun ht => wpC_bind (wpC_mono ht (fun r s₂ hr => wpC_of (wpAny_bind (wpAny_holding (wpAny_point (wpAny_pure hr))))) fun _ _ x => x)
  have marked (mk : Value) : wpC M A (callMarked mk f (first ++ a.pos) a.kw) Q E s₁ := by unfold callMarked; exact wpC_keep h₁.2
  rcases hk' with rfl | rfl | rfl <;> dsimp only <;> first | exact tail h₁.2 | (split <;> first | exact tail h₁.2 | exact tail (marked _))
theorem wpC_callWith_type {pos : Pos} {T : String} {first : List Value} {args : List (Bool × Sem Value)} {Q : Value → Shared → Prop} (hplain : args.any (·.1) = false)
    (h : wpAny M A (evalArgs (.type T) true args []) (fun a s₁ => wpC M A (call (.type T) (first ++ a.pos) a.kw) Q E s₁) E s) : wpC M A (callWith pos (.type T) first args []) Q E s := by
  unfold callWith
  refine wpC_bind (wpC_holding (wpC_of (wpAny_mono h (fun a s₁ h₁ => wpC_bind (wpC_of (wpAny_standAt ?_))) fun _ _ x => x)))
  simp only [hplain, List.any_nil, Bool.or_false]
  refine wpC_bind (wpC_of (wpAny_pure ?_))
  exact wpC_bind (wpC_mono h₁ (fun r s₂ hr => wpC_of (wpAny_bind (wpAny_holding (wpAny_point (wpAny_pure hr))))) fun _ _ x => x)
end
section
variable {prog : Program} {w : World} {A : Around} {E : Value → Shared → Prop} {s : Shared} {env : Env} {R : Result → Shared → Prop}
theorem wpC_Try_except {body : List Stmt} {h₀ : ExceptHandler} {hs : List ExceptHandler} {pos : Pos} {Q : Flow → Shared → Prop}
    (h : wpC (model prog w) A (execs body env) (fun f s₁ => match f with | .next => False | f => Q f s₁)
      (fun e s₁ => wpAny (model prog w) A (noteFrame e env) (fun _ s₂ => wpAny (model prog w) A (setFlight e none) (fun _ s₃ => wpAny (model prog w) A (handleBy e env (h₀ :: hs)) Q E s₃) E s₂) E s₁) s) :
    wpC (model prog w) A (exec (.Try body (h₀ :: hs) [] [] pos) env) Q E s := by
  rw [arm_exec_Try]
  refine wpC_bind (wpC_of (wpAny_standAt ?_))
  unfold tryStmt
  simp only [List.isEmpty_nil, if_true, List.isEmpty_cons, Bool.false_and, Bool.false_eq_true, if_false]
  refine wpC_bind (wpC_attempt (wpC_mono h (fun f s₁ h₁ => ?_) fun e s₁ h₁ => ?_))
  · cases f <;> first | exact h₁.elim | exact wpC_of (wpAny_pure h₁)
  · exact wpC_of (wpAny_bind (wpAny_mono h₁ (fun _ _ h₂ => wpAny_bind h₂) fun _ _ x => x))
theorem codeC_func {body : List Stmt}
    (h : wpC (model prog w) (A.deeper env) (execs body env) (fun f s' => R (.ok (.ret (match f with | .ret v => v | _ => .none))) s')
      (fun e s' => wpAny (model prog w) (A.deeper env) (leaving env e) (fun _ s'' => R (.error e) s'') (fun e' s'' => R (.error e') s'') s') s) :
    codeC (model prog w) A (.func body env) R s := by
  refine codeC_of_tree ?_
  show wpC _ (A.deeper env) (do point; match ← (execs body env).onRaise (leaving env) with | .ret v => ret v | _ => ret .none) _ _ s
  refine wpC_bind (wpC_of (wpAny_point (wpC_bind (wpC_onRaise (wpC_mono h (fun f s' h' => ?_) fun _ _ h' => wpC_of h')))))
  cases f <;> exact wpC_of (wpAny_pure h')
theorem codeC_call_function {a : Addr} {args : Args} {o : Obj} {fd : FuncData} {body : List Stmt} (hroom : A.depth < recursionLimit)
    (ho : s.heap.get? a = some o)
    (hd' : o.data = .func fd) (hco : fd.scope.isCoroutine = false) (hgen : fd.scope.isGenerator = false) (hbody : fd.body = .stmts body) (hcd : s.heap.CodeRec fd.code fd.qualname)
    (h : wpAny (model prog w) A.in1 (bindArgs fd args) (fun binds s₁ =>
      wpAny (model prog w) A.in1 (newFunctionEnv fd.scope fd.globals fd.closure binds (fd.qualname ++ ".<locals>.") (some a) fd.code none fd.builtins)
        (fun env s₂ => s₂.heap.NoLimit ∧ codeC (model prog w) A (.func body env) R s₂) (fun e s' => R (.error e) s') s₁) (fun e s' => R (.error e) s') s) :
    codeC (model prog w) A (.call (.ref a) args) R s := by
  refine codeC_of_tree (wpC_of ?_)
  show wpAny _ A.in1 (callAny (.ref a) args) _ _ s
  simp only [callAny]
  refine wpAny_bind (wpAny_load ho ?_)
  obtain ⟨c, oc, vs, tq, hc, hoc, hdc, hq⟩ := hcd
  simp only [hd', callFunction, hco, hgen, hbody, hc]
  rw [hc] at h
  refine wpAny_bind (m := field (.ref c) 1) (wpAny_field hoc hdc hq (wpAny_bind (wpAny_pure ?_)))
  exact wpAny_bind (wpAny_mono h (fun binds s₁ h₁ => wpAny_bind (wpAny_mono h₁ (fun env s₂ h₂ => wpAny_bind (wpAny_enterFrame h₂.1 hroom
    (wpAny_pure (And.intro rfl h₂.2)))) fun _ _ h' => h')) fun _ _ h' => h')
end
end
section
open PySem.NumText
structure ExSC (C : Cx) (A : Around) (env : En) (S : PS) (st : Stmt) (S' : PS) (fl : PFl) : Prop where
  run : ∀ (s : Shared) (F : Fz) (M : Mz), Rep C env F M S s.heap → ∀ (Q : Flow → Shared → Prop) (E : Value → Shared → Prop), After C env F M s S' fl Q → wpC (model C.prog C.w) A (exec st env.e) Q E s
structure ExAC (C : Cx) (A : Around) (env : En) (S : PS) (st : List Stmt) (S' : PS) (fl : PFl) : Prop where
  run : ∀ (s : Shared) (F : Fz) (M : Mz), Rep C env F M S s.heap → ∀ (Q : Flow → Shared → Prop) (E : Value → Shared → Prop), After C env F M s S' fl Q → wpC (model C.prog C.w) A (execs st env.e) Q E s
structure EvXC (C : Cx) (A : Around) (env : En) (S : PS) (e : Expr) (d : PV) : Prop where
  run : ∀ (s : Shared) (F : Fz) (M : Mz), Rep C env F M S s.heap → ∀ (Q : Value → Shared → Prop) (E : Value → Shared → Prop), (∀ v h' tk F', GrowL C env.e.locals F s.heap F' h' → Rep C env F' M S h' → Is F' v d → Q v { s with heap := h', toks := tk }) → wpC (model C.prog C.w) A (eval e env.e) Q E s
structure TsXC (C : Cx) (A : Around) (env : En) (S : PS) (e : Expr) (b : Bool) : Prop where
  run : ∀ (s : Shared) (F : Fz) (M : Mz), Rep C env F M S s.heap → ∀ (Q : Bool → Shared → Prop) (E : Value → Shared → Prop), (∀ h' tk F', GrowL C env.e.locals F s.heap F' h' → Rep C env F' M S h' → Q b { s with heap := h', toks := tk }) → wpC (model C.prog C.w) A (isTrue e env.e (eval e env.e)) Q E s
noncomputable def FnOkXC (C : Cx) (f : Addr) (k : Nat) (args : List PV) (d : PV) : Prop :=
  ∀ (A : Around) (s : Shared) (F : Fz) (M : Mz) (vs : List Value), Wd C F M s.heap → AOk A k → ChainOk C A → IsAll F vs args → ∀ (Q : Value → Shared → Prop) (E : Value → Shared → Prop), (∀ v h' tk F', Grow C F s.heap F' h' → Is F' v d → Q v { s with heap := h', toks := tk }) → wpC (model C.prog C.w) A (call (.ref f) vs) Q E s
structure RaAC (C : Cx) (A : Around) (env : En) (S : PS) (st : List Stmt) (cls : Value) : Prop where
  run : ∀ (s : Shared) (F : Fz) (M : Mz), Rep C env F M S s.heap → ∀ (Q : Flow → Shared → Prop) (E : Value → Shared → Prop), (∀ e h₂ h' tk F' M' S' m t, Stp F M s.heap F' M' h₂ → Rep C env F' M' S' h₂ → Heap.MadeExcOf h₂ h' e cls [.str m t] → E (.ref e) { s with heap := h', toks := tk }) → wpC (model C.prog C.w) A (execs st env.e) Q E s
noncomputable def FnRaiseC (C : Cx) (f : Addr) (k : Nat) (args : List PV) (cls : Value) : Prop :=
  ∀ (A : Around) (s : Shared) (F : Fz) (M : Mz) (vs : List Value) (ch : List Env), Wd C F M s.heap → AOk A k → A.frames = some ch → FrOk C ch → IsAll F vs args → ∀ (Q : Value → Shared → Prop) (E : Value → Shared → Prop), (∀ e h' tk F' m, Flew C ch F s F' e cls [.str m] h' → E (.ref e) { s with heap := h', toks := tk }) → wpC (model C.prog C.w) A (call (.ref f) vs) Q E s
section
variable {C : Cx} {env : En} {F F' F'' : Fz} {M M' M'' : Mz} {h h' h'' : Heap} {S S' S'' S₁ : PS} {A : Around} {s : Shared} {E : Value → Shared → Prop} {k : Nat} {st : Stmt} {rest : List Stmt} {fl : PFl} {pos : Pos}
  {f : Addr} {fd : FuncData} {body : List Stmt} {ns ow : List Str} {cls : Value}
theorem exC_of (x : ExS C A env S st S' fl) : ExSC C A env S st S' fl := .mk fun s F M R Q E a => wpC_of (x.run s F M R Q E a)
theorem eaC_of {b : List Stmt} (x : ExA C A env S b S' fl) : ExAC C A env S b S' fl := .mk fun s F M R Q E a => wpC_of (x.run s F M R Q E a)
theorem eaC_cons (x : ExSC C A env S st S' .next) (y : ExAC C A env S' rest S'' fl) : ExAC C A env S (st :: rest) S'' fl := .mk fun s F M R Q E a =>
  wpC_execs_cons (x.run s F M R _ _ fun fv h' tk F' M' sp R' i => by
    cases fv with
    | next => exact y.run { s with heap := h', toks := tk } F' M' R' Q E (a.step sp)
    | _ => exact i.elim)
theorem eaC_next (x : ExS C A env S st S' .next) (y : ExAC C A env S' rest S'' fl) : ExAC C A env S (st :: rest) S'' fl := eaC_cons (exC_of x) y
theorem eaC_stop {d : PV} (x : ExSC C A env S st S' (.ret d)) : ExAC C A env S (st :: rest) S' (.ret d) := .mk fun s F M R Q E a =>
  wpC_execs_cons (x.run s F M R _ _ fun fv h' tk F' M' sp R' i => by
    cases fv with
    | ret v => exact a (.ret v) h' tk F' M' sp R' i
    | _ => exact i.elim)
theorem exC_if {t : Expr} {b : Bool} {body orelse : List Stmt} (x : TsXC C A env S t b) (y : ExAC C A env S (if b then body else orelse) S' fl) : ExSC C A env S (.If t body orelse pos) S' fl := .mk fun s F M R Q E a =>
  wpC_If (x.run s F M R _ _ fun h' tk F' sp R' => by
    have z := y.run { s with heap := h', toks := tk } F' M R' Q E (a.step (sp.stp R))
    cases b <;> exact z)
theorem tsC_cmp (AO : AOk A k) {op : CmpOp} {l r : Expr} {a b : PV} {c : Bool} {p : Pos} (x : EvXC C A env S l a) (y : EvS C A env S r b) (e : Cm op a b c) (hm : behindInMarks op r = false) : TsXC C A env S (.Compare l [op] [r] p) c := .mk fun s F M R Q E kk =>
  wpC_isTrue_Compare1 (x.run s F M R _ _ fun va h' tk F' sp R' i => y.run { s with heap := h', toks := tk } F' M R' _ _ fun vb h2 tk2 F2 g j => e.run (s := { s with heap := h2, toks := tk2 }) (R'.toWd.grow g) AO (i.mono g.mono) j (wpAny_truthy_bool (kk h2 tk2 F2 (sp.trans' R' (.of g)) (R'.grow g)))) hm
theorem tsC_val {e : Expr} {d : PV} {b : Bool} (x : EvXC C A env S e d) (ht : truth d = some b) (he : ∀ (en : Env) (w : Sem Value), isTrue e en w = (do let v ← w; standAt e.pos; holding [v] (truthy v))) : TsXC C A env S e b := .mk fun s F M R Q E kk => by
  rw [he]
  exact wpC_bind (x.run s F M R _ _ fun v h' tk F' sp R' i => wpC_of (wpAny_bind (wpAny_standAt (wpAny_holding (truth_sound ht i (kk h' tk F' sp R'))))))
theorem evC_call (O : C.Ok) (AO : AOk A k) (ch : ChainB C A env.e.locals) {x : Str} {f : Addr} {es : List Expr} {ds : List PV} {d : PV} {p pos : Pos} (e : C.glob x = some (.ref f)) (hk : env.e.kindOf x = some .globalImplicit) (hd : (x == ("__debug__" : Str)) = false)
    (hkeep : keepIn C.K (.ref f) = true) (xs : EvAll C A env S es ds) (ok : ∀ o, FnOkXC (C.add env.e.locals o) f k ds d) : EvXC C A env S (.Call (.Name x p) es [] pos) d := .mk fun s F M R Q E kk => by
  refine wpC_Call_Name ((ev_glob O (pos := p) e hk hd).run s F M R _ _ fun v h' tk F' g i => ?_)
  obtain rfl := isRaw i
  have R' := R.grow g
  refine wpC_callWith_of (P := fun h => C.K.In h) (by rw [xs.plain]; rfl) (keeps_K hkeep) (xs.args (s := { s with heap := h', toks := tk }) R' fun vs h2 tk2 F2 g2 i2 => ?_)
  have R2 := R'.grow g2
  obtain ⟨o, ho⟩ := R2.ownAt
  have hn : ∀ vs, o.data ≠ .fields vs := by obtain ⟨m, hn, _⟩ := R2.vars; exact ns_plain hn ho
  refine ⟨R2.toWd.kin O, ok o A { s with heap := h2, toks := tk2 } F2 _ vs (enter R2 ho) AO (ch.add R2.own_out hn) i2 Q E fun v h3 tk3 F3 g3 i3 => ?_⟩
  obtain ⟨R3, sp⟩ := leave R2 ho g3
  exact kk v h3 tk3 F3 ((GrowL.of (g.trans g2)).trans' R2 sp) R3 i3
theorem call_inC (O : C.Ok) (FI : FnIn C f fd body ns ow) (AO : AOk A (k + 1)) (W : Wd C F M s.heap) {vs : List Value} {ps : List PVar} (i : ParsIs F vs ps) (hlen : vs.length = ns.length) {R : Result → Shared → Prop}
    (H : ∀ h₁ tk L M₁, AOk (A.deeper (callEnvC fd L f)) k → Rep C ⟨callEnvC fd L f, ow⟩ F M₁ (zipP ns ps) h₁ → Grow C F s.heap F h₁ → MD C s.heap M₁ →
      wpC (model C.prog C.w) (A.deeper (callEnvC fd L f)) (execs body (callEnvC fd L f)) (fun fv s' => R (.ok (.ret (match fv with | .ret v => v | _ => .none))) s')
        (fun e s' => wpAny (model C.prog C.w) (A.deeper (callEnvC fd L f)) (leaving (callEnvC fd L f) e) (fun _ s'' => R (.error e) s'') (fun e' s'' => R (.error e') s'') s') { s with heap := h₁, toks := tk }) :
    codeC (model C.prog C.w) A (.call (.ref f) ⟨vs, []⟩) R s := by
  obtain ⟨oc, od, sl, ho⟩ := FI.at_
  have X := W.kin O
  have hlim := O.nolimit.keeps W.baseH
  refine codeC_call_function (by have := AO.depth; lia) (X _ _ ho) rfl FI.co FI.gen FI.body (codeRec_of X FI.code) ?_
  rw [FI.bind vs hlen, FI.clo]
  refine wpAny_pure (wpAny_newFunctionEnv_cells FI.kind (fun p hp => ?_) fun env he s' I => ?_)
  · rcases FI.par p.1 (List.of_mem_zip hp).1 with q | ⟨q1, q2⟩
    · exact .inl q
    · exact .inr ⟨q1, q2 _⟩
  · subst he
    refine ⟨hlim.keeps I.toInCall.keep, codeC_func ?_⟩
    obtain ⟨h₁, tk, M₁, rfl, R, g, md⟩ := call_rep (ow := ow) FI W i I
    exact H h₁ tk s.heap.objs.size M₁ (AO.deeper _) R g md
theorem fn_okXC (O : C.Ok) (FI : FnIn C f fd body ns ow) {ds : List PV} {d : PV} (hlen : ds.length = ns.length)
    (B : ∀ A L, AOk A k → ChainB C A L → (∃ ch, A.frames = some ((calleeEn fd ow L f).e :: ch)) → ∃ S', ExAC C A (calleeEn fd ow L f) (zipP ns (ds.map .val)) body S' (.ret d)) : FnOkXC C f (k + 1) ds d := fun A s F M vs W AO hch i Q E kk => by
  refine wpC_call (call_inC O FI AO W i.pars (by rw [i.length]; exact hlen) fun h₁ tk L M₁ AO' R g md => ?_)
  obtain ⟨ch, h1, h2⟩ := hch
  have hf : (A.deeper (callEnvC fd L f)).frames = some (callEnvC fd L f :: ch) := by show A.frames.map _ = _; rw [h1]; rfl
  have hB : ChainB C (A.deeper (callEnvC fd L f)) L := ⟨callEnvC fd L f, ch, hf, by show fd.scope.kind ≠ _; rw [FI.kind]; decide, rfl, h2⟩
  obtain ⟨S', x⟩ := B _ L AO' hB ⟨ch, hf⟩
  refine x.run { s with heap := h₁, toks := tk } F M₁ R _ _ fun fv h' tk' F' M' sp R' j => ?_
  obtain ⟨g', _⟩ := g.inner sp md R'.toWd
  cases fv with
  | ret v => exact kk v h' tk' F' g' j
  | _ => exact j.elim
theorem raC_cons (x : ExS C A env S st S' .next) (y : RaAC C A env S' rest cls) : RaAC C A env S (st :: rest) cls := .mk fun s F M R Q E a =>
  wpC_execs_cons (wpC_of (x.run s F M R _ _ fun fv h' tk F' M' sp R' i => by
    cases fv with
    | next => exact y.run { s with heap := h', toks := tk } F' M' R' Q E fun e h₂ h3 tk3 F3 M3 S3 m t sp3 R3 md => a e h₂ h3 tk3 F3 M3 S3 m t (sp.trans sp3) R3 md
    | _ => exact i.elim))
theorem raC_int (O : C.Ok) (AO : AOk A k) {y x : Str} {py np cpos : Pos} {e : Expr} {b : Str} (hg : C.glob x = some (.type "int")) (hk : env.e.kindOf x = some .globalImplicit) (hd : (x == ("__debug__" : Str)) = false)
    (xs : EvAll C A env S [e] [.str b]) (hl : b.length ≤ 640) (hn : PySem.intText? b = none) (hr : (int_private% "readNumeral") 0 10 (numSeenOf b) = int_private% "Numeral.invalid") (hx : (reprText b).length ≤ 4000)
    (hs : swapsWith (.Call (.Name x np) [e] [] cpos) (some (.Name y py)) pos.line env.e = pure false) :
    RaAC C A env S (.Assign [.Name y py] (.Call (.Name x np) [e] [] cpos) pos :: rest) (.type "ValueError") := .mk fun s F M R Q E a => by
  refine wpC_execs_cons (wpC_Assign_Name (wpC_Call_Name ((ev_glob O (pos := np) hg hk hd).run s F M R _ _ fun v h' tk F' g i => ?_)) hs)
  obtain rfl := isRaw i
  have R' := R.grow g
  refine wpC_callWith_type xs.plain (xs.args (s := { s with heap := h', toks := tk }) R' fun vs h2 tk2 F2 g2 i2 => ?_)
  have R2 := R'.grow g2
  cases i2 with
  | cons i2 r =>
    cases r
    obtain ⟨u, rfl⟩ := isStr i2
    exact call_int_bad (s := { s with heap := h2, toks := tk2 }) AO.hh hl hn hr hx fun ea h3 tk3 m t mk => a ea h2 h3 tk3 F2 M S m t ((g.trans g2).stp R.toWd) R2 mk.of
end
end
section
open Sem (wp)
noncomputable abbrev ctx0 : PySem.Ctx := ⟨.builtin "claim.caller" {}, none, none, [], none⟩
theorem cal0 : Cal ctx0 := fun p => by
  show ([((Code.builtin "claim.caller" {} : Code), p)].any fun c => c.1.isCaller) = true
  rfl
theorem ends_C {prog : Program} {w : World} {t : Sem PySem.Fin} {s : Shared} {R : Result → Shared → Prop} (hreg : s.asleep)
    (h : wpC (model prog w) callerA t (fun fin s' => ∃ f, fin = .done f ∧ (R (.ok f) s' ∧ leftWithCleanup s'.gens = false)) (fun e s' => R (.error e) s' ∧ leftWithCleanup s'.gens = false) s) :
    ∃ n r s' s'', runN (denote table) prog w n s ⟨t, .builtin "claim.caller" {}, default, []⟩ = .halted (outcomeOf r) s' ∧
      schedN (denote table) prog w n (.single s ⟨t, .builtin "claim.caller" {}, default, []⟩) = .halted (outcomeOf r) s' ∧ s'.forget = s''.forget ∧ R r s'' := by
  have h' := Sem.wp_mono (model prog w) ctx0 t (post' := Sem.finPost (model prog w) ctx0 (fun r s' => R r s' ∧ leftWithCleanup s'.gens = false)) (fun fin p' s' q => by obtain ⟨f, rfl, q⟩ := q; exact q) (fun _ _ _ q => q) default s (h ctx0 default caller_in cal0)
  obtain ⟨n, r, s₁, s₂, hs, hn, hfo, hR⟩ := wp_halts_full (M := model prog w) (R := R) hreg h'
  exact ⟨n, r, s₂, s₁, hn, hs, hfo, hR⟩
theorem from_C {c : ClaimW} {tree : List Value → Sem PySem.Fin} {w : World} {s : Shared} {free : Addr → Prop} {gens : Prop} {kept : Heap → Prop} (hz : s.asleep) (hgens : s.gens = #[])
    (spec : ∀ args, c.pre args = true → WData.layableAll args = true → ∀ ord : List DictEntry → List DictEntry, (∀ l, (ord l).Perm l) → ∃ vs s₁, layAllW c.records (classAt s.heap) w.params ord args s = some (vs, s₁) ∧
        wpC (model c.prog w) callerA (tree vs) (fun fin s' => ∃ f, fin = .done f ∧ (c.Ends s args vs s₁ (.ok f) s' ∧ s'.os = s.os ∧ AllBare s'.gens ∧ kept s'.heap)) (fun e s' => c.Ends s args vs s₁ (.error e) s' ∧ s'.os = s.os ∧ AllBare s'.gens ∧ kept s'.heap) s₁) :
    c.CallFrom (fun vs => ⟨tree vs, .builtin "claim.caller" {}, default, []⟩) w free gens kept s := fun args hpre hlay ord hord => by
  refine Classical.byContradiction fun hne => ?_
  obtain ⟨vs, s₁, hlaid, hcode⟩ := spec args hpre hlay ord hord
  have hal := layAllW_rest _ _ _ hlaid
  obtain ⟨k, r, s', s'', hrun, hsched, hfo, hR⟩ := ends_C (prog := c.prog) (w := w) (t := tree vs) (s := s₁) (R := fun r s' => c.Ends s args vs s₁ r s' ∧ s'.os = s.os ∧ kept s'.heap) (Shared.asleep_of_life hal.2.2.2 hz)
    (wpC_mono hcode (fun fin s' q => by obtain ⟨f, e, h1, h2, h3, h4⟩ := q; exact ⟨f, e, ⟨h1, h2, h4⟩, leftWithCleanup_false_of_bare h3⟩) fun e s' q => ⟨⟨q.1, q.2.1, q.2.2.2⟩, leftWithCleanup_false_of_bare q.2.2.1⟩)
  obtain ⟨eh, _, _, eo, _⟩ := Shared.forget_eq hfo
  obtain ⟨hcase, hos, hkp⟩ := hR
  have hcase := hcase.congr eh
  have hkp : kept s'.heap := by rw [eh]; exact hkp
  rw [← eo] at hos
  exact hne ⟨vs, s₁, hlaid, k, _, s', hsched, hcase.imp (Exists.imp fun v => And.imp (fun q => by rw [q]; rfl) (And.imp_right (And.imp_right (And.imp_right (And.imp_left fun d4 b o y _ => d4 b o y)))))
    (Exists.imp fun e => Exists.imp fun ob => Exists.imp fun cls => And.imp (fun q => by rw [q]; rfl) (And.imp_right (And.imp_right (And.imp_right (And.imp_right fun d5 b o y _ => d5 b o y))))), (fun _ i x hx => by rw [hgens] at hx; simp at hx), hkp, by rw [(runN_life _ _ _ hrun).trans hal.2.2.2], Shared.rest_eq hos⟩
noncomputable abbrev WalkC (q : Program) (loose : List Str) (XP : (Str → Option Value) → Heap → Prop) (YP : World → Heap → Prop) (r : RowW) (d : DefRec) (kwd : List (Str × Expr)) (run : Value → List Value → Sem Value) : Prop :=
  ∀ (w : World) (s₀ s₁ : Shared) (mg mb : Str → Option Value), Ground q loose r.records XP w s₀ mg mb s₁.heap → YP w s₁.heap → ∀ (a : Addr) (o : Obj) (pm cd doc dV kV : Value), s₁.heap.get? a = some o →
    o.data = .func { docDef d.name d.params d.body d.scope pm cd doc with defaults := dV, kwdefaults := kV } → s₁.heap.CodeRec cd d.name → Dflts mg s₁.heap d.params kwd dV kV → mg d.name = some (.ref a) → s₁.gens = #[] →
    ∀ (args : List WData) (vals : List Value) (as : List Addr), r.claim.pre args = true → WData.layableAll args = true → ReadsAllW r.records (classAt s₀.heap) s₁.heap vals args as → WellAll w.params s₁.heap vals args → (∀ a ∈ as, (a == sysModules) = false) →
      wpC (model r.prog w) callerA (run (.ref a) vals) (fun v s' => GoodWG r.claim (classAt s₀.heap) (ExcName.means s₀.heap) args s₁ (.ok (.ret v)) s')
        (fun e s' => GoodWG r.claim (classAt s₀.heap) (ExcName.means s₀.heap) args s₁ (.error e) s') s₁
theorem PySem.W.holds_open {r : OpenRow} {q : Program} {loose : List Str} {Xt : Shared → Bool} {XP : (Str → Option Value) → Heap → Prop} {α : Type} {Yf : Shared → α} {Ya : World → α} {YP : World → Heap → Prop} {d : DefRec} {kwd : List (Str × Expr)} {N : Nat}
    (left : LeftO r.prog q loose Xt Yf Ya N) (hY : ∀ w s, Yf s = Ya w → YP w s.heap) (hYk : ∀ w h h', YP w h → (∀ b o, h.get? b = some o → h'.get? b = some o) → YP w h')
    (hX : ∀ s, Xt s = true → XP (s.heap.nsMap mainGlobals) s.heap) (hXk : ∀ mg h h', XP mg h → (∀ b o, h.get? b = some o → h'.get? b = some o) → XP mg h')
    (hdef : defOf q r.name = some (d, kwd)) (hp : r.prog.theDef r.name = some (d.params, d.body, d.scope)) (hk : kwWritten? d.params.kwonlyargs d.params.kw_defaults = some kwd) (hRf : ∀ s, Xt s = true → RecFacts r.records s.heap) (hwr : (!r.writes || r.records.isEmpty) = true)
    (k1 : r.wellSaid = true) (ok : (chainsOk q && opensWell r.prog && (frees r.toRowW && r.within.isEmpty)) = true) (hb : r.prog.bare) (hw : r.toRowW.promised)
    (call : WalkC q loose XP YP r.toRowW d kwd fun f vs => PySem.call f vs) : r.Holds := by
  obtain ⟨ok1, k5⟩ := Bool.and_eq_true_iff.mp ok
  obtain ⟨hch, o1⟩ := Bool.and_eq_true_iff.mp ok1
  obtain ⟨k5, k6⟩ := Bool.and_eq_true_iff.mp k5
  obtain ⟨hsame, hu, ha, hap, hm⟩ := frees_parts k5
  have hi := ident_freeW hu ha hap
  have hwi : r.toRowW.claim.within = [] := List.isEmpty_iff.mp k6
  refine ⟨k1, hw, ⟨hb, o1, by show r.toRowW.makers.map _ = []; rw [hm]; rfl⟩, hw.witness, fun w => ⟨(left.behind hX hch w).1, fun s' hs' => Classical.byContradiction fun hne => ?_⟩⟩
  obtain ⟨s₀, hf, hg0, s, hT, hz, hgens, hg, G00, y⟩ := (left.behind (XP := fun mg h => XP mg h ∧ RecFacts r.records h) (fun s hs => ⟨hX s hs, hRf s hs⟩) hch w).2 s' hs'
  have G0 : Ground q loose [] XP w s (s.heap.nsMap mainGlobals) (s.heap.nsMap builtinsNs) s.heap := ⟨G00.T, G00.B, G00.D, G00.TE, G00.TD, G00.W, G00.X.1, G00.cls, G00.has, G00.apart, G00.once, G00.K⟩
  have RF := G00.X.2
  have hgens : s.gens = #[] := Array.eq_empty_of_size_eq_zero (beq_iff_eq.mp hgens)
  have hT' := hT
  refine hne ⟨s₀, hf, hg0, s, hT, fun n hn => ?_, RF.1, RF.2.1, ?_⟩
  · obtain rfl : n = r.name := by split at hn <;> simp_all
    exact pinned_of_view hg G0 hdef hp hk
  have G : Ground q loose r.records XP w s _ _ s.heap := RF.ground G0
  refine from_C (c := r.toRowW.claim) (tree := fun vs => do match ← nsGet mainNs r.name with
      | some f => do ret (← PySem.call f vs)
      | none => unsupported "claim.caller:no-such-global") hz hgens fun args hpre hlay ord hord => Classical.byContradiction fun hne => ?_
  obtain ⟨⟨vs, s₁⟩, hlaid⟩ := Option.isSome_iff_exists.mp (layAllW_isSome (P := w.params) (ord := ord) G.has args r.args s (pre_splitW hpre).1)
  have keeps := layAllW_keeps _ _ _ hlaid
  have hal := layAllW_rest _ _ _ hlaid
  obtain ⟨as, hrd, hin, hold⟩ := reads_layAllW hord _ _ _ hlaid hlay s₁.heap (fun _ _ e => e)
  have L : Laid r.records w s s₁ args vs as := ⟨⟨ord, hord, hlaid⟩, hrd, hin, hold, keeps, hal.1.trans hgens, hal.2.2.1⟩
  have G₁ := G.keeps hXk keeps
  obtain ⟨a, o, pm, cd, doc, dV, kV, h1, h2, h3, h4, h5⟩ := G₁.fn hdef
  have W := call w s s₁ _ _ G₁ (hYk _ _ _ (hY w s y) keeps) a o pm cd doc dV kV h2 h3 h4 h5 (defOf_name hdef ▸ h1) L.gens args vs as hpre hlay L.reads L.well (L.low G.low)
  have fin : ∀ res s', GoodWG r.toRowW.claim (classAt s.heap) (ExcName.means s.heap) args s₁ res s' → r.toRowW.claim.Ends s args vs s₁ res s' ∧ s'.os = s.os ∧ AllBare s'.gens ∧ (r.writes = true → namesKept r.prog r.keeps s.heap s'.heap ∧ ∀ x ∈ r.records, ∀ a, classAt s.heap x.1 = some a → recordClass s'.heap a x.1 (x.2.map (·.1)) = true) := fun res s' g =>
    have z := g.laid (c := r.toRowW.claim) hsame hwi hi L
    ⟨z.1, z.2.1, z.2.2, fun q => ⟨namesKept_of hT' hg r.keeps keeps g.2.1.old, noTable hwr q⟩⟩
  refine hne ⟨vs, s₁, hlaid, wpC_bind (wpC_of (wpAny_nsGet G₁.T.g ?_))⟩
  rw [h1]
  exact wpC_bind (wpC_mono W (fun v s' g => wpC_of (wpAny_pure ⟨_, rfl, fin _ _ g⟩)) fun e s' g => fin _ _ g)
end
section
noncomputable def ithS (l : List Stmt) (i : Nat) : Stmt := (l.drop i).headD (.Pass ⟨0, 0, 0, 0⟩)
noncomputable def stN (i : Nat) : Stmt := ithS PySem.Challenge.pw_xb0023_01.main.body i
noncomputable def bodyS : Stmt → List Stmt
  | .FunctionDef _ _ b _ _ _ _ _ _ _ => b
  | .ClassDef _ _ _ b _ _ _ _ _ _ _ => b
  | _ => []
noncomputable def stM (i : Nat) : Stmt := ithS (bodyS (stN 9)) i
noncomputable def nameS : Stmt → Str
  | .FunctionDef n _ _ _ _ _ _ _ _ _ => n
  | _ => ""
noncomputable def argS : Stmt → Arguments
  | .FunctionDef _ a _ _ _ _ _ _ _ _ => a
  | _ => ⟨[], [], none, [], [], none, []⟩
noncomputable def scoS : Stmt → Scope
  | .FunctionDef _ _ _ _ _ _ s _ _ _ => s
  | _ => { kind := .function, names := [], isGenerator := false, isCoroutine := false }
noncomputable def fnO (s : Stmt) (q md : Str) (mt : Nat) (cd : Addr) : Obj :=
  { cls := .type "function", data := .func { name := nameS s, qualname := q, params := argS s, body := .stmts (bodyS s), scope := scoS s, globals := 3, closure := [], defaults := .none, kwdefaults := .none, pyModule := .str md mt, code := .ref cd } }
noncomputable def cdO (n q : Str) (t ln ac a b : Nat) (c d : Value) (e k z : Nat) : Obj :=
  { cls := .type "code", data := .fields #[.str n t, .str q (t + 1), .str "/claim/cut.py" (t + 2), .int ln 0, .int ac 0, .int 0 0, .int 0 0, .int 3 0, .ref a, .bool true, .int 181 0, .ref b, .none, c, d, .ref e, .int k 0, .int ln 0, .str "/claim/cut.py" z] }
noncomputable def ent (P : Params) (x : Str) (t : Nat) (v : Value) : DictEntry := { hash := PyData.keyHash P x, key := .str x t, val := v }
noncomputable def heapK (P : Params) : Frag := [
  (2, { cls := .none, data := .dict #[ent P "type.__subclasses__.Exception.0" 212 (.int 31 0), ent P "type.__subclasses__.Exception.n" 213 (.int 1 0)] 2 }),
  (3, { cls := .type "dict", data := .dict #[ent P "__name__" 165 (.str "law_xb0023_01" 378), ent P "__doc__" 166 (.none), ent P "__package__" 167 (.none), ent P "__loader__" 168 (.builtin "__main__.__loader__#opaque"), ent P "__spec__" 169 (.none), ent P "__annotations__" 170 (.ref 6), ent P "__builtins__" 171 (.ref 4), ent P "__file__" 173 (.str "/claim/cut.py" 172), ent P "__cached__" 174 (.none), ent P "_wall" 193 (.ref 21), ent P "Error" 215 (.ref 31), ent P "error_reply" 231 (.ref 44), ent P "error_proto" 247 (.ref 56), ent P "parse229" 260 (.ref 65), ent P "Int2AP" 272 (.ref 72), ent P "Whitespace" 377 (.ref 134), ent P "_law_draws" 389 (.ref 145), ent P "_law_heard" 398 (.ref 152), ent P "_law_spoilt" 404 (.ref 157), ent P "_law_word" 413 (.ref 164), ent P "_law_number" 422 (.ref 171), ent P "_law_rounds" 441 (.ref 178), ent P "_law_back" 447 (.ref 183), ent P "_law_lead" 453 (.ref 188), ent P "law" 459 (.ref 193)] 25 }),
  (29, { cls := .type "tuple", data := .seq #[] }),
  (30, { cls := .type "dict", data := .dict #[ent P "__module__" 203 (.str "cpy313.ftplib" 194), ent P "__firstlineno__" 207 (.int 5 206), ent P "__static_attributes__" 208 (.ref 29), ent P "__weakref__" 210 (.ref 32), ent P "__doc__" 211 (.none)] 3 }),
  (31, { cls := .type "type", data := .cls { name := "Error", bases := [.type "Exception"], mro := [.ref 31, .type "Exception", .type "BaseException", .type "object"], ns := 30, qualname := "Error", subclasses := [.ref 44, .ref 56] }, slots := #[some (.ref 22), none, some (.str "Error" 196), some (.str "Error" 204), some (.builtin "Exception.__new__"), some (.bool true)] }),
  (32, { cls := .type "getset_descriptor", data := .fields #[.str "__weakref__" 209, .ref 31, .builtin "ExceptionGroup.__weakref__", .none] }),
  (42, { cls := .type "tuple", data := .seq #[] }),
  (43, { cls := .type "dict", data := .dict #[ent P "__module__" 223 (.str "cpy313.ftplib" 194), ent P "__firstlineno__" 227 (.int 7 226), ent P "__static_attributes__" 228 (.ref 42), ent P "__doc__" 229 (.none)] 2 }),
  (44, { cls := .type "type", data := .cls { name := "error_reply", bases := [.ref 31], mro := [.ref 44, .ref 31, .type "Exception", .type "BaseException", .type "object"], ns := 43, qualname := "error_reply" }, slots := #[some (.ref 35), none, some (.str "error_reply" 216), some (.str "error_reply" 224), some (.builtin "Exception.__new__"), some (.bool true)] }),
  (54, { cls := .type "tuple", data := .seq #[] }),
  (55, { cls := .type "dict", data := .dict #[ent P "__module__" 239 (.str "cpy313.ftplib" 194), ent P "__firstlineno__" 243 (.int 9 242), ent P "__static_attributes__" 244 (.ref 54), ent P "__doc__" 245 (.none)] 2 }),
  (56, { cls := .type "type", data := .cls { name := "error_proto", bases := [.ref 31], mro := [.ref 56, .ref 31, .type "Exception", .type "BaseException", .type "object"], ns := 55, qualname := "error_proto" }, slots := #[some (.ref 47), none, some (.str "error_proto" 232), some (.str "error_proto" 240), some (.builtin "Exception.__new__"), some (.bool true)] }),
  (64, cdO "parse229" "parse229" 248 11 2 59 60 (.ref 61) (.ref 62) 63 258 259),
  (65, fnO (stN 5) "parse229" "cpy313.ftplib" 194 64),
  (71, cdO "Int2AP" "Int2AP" 263 29 1 66 67 (.ref 68) (.ref 69) 70 270 271),
  (72, fnO (stN 7) "Int2AP" "cpy313.imaplib" 261 71),
  (88, cdO "__init__" "Whitespace.__init__" 292 41 2 83 84 (.ref 85) (.ref 86) 87 304 305),
  (89, fnO (stM 1) "Whitespace.__init__" "cpy313.tabnanny" 273 88),
  (95, cdO "longest_run_of_spaces" "Whitespace.longest_run_of_spaces" 307 64 1 90 91 (.ref 92) (.ref 93) 94 313 314),
  (96, fnO (stM 2) "Whitespace.longest_run_of_spaces" "cpy313.tabnanny" 273 95),
  (102, cdO "indent_level" "Whitespace.indent_level" 316 68 2 97 98 (.ref 99) (.ref 100) 101 325 326),
  (103, fnO (stM 3) "Whitespace.indent_level" "cpy313.tabnanny" 273 102),
  (109, cdO "equal" "Whitespace.equal" 328 75 2 104 105 (.ref 106) (.ref 107) 108 333 334),
  (110, fnO (stM 4) "Whitespace.equal" "cpy313.tabnanny" 273 109),
  (116, cdO "not_equal_witness" "Whitespace.not_equal_witness" 336 78 2 111 112 (.ref 113) (.ref 114) 115 344 345),
  (117, fnO (stM 5) "Whitespace.not_equal_witness" "cpy313.tabnanny" 273 116),
  (123, cdO "less" "Whitespace.less" 347 86 2 118 119 (.ref 120) (.ref 121) 122 354 355),
  (124, fnO (stM 6) "Whitespace.less" "cpy313.tabnanny" 273 123),
  (130, cdO "not_less_witness" "Whitespace.not_less_witness" 357 97 2 125 126 (.ref 127) (.ref 128) 129 362 363),
  (131, fnO (stM 7) "Whitespace.not_less_witness" "cpy313.tabnanny" 273 130),
  (132, { cls := .type "tuple", data := .seq #[.str "is_simple" 365, .str "n" 366, .str "norm" 367, .str "nt" 368, .str "raw" 369] }),
  (133, { cls := .type "dict", data := .dict #[ent P "__module__" 282 (.str "cpy313.tabnanny" 273), ent P "__firstlineno__" 286 (.int 38 285), ent P "S" 290 (.str " " 288), ent P "T" 291 (.str "\t" 289), ent P "__init__" 306 (.ref 89), ent P "longest_run_of_spaces" 315 (.ref 96), ent P "indent_level" 327 (.ref 103), ent P "equal" 335 (.ref 110), ent P "not_equal_witness" 346 (.ref 117), ent P "less" 356 (.ref 124), ent P "not_less_witness" 364 (.ref 131), ent P "__static_attributes__" 370 (.ref 132), ent P "__dict__" 372 (.ref 135), ent P "__weakref__" 374 (.ref 136), ent P "__doc__" 375 (.none)] 4 }),
  (134, { cls := .type "type", data := .cls { name := "Whitespace", bases := [.type "object"], mro := [.ref 134, .type "object"], ns := 133, qualname := "Whitespace" }, slots := #[none, none, some (.str "Whitespace" 275), some (.str "Whitespace" 283), some (.builtin "object.__new__"), some (.bool true)] }),
  (135, { cls := .type "getset_descriptor", data := .fields #[.str "__dict__" 371, .ref 134, .builtin "function.__dict__", .builtin "function.__dict__#set"] }),
  (136, { cls := .type "getset_descriptor", data := .fields #[.str "__weakref__" 373, .ref 134, .builtin "ExceptionGroup.__weakref__", .none] }),
  (144, cdO "_law_draws" "_law_draws" 380 100 1 139 140 (.ref 141) (.ref 142) 143 387 388),
  (145, fnO (stN 11) "_law_draws" "law_xb0023_01" 378 144),
  (151, cdO "_law_heard" "_law_heard" 390 105 2 146 147 (.ref 148) (.ref 149) 150 396 397),
  (152, fnO (stN 12) "_law_heard" "law_xb0023_01" 378 151),
  (156, cdO "_law_spoilt" "_law_spoilt" 399 114 3 153 154 .none .none 155 402 403),
  (157, fnO (stN 13) "_law_spoilt" "law_xb0023_01" 378 156),
  (163, cdO "_law_word" "_law_word" 405 128 2 158 159 (.ref 160) (.ref 161) 162 411 412),
  (164, fnO (stN 14) "_law_word" "law_xb0023_01" 378 163),
  (170, cdO "_law_number" "_law_number" 414 131 1 165 166 (.ref 167) (.ref 168) 169 420 421),
  (171, fnO (stN 15) "_law_number" "law_xb0023_01" 378 170),
  (177, cdO "_law_rounds" "_law_rounds" 423 136 3 172 173 (.ref 174) (.ref 175) 176 439 440),
  (178, fnO (stN 16) "_law_rounds" "law_xb0023_01" 378 177),
  (182, cdO "_law_back" "_law_back" 442 152 1 179 180 .none .none 181 445 446),
  (183, fnO (stN 17) "_law_back" "law_xb0023_01" 378 182),
  (187, cdO "_law_lead" "_law_lead" 448 159 2 184 185 .none .none 186 451 452),
  (188, fnO (stN 18) "_law_lead" "law_xb0023_01" 378 187),
  (192, cdO "law" "law" 454 161 1 189 190 .none .none 191 457 458),
  (193, fnO (stN 19) "law" "law_xb0023_01" 378 192)]
end
section
noncomputable def names : List (Str × Value) := [("error_reply", .ref 44), ("error_proto", .ref 56), ("parse229", .ref 65), ("Int2AP", .ref 72), ("Whitespace", .ref 134), ("_law_draws", .ref 145), ("_law_heard", .ref 152), ("_law_spoilt", .ref 157), ("_law_word", .ref 164), ("_law_number", .ref 171), ("_law_rounds", .ref 178), ("_law_back", .ref 183), ("_law_lead", .ref 188),
  ("len", .builtin "len"), ("sum", .builtin "sum"), ("max", .builtin "max"), ("sorted", .builtin "sorted"), ("abs", .builtin "abs"), ("divmod", .builtin "divmod"), ("int", .type "int"), ("str", .type "str"), ("tuple", .type "tuple"), ("bytes", .type "bytes"), ("range", .type "range"), ("enumerate", .type "enumerate"), ("ValueError", .type "ValueError")]
noncomputable def globs (x : Str) : Option Value := names.lookup x
structure Good (C : Cx) : Prop where
  ok : C.Ok
  K : C.K = heapK C.w.params
  glob : C.glob = globs
noncomputable def fnAt (K : Frag) (a : Addr) : Option FuncData := match K.lookup a with
  | some o => (match o.data with | .func fd => some fd | _ => none)
  | none => none
noncomputable def bodyOf (fd : FuncData) : List Stmt := match fd.body with
  | .stmts b => b
  | _ => []
noncomputable def forBody : Stmt → List Stmt
  | .For _ _ b _ _ => b
  | _ => []
noncomputable def forTgt : Stmt → Expr
  | .For t _ _ _ _ => t
  | _ => .Constant .none 0 ⟨0, 0, 0, 0⟩
noncomputable def forBody1 (s : Stmt) : Stmt := ((forBody s)[0]?).getD (.Pass ⟨0, 0, 0, 0⟩)
noncomputable def ifTest : Stmt → Expr
  | .If t _ _ _ => t
  | _ => .Constant .none 0 ⟨0, 0, 0, 0⟩
noncomputable def asgValue : Stmt → Expr
  | .Assign _ v _ => v
  | _ => .Constant .none 0 ⟨0, 0, 0, 0⟩
noncomputable def dummy : FuncData := docDef "" ⟨[], [], none, [], [], none, []⟩ [] { kind := .function, names := [], isGenerator := false, isCoroutine := false } .none .none .none
noncomputable def fdAt (w : World) (a : Addr) : FuncData := (fnAt (heapK w.params) a).getD dummy
noncomputable def bodyAt (w : World) (a : Addr) : List Stmt := bodyOf (fdAt w a)
noncomputable def fnB (fd : FuncData) (ns ow : List Str) : Bool :=
  (match fd.body with | .stmts _ => true | _ => false) && fd.closure.isEmpty && fd.globals == mainGlobals && fd.builtins == builtinsNs && !fd.scope.isCoroutine && !fd.scope.isGenerator && fd.scope.kind == .function
noncomputable def parB (fd : FuncData) (x : Str) : Bool := fd.scope.names.lookup x == some .local
theorem FnIn.mk' {C : Cx} {f : Addr} {fd : FuncData} {ns ow : List Str} (at_ : fnAt C.K f = some fd) (code : codeIn C.K fd.code fd.qualname = true) (b : fnB fd ns ow = true) (bind : ∀ vs : List Value, vs.length = ns.length → bindArgs fd ⟨vs, []⟩ = pure (ns.zip vs))
    (nd : ns.Pairwise (· ≠ ·)) (par : ∀ x ∈ ns, fd.scope.names.lookup x = some .local ∨ (fd.scope.names.lookup x = some .cell ∧ ∀ L : Addr, ((cellsFrom (L + 1) fd.scope.names []).lookup x).isSome = true))
    (own : ∀ x ∈ ow, fd.scope.names.lookup x = some .cell ∧ ∀ L : Addr, ((cellsFrom (L + 1) fd.scope.names []).lookup x).isSome = true) : FnIn C f fd (bodyOf fd) ns ow := by
  simp only [fnB, Bool.and_eq_true, beq_iff_eq, Bool.not_eq_true', List.isEmpty_iff] at b
  obtain ⟨⟨⟨⟨⟨⟨b1, b2⟩, b3⟩, b4⟩, b5⟩, b6⟩, b7⟩ := b
  refine ⟨?_, code, ?_, b2, b3, b4, b5, b6, b7, bind, nd, par, own⟩
  · unfold fnAt at at_
    split at at_
    · rename_i o ho
      obtain ⟨oc, od, dt, sl⟩ := o
      dsimp only at at_
      split at at_
      · cases at_; exact ⟨_, _, _, ho⟩
      · cases at_
    · cases at_
  · unfold bodyOf
    split at b1
    · rename_i q; rw [q]
    · cases b1
theorem all_local {fd : FuncData} {ns : List Str} (h : ns.all (parB fd) = true) : ∀ x ∈ ns, fd.scope.names.lookup x = some .local ∨ (fd.scope.names.lookup x = some .cell ∧ ∀ L : Addr, ((cellsFrom (L + 1) fd.scope.names []).lookup x).isSome = true) := fun x hx =>
  .inl (by have := List.all_eq_true.mp h x hx; simpa [parB] using this)
theorem len1 {P : List Value → Prop} (h : ∀ a, P [a]) (vs : List Value) (e : vs.length = 1) : P vs := by
  obtain ⟨a, rfl⟩ := List.length_eq_one_iff.mp e; exact h a
theorem len2 {P : List Value → Prop} (h : ∀ a b, P [a, b]) (vs : List Value) (e : vs.length = 2) : P vs := by
  cases vs with
  | nil => cases e
  | cons a r => exact len1 (P := fun r => P (a :: r)) (h a) r (Nat.succ.inj e)
theorem len3 {P : List Value → Prop} (h : ∀ a b c, P [a, b, c]) (vs : List Value) (e : vs.length = 3) : P vs := by
  cases vs with
  | nil => cases e
  | cons a r => exact len2 (P := fun r => P (a :: r)) (h a) r (Nat.succ.inj e)
variable {C : Cx}
theorem Good.at_ (G : Good C) {f : Addr} {fd : FuncData} (e : fnAt (heapK C.w.params) f = some fd) : fnAt C.K f = some fd := by rw [G.K]; exact e
theorem Good.cd (G : Good C) {c : Value} {q : Str} (e : codeIn (heapK C.w.params) c q = true) : codeIn C.K c q = true := by rw [G.K]; exact e
theorem Good.kf (G : Good C) {f : Addr} (e : keepIn (heapK C.w.params) (.ref f) = true) : keepIn C.K (.ref f) = true := by rw [G.K]; exact e
theorem FnIn.m1 (G : Good C) {f : Addr} {fd : FuncData} {x : Str} (a : fnAt (heapK C.w.params) f = some fd) (c : codeIn (heapK C.w.params) fd.code fd.qualname = true) (b : fnB fd [x] [] = true) (bind : ∀ v, bindArgs fd ⟨[v], []⟩ = pure [(x, v)])
    (nd : [x].Pairwise (· ≠ ·)) (par : [x].all (parB fd) = true) : FnIn C f fd (bodyOf fd) [x] [] := FnIn.mk' (G.at_ a) (G.cd c) b (len1 bind) nd (all_local par) fun _ h => absurd h List.not_mem_nil
theorem FnIn.m2 (G : Good C) {f : Addr} {fd : FuncData} {x y : Str} (a : fnAt (heapK C.w.params) f = some fd) (c : codeIn (heapK C.w.params) fd.code fd.qualname = true) (b : fnB fd [x, y] [] = true) (bind : ∀ v u, bindArgs fd ⟨[v, u], []⟩ = pure [(x, v), (y, u)])
    (nd : [x, y].Pairwise (· ≠ ·)) (par : [x, y].all (parB fd) = true) : FnIn C f fd (bodyOf fd) [x, y] [] := FnIn.mk' (G.at_ a) (G.cd c) b (len2 bind) nd (all_local par) fun _ h => absurd h List.not_mem_nil
theorem FnIn.m3 (G : Good C) {f : Addr} {fd : FuncData} {x y z : Str} (a : fnAt (heapK C.w.params) f = some fd) (c : codeIn (heapK C.w.params) fd.code fd.qualname = true) (b : fnB fd [x, y, z] [] = true) (bind : ∀ v u t, bindArgs fd ⟨[v, u, t], []⟩ = pure [(x, v), (y, u), (z, t)])
    (nd : [x, y, z].Pairwise (· ≠ ·)) (par : [x, y, z].all (parB fd) = true) : FnIn C f fd (bodyOf fd) [x, y, z] [] := FnIn.mk' (G.at_ a) (G.cd c) b (len3 bind) nd (all_local par) fun _ h => absurd h List.not_mem_nil
theorem fnIn_171 (G : Good C) : FnIn C 171 (fdAt C.w 171) (bodyAt C.w 171) ["letters"] [] :=
  FnIn.m1 G (by kernel_rfl) (by kernel_rfl) (by kernel_rfl) (fun _ => by kernel_rfl) (by decide) (by kernel_rfl)
theorem Good.gl (G : Good C) {x : Str} {v : Value} (h : globs x = some v) : C.glob x = some v := by rw [G.glob]; exact h
end
section
variable {C : Cx}
theorem fnIn_72 (G : Good C) : FnIn C 72 (fdAt C.w 72) (bodyAt C.w 72) ["num"] [] :=
  FnIn.m1 G (by kernel_rfl) (by kernel_rfl) (by kernel_rfl) (fun _ => by kernel_rfl) (by decide) (by kernel_rfl)
theorem fnIn_164 (G : Good C) : FnIn C 164 (fdAt C.w 164) (bodyAt C.w 164) ["number", "size"] [] :=
  FnIn.m2 G (by kernel_rfl) (by kernel_rfl) (by kernel_rfl) (fun _ _ => by kernel_rfl) (by decide) (by kernel_rfl)
noncomputable def numOf (l : List Int) : Int := l.foldl (fun n c => 16 * n + c - 65) 0
theorem law_number (G : Good C) (l : List Int) : FnOk C 171 1 [.list (l.map .int)] (.int (numOf l)) := by
  apply fn_ok G.ok (fnIn_171 G) rfl (fl := .ret (.int (numOf l))) rfl
  intro A L AO
  conv => arg 5; whnf
  (with_reducible apply ea_cons); (· ((with_reducible apply ex_set); (· exact Or.inl (by kernel_rfl)); (· kernel_rfl); (· exact ev_int)))
  (with_reducible apply ea_cons)
  · (with_reducible apply ex_for)
    · (with_reducible apply it_list AO.hh); exact ev_name rfl rfl
    · apply ForS.fold (fun n : Int => [("letters", .val (.list (l.map .int))), ("number", .val (.int n))]) .int (fun n c => 16 * n + c - 65)
      · intro a x; (with_reducible apply tg_name); exact Or.inl (by kernel_rfl)
      · intro a x
        (with_reducible apply ea_cons); (· ((with_reducible apply ex_set); (· exact Or.inl (by kernel_rfl)); (· kernel_rfl); (· ((with_reducible apply ev_binop); (· ((with_reducible apply ev_binop); (· ((with_reducible apply ev_binop); (· exact ev_int); (· exact ev_name rfl rfl); (· ((with_reducible apply bo_mul_int); first | exact Or.inl (by decide) | exact Or.inr (by decide) | exact Or.inl (by assumption) | exact Or.inr (by assumption))))); (· exact ev_name rfl rfl); (· exact bo_add_int))); (· exact ev_int); (· exact bo_sub_int)))))
        (with_reducible apply ea_nil)
      · intro a x; exact .cons rfl (.cons rfl .nil)
    · intro _; rfl
  · (with_reducible apply ea_stop); (· ((with_reducible apply ex_ret); exact ev_name rfl rfl))
    nofun
theorem law_number_b (G : Good C) (b : List UInt8) : FnOk C 171 1 [.bytes b] (.int (numOf (b.map fun c => (c.toNat : Int)))) := by
  apply fn_ok G.ok (fnIn_171 G) rfl (fl := .ret (.int (numOf (b.map fun c => (c.toNat : Int))))) rfl
  intro A L AO
  conv => arg 5; whnf
  (with_reducible apply ea_cons); (· ((with_reducible apply ex_set); (· exact Or.inl (by kernel_rfl)); (· kernel_rfl); (· exact ev_int)))
  (with_reducible apply ea_cons)
  · (with_reducible apply ex_for)
    · (with_reducible apply it_bytes AO.hh); exact ev_name rfl rfl
    · have := ForS.fold (C := C) (A := A) (env := calleeEn (fdAt C.w 171) [] L 171) (tgt := .Name "letter" ⟨133, 8, 133, 14⟩) (fun n : Int => [("letters", .val (.bytes b)), ("number", .val (.int n))]) .int (fun n c => 16 * n + c - 65) (S1 := fun n x => put [("letters", .val (.bytes b)), ("number", .val (.int n))] "letter" (.val (.int x)))
        (body := forBody (((bodyAt C.w 171)[1]?).getD (.Pass ⟨0,0,0,0⟩))) (S2 := fun n x => put (put [("letters", .val (.bytes b)), ("number", .val (.int n))] "letter" (.val (.int x))) "number" (.val (.int (16 * n + x - 65)))) (fun a x => by (with_reducible apply tg_name); exact Or.inl (by kernel_rfl)) (fun a x => by
          conv => arg 5; whnf
          (with_reducible apply ea_cons); (· ((with_reducible apply ex_set); (· exact Or.inl (by kernel_rfl)); (· kernel_rfl); (· ((with_reducible apply ev_binop); (· ((with_reducible apply ev_binop); (· ((with_reducible apply ev_binop); (· exact ev_int); (· exact ev_name rfl rfl); (· ((with_reducible apply bo_mul_int); first | exact Or.inl (by decide) | exact Or.inr (by decide) | exact Or.inl (by assumption) | exact Or.inr (by assumption))))); (· exact ev_name rfl rfl); (· exact bo_add_int))); (· exact ev_int); (· exact bo_sub_int)))))
          (with_reducible apply ea_nil)) (fun a x => .cons rfl (.cons rfl .nil)) (b.map fun c => (c.toNat : Int)) 0
      rw [List.map_map] at this
      exact this
    · intro _; rfl
  · (with_reducible apply ea_stop); (· ((with_reducible apply ex_ret); exact ev_name rfl rfl))
    nofun
end
section
variable {C : Cx}
noncomputable def apL : List UInt8 := [65, 66, 67, 68, 69, 70, 71, 72, 73, 74, 75, 76, 77, 78, 79, 80]
noncomputable def apGo : Nat → Int → List UInt8 → List UInt8
  | 0, _, v => v
  | f + 1, n, v => if n = 0 then v else apGo f (n / 16) (cut apL (some (n % 16)) (some (n % 16 + 1)) ++ v)
noncomputable def apEnc (n : Int) (v : List UInt8) : PS := [("num", .val (.int n)), ("val", .val (.bytes v)), ("AP", .val (.bytes apL))]
noncomputable def whTest : Stmt → Expr
  | .While t _ _ _ => t
  | _ => .Constant .none 0 ⟨0, 0, 0, 0⟩
noncomputable def whBody : Stmt → List Stmt
  | .While _ b _ _ => b
  | _ => []
noncomputable def nth (w : World) (a i : Nat) : Stmt := ((bodyAt w a)[i]?).getD (.Pass ⟨0, 0, 0, 0⟩)
theorem cut_len {α : Type} (xs : List α) (a : Int) (h : 0 ≤ a) : (cut xs (some a) (some (a + 1))).length ≤ 1 := by
  unfold cut
  simp only [Option.elim, List.length_drop, List.length_take]
  lia
theorem ap_while (G : Good C) {A : Around} {L : Addr} {k : Nat} (AO : AOk A k) : ∀ (f : Nat) (n : Int) (v : List UInt8), 0 ≤ n → n < 16 ^ f → v.length + f ≤ 200 →
    WhS C A (calleeEn (fdAt C.w 72) [] L 72) (whTest (nth C.w 72 3)) (whBody (nth C.w 72 3)) (apEnc 0 (apGo f n v)) .next f (apEnc n v)
  | 0, n, v, h0, h1, h2 => by
    have : n = 0 := by lia
    subst this
    refine .done ?_ rfl
    conv => arg 5; whnf
    (with_reducible apply ts_val); (· exact ev_name rfl rfl); (· rfl); (· intros; rfl)
  | f + 1, n, v, h0, h1, h2 => by
    by_cases hn : n = 0
    · subst hn
      have : apGo (f + 1) 0 v = v := if_pos rfl
      rw [this]
      refine .done ?_ rfl
      conv => arg 5; whnf
      (with_reducible apply ts_val); (· exact ev_name rfl rfl); (· rfl); (· intros; rfl)
    · have e : apGo (f + 1) n v = apGo f (n / 16) (cut apL (some (n % 16)) (some (n % 16 + 1)) ++ v) := if_neg hn
      rw [e]
      have hc := cut_len apL (n % 16) (by lia)
      have ih := ap_while G (L := L) AO f (n / 16) (cut apL (some (n % 16)) (some (n % 16 + 1)) ++ v) (by lia) (by rw [Int.pow_succ] at h1; lia) (by rw [List.length_append]; lia)
      refine .step (S2 := apEnc (n / 16) _) ?_ ?_ ih
      · conv => arg 5; whnf
        (with_reducible apply ts_val); (· exact ev_name rfl rfl); (· show some (n != 0) = some true; simpa using hn); (· intros; rfl)
      · refine ExA.weaken (S' := put (put (put (apEnc n v) "num" (.val (.int (n / 16)))) "mod" (.val (.int (n % 16)))) "val" (.val (.bytes (cut apL (some (n % 16)) (some (n % 16 + 1)) ++ v)))) ?_ (.cons rfl (.cons rfl (.cons rfl .nil)))
        conv => arg 5; whnf
        (with_reducible apply ea_cons)
        · (with_reducible apply ex_tuple)
          · ((with_reducible apply ev_bcall); (· exact G.ok); (· assumption); (· exact G.gl rfl); (· kernel_rfl); (· rfl); (· ((with_reducible apply EvAll.cons); (· exact ev_name rfl rfl); (· intros; rfl); (· ((with_reducible apply EvAll.cons); (· exact ev_int); (· intros; rfl); (· exact EvAll.nil))))); (· ((apply bc_divmod); (· decide); (· decide))))
          · (with_reducible apply unpack2); (· exact AO.hh); (· exact Or.inl (by kernel_rfl)); (· exact Or.inl (by kernel_rfl))
          · kernel_rfl
          · kernel_rfl
        · have hm : 0 ≤ n % 16 := by lia
          have hm1 : 0 ≤ n % 16 + 1 := by lia
          (with_reducible apply ea_cons); (· ((with_reducible apply ex_set); (· exact Or.inl (by kernel_rfl)); (· kernel_rfl); (· ((with_reducible apply ev_binop); (· ((with_reducible apply ev_slice); (· exact ev_name rfl rfl); (· ((with_reducible apply EvO.val); exact ev_name rfl rfl)); (· ((with_reducible apply EvO.val); ((with_reducible apply ev_binop); (· exact ev_name rfl rfl); (· exact ev_int); (· exact bo_add_int)))); (· (refine sl_bytes ?_ ?_ ?_; (· decide); (· ((with_reducible apply nonneg_some); assumption)); (· ((with_reducible apply nonneg_some); assumption)))))); (· exact ev_name rfl rfl); (· ((apply bo_add_bytes); (· lia); (· lia)))))))
          (with_reducible apply ea_nil)
noncomputable def apOf (n : Int) : List UInt8 := apGo 160 (if n < 0 then -n else n) []
theorem int2ap (G : Good C) (n : Int) (hn : (if n < 0 then -n else n) < 16 ^ 160) : FnOk C 72 1 [.int n] (.bytes (apOf n)) := by
  apply fn_ok G.ok (fnIn_72 G) rfl (fl := .ret (.bytes (apOf n))) rfl
  intro A L AO
  conv => arg 5; whnf
  (with_reducible apply ea_cons); (· ((with_reducible apply ex_set); (· exact Or.inl (by kernel_rfl)); (· kernel_rfl); (· exact ev_bytes)))
  (with_reducible apply ea_cons); (· ((with_reducible apply ex_set); (· exact Or.inl (by kernel_rfl)); (· kernel_rfl); (· exact ev_bytes)))
  (with_reducible apply ea_cons); (· ((with_reducible apply ex_set); (· exact Or.inl (by kernel_rfl)); (· kernel_rfl); (· ((with_reducible apply ev_tcall); (· exact G.ok); (· assumption); (· exact G.gl rfl); (· kernel_rfl); (· rfl); (· ((with_reducible apply EvAll.cons); (· ((with_reducible apply ev_bcall); (· exact G.ok); (· assumption); (· exact G.gl rfl); (· kernel_rfl); (· rfl); (· ((with_reducible apply EvAll.cons); (· exact ev_name rfl rfl); (· intros; rfl); (· exact EvAll.nil))); (· exact bc_abs))); (· intros; rfl); (· exact EvAll.nil))); (· exact bc_int)))))
  (with_reducible apply ea_cons)
  · refine ExS.pre (S := apEnc (if n < 0 then -n else n) []) (S' := apEnc 0 (apOf n)) ?_ (.cons rfl (.cons rfl (.cons rfl .nil)))
    exact ex_while (ap_while G AO 160 _ _ (by split <;> lia) hn (by decide))
  · (with_reducible apply ea_stop); (· ((with_reducible apply ex_ret); exact ev_name rfl rfl))
    nofun
end
section
variable {C : Cx}
theorem apGo_len : ∀ (f : Nat) (n : Int) (v : List UInt8), (apGo f n v).length ≤ v.length + f
  | 0, _, v => Nat.le_refl _
  | f + 1, n, v => by
    unfold apGo
    split
    · lia
    · rename_i h
      have := apGo_len f (n / 16) (cut apL (some (n % 16)) (some (n % 16 + 1)) ++ v)
      have hc := cut_len apL (n % 16) (by lia)
      rw [List.length_append] at this
      lia
theorem apOf_len (n : Int) : (apOf n).length ≤ 160 := by unfold apOf; have := apGo_len 160 (if n < 0 then -n else n) []; simpa using this
noncomputable def wordOf (n size : Int) : List UInt8 := (List.replicate (size - (apOf n).length).toNat ([65] : List UInt8)).flatten ++ apOf n
theorem law_word (G : Good C) (n size : Int) (hn : (if n < 0 then -n else n) < 16 ^ 160) (hs : 0 ≤ size ∧ size ≤ 100) : FnOk C 164 2 [.int n, .int size] (.bytes (wordOf n size)) := by
  apply fn_ok G.ok (fnIn_164 G) rfl (fl := .ret (.bytes (wordOf n size))) rfl
  intro A L AO
  have hl := apOf_len n
  have hrep : ((List.replicate (size - (apOf n).length).toNat ([65] : List UInt8)).flatten).length ≤ 3000 := by
    simp only [List.length_flatten, List.map_replicate, List.sum_replicate_nat]
    simp
    lia
  conv => arg 5; whnf
  (with_reducible apply ea_cons)
  · (with_reducible apply ex_set); (· exact Or.inl (by kernel_rfl)); (· kernel_rfl)
    (with_reducible apply ev_call); (· exact G.ok); (· assumption); (· exact G.gl rfl); (· kernel_rfl); (· rfl); (· exact G.kf (by kernel_rfl)); (· ((with_reducible apply EvAll.cons); (· exact ev_name rfl rfl); (· intros; rfl); (· exact EvAll.nil))); (· exact int2ap G n hn)
  · (with_reducible apply ea_stop)
    · ((with_reducible apply ex_ret); ((with_reducible apply ev_binop); (· ((with_reducible apply ev_binop); (· exact ev_bytes); (· ((with_reducible apply ev_binop); (· exact ev_name rfl rfl); (· ((with_reducible apply ev_bcall); (· exact G.ok); (· assumption); (· exact G.gl rfl); (· kernel_rfl); (· rfl); (· ((with_reducible apply EvAll.cons); (· exact ev_name rfl rfl); (· intros; rfl); (· exact EvAll.nil))); (· (refine bc_len_bytes ?_; lia)))); (· exact bo_sub_int))); (· ((apply bo_mul_bytes); (· lia); (· lia); (· decide); (· decide))))); (· exact ev_name rfl rfl); (· ((apply bo_add_bytes); (· assumption); (· lia)))))
    · nofun
theorem inst_134 (G : Good C) : InstCls C 134 := ⟨by rw [G.K]; kernel_rfl, by rw [G.K]; kernel_rfl, by rw [G.K]; obtain ⟨cd, h1, h2⟩ := any_some (x := clsIn (heapK C.w.params) 134) (p := fun cd => cd.hasDict) (by kernel_rfl); exact ⟨cd, h1, h2⟩⟩
theorem set_134 (G : Good C) : InstSet C 134 := ⟨by rw [G.K]; kernel_rfl, by rw [G.K]; kernel_rfl⟩
theorem fnIn_96 (G : Good C) : FnIn C 96 (fdAt C.w 96) (bodyAt C.w 96) ["self"] [] :=
  FnIn.m1 G (by kernel_rfl) (by kernel_rfl) (by kernel_rfl) (fun _ => by kernel_rfl) (by decide) (by kernel_rfl)
theorem fnIn_103 (G : Good C) : FnIn C 103 (fdAt C.w 103) (bodyAt C.w 103) ["self", "tabsize"] [] :=
  FnIn.m2 G (by kernel_rfl) (by kernel_rfl) (by kernel_rfl) (fun _ _ => by kernel_rfl) (by decide) (by kernel_rfl)
theorem fnIn_110 (G : Good C) : FnIn C 110 (fdAt C.w 110) (bodyAt C.w 110) ["self", "other"] [] :=
  FnIn.m2 G (by kernel_rfl) (by kernel_rfl) (by kernel_rfl) (fun _ _ => by kernel_rfl) (by decide) (by kernel_rfl)
theorem fnIn_117 (G : Good C) : FnIn C 117 (fdAt C.w 117) (bodyAt C.w 117) ["self", "other"] [] :=
  FnIn.m2 G (by kernel_rfl) (by kernel_rfl) (by kernel_rfl) (fun _ _ => by kernel_rfl) (by decide) (by kernel_rfl)
theorem fnIn_124 (G : Good C) : FnIn C 124 (fdAt C.w 124) (bodyAt C.w 124) ["self", "other"] [] :=
  FnIn.m2 G (by kernel_rfl) (by kernel_rfl) (by kernel_rfl) (fun _ _ => by kernel_rfl) (by decide) (by kernel_rfl)
set_option genInjectivity false in
set_option genSizeOf false in
structure WS where
  raw : Str
  n : Int
  nt : Int
  count : List Int
  b : Int
noncomputable def wsFs (w : WS) : List (Str × PV) := [("raw", .str w.raw), ("n", .int w.n), ("nt", .int w.nt), ("norm", .tuple [.tuple (w.count.map .int), .int w.b]), ("is_simple", .bool (decide ((w.count.length : Int) ≤ 1)))]
noncomputable def wsObj (w : WS) : PV := .inst 134 (wsFs w)
structure WS.Ok (w : WS) : Prop where
  len : w.count.length ≤ 60
  cnt : ∀ c ∈ w.count, 0 ≤ c ∧ c ≤ 100
  b : 0 ≤ w.b ∧ w.b ≤ 60
  nt : 0 ≤ w.nt ∧ w.nt ≤ 100
noncomputable def runOf (w : WS) : Int := max (w.count.length - 1) w.b
theorem longest (G : Good C) (w : WS) (hw : w.Ok) : FnOk C 96 1 [wsObj w] (.int (runOf w)) := by
  apply fn_ok G.ok (fnIn_96 G) rfl (fl := .ret (.int (runOf w))) rfl
  intro A L AO
  have hl := hw.len
  have hl' : (w.count.map PV.int).length ≤ 3000 := by simp; lia
  conv => arg 5; whnf
  (with_reducible apply ea_cons)
  · (with_reducible apply ex_tuple)
    · ((with_reducible apply ev_attr); (· exact G.ok); (· rfl); (· rfl); (· exact inst_134 G); (· rw [G.K]; kernel_rfl); (· rfl); (· rfl))
    · (with_reducible apply unpack2); (· exact AO.hh); (· exact Or.inl (by kernel_rfl)); (· exact Or.inl (by kernel_rfl))
    · kernel_rfl
    · kernel_rfl
  · have e : (PVar.val (PV.int (runOf w))) = .val (.int (max ((w.count.map PV.int).length - 1) w.b)) := by unfold runOf; simp
    have e2 : PFl.ret (.int (runOf w)) = .ret (.int (max ((w.count.map PV.int).length - 1) w.b)) := by unfold runOf; simp
    rw [e2]
    (with_reducible apply ea_stop); (· ((with_reducible apply ex_ret); ((with_reducible apply ev_bcall); (· exact G.ok); (· assumption); (· exact G.gl rfl); (· kernel_rfl); (· rfl); (· ((with_reducible apply EvAll.cons); (· ((with_reducible apply ev_binop); (· ((with_reducible apply ev_bcall); (· exact G.ok); (· assumption); (· exact G.gl rfl); (· kernel_rfl); (· rfl); (· ((with_reducible apply EvAll.cons); (· exact ev_name rfl rfl); (· intros; rfl); (· exact EvAll.nil))); (· (refine bc_len_tuple ?_; assumption)))); (· exact ev_int); (· exact bo_sub_int))); (· intros; rfl); (· ((with_reducible apply EvAll.cons); (· exact ev_name rfl rfl); (· intros; rfl); (· exact EvAll.nil))))); (· exact bc_max2))))
    nofun
end
section
variable {C : Cx}
noncomputable def cntAt (w : WS) (k : Int) : Int := (w.count[k.toNat]?).getD 0
noncomputable def ilSum (w : WS) (t : Int) : Int := (List.range (w.count.length - t).toNat).foldl (fun il (i : Nat) => il + (t + (i : Int)) / t * cntAt w (t + (i : Int))) 0
noncomputable def ilOf (w : WS) (t : Int) : Int := w.b + t * (ilSum w t + w.nt)
theorem cnt_idx (w : WS) (hw : w.Ok) {k : Int} (h0 : 0 ≤ k) (h1 : k < w.count.length) : idx (w.count.map PV.int) k = some (.int (cntAt w k)) := by
  have hl := hw.len
  refine idx_pos (by simp; lia) h0 (by lia) ?_
  rw [List.getElem?_map]
  unfold cntAt
  have : k.toNat < w.count.length := by lia
  rw [List.getElem?_eq_getElem this]
  rfl
theorem indent (G : Good C) (w : WS) (hw : w.Ok) (t : Int) (h1 : 1 ≤ t) (h2 : t ≤ 200) : FnOk C 103 1 [wsObj w, .int t] (.int (ilOf w t)) := by
  apply fn_ok G.ok (fnIn_103 G) rfl (fl := .ret (.int (ilOf w t))) rfl
  intro A L AO
  have hl := hw.len
  have hl' : (w.count.map PV.int).length ≤ 3000 := by simp; lia
  have el : ((w.count.map PV.int).length : Int) = w.count.length := by simp
  conv => arg 5; whnf
  (with_reducible apply ea_cons)
  · (with_reducible apply ex_tuple)
    · ((with_reducible apply ev_attr); (· exact G.ok); (· rfl); (· rfl); (· exact inst_134 G); (· rw [G.K]; kernel_rfl); (· rfl); (· rfl))
    · (with_reducible apply unpack2); (· exact AO.hh); (· exact Or.inl (by kernel_rfl)); (· exact Or.inl (by kernel_rfl))
    · kernel_rfl
    · kernel_rfl
  · (with_reducible apply ea_cons); (· ((with_reducible apply ex_set); (· exact Or.inl (by kernel_rfl)); (· kernel_rfl); (· exact ev_int)))
    (with_reducible apply ea_cons)
    · (with_reducible apply ex_for)
      · (with_reducible apply it_range2); (· exact G.ok); (· exact AO.hh); (· exact G.gl rfl); (· kernel_rfl); (· rfl); (· ((with_reducible apply EvAll.cons); (· exact ev_name rfl rfl); (· intros; rfl); (· ((with_reducible apply EvAll.cons); (· ((with_reducible apply ev_bcall); (· exact G.ok); (· assumption); (· exact G.gl rfl); (· kernel_rfl); (· rfl); (· ((with_reducible apply EvAll.cons); (· exact ev_name rfl rfl); (· intros; rfl); (· exact EvAll.nil))); (· (refine bc_len_tuple ?_; assumption)))); (· intros; rfl); (· exact EvAll.nil)))))
        lia
      · rw [el]
        refine ForS.foldP (fun il : Int => [("self", .val (wsObj w)), ("tabsize", .val (.int t)), ("count", .val (.tuple (w.count.map .int))), ("trailing", .val (.int w.b)), ("il", .val (.int il))]) (fun i : Nat => .int (t + (i : Int))) (fun il (i : Nat) => il + (t + (i : Int)) / t * cntAt w (t + (i : Int))) (fun _ => True) (fun i => i < (w.count.length - t).toNat)
          (S1 := fun il (i : Nat) => put [("self", .val (wsObj w)), ("tabsize", .val (.int t)), ("count", .val (.tuple (w.count.map .int))), ("trailing", .val (.int w.b)), ("il", .val (.int il))] "i" (.val (.int (t + (i : Int))))) (S2 := fun il (i : Nat) => put (put [("self", .val (wsObj w)), ("tabsize", .val (.int t)), ("count", .val (.tuple (w.count.map .int))), ("trailing", .val (.int w.b)), ("il", .val (.int il))] "i" (.val (.int (t + (i : Int))))) "il" (.val (.int (il + (t + (i : Int)) / t * cntAt w (t + (i : Int))))))
          (fun _ _ _ _ => trivial) (fun a x => ?_) (fun a x _ hx => ?_) (fun a x => ?_) _ 0 trivial (fun x hx => List.mem_range.mp hx)
        · (with_reducible apply tg_name); exact Or.inl (by kernel_rfl)
        · have hi := cnt_idx w hw (k := t + (x : Int)) (by lia) (by lia)
          have hs : Sm ((t + (x : Int)) / t) := ⟨by have := Int.ediv_nonneg (a := t + (x : Int)) (b := t) (by lia) (by lia); lia, by have := Int.ediv_le_self (a := t + (x : Int)) t (by lia); lia⟩
          have ht : 0 < t := by lia
          have ht2 : t < 1073741824 := by lia
          (with_reducible apply ea_cons); (· ((with_reducible apply ex_set); (· exact Or.inl (by kernel_rfl)); (· kernel_rfl); (· ((with_reducible apply ev_binop); (· exact ev_name rfl rfl); (· ((with_reducible apply ev_binop); (· ((with_reducible apply ev_binop); (· exact ev_name rfl rfl); (· exact ev_name rfl rfl); (· ((apply bo_div); (· assumption); (· assumption))))); (· ((with_reducible apply ev_sub); (· exact ev_name rfl rfl); (· exact ev_name rfl rfl); (· ((with_reducible apply sb_tuple); assumption)); (· rfl))); (· ((with_reducible apply bo_mul_int); first | exact Or.inl (by decide) | exact Or.inr (by decide) | exact Or.inl (by assumption) | exact Or.inr (by assumption))))); (· exact bo_add_int)))))
          (with_reducible apply ea_nil)
        · exact .cons rfl (.cons rfl (.cons rfl (.cons rfl (.cons rfl .nil))))
      · intro _; rfl
    · have hs : Sm t := ⟨by lia, by lia⟩
      have e2 : PFl.ret (.int (ilOf w t)) = .ret (.int (w.b + t * ((List.range (w.count.length - t).toNat).foldl (fun il (i : Nat) => il + (t + (i : Int)) / t * cntAt w (t + (i : Int))) 0 + w.nt))) := rfl
      rw [e2]
      (with_reducible apply ea_stop); (· ((with_reducible apply ex_ret); ((with_reducible apply ev_binop); (· exact ev_name rfl rfl); (· ((with_reducible apply ev_binop); (· exact ev_name rfl rfl); (· ((with_reducible apply ev_binop); (· exact ev_name rfl rfl); (· ((with_reducible apply ev_attr); (· exact G.ok); (· rfl); (· rfl); (· exact inst_134 G); (· rw [G.K]; kernel_rfl); (· rfl); (· rfl))); (· exact bo_add_int))); (· ((with_reducible apply bo_mul_int); first | exact Or.inl (by decide) | exact Or.inr (by decide) | exact Or.inl (by assumption) | exact Or.inr (by assumption))))); (· exact bo_add_int))))
      nofun
end
section
variable {C : Cx}
noncomputable def normOf (w : WS) : PV := .tuple [.tuple (w.count.map .int), .int w.b]
theorem map_int_inj : ∀ {l l' : List Int}, l.map PV.int = l'.map PV.int ↔ l = l'
  | [], [] => by simp
  | [], _ :: _ => by simp
  | _ :: _, [] => by simp
  | a :: l, b :: l' => by simp [map_int_inj (l := l) (l' := l')]
theorem norm_eq (w v : WS) : eqPV (normOf w) (normOf v) = some (decide (w.count = v.count ∧ w.b = v.b)) := by
  refine eqPV_nice (n := 2) (m := 2) (.tuple _ _ ?_) (.tuple _ _ ?_) (by decide) (by decide) _ ?_
  · intro d hd
    rcases List.mem_cons.mp hd with rfl | hd
    · exact .tuple _ _ nice_ints
    · rw [List.mem_singleton.mp hd]; exact .int _ _
  · intro d hd
    rcases List.mem_cons.mp hd with rfl | hd
    · exact .tuple _ _ nice_ints
    · rw [List.mem_singleton.mp hd]; exact .int _ _
  · simp [map_int_inj]
noncomputable def equalOf (w v : WS) : Bool := decide (w.count = v.count ∧ w.b = v.b)
theorem equal_ok (G : Good C) (w v : WS) : FnOk C 110 1 [wsObj w, wsObj v] (.bool (equalOf w v)) := by
  apply fn_ok G.ok (fnIn_110 G) rfl (fl := .ret (.bool (equalOf w v))) rfl
  intro A L AO
  have he := norm_eq w v
  conv => arg 5; whnf
  (with_reducible apply ea_stop)
  · (with_reducible apply ex_ret)
    (with_reducible apply ev_cmp)
    · assumption
    · (with_reducible apply ev_attr); (· exact G.ok); (· show get _ _ = some (PVar.val (PV.inst 134 (wsFs w))); rfl); (· rfl); (· exact inst_134 G); (· rw [G.K]; kernel_rfl); (· show getf _ _ = some (normOf w); rfl); (· rfl)
    · (with_reducible apply ev_attr); (· exact G.ok); (· show get _ _ = some (PVar.val (PV.inst 134 (wsFs v))); rfl); (· rfl); (· exact inst_134 G); (· rw [G.K]; kernel_rfl); (· show getf _ _ = some (normOf v); rfl); (· rfl)
    · exact cm_eq he
    · rfl
  · nofun
noncomputable def witF (w v : WS) (l : List (Int × Int × Int)) (i : Nat) : List (Int × Int × Int) := if ilOf w (1 + (i : Int)) = ilOf v (1 + (i : Int)) then l else l ++ [(1 + (i : Int), ilOf w (1 + (i : Int)), ilOf v (1 + (i : Int)))]
noncomputable def witOf (w v : WS) : List (Int × Int × Int) := (List.range (max (runOf w) (runOf v) + 1 + 1 - 1).toNat).foldl (witF w v) []
noncomputable def witPV (l : List (Int × Int × Int)) : List PV := l.map fun p => .tuple [.int p.1, .int p.2.1, .int p.2.2]
theorem run_bd {w v : WS} (hw : w.Ok) (hv : v.Ok) : -1 ≤ max (runOf w) (runOf v) ∧ max (runOf w) (runOf v) ≤ 60 := by
  have h1 := hw.len
  have h2 := hv.len
  have h3 := hw.b
  have h4 := hv.b
  unfold runOf
  exact ⟨Int.le_trans (Int.le_trans (by lia) (Int.le_max_right _ _)) (Int.le_max_left _ _), Int.max_le.mpr ⟨Int.max_le.mpr ⟨by lia, h3.2⟩, Int.max_le.mpr ⟨by lia, h4.2⟩⟩⟩
theorem witness (G : Good C) (w v : WS) (hw : w.Ok) (hv : v.Ok) : FnOk C 117 2 [wsObj w, wsObj v] (.list (witPV (witOf w v))) := by
  apply fn_ok G.ok (fnIn_117 G) rfl (fl := .ret (.list (witPV (witOf w v)))) rfl
  intro A L AO
  have h1 := hw.len
  have h2 := hv.len
  have h3 := hw.b
  have h4 := hv.b
  conv => arg 5; whnf
  (with_reducible apply ea_cons); (· ((with_reducible apply ex_set); (· exact Or.inl (by kernel_rfl)); (· kernel_rfl); (· ((with_reducible apply ev_binop); (· ((with_reducible apply ev_bcall); (· exact G.ok); (· assumption); (· exact G.gl rfl); (· kernel_rfl); (· rfl); (· ((with_reducible apply EvAll.cons); (· ((with_reducible apply ev_meth); (· exact G.ok); (· assumption); (· rfl); (· rfl); (· exact inst_134 G); (· rw [G.K]; kernel_rfl); (· rw [G.K]; kernel_rfl); (· rw [G.K]; kernel_rfl); (· rfl); (· decide); (· rfl); (· exact EvAll.nil); (· exact FnOk.le (longest (by assumption) _ (by assumption)) (by lia)))); (· intros; rfl); (· ((with_reducible apply EvAll.cons); (· ((with_reducible apply ev_meth); (· exact G.ok); (· assumption); (· rfl); (· rfl); (· exact inst_134 G); (· rw [G.K]; kernel_rfl); (· rw [G.K]; kernel_rfl); (· rw [G.K]; kernel_rfl); (· rfl); (· decide); (· rfl); (· exact EvAll.nil); (· exact FnOk.le (longest (by assumption) _ (by assumption)) (by lia)))); (· intros; rfl); (· exact EvAll.nil))))); (· exact bc_max2))); (· exact ev_int); (· exact bo_add_int)))))
  (with_reducible apply ea_cons)
  · (with_reducible apply ex_own); (· exact Or.inl (by kernel_rfl)); (· kernel_rfl); (with_reducible apply el_list); (· exact EvAll.nil); (· rfl)
  (with_reducible apply ea_cons)
  · (with_reducible apply ex_for)
    · (with_reducible apply it_range2); (· exact G.ok); (· exact AO.hh); (· exact G.gl rfl); (· kernel_rfl); (· rfl); (· ((with_reducible apply EvAll.cons); (· exact ev_int); (· intros; rfl); (· ((with_reducible apply EvAll.cons); (· ((with_reducible apply ev_binop); (· exact ev_name rfl rfl); (· exact ev_int); (· exact bo_add_int))); (· intros; rfl); (· exact EvAll.nil)))))
      (have hR := run_bd hw hv; revert hR; generalize max (runOf w) (runOf v) = R; intro hR; lia)
    · apply ForS.idx (fun l : List (Int × Int × Int) => [("self", .val (wsObj w)), ("other", .val (wsObj v)), ("n", .val (.int (max (runOf w) (runOf v) + 1))), ("a", .own (witPV l))]) (fun i : Nat => .int (1 + (i : Int))) (witF w v) (fun i l => l.length ≤ i) (List.range (max (runOf w) (runOf v) + 1 + 1 - 1).toNat)
        [] (Nat.le_refl _) (S2 := fun l (i : Nat) => put (put [("self", .val (wsObj w)), ("other", .val (wsObj v)), ("n", .val (.int (max (runOf w) (runOf v) + 1))), ("a", .own (witPV l))] "ts" (.val (.int (1 + (i : Int))))) "a" (.own (witPV (witF w v l i))))
      · intro i a x _ h
        unfold witF
        split
        · lia
        · rw [List.length_append, List.length_singleton]; lia
      · intro a x; (with_reducible apply tg_name); exact Or.inl (by kernel_rfl)
      · intro i a x hx h
        obtain ⟨rfl, hi⟩ := range_get hx
        have hx2 : x ≤ 100 := by
          have hR := run_bd hw hv; revert hR hi; generalize max (runOf w) (runOf v) = R; intro hR hi; lia
        clear hi hx
        have hl : (witPV a).length ≤ 3000 := by unfold witPV; rw [List.length_map]; lia
        · (with_reducible apply ea_one)
          (with_reducible apply ex_if)
          · ((with_reducible apply ts_cmp); (· assumption); (· ((with_reducible apply ev_meth); (· exact G.ok); (· assumption); (· rfl); (· rfl); (· exact inst_134 G); (· rw [G.K]; kernel_rfl); (· rw [G.K]; kernel_rfl); (· rw [G.K]; kernel_rfl); (· rfl); (· decide); (· rfl); (· ((with_reducible apply EvAll.cons); (· exact ev_name rfl rfl); (· intros; rfl); (· exact EvAll.nil))); (· exact FnOk.le (indent (by assumption) _ (by assumption) _ (by lia) (by lia)) (by lia)))); (· ((with_reducible apply ev_meth); (· exact G.ok); (· assumption); (· rfl); (· rfl); (· exact inst_134 G); (· rw [G.K]; kernel_rfl); (· rw [G.K]; kernel_rfl); (· rw [G.K]; kernel_rfl); (· rfl); (· decide); (· rfl); (· ((with_reducible apply EvAll.cons); (· exact ev_name rfl rfl); (· intros; rfl); (· exact EvAll.nil))); (· exact FnOk.le (indent (by assumption) _ (by assumption) _ (by lia) (by lia)) (by lia)))); (· exact cm_ne_int); (· rfl))
          · by_cases q : ilOf w (1 + (x : Int)) = ilOf v (1 + (x : Int))
            · rw [decide_eq_true q]
              have : witF w v a x = a := if_pos q
              rw [this]
              exact ExA.weaken ea_nil (.cons rfl (.cons rfl (.cons rfl (.cons rfl (.cons rfl .nil)))))
            · rw [decide_eq_false q]
              have : witPV (witF w v a x) = witPV a ++ [.tuple [.int (1 + (x : Int)), .int (ilOf w (1 + (x : Int))), .int (ilOf v (1 + (x : Int)))]] := by unfold witF; rw [if_neg q]; unfold witPV; rw [List.map_append]; rfl
              rw [this]
              show ExA _ _ _ _ [_] _ _
              (with_reducible apply ea_one)
              (with_reducible apply ex_append); (· rfl); (· rfl); (· ((with_reducible apply ev_tuple); (· ((with_reducible apply EvAll.cons); (· exact ev_name rfl rfl); (· intros; rfl); (· ((with_reducible apply EvAll.cons); (· ((with_reducible apply ev_meth); (· exact G.ok); (· assumption); (· rfl); (· rfl); (· exact inst_134 G); (· rw [G.K]; kernel_rfl); (· rw [G.K]; kernel_rfl); (· rw [G.K]; kernel_rfl); (· rfl); (· decide); (· rfl); (· ((with_reducible apply EvAll.cons); (· exact ev_name rfl rfl); (· intros; rfl); (· exact EvAll.nil))); (· exact FnOk.le (indent (by assumption) _ (by assumption) _ (by lia) (by lia)) (by lia)))); (· intros; rfl); (· ((with_reducible apply EvAll.cons); (· ((with_reducible apply ev_meth); (· exact G.ok); (· assumption); (· rfl); (· rfl); (· exact inst_134 G); (· rw [G.K]; kernel_rfl); (· rw [G.K]; kernel_rfl); (· rw [G.K]; kernel_rfl); (· rfl); (· decide); (· rfl); (· ((with_reducible apply EvAll.cons); (· exact ev_name rfl rfl); (· intros; rfl); (· exact EvAll.nil))); (· exact FnOk.le (indent (by assumption) _ (by assumption) _ (by lia) (by lia)) (by lia)))); (· intros; rfl); (· exact EvAll.nil))))))); (· exact lenOk_of (by (simp; done))))); (· intro _; rfl); (· exact lenOk_of hl); (· rfl)
      · intro a x; exact .cons rfl (.cons rfl (.cons rfl (.cons rfl .nil)))
    · intro _; rfl
  · (with_reducible apply ea_freeze (x := "a")); (· rfl)
    (with_reducible apply ea_stop); (· ((with_reducible apply ex_ret); exact ev_name rfl rfl))
    nofun
noncomputable def lessGo (w v : WS) : List Nat → Bool
  | [] => true
  | i :: r => if ilOf v (2 + (i : Int)) ≤ ilOf w (2 + (i : Int)) then false else lessGo w v r
noncomputable def lessOf (w v : WS) : Bool :=
  if v.n ≤ w.n then false
  else if (w.count.length : Int) ≤ 1 ∧ (v.count.length : Int) ≤ 1 then decide (w.nt ≤ v.nt)
  else lessGo w v (List.range (max (runOf w) (runOf v) + 1 + 1 - 2).toNat)
noncomputable def lessS (w v : WS) : PS := [("self", .val (wsObj w)), ("other", .val (wsObj v)), ("n", .val (.int (max (runOf w) (runOf v) + 1)))]
theorem less_for (G : Good C) {A : Around} {L : Addr} {k : Nat} (AO : AOk A (k + 1)) (w v : WS) (hw : w.Ok) (hv : v.Ok) : ∀ l : List Nat, (∀ i ∈ l, i ≤ 150) →
    ForS C A (calleeEn (fdAt C.w 124) [] L 124) (forTgt (nth C.w 124 3)) (forBody (nth C.w 124 3)) (lessS w v) (if lessGo w v l then .next else .ret (.bool false)) (l.map fun i : Nat => .int (2 + (i : Int))) (lessS w v)
  | [], _ => .done rfl
  | i :: r, h => by
    have hi := h i (.head _)
    have ih := less_for G (L := L) AO w v hw hv r fun j hj => h j (.tail _ hj)
    have tg : TgS C A (calleeEn (fdAt C.w 124) [] L 124) (lessS w v) (forTgt (nth C.w 124 3)) (.int (2 + (i : Int))) (put (lessS w v) "ts" (.val (.int (2 + (i : Int))))) := by
      conv => arg 5; whnf
      (with_reducible apply tg_name); exact Or.inl (by kernel_rfl)
    have ts : TsS C A (calleeEn (fdAt C.w 124) [] L 124) (put (lessS w v) "ts" (.val (.int (2 + (i : Int))))) (ifTest (forBody1 (nth C.w 124 3))) (decide (ilOf v (2 + (i : Int)) ≤ ilOf w (2 + (i : Int)))) := by
      conv => arg 5; whnf
      ((with_reducible apply ts_cmp); (· assumption); (· ((with_reducible apply ev_meth); (· exact G.ok); (· assumption); (· rfl); (· rfl); (· exact inst_134 G); (· rw [G.K]; kernel_rfl); (· rw [G.K]; kernel_rfl); (· rw [G.K]; kernel_rfl); (· rfl); (· decide); (· rfl); (· ((with_reducible apply EvAll.cons); (· exact ev_name rfl rfl); (· intros; rfl); (· exact EvAll.nil))); (· exact FnOk.le (indent (by assumption) _ (by assumption) _ (by lia) (by lia)) (by lia)))); (· ((with_reducible apply ev_meth); (· exact G.ok); (· assumption); (· rfl); (· rfl); (· exact inst_134 G); (· rw [G.K]; kernel_rfl); (· rw [G.K]; kernel_rfl); (· rw [G.K]; kernel_rfl); (· rfl); (· decide); (· rfl); (· ((with_reducible apply EvAll.cons); (· exact ev_name rfl rfl); (· intros; rfl); (· exact EvAll.nil))); (· exact FnOk.le (indent (by assumption) _ (by assumption) _ (by lia) (by lia)) (by lia)))); (· exact cm_ge); (· rfl))
    by_cases q : ilOf v (2 + (i : Int)) ≤ ilOf w (2 + (i : Int))
    · have e : lessGo w v (i :: r) = false := by unfold lessGo; rw [if_pos q]
      rw [decide_eq_true q] at ts
      rw [e]
      refine .ret tg (r := .bool false) ?_ rfl
      refine ExA.weaken (S' := put (lessS w v) "ts" (.val (.int (2 + (i : Int))))) ?_ (.cons rfl (.cons rfl (.cons rfl .nil)))
      conv => arg 5; whnf
      (with_reducible apply ea_one)
      refine ex_if ts ?_
      show ExA _ _ _ _ [_] _ _
      (with_reducible apply ea_one)
      ((with_reducible apply ex_ret); exact ev_bool)
    · have e : lessGo w v (i :: r) = lessGo w v r := by rw [lessGo]; rw [if_neg q]
      rw [decide_eq_false q] at ts
      rw [e]
      refine .step tg (S2 := lessS w v) ?_ ih
      refine ExA.weaken (S' := put (lessS w v) "ts" (.val (.int (2 + (i : Int))))) ?_ (.cons rfl (.cons rfl (.cons rfl .nil)))
      conv => arg 5; whnf
      (with_reducible apply ea_one)
      refine ex_if ts ?_
      exact ea_nil
theorem less_ok (G : Good C) (w v : WS) (hw : w.Ok) (hv : v.Ok) : FnOk C 124 2 [wsObj w, wsObj v] (.bool (lessOf w v)) := by
  have h1 := hw.len
  have h2 := hv.len
  have h3 := hw.b
  have h4 := hv.b
  apply fn_ok (S' := []) G.ok (fnIn_124 G) rfl (fl := .ret (.bool (lessOf w v))) rfl
  intro A L AO
  conv => arg 5; whnf
  by_cases q1 : v.n ≤ w.n
  · have e : lessOf w v = false := if_pos q1
    rw [e]
    (with_reducible apply ExA.drop)
    (with_reducible apply ea_stop)
    · (with_reducible apply ex_if)
      · ((with_reducible apply ts_cmp); (· assumption); (· ((with_reducible apply ev_attr); (· exact G.ok); (· rfl); (· rfl); (· exact inst_134 G); (· rw [G.K]; kernel_rfl); (· rfl); (· rfl))); (· ((with_reducible apply ev_attr); (· exact G.ok); (· rfl); (· rfl); (· exact inst_134 G); (· rw [G.K]; kernel_rfl); (· rfl); (· rfl))); (· exact cm_ge); (· rfl))
      · rw [decide_eq_true q1]
        show ExA _ _ _ _ [_] _ _
        (with_reducible apply ea_one)
        ((with_reducible apply ex_ret); exact ev_bool)
    · nofun
  · have e : lessOf w v = if (w.count.length : Int) ≤ 1 ∧ (v.count.length : Int) ≤ 1 then decide (w.nt ≤ v.nt) else lessGo w v (List.range (max (runOf w) (runOf v) + 1 + 1 - 2).toNat) := if_neg q1
    rw [e]
    (with_reducible apply ea_cons)
    · (with_reducible apply ex_if)
      · ((with_reducible apply ts_cmp); (· assumption); (· ((with_reducible apply ev_attr); (· exact G.ok); (· rfl); (· rfl); (· exact inst_134 G); (· rw [G.K]; kernel_rfl); (· rfl); (· rfl))); (· ((with_reducible apply ev_attr); (· exact G.ok); (· rfl); (· rfl); (· exact inst_134 G); (· rw [G.K]; kernel_rfl); (· rfl); (· rfl))); (· exact cm_ge); (· rfl))
      · rw [decide_eq_false q1]; exact ea_nil
    by_cases q2 : (w.count.length : Int) ≤ 1 ∧ (v.count.length : Int) ≤ 1
    · rw [if_pos q2]
      (with_reducible apply ExA.drop)
      (with_reducible apply ea_stop)
      · (with_reducible apply ex_if (b := true))
        · (with_reducible apply ts_and_t)
          · (with_reducible apply ts_val); (· ((with_reducible apply ev_attr); (· exact G.ok); (· rfl); (· rfl); (· exact inst_134 G); (· rw [G.K]; kernel_rfl); (· rfl); (· rfl))); (· show some (decide ((w.count.length : Int) ≤ 1)) = some true; rw [decide_eq_true q2.1]); (· intros; rfl)
          · (with_reducible apply ts_and_t)
            · (with_reducible apply ts_val); (· ((with_reducible apply ev_attr); (· exact G.ok); (· rfl); (· rfl); (· exact inst_134 G); (· rw [G.K]; kernel_rfl); (· rfl); (· rfl))); (· show some (decide ((v.count.length : Int) ≤ 1)) = some true; rw [decide_eq_true q2.2]); (· intros; rfl)
            · exact ts_and_nil
        · show ExA _ _ _ _ [_] _ _
          (with_reducible apply ea_one)
          ((with_reducible apply ex_ret); ((with_reducible apply ev_cmp); (· assumption); (· ((with_reducible apply ev_attr); (· exact G.ok); (· rfl); (· rfl); (· exact inst_134 G); (· rw [G.K]; kernel_rfl); (· rfl); (· rfl))); (· ((with_reducible apply ev_attr); (· exact G.ok); (· rfl); (· rfl); (· exact inst_134 G); (· rw [G.K]; kernel_rfl); (· rfl); (· rfl))); (· exact cm_le); (· rfl)))
      · nofun
    · rw [if_neg q2]
      (with_reducible apply ea_cons)
      · refine ex_if (b := false) ?_ ea_nil
        by_cases q3 : (w.count.length : Int) ≤ 1
        · (with_reducible apply ts_and_t)
          · (with_reducible apply ts_val); (· ((with_reducible apply ev_attr); (· exact G.ok); (· rfl); (· rfl); (· exact inst_134 G); (· rw [G.K]; kernel_rfl); (· rfl); (· rfl))); (· show some (decide ((w.count.length : Int) ≤ 1)) = some true; rw [decide_eq_true q3]); (· intros; rfl)
          · (with_reducible apply ts_and_f)
            (with_reducible apply ts_val); (· ((with_reducible apply ev_attr); (· exact G.ok); (· rfl); (· rfl); (· exact inst_134 G); (· rw [G.K]; kernel_rfl); (· rfl); (· rfl))); (· show some (decide ((v.count.length : Int) ≤ 1)) = some false; rw [decide_eq_false (fun h => q2 ⟨q3, h⟩)]); (· intros; rfl)
        · (with_reducible apply ts_and_f)
          (with_reducible apply ts_val); (· ((with_reducible apply ev_attr); (· exact G.ok); (· rfl); (· rfl); (· exact inst_134 G); (· rw [G.K]; kernel_rfl); (· rfl); (· rfl))); (· show some (decide ((w.count.length : Int) ≤ 1)) = some false; rw [decide_eq_false q3]); (· intros; rfl)
      (with_reducible apply ea_cons); (· ((with_reducible apply ex_set); (· exact Or.inl (by kernel_rfl)); (· kernel_rfl); (· ((with_reducible apply ev_binop); (· ((with_reducible apply ev_bcall); (· exact G.ok); (· assumption); (· exact G.gl rfl); (· kernel_rfl); (· rfl); (· ((with_reducible apply EvAll.cons); (· ((with_reducible apply ev_meth); (· exact G.ok); (· assumption); (· rfl); (· rfl); (· exact inst_134 G); (· rw [G.K]; kernel_rfl); (· rw [G.K]; kernel_rfl); (· rw [G.K]; kernel_rfl); (· rfl); (· decide); (· rfl); (· exact EvAll.nil); (· exact FnOk.le (longest (by assumption) _ (by assumption)) (by lia)))); (· intros; rfl); (· ((with_reducible apply EvAll.cons); (· ((with_reducible apply ev_meth); (· exact G.ok); (· assumption); (· rfl); (· rfl); (· exact inst_134 G); (· rw [G.K]; kernel_rfl); (· rw [G.K]; kernel_rfl); (· rw [G.K]; kernel_rfl); (· rfl); (· decide); (· rfl); (· exact EvAll.nil); (· exact FnOk.le (longest (by assumption) _ (by assumption)) (by lia)))); (· intros; rfl); (· exact EvAll.nil))))); (· exact bc_max2))); (· exact ev_int); (· exact bo_add_int)))))
      have F := less_for G (L := L) AO w v hw hv (List.range (max (runOf w) (runOf v) + 1 + 1 - 2).toNat) (fun i hi => by have hi := List.mem_range.mp hi; have hR := run_bd hw hv; revert hR hi; generalize max (runOf w) (runOf v) = R; intro hR hi; lia)
      cases hg : lessGo w v (List.range (max (runOf w) (runOf v) + 1 + 1 - 2).toNat) with
      | true =>
        rw [hg] at F
        (with_reducible apply ExA.drop)
        (with_reducible apply ea_cons)
        · (with_reducible apply ex_for)
          · (with_reducible apply it_range2); (· exact G.ok); (· exact AO.hh); (· exact G.gl rfl); (· kernel_rfl); (· rfl); (· ((with_reducible apply EvAll.cons); (· exact ev_int); (· intros; rfl); (· ((with_reducible apply EvAll.cons); (· ((with_reducible apply ev_binop); (· exact ev_name rfl rfl); (· exact ev_int); (· exact bo_add_int))); (· intros; rfl); (· exact EvAll.nil)))))
            (have hR := run_bd hw hv; revert hR; generalize max (runOf w) (runOf v) = R; intro hR; lia)
          · exact F
          · intro _; rfl
        · (with_reducible apply ea_one)
          ((with_reducible apply ex_ret); exact ev_bool)
      | false =>
        rw [hg] at F
        (with_reducible apply ExA.drop)
        (with_reducible apply ea_stop)
        · (with_reducible apply ex_for)
          · (with_reducible apply it_range2); (· exact G.ok); (· exact AO.hh); (· exact G.gl rfl); (· kernel_rfl); (· rfl); (· ((with_reducible apply EvAll.cons); (· exact ev_int); (· intros; rfl); (· ((with_reducible apply EvAll.cons); (· ((with_reducible apply ev_binop); (· exact ev_name rfl rfl); (· exact ev_int); (· exact bo_add_int))); (· intros; rfl); (· exact EvAll.nil)))))
            (have hR := run_bd hw hv; revert hR; generalize max (runOf w) (runOf v) = R; intro hR; lia)
          · exact F
          · intro _; rfl
        · nofun
end
section
variable {C : Cx}
theorem fnIn_89 (G : Good C) : FnIn C 89 (fdAt C.w 89) (bodyAt C.w 89) ["self", "ws"] [] :=
  FnIn.m2 G (by kernel_rfl) (by kernel_rfl) (by kernel_rfl) (fun _ _ => by kernel_rfl) (by decide) (by kernel_rfl)
set_option genInjectivity false in
set_option genSizeOf false in
structure WI where
  n : Int
  nt : Int
  b : Nat
  count : List Int
noncomputable def bump (count : List Int) (b : Nat) : List Int :=
  let c := if count.length ≤ b then count ++ List.replicate (b - count.length + 1) 0 else count
  c.set b ((c[b]?).getD 0 + 1)
noncomputable def wsGo : List Nat → WI → WI
  | [], s => s
  | c :: r, s => if c = 32 then wsGo r { s with n := s.n + 1, b := s.b + 1 } else if c = 9 then wsGo r { n := s.n + 1, nt := s.nt + 1, b := 0, count := bump s.count s.b } else s
noncomputable def wsOf (x : Str) : WS := let s := wsGo x.cps.toList ⟨0, 0, 0, []⟩; { raw := x, n := s.n, nt := s.nt, count := s.count, b := s.b }
noncomputable def sp : Str := " "
noncomputable def tb : Str := "\t"
noncomputable def wiEnc (a : Addr) (x : Str) (s : WI) : PS := [("self", .self a 134 [("raw", .str x)]), ("ws", .val (.str x)), ("T", .val (.str "\t")), ("S", .val (.str " ")), ("count", .own (s.count.map .int)), ("b", .val (.int s.b)), ("n", .val (.int s.n)), ("nt", .val (.int s.nt))]
noncomputable def chr1 (c : Nat) : Str := ⟨#[c]⟩
theorem chr_sp (c : Nat) : (chr1 c = (" " : Str)) ↔ c = 32 := by
  constructor
  · intro h
    have : (chr1 c).cps.toList = (" " : Str).cps.toList := by rw [h]
    have h2 : (" " : Str).cps.toList = [32] := by decide +kernel
    rw [h2] at this
    simpa [chr1] using this
  · rintro rfl; decide +kernel
theorem chr_tb (c : Nat) : (chr1 c = ("\t" : Str)) ↔ c = 9 := by
  constructor
  · intro h
    have : (chr1 c).cps.toList = ("\t" : Str).cps.toList := by rw [h]
    have h2 : ("\t" : Str).cps.toList = [9] := by decide +kernel
    rw [h2] at this
    simpa [chr1] using this
  · rintro rfl; decide +kernel
theorem bump_len (count : List Int) (b : Nat) : (bump count b).length ≤ max count.length (b + 1) := by
  unfold bump
  dsimp only
  rw [List.length_set]
  split
  · rw [List.length_append, List.length_replicate]; lia
  · lia
theorem bump_eq (count : List Int) (b : Nat) : (bump count b).map PV.int = ((if count.length ≤ b then count ++ List.replicate (b - count.length + 1) 0 else count).map PV.int).set b (.int (((if count.length ≤ b then count ++ List.replicate (b - count.length + 1) 0 else count)[b]?).getD 0 + 1)) := by
  unfold bump
  dsimp only
  rw [List.map_set]
theorem rep_zero (n : Nat) : (List.replicate n ([PV.int 0] : List PV)).flatten = (List.replicate n (0 : Int)).map PV.int := by
  induction n with
  | zero => rfl
  | succ n ih => rw [List.replicate_succ, List.flatten_cons, ih, List.replicate_succ]; rfl
set_option maxHeartbeats 4000000 in
theorem ws_for (G : Good C) {A : Around} {L a : Addr} {k : Nat} (AO : AOk A k) (x : Str) : ∀ (l : List Nat) (st : WI), st.b + l.length ≤ 1000 → st.count.length ≤ 1001 →
    ForS C A (calleeEn (fdAt C.w 89) [] L 89) (forTgt (nth C.w 89 4)) (forBody (nth C.w 89 4)) (wiEnc a x (wsGo l st)) .next (l.map fun c => .str ⟨#[c]⟩) (wiEnc a x st)
  | [], st, _, _ => .done rfl
  | c :: r, st, hb, hc => by
    rw [List.length_cons] at hb
    have tg : TgS C A (calleeEn (fdAt C.w 89) [] L 89) (wiEnc a x st) (forTgt (nth C.w 89 4)) (.str ⟨#[c]⟩) (put (wiEnc a x st) "ch" (.val (.str (chr1 c)))) := by
      conv => arg 5; whnf
      exact tg_name (d := .str (chr1 c)) (by exact Or.inl (by kernel_rfl))
    by_cases q : c = 32
    · subst q
      have e : wsGo (32 :: r) st = wsGo r { st with n := st.n + 1, b := st.b + 1 } := by rw [wsGo]; rfl
      rw [e]
      refine .step tg (S2 := wiEnc a x { st with n := st.n + 1, b := st.b + 1 }) ?_ (ws_for G AO x r _ (by show st.b + 1 + r.length ≤ 1000; lia) hc)
      refine ExA.weaken (S' := put (put (put (wiEnc a x st) "ch" (.val (.str (chr1 32)))) "n" (.val (.int (st.n + 1)))) "b" (.val (.int ((st.b : Int) + 1)))) ?_ (.cons rfl (.cons rfl (.cons rfl (.cons rfl (.cons rfl (.cons rfl (.cons rfl (.cons rfl .nil))))))))
      conv => arg 5; whnf
      (with_reducible apply ea_one)
      (with_reducible apply ex_if (b := true))
      · (with_reducible apply ts_cmp); (· assumption); (· exact ev_name rfl rfl); (· exact ev_name rfl rfl); (· exact cm_eq_str.to (decide_eq_true ((chr_sp 32).mpr rfl))); (· rfl)
      · show ExA _ _ _ _ [_, _] _ _
        (with_reducible apply ea_cons); (· ((with_reducible apply ex_set); (· exact Or.inl (by kernel_rfl)); (· kernel_rfl); (· ((with_reducible apply ev_binop); (· exact ev_name rfl rfl); (· exact ev_int); (· exact bo_add_int)))))
        (with_reducible apply ea_one); ((with_reducible apply ex_set); (· exact Or.inl (by kernel_rfl)); (· kernel_rfl); (· ((with_reducible apply ev_binop); (· exact ev_name rfl rfl); (· exact ev_int); (· exact bo_add_int))))
    · by_cases q2 : c = 9
      · subst q2
        have e : wsGo (9 :: r) st = wsGo r { n := st.n + 1, nt := st.nt + 1, b := 0, count := bump st.count st.b } := by rw [wsGo]; rfl
        rw [e]
        have hbl := bump_len st.count st.b
        refine .step tg (S2 := wiEnc a x { n := st.n + 1, nt := st.nt + 1, b := 0, count := bump st.count st.b }) ?_ (ws_for G AO x r _ (by show 0 + r.length ≤ 1000; lia) (by show (bump st.count st.b).length ≤ 1001; lia))
        let c1 : List Int := if st.count.length ≤ st.b then st.count ++ List.replicate (st.b - st.count.length + 1) 0 else st.count
        have hc1 : st.b < c1.length := by
          show st.b < (if st.count.length ≤ st.b then st.count ++ List.replicate (st.b - st.count.length + 1) 0 else st.count).length
          split
          · rw [List.length_append, List.length_replicate]; lia
          · lia
        have hc2 : c1.length ≤ 1001 := by
          show (if st.count.length ≤ st.b then st.count ++ List.replicate (st.b - st.count.length + 1) 0 else st.count).length ≤ 1001
          split
          · rw [List.length_append, List.length_replicate]; lia
          · lia
        refine ExA.weaken (S' := put (put (put (put (put (put (wiEnc a x st) "ch" (.val (.str (chr1 9)))) "n" (.val (.int (st.n + 1)))) "nt" (.val (.int (st.nt + 1)))) "count" (.own (c1.map .int))) "count" (.own ((c1.map PV.int).set ((st.b : Int)).toNat (.int ((c1[st.b]?).getD 0 + 1))))) "b" (.val (.int 0))) ?_ (.cons rfl (.cons rfl (.cons rfl (.cons rfl (.cons ?_ (.cons rfl (.cons rfl (.cons rfl .nil))))))))
        · conv => arg 5; whnf
          (with_reducible apply ea_one)
          (with_reducible apply ex_if (b := false))
          · (with_reducible apply ts_cmp); (· assumption); (· exact ev_name rfl rfl); (· exact ev_name rfl rfl); (· exact cm_eq_str.to (decide_eq_false (fun h => by have := (chr_sp 9).mp h; lia))); (· rfl)
          · show ExA _ _ _ _ [_] _ _
            (with_reducible apply ea_one)
            (with_reducible apply ex_if (b := true))
            · (with_reducible apply ts_cmp); (· assumption); (· exact ev_name rfl rfl); (· exact ev_name rfl rfl); (· exact cm_eq_str.to (decide_eq_true ((chr_tb 9).mpr rfl))); (· rfl)
            · show ExA _ _ _ _ [_, _, _, _, _] _ _
              have hl : (st.count.map PV.int).length ≤ 3000 := by rw [List.length_map]; lia
              (with_reducible apply ea_cons); (· ((with_reducible apply ex_set); (· exact Or.inl (by kernel_rfl)); (· kernel_rfl); (· ((with_reducible apply ev_binop); (· exact ev_name rfl rfl); (· exact ev_int); (· exact bo_add_int)))))
              (with_reducible apply ea_cons); (· ((with_reducible apply ex_set); (· exact Or.inl (by kernel_rfl)); (· kernel_rfl); (· ((with_reducible apply ev_binop); (· exact ev_name rfl rfl); (· exact ev_int); (· exact bo_add_int)))))
              (with_reducible apply ea_cons (S' := put (put (put (put (wiEnc a x st) "ch" (.val (.str (chr1 9)))) "n" (.val (.int (st.n + 1)))) "nt" (.val (.int (st.nt + 1)))) "count" (.own (c1.map .int))))
              · (with_reducible apply ex_if)
                · ((with_reducible apply ts_cmp); (· assumption); (· exact ev_name rfl rfl); (· ((with_reducible apply ev_len_own); (· exact G.ok); (· exact G.gl rfl); (· kernel_rfl); (· rfl); (· rfl); (· rfl); (· exact lenOk_of (by assumption)))); (· exact cm_ge); (· rfl))
                · by_cases q3 : st.count.length ≤ st.b
                  · have e1 : c1.map PV.int = st.count.map PV.int ++ (List.replicate (st.b - st.count.length + 1) ([PV.int 0] : List PV)).flatten := by
                      rw [rep_zero, ← List.map_append]
                      show (if st.count.length ≤ st.b then st.count ++ List.replicate (st.b - st.count.length + 1) 0 else st.count).map PV.int = _
                      rw [if_pos q3]
                    have e2 : (((st.b : Int) - ((st.count.map PV.int).length : Int) + 1).toNat) = st.b - st.count.length + 1 := by rw [List.length_map]; lia
                    rw [decide_eq_true (by rw [List.length_map]; lia), e1, ← e2]
                    show ExA _ _ _ _ [_] _ _
                    (with_reducible apply ea_one)
                    (with_reducible apply ex_own); (· exact Or.inl (by kernel_rfl)); (· kernel_rfl)
                    (with_reducible apply el_add_own)
                    · rfl
                    · rfl
                    · (with_reducible apply ev_binop); (· ((with_reducible apply ev_list); (· ((with_reducible apply EvAll.cons); (· exact ev_int); (· intros; rfl); (· exact EvAll.nil))); (· exact lenOk_of (by decide)))); (· ((with_reducible apply ev_binop); (· ((with_reducible apply ev_binop); (· exact ev_name rfl rfl); (· ((with_reducible apply ev_len_own); (· exact G.ok); (· exact G.gl rfl); (· kernel_rfl); (· rfl); (· rfl); (· rfl); (· exact lenOk_of (by assumption)))); (· exact bo_sub_int))); (· exact ev_int); (· exact bo_add_int)))
                      (with_reducible apply bo_mul_list)
                      · rw [List.length_map]; lia
                      · rw [List.length_map]; lia
                      · decide
                    · exact lenOk_of hl
                    · refine lenOk_of ?_
                      rw [rep_zero, List.length_map, List.length_replicate, List.length_map]; lia
                  · have e1 : c1 = st.count := if_neg q3
                    rw [decide_eq_false (by rw [List.length_map]; lia), e1]
                    refine ExA.weaken ea_nil (.cons rfl (.cons rfl (.cons rfl (.cons rfl (.cons rfl (.cons rfl (.cons rfl (.cons rfl (.cons rfl .nil)))))))))
              · have hix : idx (c1.map PV.int) (st.b : Int) = some (.int ((c1[st.b]?).getD 0)) := by
                  refine idx_pos (by rw [List.length_map]; lia) (by lia) (by lia) ?_
                  rw [List.getElem?_map, Int.toNat_natCast, List.getElem?_eq_getElem hc1]
                  rfl
                (with_reducible apply ea_cons)
                · (with_reducible apply ex_item (kx := (st.b : Int)) (d := .int ((c1[st.b]?).getD 0 + 1)))
                  · rfl
                  · rfl
                  · (with_reducible apply ev_binop)
                    · (with_reducible apply ev_sub_own); (· rfl); (· rfl); (· exact ev_name rfl rfl); (· exact hix); (· rfl)
                    · exact ev_int
                    · exact bo_add_int
                  · exact ev_name rfl rfl
                  · lia
                  · rw [List.length_map]; lia
                  · exact lenOk_of (by rw [List.length_map]; lia)
                  · kernel_rfl
                  · kernel_rfl
                · (with_reducible apply ea_one); ((with_reducible apply ex_set); (· exact Or.inl (by kernel_rfl)); (· kernel_rfl); (· exact ev_int))
        · rw [bump_eq]; rfl
      · have e : wsGo (c :: r) st = st := by rw [wsGo, if_neg q, if_neg q2]
        rw [e]
        refine .brk tg ?_ rfl
        refine ExA.weaken (S' := put (wiEnc a x st) "ch" (.val (.str (chr1 c)))) ?_ (.cons rfl (.cons rfl (.cons rfl (.cons rfl (.cons rfl (.cons rfl (.cons rfl (.cons rfl .nil))))))))
        conv => arg 5; whnf
        (with_reducible apply ea_one)
        (with_reducible apply ex_if (b := false))
        · (with_reducible apply ts_cmp); (· assumption); (· exact ev_name rfl rfl); (· exact ev_name rfl rfl); (· exact cm_eq_str.to (decide_eq_false (fun h => q ((chr_sp c).mp h)))); (· rfl)
        · show ExA _ _ _ _ [_] _ _
          (with_reducible apply ea_one)
          (with_reducible apply ex_if (b := false))
          · (with_reducible apply ts_cmp); (· assumption); (· exact ev_name rfl rfl); (· exact ev_name rfl rfl); (· exact cm_eq_str.to (decide_eq_false (fun h => q2 ((chr_tb c).mp h)))); (· rfl)
          · show ExA _ _ _ _ [_] _ _
            (with_reducible apply ea_one); exact ex_brk
theorem ev_ws (G : Good C) {A : Around} {env : En} {S : PS} {p pos : Pos} (hk : env.e.kindOf "Whitespace" = some .globalImplicit) : EvS C A env S (.Attribute (.Name "Whitespace" p) "S" pos) (.str " ") ∧ EvS C A env S (.Attribute (.Name "Whitespace" p) "T" pos) (.str "\t") := by
  have h1 : ((findCls (heapK C.w.params) (.ref 134) (.type "type") "S").elim false fun f => match f with | .val (.str y _) => y == (" " : Str) | _ => false) = true := by kernel_rfl
  have h2 : ((findCls (heapK C.w.params) (.ref 134) (.type "type") "T").elim false fun f => match f with | .val (.str y _) => y == ("\t" : Str) | _ => false) = true := by kernel_rfl
  constructor
  · cases e : findCls (heapK C.w.params) (.ref 134) (.type "type") "S" with
    | none => rw [e] at h1; cases h1
    | some f =>
      rw [e] at h1
      simp only [Option.elim] at h1
      split at h1
      · rename_i y t
        have := beq_iff_eq.mp h1
        subst this
        exact ev_cattr G.ok (G.gl (by rfl)) hk rfl (by rw [G.K]; kernel_rfl) (by rw [G.K]; exact e)
      · cases h1
  · cases e : findCls (heapK C.w.params) (.ref 134) (.type "type") "T" with
    | none => rw [e] at h2; cases h2
    | some f =>
      rw [e] at h2
      simp only [Option.elim] at h2
      split at h2
      · rename_i y t
        have := beq_iff_eq.mp h2
        subst this
        exact ev_cattr G.ok (G.gl (by rfl)) hk rfl (by rw [G.K]; kernel_rfl) (by rw [G.K]; exact e)
      · cases h2
theorem wsGo_len (l : List Nat) : ∀ st : WI, st.b + l.length ≤ 1000 → st.count.length ≤ 1001 → (wsGo l st).count.length ≤ 1001 ∧ (wsGo l st).b ≤ 1000 := by
  induction l with
  | nil => intro st h1 h2; exact ⟨h2, by simpa [wsGo] using h1⟩
  | cons c r ih =>
    intro st h1 h2
    rw [List.length_cons] at h1
    unfold wsGo
    split
    · exact ih _ (by show st.b + 1 + r.length ≤ 1000; lia) h2
    · split
      · have := bump_len st.count st.b
        exact ih _ (by show 0 + r.length ≤ 1000; lia) (by show (bump st.count st.b).length ≤ 1001; lia)
      · exact ⟨h2, by lia⟩
set_option maxHeartbeats 4000000 in
theorem make_ws (G : Good C) (x : Str) (hx : x.cps.toList.length ≤ 1000) : FnOk C 134 3 [.str x] (wsObj (wsOf x)) := by
  have hlen := wsGo_len x.cps.toList ⟨0, 0, 0, []⟩ (by simpa using hx) (Nat.zero_le _)
  refine cls_ok (k := 1) G.ok (by rw [G.K]; kernel_rfl) (by rw [G.K]; kernel_rfl) (by rw [G.K]; kernel_rfl) (fnIn_89 G) rfl (fs := wsFs (wsOf x)) fun A L a AO => ?_
  let st : WI := wsGo x.cps.toList ⟨0, 0, 0, []⟩
  have hl : (st.count.map PV.int).length ≤ 3000 := by rw [List.length_map]; have := hlen.1; show (wsGo x.cps.toList ⟨0, 0, 0, []⟩).count.length ≤ 3000; lia
  have e8 : decide ((((wsGo x.cps.toList ⟨0, 0, 0, []⟩).count.map PV.int).length : Int) ≤ 1) = decide (((wsGo x.cps.toList ⟨0, 0, 0, []⟩).count.length : Int) ≤ 1) := by rw [List.length_map]
  refine ⟨put (put (put (put (put (wiEnc a x st) "count" (.val (.list (st.count.map .int)))) "self" (.self a 134 [("raw", .str x), ("n", .int st.n)])) "self" (.self a 134 [("raw", .str x), ("n", .int st.n), ("nt", .int st.nt)])) "self" (.self a 134 [("raw", .str x), ("n", .int st.n), ("nt", .int st.nt), ("norm", .tuple [.tuple (st.count.map .int), .int st.b])]))
    "self" (.self a 134 (wsFs (wsOf x))), rfl, ?_⟩
  conv => arg 5; whnf
  (with_reducible apply ea_cons)
  · (with_reducible apply ex_setattr); (· exact G.ok); (· rfl); (· rfl); (· exact inst_134 G); (· exact set_134 G); (· rw [G.K]; kernel_rfl); (· show 0 ≤ 100; decide); (· exact ev_name rfl rfl); (· kernel_rfl)
  (with_reducible apply ea_cons)
  · have ev : EvS C A (calleeEn (fdAt C.w 89) [] L 89) (put (("self", .self a 134 []) :: zipP ["ws"] ([PV.str x].map .val)) "self" (.self a 134 (putf [] "raw" (.str x)))) (asgValue (nth C.w 89 1)) (.tuple [.str " ", .str "\t"]) := by
      conv => arg 5; whnf
      (with_reducible apply ev_tuple)
      · (with_reducible apply EvAll.cons); (· exact (ev_ws G (by kernel_rfl)).1); (· intros; rfl)
        (with_reducible apply EvAll.cons); (· exact (ev_ws G (by kernel_rfl)).2); (· intros; rfl)
        exact EvAll.nil
      · rfl
    have s1 : Sto (calleeEn (fdAt C.w 89) [] L 89) "S" := by exact Or.inl (by kernel_rfl)
    have s2 : Sto (calleeEn (fdAt C.w 89) [] L 89) "T" := by exact Or.inl (by kernel_rfl)
    exact ex_swapped AO.hh s1 s2 ev (by kernel_rfl) (by kernel_rfl)
  (with_reducible apply ea_cons)
  · (with_reducible apply ex_own); (· exact Or.inl (by kernel_rfl)); (· kernel_rfl); (with_reducible apply el_list); (· exact EvAll.nil); (· rfl)
  (with_reducible apply ea_cons)
  · (with_reducible apply ex_three)
    · exact ev_int
    · (with_reducible apply tg_name); exact Or.inl (by kernel_rfl)
    · (with_reducible apply tg_name); exact Or.inl (by kernel_rfl)
    · (with_reducible apply tg_name); exact Or.inl (by kernel_rfl)
    · rfl
    · kernel_rfl
  (with_reducible apply ea_cons (S' := wiEnc a x st))
  · (with_reducible apply ex_for)
    · (with_reducible apply it_str); (· exact AO.hh); (· ((with_reducible apply ev_attr_self); (· exact G.ok); (· rfl); (· rfl); (· exact inst_134 G); (· rw [G.K]; kernel_rfl); (· rfl); (· rfl)))
    · exact ws_for G AO x x.cps.toList ⟨0, 0, 0, []⟩ (by simpa using hx) (Nat.zero_le _)
    · intro _; rfl
  (with_reducible apply ea_freeze (x := "count")); (· rfl)
  (with_reducible apply ea_cons)
  · (with_reducible apply ex_setattr); (· exact G.ok); (· rfl); (· rfl); (· exact inst_134 G); (· exact set_134 G); (· rw [G.K]; kernel_rfl); (· exact Nat.le_of_ble_eq_true rfl); (· exact ev_name rfl rfl); (· kernel_rfl)
  (with_reducible apply ea_cons)
  · (with_reducible apply ex_setattr); (· exact G.ok); (· rfl); (· rfl); (· exact inst_134 G); (· exact set_134 G); (· rw [G.K]; kernel_rfl); (· exact Nat.le_of_ble_eq_true rfl); (· exact ev_name rfl rfl); (· kernel_rfl)
  (with_reducible apply ea_cons)
  · (with_reducible apply ex_setattr); (· exact G.ok); (· rfl); (· rfl); (· exact inst_134 G); (· exact set_134 G); (· rw [G.K]; kernel_rfl); (· exact Nat.le_of_ble_eq_true rfl); (· ((with_reducible apply ev_tuple); (· ((with_reducible apply EvAll.cons); (· ((with_reducible apply ev_tcall); (· exact G.ok); (· assumption); (· exact G.gl rfl); (· kernel_rfl); (· rfl); (· ((with_reducible apply EvAll.cons); (· exact ev_name rfl rfl); (· intros; rfl); (· exact EvAll.nil))); (· (refine bc_tuple ?_; assumption)))); (· intros; rfl); (· ((with_reducible apply EvAll.cons); (· exact ev_name rfl rfl); (· intros; rfl); (· exact EvAll.nil))))); (· exact lenOk_of (by (simp; done))))); (· kernel_rfl)
  have e9 : (PVar.self a 134 (wsFs (wsOf x))) = .self a 134 [("raw", .str x), ("n", .int st.n), ("nt", .int st.nt), ("norm", .tuple [.tuple (st.count.map .int), .int st.b]), ("is_simple", .bool (decide (((st.count.map PV.int).length : Int) ≤ 1)))] := by
    rw [e8]; rfl
  rw [e9]
  refine ea_one (ex_setattr (fs := [("raw", .str x), ("n", .int st.n), ("nt", .int st.nt), ("norm", .tuple [.tuple (st.count.map .int), .int st.b])]) (d := .bool (decide (((st.count.map PV.int).length : Int) ≤ 1))) G.ok rfl rfl (inst_134 G) (set_134 G) ?_ (Nat.le_of_ble_eq_true rfl) ?_ ?_)
  · (rw [Good.K (by assumption)]; kernel_rfl)
  · ((with_reducible apply ev_cmp); (· assumption); (· ((with_reducible apply ev_bcall); (· exact G.ok); (· assumption); (· exact G.gl rfl); (· kernel_rfl); (· rfl); (· ((with_reducible apply EvAll.cons); (· exact ev_name rfl rfl); (· intros; rfl); (· exact EvAll.nil))); (· (refine bc_len_list ?_; assumption)))); (· exact ev_int); (· exact cm_le); (· rfl))
  · kernel_rfl
end
section
variable {C : Cx}
theorem fnIn_188 (G : Good C) : FnIn C 188 (fdAt C.w 188) (bodyAt C.w 188) ["sizes", "rest"] [] :=
  FnIn.m2 G (by kernel_rfl) (by kernel_rfl) (by kernel_rfl) (fun _ _ => by kernel_rfl) (by decide) (by kernel_rfl)
theorem fit_none {env : En} {S : PS} {scope : Scope} (h1 : ∀ x ∈ scope.names, x.2 ≠ .free) (h2 : CompCells scope none) (h3 : scope.kind = .function) (h4 : ∀ x ∈ scope.names, x.2 = .local → scope.names.lookup x.1 = some .local) : CompFit env S [] scope none [] :=
  ⟨closureFor_none h1, h2, h3, h4, fun x pv e => by (unfold get at e; cases e), fun x hx => nomatch hx⟩
noncomputable def cl (x : Str) : List Nat := x.cps.toList
theorem str_ext {x y : Str} (h : cl x = cl y) : x = y := by
  obtain ⟨⟨l⟩⟩ := x; obtain ⟨⟨m⟩⟩ := y
  have : l = m := h
  rw [this]
theorem cl_app (x y : Str) : cl (x ++ y) = cl x ++ cl y := by
  show (x.cps ++ y.cps).toList = _
  rw [Array.toList_append]; rfl
theorem len_cl (x : Str) : x.length = (cl x).length := by unfold cl Str.length; simp
theorem cl_mul (x : Str) (n : Int) : cl (strMul x n) = (List.replicate n.toNat (cl x)).flatten := by unfold strMul cl; simp
theorem cl_join : ∀ ss : List Str, cl (Txt.join "" ss) = (ss.map cl).flatten := by
  intro ss
  have h := PyProof.Rows.join_plain_closes "" ss
  rw [beq_iff_eq.mp h]
  induction ss with
  | nil => rfl
  | cons x r ih =>
    cases r with
    | nil => show cl x = _; simp
    | cons y r =>
      show cl (x ++ ("" : Str) ++ Str.join "" (y :: r)) = _
      rw [cl_app, cl_app, ih (PyProof.Rows.join_plain_closes _ _)]
      have : cl ("" : Str) = [] := by decide +kernel
      rw [this]; simp
noncomputable def ind (s : Int) : Str := strMul " " s ++ "\t"
noncomputable def leadStr (sizes : List Int) (rest : Int) : Str := Txt.join "" (sizes.map ind) ++ strMul " " rest ++ "x \t"
theorem cl_ind (s : Int) : cl (ind s) = List.replicate s.toNat 32 ++ [9] := by
  unfold ind
  rw [cl_app, cl_mul]
  have e1 : cl (" " : Str) = [32] := by decide +kernel
  have e2 : cl ("\t" : Str) = [9] := by decide +kernel
  rw [e1, e2]
  congr 1
  generalize s.toNat = n
  induction n with
  | zero => rfl
  | succ n ih => rw [List.replicate_succ, List.flatten_cons, ih]; rfl
noncomputable def leadL (sizes : List Int) (rest : Int) : List Nat := (sizes.map fun s => List.replicate s.toNat 32 ++ [9]).flatten ++ (List.replicate rest.toNat 32 ++ [120, 32, 9])
theorem cl_lead (sizes : List Int) (rest : Int) : cl (leadStr sizes rest) = leadL sizes rest := by
  unfold leadStr leadL
  rw [cl_app, cl_app, cl_join, cl_mul, List.map_map]
  have e1 : cl (" " : Str) = [32] := by decide +kernel
  have e2 : cl ("x \t" : Str) = [120, 32, 9] := by decide +kernel
  rw [e1, e2, List.append_assoc]
  congr 1
  · congr 1
    apply List.map_congr_left
    intro s _
    exact cl_ind s
  · congr 1
    generalize rest.toNat = n
    induction n with
    | zero => rfl
    | succ n ih => rw [List.replicate_succ, List.flatten_cons, ih]; rfl
theorem ind_len (s : Int) : (ind s).length = s.toNat + 1 := by rw [len_cl, cl_ind]; simp
theorem sum_ind : ∀ sizes : List Int, (∀ s ∈ sizes, s ≤ 40) → sumLen (sizes.map ind) ≤ 41 * sizes.length
  | [], _ => Nat.le_refl _
  | s :: r, h => by
    have ih := sum_ind r fun t ht => h t (.tail _ ht)
    have hs := h s (.head _)
    unfold sumLen at ih ⊢
    rw [List.map_cons, List.map_cons, List.sum_cons, ind_len, List.length_cons]
    lia
theorem map_ind (sizes : List Int) : sizes.map (fun s => PV.str (ind s)) = (sizes.map ind).map .str := by rw [List.map_map]; rfl
set_option maxHeartbeats 4000000 in
theorem lead (G : Good C) (sizes : List Int) (rest : Int) (h1 : sizes.length ≤ 20) (h2 : ∀ s ∈ sizes, 0 ≤ s ∧ s ≤ 40) (h3 : 0 ≤ rest ∧ rest ≤ 100) : FnOk C 188 4 [.list (sizes.map .int), .int rest] (wsObj (wsOf (leadStr sizes rest))) := by
  apply fn_ok G.ok (fnIn_188 G) rfl (fl := .ret (wsObj (wsOf (leadStr sizes rest)))) rfl
  intro A L AO
  have hs := sum_ind sizes fun s hs => by have := h2 s hs; lia
  have hj : SM nJoin "" [.list ((sizes.map ind).map .str)] (.str (Txt.join "" (sizes.map ind))) := sm_join (by lia) (by rw [List.length_map]; lia) (by decide)
  have hsl : ((List.map List.length (List.map cl (sizes.map ind))).sum) = sumLen (sizes.map ind) := by
    unfold sumLen
    rw [List.map_map]
    rfl
  have hjl : (Txt.join "" (sizes.map ind)).length ≤ 2100 := by
    rw [len_cl, cl_join, List.length_flatten]
    lia
  have hml : (strMul " " rest).length ≤ 100 := by
    rw [len_cl, cl_mul]
    have e1 : cl (" " : Str) = [32] := by decide +kernel
    rw [e1]; simp; lia
  have hl3 : (leadL sizes rest).length ≤ 1000 := by
    have e : (leadL sizes rest).length = sumLen (sizes.map ind) + (rest.toNat + 3) := by
      unfold leadL
      rw [List.length_append, List.length_flatten]
      congr 1
      · rw [← hsl, List.map_map, List.map_map, List.map_map]
        congr 1
        apply List.map_congr_left
        intro s _
        show _ = (cl (ind s)).length
        rw [cl_ind]; rfl
      · simp
    lia
  conv => arg 5; whnf
  (with_reducible apply ea_stop)
  · (with_reducible apply ex_ret)
    (with_reducible apply ev_call); (· exact G.ok); (· assumption); (· exact G.gl rfl); (· kernel_rfl); (· rfl); (· exact G.kf (by kernel_rfl))
    · (with_reducible apply EvAll.cons)
      · show EvS _ _ _ _ _ (.str (leadStr sizes rest))
        refine ev_binop (a := .str (Txt.join "" (sizes.map ind) ++ strMul " " rest)) (b := .str "x \t") ?_ ?_ (bo_add_str ?_ ?_)
        · refine ev_binop (a := .str (Txt.join "" (sizes.map ind))) (b := .str (strMul " " rest)) ?_ ?_ (bo_add_str ?_ ?_)
          · refine ev_smeth (x := "") (ds := [.list ((sizes.map ind).map .str)]) AO rfl (by decide) rfl ev_str (.cons ?_ (fun _ _ => rfl) .nil) hj
            rw [← map_ind]
            refine el_ev (el_comp (S₁ := []) (own := none) (cl := []) (ds := sizes.map .int) (co := none) (fit_none ?_ ?_ rfl ?_) (it_list AO.hh (by exact ev_name rfl rfl)) (fun a => ?_) ?_ (fun _ => rfl))
            · decide
            · intro h n acc; exact ⟨rfl, rfl⟩
            · decide
            · apply CmpS.map (S₀ := []) .int (fun s => .str (ind s)) (fun s => 0 ≤ s ∧ s ≤ 40) sizes Sub.nil h2
              · intro s _; (with_reducible apply tg_name); exact Or.inl (by kernel_rfl)
              · intro s; exact Sub.nil
              · intro s hs
                have hsl : (strMul " " s).length ≤ 3000 := by
                  rw [len_cl, cl_mul]
                  have e1 : cl (" " : Str) = [32] := by decide +kernel
                  rw [e1]; simp; lia
                show EvS _ _ _ _ _ (.str (strMul " " s ++ "\t"))
                ((with_reducible apply ev_binop); (· ((with_reducible apply ev_binop); (· exact ev_str); (· exact ev_name rfl rfl); (· ((apply bo_mul_str); (· decide); (· lia); (· lia))))); (· exact ev_str); (· ((apply bo_add_str); (· assumption); (· decide))))
            · exact lenOk_of (by rw [List.length_map]; lia)
          · ((with_reducible apply ev_binop); (· exact ev_str); (· exact ev_name rfl rfl); (· ((apply bo_mul_str); (· decide); (· lia); (· lia))))
          · lia
          · lia
        · exact ev_str
        · show ((Txt.join "" (sizes.map ind)).cps ++ (strMul " " rest).cps).size ≤ 3000
          rw [Array.size_append]
          show (Txt.join "" (sizes.map ind)).length + (strMul " " rest).length ≤ 3000
          lia
        · decide
      · intros; rfl
      · exact EvAll.nil
    · exact FnOk.le (make_ws G _ (by show (cl (leadStr sizes rest)).length ≤ 1000; rw [cl_lead]; exact hl3)) (by lia)
  · nofun
end
section
open PySem.Builtin.Str PySem.StrLaws
noncomputable def idxs (c : Nat) : Nat → List Nat → List Nat
  | _, [] => []
  | i, d :: r => if d = c then i :: idxs c (i + 1) r else idxs c (i + 1) r
noncomputable abbrev one (c : Nat) : Str := ⟨#[c]⟩
theorem subAt_one (x : Str) (c i : Nat) : subAt x (one c) i = true ↔ (cl x)[i]? = some c := by
  unfold subAt
  rw [beq_iff_eq]
  show x.cps.extract i (i + 1) = #[c] ↔ x.cps.toList[i]? = some c
  rw [← Array.toList_inj, Array.toList_extract, List.extract_eq_take_drop]
  have e : i + 1 - i = 1 := by lia
  rw [e]
  have := @take1_drop x.cps.toList c i
  rw [beq_iff_eq] at this
  exact this
theorem idxs_len (c : Nat) : ∀ (l : List Nat) (i : Nat), (idxs c i l).length ≤ l.length
  | [], _ => Nat.le_refl _
  | d :: r, i => by
    unfold idxs
    have := idxs_len c r (i + 1)
    split <;> simp only [List.length_cons] <;> lia
theorem occ_go (x : Str) (c lim : Nat) : ∀ (n i : Nat) (st : Array Nat × Nat), st.snd ≤ i → i + n = x.length + 1 →
    (forIn (List.range' i n) st (occBody x (one c) x.length lim)).run.fst.toList = st.fst.toList ++ (idxs c i ((cl x).drop i)).take (lim - st.fst.size)
  | 0, i, st, h1, h2 => by
    have : (cl x).drop i = [] := List.drop_of_length_le (by rw [← len_cl]; lia)
    rw [this]
    simp [idxs]
  | n + 1, i, st, h1, h2 => by
    rw [List.range'_succ, List.forIn_cons]
    by_cases hi : i < x.length
    · have hi' : i < (cl x).length := by rw [← len_cl]; exact hi
      rw [List.drop_eq_getElem_cons hi']
      by_cases hc : (cl x)[i] = c
      · have hs : subAt x (one c) i = true := (subAt_one x c i).mpr (by rw [List.getElem?_eq_getElem hi', hc])
        have e : idxs c i ((cl x)[i] :: (cl x).drop (i + 1)) = i :: idxs c (i + 1) ((cl x).drop (i + 1)) := if_pos hc
        rw [e]
        by_cases hl : st.fst.size < lim
        · have eb : occBody x (one c) x.length lim i st = pure (ForInStep.yield (st.fst.push i, i + 1)) := if_pos ⟨⟨⟨hl, h1⟩, by show i + 1 ≤ _; lia⟩, hs⟩
          rw [eb]
          show (Id.run (forIn (List.range' (i + 1) n) (st.fst.push i, i + 1) (occBody x (one c) x.length lim))).fst.toList = _
          rw [occ_go x c lim n (i + 1) _ (Nat.le_refl _) (by lia)]
          simp only [Array.toList_push, Array.size_push]
          have e2 : lim - st.fst.size = (lim - (st.fst.size + 1)) + 1 := by lia
          rw [e2, List.take_succ_cons, List.append_assoc]
          rfl
        · have eb : occBody x (one c) x.length lim i st = pure (ForInStep.yield (st.fst, st.snd)) := if_neg fun q => hl q.1.1.1
          rw [eb]
          show (Id.run (forIn (List.range' (i + 1) n) (st.fst, st.snd) (occBody x (one c) x.length lim))).fst.toList = _
          rw [occ_go x c lim n (i + 1) _ (by show st.snd ≤ i + 1; lia) (by lia)]
          have e2 : lim - st.fst.size = 0 := by lia
          rw [e2, List.take_zero, List.take_zero]
      · have hs : ¬ subAt x (one c) i = true := fun q => hc (by have := (subAt_one x c i).mp q; rw [List.getElem?_eq_getElem hi'] at this; exact Option.some.inj this)
        have e : idxs c i ((cl x)[i] :: (cl x).drop (i + 1)) = idxs c (i + 1) ((cl x).drop (i + 1)) := if_neg hc
        rw [e]
        have eb : occBody x (one c) x.length lim i st = pure (ForInStep.yield (st.fst, st.snd)) := if_neg fun q => hs q.2
        rw [eb]
        exact occ_go x c lim n (i + 1) _ (by show st.snd ≤ i + 1; lia) (by lia)
    · have eb : occBody x (one c) x.length lim i st = pure (ForInStep.yield (st.fst, st.snd)) := if_neg fun q => by have : i + 1 ≤ x.length := q.1.2; lia
      rw [eb]
      have : (cl x).drop i = [] := List.drop_of_length_le (by rw [← len_cl]; lia)
      have h3 : (cl x).drop (i + 1) = [] := List.drop_of_length_le (by rw [← len_cl]; lia)
      show (Id.run (forIn (List.range' (i + 1) n) (st.fst, st.snd) (occBody x (one c) x.length lim))).fst.toList = _
      rw [occ_go x c lim n (i + 1) _ (by show st.snd ≤ i + 1; lia) (by lia), this, h3]
      rfl
theorem occ_one (x : Str) (c lo lim : Nat) (h : lo ≤ x.length) : occurrences x (one c) lo x.length lim = (idxs c lo ((cl x).drop lo)).take lim := by
  rw [occ_eq, occ_go x c lim _ lo (#[], lo) (Nat.le_refl _) (by lia)]
  simp
noncomputable def first (l : List Nat) : Int := match l with | k :: _ => (k : Int) | [] => -1
theorem find_one (x : Str) (c : Nat) : Txt.find x (one c) = first (idxs c 0 (cl x)) := by
  unfold Txt.find
  rw [occ_one x c 0 1 (Nat.zero_le _), List.drop_zero]
  cases idxs c 0 (cl x) <;> rfl
theorem find3_one (x : Str) (c i : Nat) (h : i ≤ x.length) : Txt.find3 x (one c) i = first (idxs c i ((cl x).drop i)) := by
  unfold Txt.find3
  have e : fromIndex x.length (i : Int) = i := by unfold fromIndex; rw [if_neg (by lia)]; lia
  rw [e, occ_one x c i 1 h]
  cases idxs c i ((cl x).drop i) <;> rfl
noncomputable def splitG (c : Nat) : List Nat → List Nat → List (List Nat)
  | acc, [] => [acc]
  | acc, d :: r => if d = c then acc :: splitG c [] r else splitG c (acc ++ [d]) r
noncomputable def mkS (l : List Nat) : Str := ⟨l.toArray⟩
theorem strSub_cl (x : Str) (a j : Nat) : strSub x a j = mkS (((cl x).take j).drop a) := by
  unfold strSub mkS
  congr 1
  apply Array.ext'
  rw [Array.toList_extract, List.extract_eq_take_drop, List.toList_toArray]
  show List.take (j - a) (List.drop a (cl x)) = _
  rw [List.drop_take]
theorem parts_one (x : Str) (c : Nat) : ∀ (r : List Nat) (a j : Nat), (cl x).drop j = r → a ≤ j → j ≤ (cl x).length → partsFrom x 1 a (idxs c j r) = (splitG c (((cl x).take j).drop a) r).map mkS
  | [], a, j, h, h1, h2 => by
    have : (cl x).length ≤ j := by
      have := congrArg List.length h
      rw [List.length_drop] at this
      simp only [List.length_nil] at this
      lia
    have e : j = x.length := by rw [len_cl]; lia
    subst e
    show [strSub x a x.length] = [mkS _]
    rw [strSub_cl]
  | d :: r, a, j, h, h1, h2 => by
    have hj : j < (cl x).length := by
      have := congrArg List.length h
      rw [List.length_drop] at this
      simp only [List.length_cons] at this
      lia
    rw [List.drop_eq_getElem_cons hj] at h
    obtain ⟨hd, hr⟩ := List.cons.inj h
    unfold idxs splitG
    by_cases hc : d = c
    · rw [if_pos hc, if_pos hc]
      show strSub x a j :: partsFrom x 1 (j + 1) (idxs c (j + 1) r) = mkS _ :: _
      rw [parts_one x c r (j + 1) (j + 1) hr (Nat.le_refl _) (by lia), strSub_cl]
      have : ((cl x).take (j + 1)).drop (j + 1) = [] := List.drop_of_length_le (by rw [List.length_take]; lia)
      rw [this]
    · rw [if_neg hc, if_neg hc]
      rw [parts_one x c r a (j + 1) hr (by lia) (by lia)]
      congr 2
      rw [List.take_succ_eq_append_getElem hj, List.drop_append_of_le_length (by rw [List.length_take]; lia), hd]
theorem kind_ge (x : Str) : 1 ≤ Builtin.Str.strKind x := by unfold Builtin.Str.strKind; split <;> (try split) <;> lia
theorem split_one (x : Str) (c : Nat) (hc : c < 256) : Txt.split x (one c) = (splitG c [] (cl x)).map mkS := by
  have hk : Builtin.Str.strKind (one c) = 1 := by unfold Builtin.Str.strKind; rw [if_pos (by simp [hc])]
  have key : partsFrom x 1 0 (idxs c 0 (cl x)) = (splitG c [] (cl x)).map mkS := by
    have := parts_one x c (cl x) 0 0 (List.drop_zero ..) (Nat.le_refl _) (Nat.zero_le _)
    simpa using this
  have hl : occurrences x (one c) 0 x.length (x.length + 1) = idxs c 0 (cl x) := by
    rw [occ_one x c 0 _ (Nat.zero_le _), List.drop_zero]
    exact List.take_of_length_le (by have := idxs_len c (cl x) 0; rw [← len_cl] at this; lia)
  unfold Txt.split
  rw [hl, hk, decide_eq_false (Nat.not_lt.mpr (kind_ge x)), Bool.or_false]
  by_cases h0 : x.length < 1
  · rw [if_pos (decide_eq_true (by exact h0))]
    have : cl x = [] := List.eq_nil_of_length_eq_zero (by rw [← len_cl]; lia)
    rw [this]
    show [x] = [mkS []]
    congr 1
    exact str_ext this
  · rw [if_neg (by rw [decide_eq_false (by exact h0)]; exact Bool.false_ne_true)]
    cases hi : idxs c 0 (cl x) with
    | nil =>
      rw [hi] at key
      rw [if_pos (show ([] : List Nat).isEmpty = true from rfl), ← key]
      show [x] = [strSub x 0 x.length]
      rw [sub_whole]
    | cons k r =>
      rw [if_neg (by simp), ← hi, ← key]
      exact partsBetween_eq x _ 1
end
section
section
variable {C : Cx} {env : En} {F F' F'' : Fz} {M M' M'' : Mz} {h h' h'' : Heap} {S S' S'' S₁ : PS} {A : Around} {s : Shared} {E : Value → Shared → Prop} {k : Nat} {st : Stmt} {rest : List Stmt} {fl : PFl} {pos : Pos}
  {f : Addr} {fd : FuncData} {body : List Stmt} {ns ow : List Str} {cls : Value}
theorem fn_raiseC (O : C.Ok) (FI : FnIn C f fd body ns ow) {ds : List PV} (hlen : ds.length = ns.length) (B : ∀ A L, AOk A k → RaAC C A (calleeEn fd ow L f) (zipP ns (ds.map .val)) body cls) : FnRaiseC C f (k + 1) ds cls := fun A s F M vs ch W AO hfr hch i Q E kk => by
  refine wpC_call (call_inC O FI AO W i.pars (by rw [i.length]; exact hlen) fun h₁ tk L M₁ AO' R g md => ?_)
  exact (B _ L AO').run { s with heap := h₁, toks := tk } F M₁ R _ _ fun e h₂ h' tk' F' M' S' m t sp R' mk => raise_leave (s := s) (eargs := [.str m]) FI hfr hch R.frame g md sp R' mk (.cons (.str m t) .nil) fun h3 fl => kk e h3 tk' F' m fl
theorem FnRaiseC.le {ds : List PV} {j : Nat} (x : FnRaiseC C f j ds cls) (h : j ≤ k) : FnRaiseC C f k ds cls := fun A s F M vs ch W AO => x A s F M vs ch W (AO.le h)
theorem FnOkXC.le {ds : List PV} {d : PV} {j : Nat} (x : FnOkXC C f j ds d) (h : j ≤ k) : FnOkXC C f k ds d := fun A s F M vs W AO => x A s F M vs W (AO.le h)
theorem exC_try_raise (O : C.Ok) (AO : AOk A k) (chB : ChainB C A env.e.locals) (henv : env.e.frame = some env.e.locals) (hA : ∃ ch, A.frames = some (env.e :: ch)) {x : Str} {f : Addr} {es : List Expr} {ds : List PV} {np cpos rpos : Pos} {h₀ : ExceptHandler} {hs : List ExceptHandler} {d : PV}
    (e : C.glob x = some (.ref f)) (hk : env.e.kindOf x = some .globalImplicit) (hd : (x == ("__debug__" : Str)) = false) (hkeep : keepIn C.K (.ref f) = true) (xs : EvAll C A env S es ds) (ok : ∀ o, FnRaiseC (C.add env.e.locals o) f k ds cls) (hh : ∀ m, HdOk C A env S cls [.str m] (h₀ :: hs) S' d) :
    ExSC C A env S (.Try [.Return (some (.Call (.Name x np) es [] cpos)) rpos] (h₀ :: hs) [] [] pos) S' (.ret d) := .mk fun s F M R Q E a => by
  refine wpC_Try_except (wpC_execs_cons (wpC_Return_some ?_))
  refine wpC_Call_Name ((ev_glob O (pos := np) e hk hd).run s F M R _ _ fun v h' tk F' g i => ?_)
  obtain rfl := isRaw i
  have R' := R.grow g
  refine wpC_callWith_of (P := fun h => C.K.In h) (by rw [xs.plain]; rfl) (keeps_K hkeep) (xs.args (s := { s with heap := h', toks := tk }) R' fun vs h2 tk2 F2 g2 i2 => ?_)
  have R2 := R'.grow g2
  obtain ⟨o, ho⟩ := R2.ownAt
  have hn : ∀ vs, o.data ≠ .fields vs := by obtain ⟨m, hn, _⟩ := R2.vars; exact ns_plain hn ho
  obtain ⟨ch, hch⟩ := hA
  exact ⟨R2.toWd.kin O, ok o A { s with heap := h2, toks := tk2 } F2 _ vs (env.e :: ch) (enter R2 ho) AO hch (chain_add chB hch R2.own_out hn) i2 _ _ fun ea h3 tk3 F3 m fl => try_lands hch henv (chain_here chB hch) R2 ho ((g.trans g2).stp R.toWd) fl (hh m) a⟩
end
end
section
open PySem.NumText
variable {C : Cx}
theorem exc_44 (G : Good C) : ExcCls C 44 := by
  have hx : (heapK C.w.params).In C.hb := G.K ▸ G.ok.kin
  exact ⟨_, _, _, _, _, _, _, _, _, _, _, _, _, _, _, _, _, hx 44 _ rfl, .of_isNs (isNs_of_in hx (by kernel_rfl)), nsMap_none_of_in hx (by kernel_rfl) (by kernel_rfl), tail_of_in hx (by kernel_rfl)⟩
theorem exc_56 (G : Good C) : ExcCls C 56 := by
  have hx : (heapK C.w.params).In C.hb := G.K ▸ G.ok.kin
  exact ⟨_, _, _, _, _, _, _, _, _, _, _, _, _, _, _, _, _, hx 56 _ rfl, .of_isNs (isNs_of_in hx (by kernel_rfl)), nsMap_none_of_in hx (by kernel_rfl) (by kernel_rfl), tail_of_in hx (by kernel_rfl)⟩
theorem fnIn_65 (G : Good C) : FnIn C 65 (fdAt C.w 65) (bodyAt C.w 65) ["resp", "peer"] [] :=
  FnIn.m2 G (by kernel_rfl) (by kernel_rfl) (by kernel_rfl) (fun _ _ => by kernel_rfl) (by decide) (by kernel_rfl)
noncomputable def P0 (x : Str) (peer : PV) : PS := [("resp", .val (.str x)), ("peer", .val peer)]
noncomputable def P1 (x : Str) (peer : PV) (L : Nat) : PS := [("resp", .val (.str x)), ("peer", .val peer), ("left", .val (.int L))]
noncomputable def P2 (x : Str) (peer : PV) (L R : Nat) : PS := [("resp", .val (.str x)), ("peer", .val peer), ("left", .val (.int L)), ("right", .val (.int R))]
noncomputable def cutX (x : Str) (L R : Nat) : List Nat := ((cl x).take R).drop (L + 1)
noncomputable def P3 (x : Str) (peer : PV) (L R a : Nat) : PS := [("resp", .val (.str x)), ("peer", .val peer), ("left", .val (.int L)), ("right", .val (.int R)), ("parts", .val (.list ((splitG a [] (cutX x L R)).map fun l => .str (mkS l))))]
noncomputable abbrev en65 (w : World) (L : Addr) : En := calleeEn (fdAt w 65) [] L 65
theorem SM.to {name x : Str} {ds : List PV} {d d' : PV} (h : SM name x ds d) (e : d = d') : SM name x ds d' := e ▸ h
theorem smk_find {x : Str} {y : Str} {c : Nat} {i : Int} (e : y = one c) (h : first (idxs c 0 (cl x)) = i) : SM nFind x [.str y] (.int i) := sm_find.to (by rw [e, find_one, h])
theorem smk_find3 {x : Str} {y : Str} {c j : Nat} {i : Int} (e : y = one c) (hj : j ≤ x.length) (h : first (idxs c j ((cl x).drop j)) = i) : SM nFind x [.str y, .int (j : Int)] (.int i) := sm_find3.to (by rw [e, find3_one x c j hj, h])
theorem smk_split {x : Str} {c : Nat} (hc : c < 256) (hx : x.length ≤ 1000) : SM nSplit x [.str (one c)] (.list ((splitG c [] (cl x)).map fun l => .str (mkS l))) :=
  (sm_split rfl (by lia) (by have := StrLaws.occ_length_le x (one c) 0 x.length (x.length + 1); lia)).to (by rw [split_one x c hc, List.map_map]; rfl)
variable {A : Around} {Lf : Addr} {k : Nat} {x : Str} {peer : PV} {L R a b : Nat}
theorem p_head (G : Good C) (AO : AOk A k) (hx : x.length ≤ 1000) {t : Bool} (h : (mkS ((cl x).take 3) = ("229" : Str)) ↔ t = false) : TsS C A (en65 C.w Lf) (P0 x peer) (ifTest (nth C.w 65 0)) t := by
  conv => arg 5; whnf
  (with_reducible apply ts_cmp)
  · assumption
  · (with_reducible apply ev_slice); (· exact ev_name rfl rfl); (· exact EvO.nil); (· ((with_reducible apply EvO.val); exact ev_int)); (· exact sl_str (by lia) nonneg_none (nonneg_some (by decide)))
  · exact ev_str
  · refine cm_ne_str.to ?_
    have e : cut (cl x) none (some 3) = (cl x).take 3 := by unfold cut; simp
    show (!decide (mkS (cut (cl x) none (some 3)) = ("229" : Str))) = t
    rw [e]
    cases t
    · rw [decide_eq_true (h.mpr rfl)]; rfl
    · rw [decide_eq_false (fun q => by have := h.mp q; cases this)]; rfl
  · rfl
structure Br (x : Str) (L R : Nat) : Prop where
  len : x.length ≤ 1000
  hd : mkS ((cl x).take 3) = ("229" : Str)
  l : first (idxs 40 0 (cl x)) = L
  r : first (idxs 41 (L + 1) ((cl x).drop (L + 1))) = R
  ll : L < x.length
  rl : R < x.length
  lt : L < R
theorem p_go0 (G : Good C) (AO : AOk A k) (hx : x.length ≤ 1000) (h : mkS ((cl x).take 3) = ("229" : Str)) : ExS C A (en65 C.w Lf) (P0 x peer) (nth C.w 65 0) (P0 x peer) .next := by
  conv => arg 5; whnf
  exact ex_if (b := false) (p_head G AO hx ⟨fun _ => rfl, fun _ => h⟩) ea_nil
theorem p_go1 (G : Good C) (AO : AOk A k) {i : Int} (h : first (idxs 40 0 (cl x)) = i) : ExS C A (en65 C.w Lf) (P0 x peer) (nth C.w 65 1) (put (P0 x peer) "left" (.val (.int i))) .next := by
  conv => arg 5; whnf
  (with_reducible apply ex_set); (· exact Or.inl (by kernel_rfl)); (· kernel_rfl)
  (with_reducible apply ev_smeth); (· assumption); (· rfl); (· decide); (· rfl); (· exact ev_name rfl rfl); (· ((with_reducible apply EvAll.cons); (· exact ev_str); (· intros; rfl); (· exact EvAll.nil))); (· exact smk_find (c := 40) (by decide +kernel) h)
theorem p_ts2 (G : Good C) (AO : AOk A k) {i : Int} {t : Bool} (h : decide (i < 0) = t) : TsS C A (en65 C.w Lf) (put (P0 x peer) "left" (.val (.int i))) (ifTest (nth C.w 65 2)) t := by
  conv => arg 5; whnf
  subst h
  ((with_reducible apply ts_cmp); (· assumption); (· exact ev_name rfl rfl); (· exact ev_int); (· exact cm_lt); (· rfl))
theorem p_go2 (G : Good C) (AO : AOk A k) : ExS C A (en65 C.w Lf) (P1 x peer L) (nth C.w 65 2) (P1 x peer L) .next := by
  conv => arg 5; whnf
  exact ex_if (b := false) (p_ts2 G AO (i := (L : Int)) (decide_eq_false (by lia))) ea_nil
theorem p_go3 (G : Good C) (AO : AOk A k) (hL : L + 1 ≤ x.length) {i : Int} (h : first (idxs 41 (L + 1) ((cl x).drop (L + 1))) = i) : ExS C A (en65 C.w Lf) (P1 x peer L) (nth C.w 65 3) (put (P1 x peer L) "right" (.val (.int i))) .next := by
  conv => arg 5; whnf
  (with_reducible apply ex_set); (· exact Or.inl (by kernel_rfl)); (· kernel_rfl)
  have z := smk_find3 (x := x) (y := ")") (c := 41) (by decide +kernel) hL h
  rw [show ((L + 1 : Nat) : Int) = (L : Int) + 1 from by lia] at z
  exact ev_smeth (x := x) (ds := [.str ")", .int ((L : Int) + 1)]) AO rfl (by decide) rfl (by exact ev_name rfl rfl) (by ((with_reducible apply EvAll.cons); (· exact ev_str); (· intros; rfl); (· ((with_reducible apply EvAll.cons); (· ((with_reducible apply ev_binop); (· exact ev_name rfl rfl); (· exact ev_int); (· exact bo_add_int))); (· intros; rfl); (· exact EvAll.nil))))) z
theorem p_ts4 (G : Good C) (AO : AOk A k) {i : Int} {t : Bool} (h : decide (i < 0) = t) : TsS C A (en65 C.w Lf) (put (P1 x peer L) "right" (.val (.int i))) (ifTest (nth C.w 65 4)) t := by
  conv => arg 5; whnf
  subst h
  ((with_reducible apply ts_cmp); (· assumption); (· exact ev_name rfl rfl); (· exact ev_int); (· exact cm_lt); (· rfl))
theorem p_go4 (G : Good C) (AO : AOk A k) : ExS C A (en65 C.w Lf) (P2 x peer L R) (nth C.w 65 4) (P2 x peer L R) .next := by
  conv => arg 5; whnf
  exact ex_if (b := false) (p_ts4 G AO (i := (R : Int)) (decide_eq_false (by lia))) ea_nil
theorem idx_cl {j : Nat} {c : Nat} (hx : x.length ≤ 1000) (h : (cl x)[j]? = some c) : idx x.cps.toList (j : Int) = some c :=
  idx_pos (by show (cl x).length ≤ 3000; rw [← len_cl]; lia) (by lia) (by have : j < (cl x).length := (List.getElem?_eq_some_iff.mp h).1; rw [← len_cl] at this; lia) (by rw [show ((j : Nat) : Int).toNat = j from by lia]; exact h)
theorem p_sub (G : Good C) (AO : AOk A k) {S : PS} {e : Expr} {np sp : Pos} {j c : Nat} (hx : x.length ≤ 1000) (hS : get S "resp" = some (.val (.str x))) (he : EvS C A (en65 C.w Lf) S e (.int (j : Int))) (hn : isSlice e = false) (h : (cl x)[j]? = some c) : EvS C A (en65 C.w Lf) S (.Subscript (.Name "resp" np) e sp) (.str (one c)) :=
  ev_sub (ev_name hS rfl) he (sb_str (by lia) (idx_cl hx h)) hn
theorem p_ts5 (G : Good C) (AO : AOk A k) (B : Br x L R) (ha : (cl x)[L + 1]? = some a) (hb : (cl x)[R - 1]? = some b) {t : Bool} (h : (!decide (one a = one b)) = t) : TsS C A (en65 C.w Lf) (P2 x peer L R) (ifTest (nth C.w 65 5)) t := by
  conv => arg 5; whnf
  have e1 : ((L : Int) + 1) = ((L + 1 : Nat) : Int) := by lia
  have e2 : ((R : Int) - 1) = ((R - 1 : Nat) : Int) := by have := B.lt; lia
  (with_reducible apply ts_cmp)
  · assumption
  · refine p_sub G AO B.len rfl ?_ rfl ha
    rw [← e1]; ((with_reducible apply ev_binop); (· exact ev_name rfl rfl); (· exact ev_int); (· exact bo_add_int))
  · refine p_sub G AO B.len rfl ?_ rfl hb
    rw [← e2]; ((with_reducible apply ev_binop); (· exact ev_name rfl rfl); (· exact ev_int); (· exact bo_sub_int))
  · exact cm_ne_str.to h
  · rfl
theorem p_go5 (G : Good C) (AO : AOk A k) (B : Br x L R) (ha : (cl x)[L + 1]? = some a) (hb : (cl x)[R - 1]? = some a) : ExS C A (en65 C.w Lf) (P2 x peer L R) (nth C.w 65 5) (P2 x peer L R) .next := by
  conv => arg 5; whnf
  exact ex_if (b := false) (p_ts5 G AO B ha hb (by simp)) ea_nil
theorem p_go6 (G : Good C) (AO : AOk A k) (B : Br x L R) (ha : (cl x)[L + 1]? = some a) (h256 : a < 256) : ExS C A (en65 C.w Lf) (P2 x peer L R) (nth C.w 65 6) (P3 x peer L R a) .next := by
  conv => arg 5; whnf
  have e1 : ((L : Int) + 1) = ((L + 1 : Nat) : Int) := by lia
  have hc : cut (cl x) (some ((L : Int) + 1)) (some (R : Int)) = cutX x L R := by
    unfold cut cutX
    have q1 : ((L : Int) + 1).toNat = L + 1 := by lia
    have q2 : ((R : Int)).toNat = R := by lia
    simp only [Option.elim]
    rw [q1, q2]
  have hl : (mkS (cutX x L R)).length ≤ 1000 := by
    rw [len_cl]
    show (cutX x L R).length ≤ 1000
    unfold cutX
    rw [List.length_drop, List.length_take, ← len_cl]
    have := B.len; lia
  refine ex_set (d := .list ((splitG a [] (cutX x L R)).map fun l => .str (mkS l))) (by exact Or.inl (by kernel_rfl)) (by kernel_rfl) ?_
  refine ev_smeth (x := mkS (cutX x L R)) (ds := [.str (one a)]) AO rfl (by decide) rfl ?_ (.cons (p_sub G AO B.len rfl ?_ rfl ha) (fun _ _ => rfl) .nil) (smk_split h256 hl)
  · have := B.len
    (with_reducible apply ev_slice)
    · exact ev_name rfl rfl
    · ((with_reducible apply EvO.val); ((with_reducible apply ev_binop); (· exact ev_name rfl rfl); (· exact ev_int); (· exact bo_add_int)))
    · ((with_reducible apply EvO.val); exact ev_name rfl rfl)
    · have z := sl_str (x := x) (lo := some ((L : Int) + 1)) (hi := some (R : Int)) (by lia) (nonneg_some (by lia)) (nonneg_some (by lia))
      rw [show cut x.cps.toList (some ((L : Int) + 1)) (some (R : Int)) = cutX x L R from hc] at z
      exact z
  · rw [← e1]; ((with_reducible apply ev_binop); (· exact ev_name rfl rfl); (· exact ev_int); (· exact bo_add_int))
end
section
open PySem.NumText
variable {C : Cx} {A : Around} {Lf : Addr} {k : Nat} {x : Str} {peer : PV} {L R a b : Nat}
theorem body65 (w : World) : bodyAt w 65 = [nth w 65 0, nth w 65 1, nth w 65 2, nth w 65 3, nth w 65 4, nth w 65 5, nth w 65 6, nth w 65 7, nth w 65 8, nth w 65 9, nth w 65 10] := by kernel_rfl
theorem parts_len (x : Str) (L R a : Nat) : ((splitG a [] (cutX x L R)).map fun l => PV.str (mkS l)).length = (splitG a [] (cutX x L R)).length := by rw [List.length_map]
theorem splitG_len (c : Nat) : ∀ (l acc : List Nat), (splitG c acc l).length ≤ l.length + 1
  | [], _ => Nat.le_refl _
  | d :: r, acc => by
    unfold splitG
    split
    · have := splitG_len c r []; simp only [List.length_cons]; lia
    · have := splitG_len c r (acc ++ [d]); simp only [List.length_cons]; lia
theorem cutX_len (hx : x.length ≤ 1000) : (cutX x L R).length ≤ 1000 := by
  unfold cutX
  rw [List.length_drop, List.length_take, ← len_cl]
  lia
theorem p_ts7 (G : Good C) (AO : AOk A k) (hx : x.length ≤ 1000) {t : Bool} (h : (!decide ((((splitG a [] (cutX x L R)).length : Nat) : Int) = 5)) = t) : TsS C A (en65 C.w Lf) (P3 x peer L R a) (ifTest (nth C.w 65 7)) t := by
  conv => arg 5; whnf
  have h1 := splitG_len a (cutX x L R) []
  have h2 := cutX_len (L := L) (R := R) hx
  have h3 : ((splitG a [] (cutX x L R)).map fun l => PV.str (mkS l)).length ≤ 3000 := by rw [parts_len]; lia
  (with_reducible apply ts_cmp); (· assumption); (· ((with_reducible apply ev_bcall); (· exact G.ok); (· assumption); (· exact G.gl rfl); (· kernel_rfl); (· rfl); (· ((with_reducible apply EvAll.cons); (· exact ev_name rfl rfl); (· intros; rfl); (· exact EvAll.nil))); (· (refine bc_len_list ?_; assumption)))); (· exact ev_int)
  · exact cm_ne_int.to (by rw [parts_len, h])
  · rfl
theorem p_go7 (G : Good C) (AO : AOk A k) (hx : x.length ≤ 1000) (h : (splitG a [] (cutX x L R)).length = 5) : ExS C A (en65 C.w Lf) (P3 x peer L R a) (nth C.w 65 7) (P3 x peer L R a) .next := by
  conv => arg 5; whnf
  exact ex_if (b := false) (p_ts7 G AO hx (by rw [h]; rfl)) ea_nil
theorem p_go8 (G : Good C) (AO : AOk A k) {hst : PV} {pr : List PV} (hp : pr.length ≤ 100) : ExS C A (en65 C.w Lf) (P3 x (.tuple (hst :: pr)) L R a) (nth C.w 65 8) (put (P3 x (.tuple (hst :: pr)) L R a) "host" (.val hst)) .next := by
  conv => arg 5; whnf
  (with_reducible apply ex_set); (· exact Or.inl (by kernel_rfl)); (· kernel_rfl)
  refine ev_sub (a := .tuple (hst :: pr)) (b := .int 0) (by exact ev_name rfl rfl) ev_int (sb_tuple (idx_pos (by simp; lia) (by decide) (by decide) rfl)) rfl
theorem part3 {l : List (List Nat)} {d : List Nat} (hl : l.length = 5) (h : l[3]? = some d) : idx (l.map fun l => PV.str (mkS l)) 3 = some (.str (mkS d)) :=
  idx_pos (by rw [List.length_map]; lia) (by decide) (by decide) (by rw [List.getElem?_map]; show Option.map _ l[3]? = _; rw [h]; rfl)
structure BadT (b : Str) : Prop where
  len : b.length ≤ 640
  none : PySem.intText? b = none
  inv : (int_private% "readNumeral") 0 10 (numSeenOf b) = int_private% "Numeral.invalid"
  rep : (reprText b).length ≤ 4000
theorem parse_reply (G : Good C) (hx : x.length ≤ 1000) (h : ¬ mkS ((cl x).take 3) = ("229" : Str)) : FnRaise C 65 1 [.str x, peer] (.ref 44) [.str x] := by
  apply fn_raise G.ok (fnIn_65 G) rfl
  intro A L AO
  rw [body65]
  refine ra_here ?_
  conv => arg 5; whnf
  refine ra_if (b := true) (p_head G AO hx ⟨fun q => absurd q h, fun q => by cases q⟩) ?_
  show RaA _ _ _ _ [_] _ _
  ((with_reducible apply ra_here); (with_reducible apply ra_raise); (· exact G.ok); (· assumption); (· first | exact exc_56 (by assumption) | exact exc_44 (by assumption)); (· exact G.gl rfl); (· kernel_rfl); (· rfl); (· ((with_reducible apply EvAll.cons); (· exact ev_name rfl rfl); (· intros; rfl); (· exact EvAll.nil))); (· exact Nat.le_of_ble_eq_true rfl))
theorem parse_p1 (G : Good C) (hx : x.length ≤ 1000) (hd : mkS ((cl x).take 3) = ("229" : Str)) (h : first (idxs 40 0 (cl x)) = -1) : FnRaise C 65 1 [.str x, peer] (.ref 56) [.str x] := by
  apply fn_raise G.ok (fnIn_65 G) rfl
  intro A L AO
  rw [body65]
  refine ra_cons (p_go0 G AO hx hd) (ra_cons (p_go1 G AO h) (ra_here ?_))
  conv => arg 5; whnf
  refine ra_if (b := true) (p_ts2 G AO (by decide)) ?_
  show RaA _ _ _ _ [_] _ _
  ((with_reducible apply ra_here); (with_reducible apply ra_raise); (· exact G.ok); (· assumption); (· first | exact exc_56 (by assumption) | exact exc_44 (by assumption)); (· exact G.gl rfl); (· kernel_rfl); (· rfl); (· ((with_reducible apply EvAll.cons); (· exact ev_name rfl rfl); (· intros; rfl); (· exact EvAll.nil))); (· exact Nat.le_of_ble_eq_true rfl))
theorem parse_p2 (G : Good C) (hx : x.length ≤ 1000) (hd : mkS ((cl x).take 3) = ("229" : Str)) (hl : first (idxs 40 0 (cl x)) = (L : Int)) (hL : L + 1 ≤ x.length) (h : first (idxs 41 (L + 1) ((cl x).drop (L + 1))) = -1) : FnRaise C 65 1 [.str x, peer] (.ref 56) [.str x] := by
  apply fn_raise G.ok (fnIn_65 G) rfl
  intro A Lf AO
  rw [body65]
  refine ra_cons (p_go0 G AO hx hd) (ra_cons (p_go1 G AO hl) (ra_cons (p_go2 G AO) (ra_cons (p_go3 G AO hL h) (ra_here ?_))))
  conv => arg 5; whnf
  refine ra_if (b := true) (p_ts4 G AO (by decide)) ?_
  show RaA _ _ _ _ [_] _ _
  ((with_reducible apply ra_here); (with_reducible apply ra_raise); (· exact G.ok); (· assumption); (· first | exact exc_56 (by assumption) | exact exc_44 (by assumption)); (· exact G.gl rfl); (· kernel_rfl); (· rfl); (· ((with_reducible apply EvAll.cons); (· exact ev_name rfl rfl); (· intros; rfl); (· exact EvAll.nil))); (· exact Nat.le_of_ble_eq_true rfl))
theorem parse_p3 (G : Good C) (B : Br x L R) (ha : (cl x)[L + 1]? = some a) (hb : (cl x)[R - 1]? = some b) (hab : a ≠ b) : FnRaise C 65 1 [.str x, peer] (.ref 56) [.str x] := by
  apply fn_raise G.ok (fnIn_65 G) rfl
  intro A Lf AO
  rw [body65]
  have hL : L + 1 ≤ x.length := B.ll
  refine ra_cons (p_go0 G AO B.len B.hd) (ra_cons (p_go1 G AO B.l) (ra_cons (p_go2 G AO) (ra_cons (p_go3 G AO hL B.r) (ra_cons (p_go4 G AO) (ra_here ?_)))))
  conv => arg 5; whnf
  refine ra_if (b := true) (p_ts5 G AO B ha hb (by rw [decide_eq_false (fun q => hab (by have := congrArg cl q; simpa [cl, one] using this))]; rfl)) ?_
  show RaA _ _ _ _ [_] _ _
  ((with_reducible apply ra_here); (with_reducible apply ra_raise); (· exact G.ok); (· assumption); (· first | exact exc_56 (by assumption) | exact exc_44 (by assumption)); (· exact G.gl rfl); (· kernel_rfl); (· rfl); (· ((with_reducible apply EvAll.cons); (· exact ev_name rfl rfl); (· intros; rfl); (· exact EvAll.nil))); (· exact Nat.le_of_ble_eq_true rfl))
theorem parse_p4 (G : Good C) (B : Br x L R) (ha : (cl x)[L + 1]? = some a) (hb : (cl x)[R - 1]? = some a) (h256 : a < 256) (h : (splitG a [] (cutX x L R)).length ≠ 5) : FnRaise C 65 1 [.str x, peer] (.ref 56) [.str x] := by
  apply fn_raise G.ok (fnIn_65 G) rfl
  intro A Lf AO
  rw [body65]
  have hL : L + 1 ≤ x.length := B.ll
  refine ra_cons (p_go0 G AO B.len B.hd) (ra_cons (p_go1 G AO B.l) (ra_cons (p_go2 G AO) (ra_cons (p_go3 G AO hL B.r) (ra_cons (p_go4 G AO) (ra_cons (p_go5 G AO B ha hb) (ra_cons (p_go6 G AO B ha h256) (ra_here ?_)))))))
  conv => arg 5; whnf
  refine ra_if (b := true) (p_ts7 G AO B.len (by rw [decide_eq_false (by lia)]; rfl)) ?_
  show RaA _ _ _ _ [_] _ _
  ((with_reducible apply ra_here); (with_reducible apply ra_raise); (· exact G.ok); (· assumption); (· first | exact exc_56 (by assumption) | exact exc_44 (by assumption)); (· exact G.gl rfl); (· kernel_rfl); (· rfl); (· ((with_reducible apply EvAll.cons); (· exact ev_name rfl rfl); (· intros; rfl); (· exact EvAll.nil))); (· exact Nat.le_of_ble_eq_true rfl))
theorem parse_value (G : Good C) (B : Br x L R) (ha : (cl x)[L + 1]? = some a) (hb : (cl x)[R - 1]? = some a) (h256 : a < 256) (h : (splitG a [] (cutX x L R)).length = 5) {d : List Nat} (hd : (splitG a [] (cutX x L R))[3]? = some d) (bad : BadT (mkS d)) {hst : PV} {pr : List PV} (hp : pr.length ≤ 100) :
    FnRaiseC C 65 1 [.str x, .tuple (hst :: pr)] (.type "ValueError") := by
  apply fn_raiseC G.ok (fnIn_65 G) rfl
  intro A Lf AO
  rw [body65]
  have hL : L + 1 ≤ x.length := B.ll
  refine raC_cons (p_go0 G AO B.len B.hd) (raC_cons (p_go1 G AO B.l) (raC_cons (p_go2 G AO) (raC_cons (p_go3 G AO hL B.r) (raC_cons (p_go4 G AO) (raC_cons (p_go5 G AO B ha hb) (raC_cons (p_go6 G AO B ha h256) (raC_cons (p_go7 G AO B.len h) (raC_cons (p_go8 G AO hp) ?_))))))))
  conv => arg 5; arg 1; whnf
  refine raC_int G.ok AO (G.gl rfl) (by kernel_rfl) rfl (.cons ?_ (fun _ _ => rfl) .nil) bad.len bad.none bad.inv bad.rep (by kernel_rfl)
  refine ev_sub (ev_name rfl rfl) ev_int (sb_list (part3 h hd)) rfl
theorem parse_ok (G : Good C) (B : Br x L R) (ha : (cl x)[L + 1]? = some a) (hb : (cl x)[R - 1]? = some a) (h256 : a < 256) (h : (splitG a [] (cutX x L R)).length = 5) {d : List Nat} (hd : (splitG a [] (cutX x L R))[3]? = some d) {n : Int} (hn : PySem.intText? (mkS d) = some n) (hl : (mkS d).length ≤ 640) {hst : PV} {pr : List PV} (hp : pr.length ≤ 100) :
    FnOk C 65 1 [.str x, .tuple (hst :: pr)] (.tuple [hst, .int n]) := by
  apply fn_ok G.ok (fnIn_65 G) rfl (fl := .ret (.tuple [hst, .int n])) rfl
  intro A Lf AO
  rw [body65]
  have hL : L + 1 ≤ x.length := B.ll
  apply ea_cons (p_go0 G AO B.len B.hd)
  apply ea_cons (p_go1 G AO B.l)
  apply ea_cons (p_go2 G AO)
  apply ea_cons (p_go3 G AO hL B.r)
  apply ea_cons (p_go4 G AO)
  apply ea_cons (p_go5 G AO B ha hb)
  apply ea_cons (p_go6 G AO B ha h256)
  apply ea_cons (p_go7 G AO B.len h)
  apply ea_cons (p_go8 G AO hp)
  apply ea_cons (S' := put (put (P3 x (.tuple (hst :: pr)) L R a) "host" (.val hst)) "port" (.val (.int n)))
  · conv => arg 5; whnf
    (with_reducible apply ex_set); (· exact Or.inl (by kernel_rfl)); (· kernel_rfl)
    refine ev_tcall (ds := [.str (mkS d)]) G.ok AO (G.gl rfl) (by kernel_rfl) rfl (.cons ?_ (fun _ _ => rfl) .nil) (bc_int_str hl hn)
    refine ev_sub (ev_name rfl rfl) ev_int (sb_list (part3 h hd)) rfl
  · apply ea_stop
    · conv => arg 5; whnf
      ((with_reducible apply ex_ret); ((with_reducible apply ev_tuple); (· ((with_reducible apply EvAll.cons); (· exact ev_name rfl rfl); (· intros; rfl); (· ((with_reducible apply EvAll.cons); (· exact ev_name rfl rfl); (· intros; rfl); (· exact EvAll.nil))))); (· exact lenOk_of (by (simp; done)))))
    · nofun
end
section
open PySem.NumText
variable {C : Cx} {x : Str} {peer d : PV}
theorem Good.add (G : Good C) (L : Addr) (o : Obj) : Good (C.add L o) := ⟨⟨G.ok.kin, G.ok.names, G.ok.nolimit⟩, G.K, G.glob⟩
theorem fnIn_152 (G : Good C) : FnIn C 152 (fdAt C.w 152) (bodyAt C.w 152) ["reply", "peer"] [] :=
  FnIn.m2 G (by kernel_rfl) (by kernel_rfl) (by kernel_rfl) (fun _ _ => by kernel_rfl) (by decide) (by kernel_rfl)
theorem heard_ok (G : Good C) (h : FnOk C 65 1 [.str x, peer] d) : FnOk C 152 2 [.str x, peer] d := by
  apply fn_ok G.ok (fnIn_152 G) rfl (fl := .ret d) rfl
  intro A L AO
  conv => arg 5; whnf
  (with_reducible apply ea_one)
  (with_reducible apply ex_try_ok)
  (with_reducible apply ea_one)
  (with_reducible apply ex_ret)
  (with_reducible apply ev_call); (· exact G.ok); (· assumption); (· exact G.gl rfl); (· kernel_rfl); (· rfl); (· exact G.kf (by kernel_rfl)); (· ((with_reducible apply EvAll.cons); (· exact ev_name rfl rfl); (· intros; rfl); (· ((with_reducible apply EvAll.cons); (· exact ev_name rfl rfl); (· intros; rfl); (· exact EvAll.nil))))); (· exact h)
theorem heard_proto (G : Good C) (h : ∀ (C : Cx), Good C → FnRaise C 65 1 [.str x, peer] (.ref 56) [.str x]) : FnOkX C 152 2 [.str x, peer] (.list [.str "proto", .str x]) := by
  apply fn_okX G.ok (fnIn_152 G) rfl (fl := .ret (.list [.str "proto", .str x])) rfl
  intro A L AO ch hA
  conv => arg 5; whnf
  (with_reducible apply ea_one)
  refine ex_try_raise (S' := zipP ["reply", "peer"] ([PV.str x, peer].map .val)) G.ok AO ch rfl hA (G.gl rfl) (by kernel_rfl) rfl (by rw [G.K]; kernel_rfl) (by ((with_reducible apply EvAll.cons); (· exact ev_name rfl rfl); (· intros; rfl); (· ((with_reducible apply EvAll.cons); (· exact ev_name rfl rfl); (· intros; rfl); (· exact EvAll.nil))))) (fun o => h _ (G.add _ _)) ?_
  exact hd_hit_as G.ok AO (G.gl rfl) (by kernel_rfl) rfl (by rw [G.K]; kernel_rfl) (by rw [G.K]; kernel_rfl) (by rw [G.K]; kernel_rfl) (G.gl rfl) (by kernel_rfl) (by kernel_rfl) rfl rfl
theorem heard_reply (G : Good C) (h : ∀ (C : Cx), Good C → FnRaise C 65 1 [.str x, peer] (.ref 44) [.str x]) : FnOkX C 152 2 [.str x, peer] (.list [.str "reply", .str x]) := by
  apply fn_okX G.ok (fnIn_152 G) rfl (fl := .ret (.list [.str "reply", .str x])) rfl
  intro A L AO ch hA
  conv => arg 5; whnf
  (with_reducible apply ea_one)
  refine ex_try_raise (S' := zipP ["reply", "peer"] ([PV.str x, peer].map .val)) G.ok AO ch rfl hA (G.gl rfl) (by kernel_rfl) rfl (by rw [G.K]; kernel_rfl) (by ((with_reducible apply EvAll.cons); (· exact ev_name rfl rfl); (· intros; rfl); (· ((with_reducible apply EvAll.cons); (· exact ev_name rfl rfl); (· intros; rfl); (· exact EvAll.nil))))) (fun o => h _ (G.add _ _)) ?_
  refine hd_miss G.ok (G.gl rfl) (by kernel_rfl) rfl (by rw [G.K]; kernel_rfl) ?_
  exact hd_hit_as G.ok AO (G.gl rfl) (by kernel_rfl) rfl (by rw [G.K]; kernel_rfl) (by rw [G.K]; kernel_rfl) (by rw [G.K]; kernel_rfl) (G.gl rfl) (by kernel_rfl) (by kernel_rfl) rfl rfl
theorem heard_value (G : Good C) (h : ∀ (C : Cx), Good C → FnRaiseC C 65 1 [.str x, peer] (.type "ValueError")) : FnOkXC C 152 2 [.str x, peer] (.list [.str "value"]) := by
  apply fn_okXC G.ok (fnIn_152 G) rfl
  intro A L AO ch hA
  refine ⟨zipP ["reply", "peer"] ([PV.str x, peer].map .val), ?_⟩
  conv => arg 5; whnf
  refine eaC_stop ?_
  refine exC_try_raise G.ok AO ch rfl hA (G.gl rfl) (by kernel_rfl) rfl (by rw [G.K]; kernel_rfl) (by ((with_reducible apply EvAll.cons); (· exact ev_name rfl rfl); (· intros; rfl); (· ((with_reducible apply EvAll.cons); (· exact ev_name rfl rfl); (· intros; rfl); (· exact EvAll.nil))))) (fun o => h _ (G.add _ _)) fun m => ?_
  refine hd_miss G.ok (G.gl rfl) (by kernel_rfl) rfl (by rw [G.K]; kernel_rfl) ?_
  refine hd_miss G.ok (G.gl rfl) (by kernel_rfl) rfl (by rw [G.K]; kernel_rfl) ?_
  exact hd_hit0 G.ok (G.gl rfl) (by kernel_rfl) rfl (by rw [G.K]; kernel_rfl)
end
section
open PySem.NumText
theorem idxs_none {c : Nat} : ∀ {l : List Nat} (i : Nat), c ∉ l → idxs c i l = []
  | [], _, _ => rfl
  | d :: r, i, h => by
    unfold idxs
    rw [if_neg (fun q => h (by rw [q]; exact .head _))]
    exact idxs_none (i + 1) fun q => h (.tail _ q)
theorem idxs_pre {c : Nat} : ∀ {p : List Nat} (i : Nat) (r : List Nat), c ∉ p → idxs c i (p ++ c :: r) = (i + p.length) :: idxs c (i + p.length + 1) r
  | [], i, r, _ => by show idxs c i (c :: r) = i :: idxs c (i + 1) r; exact if_pos rfl
  | d :: p, i, r, h => by
    show idxs c i (d :: (p ++ c :: r)) = _
    conv => lhs; unfold idxs
    rw [if_neg (fun q => h (by rw [q]; exact .head _)), idxs_pre (i + 1) r fun q => h (.tail _ q)]
    simp only [List.length_cons]
    have : i + 1 + p.length = i + (p.length + 1) := by lia
    rw [this]
theorem splitG_pre {c : Nat} : ∀ {p : List Nat} (acc r : List Nat), c ∉ p → splitG c acc (p ++ c :: r) = (acc ++ p) :: splitG c [] r
  | [], acc, r, _ => by rw [List.append_nil]; exact if_pos rfl
  | d :: p, acc, r, h => by
    show splitG c acc (d :: (p ++ c :: r)) = _
    conv => lhs; unfold splitG
    rw [if_neg (fun q => h (by rw [q]; exact .head _)), splitG_pre (acc ++ [d]) r fun q => h (.tail _ q), List.append_assoc]
    rfl
theorem mkS_cl (x : Str) : mkS (cl x) = x := str_ext rfl
theorem cl_mkS (l : List Nat) : cl (mkS l) = l := rfl
theorem br_of {x : Str} {pre body post : List Nat} (e : cl x = pre ++ 40 :: (body ++ 41 :: post)) (h40 : 40 ∉ pre) (h41 : 41 ∉ body) (h3 : mkS (pre.take 3) = ("229" : Str)) (hl3 : 3 ≤ pre.length) (hx : (pre ++ 40 :: (body ++ 41 :: post)).length ≤ 1000) :
    Br x pre.length (pre.length + 1 + body.length) ∧ cutX x pre.length (pre.length + 1 + body.length) = body := by
  have hlen : x.length = pre.length + 1 + body.length + 1 + post.length := by
    rw [len_cl, e]
    simp only [List.length_append, List.length_cons]
    lia
  have hx2 : x.length ≤ 1000 := by rw [len_cl, e]; exact hx
  have hd : (cl x).drop (pre.length + 1) = body ++ 41 :: post := by
    rw [e, ← List.drop_drop, List.drop_left]
    rfl
  refine ⟨⟨hx2, ?_, ?_, ?_, by lia, by lia, by lia⟩, ?_⟩
  · rw [e, List.take_append_of_le_length hl3]; exact h3
  · rw [e, idxs_pre 0 _ h40]
    show (((0 + pre.length : Nat) : Int)) = _
    lia
  · rw [hd, idxs_pre _ _ h41]
    rfl
  · unfold cutX
    rw [List.drop_take, hd]
    have : pre.length + 1 + body.length - (pre.length + 1) = body.length := by lia
    rw [this, List.take_left]
theorem br_first {x : Str} {pre post r : List Nat} {a : Nat} (e : cl x = pre ++ 40 :: ((a :: r) ++ 41 :: post)) : (cl x)[pre.length + 1]? = some a := by
  rw [e, List.getElem?_append_right (by lia)]
  have : pre.length + 1 - pre.length = 1 := by lia
  rw [this]
  rfl
theorem br_last {x : Str} {pre post r : List Nat} {a : Nat} (e : cl x = pre ++ 40 :: ((r ++ [a]) ++ 41 :: post)) : (cl x)[pre.length + 1 + (r ++ [a]).length - 1]? = some a := by
  rw [e, List.getElem?_append_right (by simp only [List.length_append, List.length_singleton]; lia)]
  have : pre.length + 1 + (r ++ [a]).length - 1 - pre.length = r.length + 1 := by simp only [List.length_append, List.length_singleton]; lia
  rw [this, List.getElem?_cons_succ, List.append_assoc, List.getElem?_append_right (Nat.le_refl _), Nat.sub_self]
  rfl
structure Dig (D : List Nat) : Prop where
  all : ∀ c ∈ D, 48 ≤ c ∧ c ≤ 57
  ne : D ≠ []
  len : D.length ≤ 10
theorem Dig.nin {D : List Nat} (h : Dig D) {c : Nat} (hc : c < 48 ∨ 57 < c) : c ∉ D := fun q => by have := h.all c q; lia
noncomputable def digs (n : Int) : List Nat := cl (Str.ofString (toString n))
theorem mkS_digs (n : Int) : mkS (digs n) = Str.ofString (toString n) := mkS_cl _
theorem digs_dig {n : Int} (h0 : 0 ≤ n) (h1 : n < 10 ^ 10) : Dig (digs n) := by
  have hl := KT.len_num h0 h1
  obtain ⟨m, rfl⟩ := Int.eq_ofNat_of_zero_le h0
  refine ⟨fun c hc => ?_, ?_, ?_⟩
  · have hc : c ∈ (PySem.Str.ofString (toString ((m : Nat) : Int))).cps.toList := hc
    rw [KIN.signs_num] at hc
    obtain ⟨ch, hch, e⟩ := List.mem_map.mp hc
    have r := digit_range (Nat.isDigit_of_mem_toDigits (by decide) (by decide) hch)
    rw [← e]
    exact r
  · show (PySem.Str.ofString (toString ((m : Nat) : Int))).cps.toList ≠ []
    rw [KIN.signs_num]
    intro e
    have h := toDigits_len_ge 10 m
    rw [List.map_eq_nil_iff.mp e] at h
    exact absurd h (by decide)
  · rw [len_cl] at hl; exact Nat.le_trans hl (by decide)
theorem digs_reads {n : Int} (h0 : 0 ≤ n) (h1 : n < 10 ^ 10) : PySem.intText? (mkS (digs n)) = some n := by rw [mkS_digs]; exact KIN.num_reads h0 h1
theorem bad_text {D : List Nat} (h : Dig D) : BadT (mkS (D ++ [121])) := by
  have hall : ∀ c ∈ D ++ [121], 48 ≤ c ∧ c ≤ 121 := fun c hc => by
    rcases List.mem_append.mp hc with q | q
    · have := h.all c q; lia
    · rw [List.mem_singleton.mp q]; lia
  have hlen : (mkS (D ++ [121])).length ≤ 11 := by rw [len_cl, cl_mkS, List.length_append, List.length_singleton]; have := h.len; lia
  have hnt : numTextOf (mkS (D ++ [121])) = D ++ [121] := by
    unfold numTextOf
    rw [if_pos (by
      show ((D ++ [121]).toArray.all fun c => decide (c < 128)) = true
      rw [List.all_toArray, List.all_eq_true]
      intro c hc
      have := hall c hc
      exact decide_eq_true (by lia))]
    rfl
  have hns : numSeenOf (mkS (D ++ [121])) = D ++ [121] := by
    unfold numSeenOf
    rw [hnt]
    have key : ∀ l : List Nat, (∀ c ∈ l, 48 ≤ c) → l.takeWhile (· != 0) = l := by
      intro l
      induction l with
      | nil => intro _; rfl
      | cons c r ih =>
        intro hc
        rw [List.takeWhile_cons, if_pos (by have := hc c (.head _); simp; lia), ih fun d hd => hc d (.tail _ hd)]
    exact key _ fun c hc => (hall c hc).1
  have hb : ∀ c, 48 ≤ c → blank c = false := fun c hc => by
    unfold blank
    rw [Bool.or_eq_false_iff, Bool.and_eq_false_iff]
    exact ⟨by simp; lia, .inr (decide_eq_false (by lia))⟩
  have hcore : core (D ++ [121]) = D ++ [121] := by
    unfold core
    obtain ⟨d, r, rfl⟩ := List.exists_cons_of_ne_nil h.ne
    have hd := h.all d (.head _)
    have e1 : ((d :: r) ++ [121]).dropWhile blank = (d :: r) ++ [121] := by
      rw [List.cons_append, List.dropWhile_cons, if_neg (by rw [hb d hd.1]; exact Bool.false_ne_true)]
    have e2 : (sign ((d :: r) ++ [121])).2 = (d :: r) ++ [121] := by
      rw [List.cons_append]
      unfold sign
      split
      · rename_i q; injection q with q1 _; lia
      · rename_i q; injection q with q1 _; lia
      · rfl
    rw [e1, e2, List.reverse_append]
    show ((121 :: (d :: r).reverse).dropWhile blank).reverse = _
    rw [List.dropWhile_cons, if_neg (by decide)]
    simp
  have hdig : digits? 10 (D ++ [121]) = none := by
    unfold digits?
    rw [List.foldlM_append]
    have : ∀ p : Array Nat × Bool, List.foldlM (step 10) p [121] = none := fun p => by
      rw [List.foldlM_cons]
      have : step 10 p 121 = none := rfl
      rw [this]; rfl
    cases List.foldlM (step 10) ((#[] : Array Nat), false) D with
    | none => rfl
    | some p =>
      show Option.bind (List.foldlM (step 10) p [121]) _ = none
      rw [this p]; rfl
  refine ⟨by lia, ?_, ?_, ?_⟩
  · unfold PySem.intText?
    rw [hns, hcore, hdig]
    split <;> rfl
  · rw [readNumeral_ten, hns, hcore, hdig]
    exact judge_none
  · have := StrLaws.reprText_len (mkS (D ++ [121])) (fun c hc => by have := hall c hc; exact Nat.lt_of_le_of_lt this.2 (by decide))
    lia
end
section
section
variable {C : Cx} {env : En} {F F' F'' : Fz} {M M' M'' : Mz} {h h' h'' : Heap} {S S' S'' S₁ : PS} {A : Around} {s : Shared} {E : Value → Shared → Prop} {k : Nat} {st : Stmt} {rest : List Stmt} {fl : PFl} {pos : Pos}
theorem iadd_list {a b : Addr} {o p : Obj} {vs ws : List Value} {Q : Value → Shared → Prop} (ho : s.heap.get? a = some o) (lo : LObj o vs) (hp : s.heap.get? b = some p) (lp : LObj p ws) (h1 : vs.length ≤ 5000) (h2 : ws.length ≤ 5000)
    (h : ∀ h', Heap.SameBut a s.heap h' → (∃ o', h'.get? a = some o' ∧ LObj o' (vs ++ ws)) → Q (.ref a) { s with heap := h' }) : wpAny (model C.prog C.w) A (inplaceOp .Add (.ref a) (.ref b)) Q E s := by
  obtain ⟨n, rfl⟩ := lo.exact
  obtain ⟨n2, rfl⟩ := lp.exact
  have ha : s.TypeIs (.ref a) "list" := ⟨_, ho, rfl⟩
  have hb : s.TypeIs (.ref b) "list" := ⟨_, hp, rfl⟩
  have hi : typeLookup (.type "list") (dunderI "add") = pure (some (.builtin "list.__iadd__")) := PySem.F.slot_list_iadd.lookup
  have hsq : isSeqSlot (some (.builtin "list.__iadd__")) = true := by decide +kernel
  have hfi : fillsInplaceSlot (.type "list") "add" (Operator.Add == .Add) = pure false := by
    unfold fillsInplaceSlot
    show (typeLookup (.type "list") (dunderI "add") >>= fun fi => pure (fi.isSome && !isSeqSlot fi)) = pure false
    rw [hi, pure_bind, hsq]; rfl
  have hsi : seqSlot? (.type "list") (dunderI "add") = pure (some (.builtin "list.__iadd__")) := PyProof.Rows.seqSlot_of hi hsq
  unfold inplaceOp
  refine wpAny_holding ?_
  refine wpAny_bind (wpAny_typeOf ha (wpAny_bind (wpAny_of_eq hfi ?_)))
  show wpAny _ A (if false = true then _ else _) Q E s
  rw [if_neg Bool.false_ne_true]
  refine wpAny_bind (binaryOp1_none (nm := "add") ha hb noFill_list_add ?_)
  refine wpAny_bind (wpAny_of_eq hsi ?_)
  refine wpAny_bind (wpAny_rule ?_)
  refine call_meets PySem.F.slot_list_iadd ha PySem.F.entry_list_iadd (PySem.F.args_list_iadd_2 _ _) (AutoSeq1.list___iadd___list_list_0 a vs.toArray n b ws.toArray n2 (by
    have : Builtin.List.listTooLong (vs.toArray.size + ws.toArray.size) = false := by
      unfold Builtin.List.listTooLong
      rw [sizeLine_eq]; exact decide_eq_false (by simp; lia)
    rw [this, Bool.and_false]; exact Bool.false_ne_true) (by rw [sizeLine_eq]; simp; lia) (by rw [sizeLine_eq]; simp; lia)) ⟨ho, hp, ?_⟩
  refine h _ (Heap.SameBut.update ..) ⟨_, Heap.get?_update_self _ ho rfl, rfl, ⟨if (vs.toArray ++ ws.toArray).size == vs.toArray.size then n else n + 1, ?_⟩, rfl, rfl⟩
  show Data.seq (vs.toArray ++ ws.toArray) _ = _
  simp only [List.append_toArray]
theorem ex_auglist {x : Str} {p : Pos} {e : Expr} {ds es : List PV} (hk : Sto env x) (hx : get S x = some (.own ds)) (y : EvS C A env S e (.list es)) (h1 : ds.length ≤ 3000) (h2 : es.length ≤ 3000) : ExS C A env S (.AugAssign (.Name x p) .Add e pos) (put S x (.own (ds ++ es))) .next := .mk fun s F M R Q E kk => by
  obtain ⟨m, hn, hv⟩ := R.vars
  obtain ⟨v0, l, b, vs, o, rfl, hM, ho, lo, i⟩ := hv x _ hx
  refine wpAny_AugAssign_Name (ld_loc R.ev hn l (y.run s F M R _ _ fun v2 h' tk F' g j => ?_))
  have R' := R.grow g
  have W := R.toWd
  have ht : ¬ C.ex b := fun q => by rw [W.mtab _ q] at hM; cases hM
  obtain ⟨c, ws, p2, rfl, e2, lp, i2⟩ := isList j
  refine iadd_list (s := { s with heap := h', toks := tk }) (g.ext _ _ ht ho) lo (R'.toWd.sub _ _ e2) lp (by have := i.length; lia) (by have := i2.length; lia) fun h2' hs2 ⟨o2, ho2, lo2⟩ => ?_
  have hn' : h'.Ns env.e.locals m := hn.at' fun o e => g.ext _ _ (fun q => by have := R.frame; rw [W.mtab _ q] at this; cases this) e
  have iv : IsAll F' (vs ++ ws) (ds ++ es) := (i.mono g.mono).append i2
  obtain ⟨R2, sp⟩ := own_upd (vs := vs) (ds := ds) R' hn' (fun z pv e => by obtain ⟨v, l', i'⟩ := hv z pv e; exact ⟨v, l'.grow W g, i'.grow W g⟩) (l.grow W g) hM hs2 ho2 lo2 iv
  refine st_var (s := { s with heap := h2', toks := tk }) R2 hk (pv := .own (ds ++ es)) ⟨b, _, o2, rfl, hM, ho2, lo2, iv⟩ fun h3 tk3 R3 sp3 => ?_
  refine kk .next h3 tk3 F' M (((g.stp W).trans sp).trans sp3) (R3.weaken fun z pv e => ?_) trivial
  rw [get_put] at e ⊢
  split
  · rename_i q; rw [if_pos q] at e; exact e
  · rename_i q; rw [if_neg q] at e; rw [get_put, if_neg q]; exact e
end
end
section
open PySem.NumText
structure Mk (m : Nat) : Prop where
  lt : m < 256
  dig : m < 48 ∨ 57 < m
  n40 : m ≠ 40
  n41 : m ≠ 41
  n121 : m ≠ 121
  n98 : m ≠ 98
noncomputable def innerS (m : Nat) (n : Int) : Str := strMul (one m) 3 ++ Str.ofString (toString n)
theorem cl_inner (m : Nat) (n : Int) : cl (innerS m n) = m :: m :: m :: digs n := by
  unfold innerS
  rw [cl_app, cl_mul]
  rfl
theorem cl_one (m : Nat) : cl (one m) = [m] := rfl
variable {C : Cx} {m : Nat} {n : Int}
noncomputable abbrev peer2 : PV := .tuple [.str "a", .int 5]
noncomputable abbrev peer4 : PV := .tuple [.str "a", .int 5, .int 0, .int 0]
structure Ctx2 (m : Nat) (n : Int) : Prop where
  mark : Mk m
  h0 : 0 ≤ n
  h1 : n < 10 ^ 10
theorem Ctx2.dig (c : Ctx2 m n) : Dig (digs n) := digs_dig c.h0 c.h1
theorem Ctx2.nm (c : Ctx2 m n) : m ∉ digs n := c.dig.nin c.mark.dig
theorem nmem_cons {a c : Nat} {l : List Nat} (h : a ≠ c) (hl : a ∉ l) : a ∉ c :: l := fun q => (List.mem_cons.mp q).elim h hl
theorem nmem_app {a : Nat} {l r : List Nat} (hl : a ∉ l) (hr : a ∉ r) : a ∉ l ++ r := fun q => (List.mem_append.mp q).elim hl hr
theorem nmem_nil {a : Nat} : a ∉ ([] : List Nat) := List.not_mem_nil
theorem hd229 : mkS [50, 50, 57] = ("229" : Str) := by decide +kernel
theorem parse_good (c : Ctx2 m n) (G : Good C) {x : Str} {pre mid post : List Nat} {parts : List (List Nat)} {hst : PV} {pr : List PV} (hp : pr.length ≤ 100) (e : cl x = pre ++ 40 :: ((m :: (mid ++ digs n) ++ [m]) ++ 41 :: post)) (h40 : 40 ∉ pre) (h41 : 41 ∉ mid)
    (h3 : mkS (pre.take 3) = ("229" : Str)) (hl3 : 3 ≤ pre.length) (hx : (pre ++ 40 :: ((m :: (mid ++ digs n) ++ [m]) ++ 41 :: post)).length ≤ 1000) (hs : splitG m [] (m :: (mid ++ digs n) ++ [m]) = parts) (h5 : parts.length = 5) (hd : parts[3]? = some (digs n)) :
    FnOk C 65 1 [.str x, .tuple (hst :: pr)] (.tuple [hst, .int n]) := by
  have D := c.dig
  have hb41 : 41 ∉ (m :: (mid ++ digs n) ++ [m]) := nmem_app (nmem_cons (Ne.symm c.mark.n41) (nmem_app h41 (D.nin (.inl (by decide))))) (nmem_cons (Ne.symm c.mark.n41) nmem_nil)
  obtain ⟨B, hc⟩ := br_of e h40 hb41 h3 hl3 hx
  have hlen : (mkS (digs n)).length ≤ 640 := by rw [len_cl, cl_mkS]; have := D.len; lia
  exact parse_ok G B (br_first (r := (mid ++ digs n) ++ [m]) e) (br_last e) c.mark.lt (by rw [hc, hs]; exact h5) (d := digs n) (by rw [hc, hs]; exact hd) (digs_reads c.h0 c.h1) hlen hp
theorem dlen (c : Ctx2 m n) : (digs n).length ≤ 10 := c.dig.len
noncomputable def T1 (m : Nat) (n : Int) : Str := "229 :) (" ++ innerS m n ++ one m ++ ") (5)"
noncomputable def T2 (m : Nat) (n : Int) : Str := "229 (" ++ one m ++ "2" ++ one m ++ "b" ++ ⟨(cut (innerS m n).cps.toList (some 2) none).toArray⟩ ++ one m ++ ")"
noncomputable def T3 (cd : Str) (m : Nat) (n : Int) : Str := cd ++ " (" ++ innerS m n ++ one m ++ ")"
noncomputable def T4 (m : Nat) (n : Int) : Str := "229 (" ++ innerS m n ++ "y" ++ one m ++ ")"
noncomputable def R1 (m : Nat) (n : Int) : Str := "229 " ++ innerS m n ++ one m ++ ")"
noncomputable def R2 (m : Nat) (n : Int) : Str := "229 )(" ++ innerS m n ++ one m
noncomputable def R4 (m : Nat) (n : Int) : Str := "229 (" ++ innerS m n ++ "y)"
noncomputable def R5 (m : Nat) (n : Int) : Str := "229 (" ++ one m ++ innerS m n ++ one m ++ ")"
noncomputable def R6 (m : Nat) (n : Int) : Str := "229 (" ++ ⟨(cut (innerS m n).cps.toList (some 1) none).toArray⟩ ++ one m ++ ")"
theorem cl_lits : cl ("229 :) (" : Str) = [50, 50, 57, 32, 58, 41, 32, 40] ∧ cl (") (5)" : Str) = [41, 32, 40, 53, 41] ∧ cl ("229 (" : Str) = [50, 50, 57, 32, 40] ∧ cl ("2" : Str) = [50] ∧ cl ("b" : Str) = [98] ∧ cl (")" : Str) = [41] ∧ cl ("y" : Str) = [121] ∧ cl ("229 " : Str) = [50, 50, 57, 32] ∧ cl ("229 )(" : Str) = [50, 50, 57, 32, 41, 40] ∧ cl ("y)" : Str) = [121, 41] ∧ cl (" (" : Str) = [32, 40] ∧ cl ("229 ()" : Str) = [50, 50, 57, 32, 40, 41] := by
  refine ⟨?_, ?_, ?_, ?_, ?_, ?_, ?_, ?_, ?_, ?_, ?_, ?_⟩ <;> decide +kernel
theorem cl_cut (m : Nat) (n : Int) : cl (⟨(cut (innerS m n).cps.toList (some 2) none).toArray⟩ : Str) = m :: digs n ∧ cl (⟨(cut (innerS m n).cps.toList (some 1) none).toArray⟩ : Str) = m :: m :: digs n := by
  have e : (innerS m n).cps.toList = m :: m :: m :: digs n := cl_inner m n
  constructor
  · show cut (innerS m n).cps.toList (some 2) none = _
    rw [e]; unfold cut; simp
  · show cut (innerS m n).cps.toList (some 1) none = _
    rw [e]; unfold cut; simp
theorem t1_cl : cl (T1 m n) = [50, 50, 57, 32, 58, 41, 32] ++ 40 :: ((m :: ([m, m] ++ digs n) ++ [m]) ++ 41 :: [32, 40, 53, 41]) := by
  obtain ⟨l1, l2, _⟩ := cl_lits
  unfold T1
  rw [cl_app, cl_app, cl_app, l1, l2, cl_inner, cl_one]
  simp
theorem t2_cl : cl (T2 m n) = [50, 50, 57, 32] ++ 40 :: ((m :: ([50, m, 98, m] ++ digs n) ++ [m]) ++ 41 :: []) := by
  obtain ⟨_, _, l3, l4, l5, l6, _⟩ := cl_lits
  unfold T2
  rw [cl_app, cl_app, cl_app, cl_app, cl_app, cl_app, cl_app, l3, l4, l5, l6, cl_one, (cl_cut m n).1]
  simp
theorem t3_cl (cd : Str) : cl (T3 cd m n) = cl cd ++ [32, 40] ++ (m :: m :: m :: digs n) ++ [m] ++ [41] := by
  obtain ⟨_, _, _, _, _, l6, _, _, _, _, l11, _⟩ := cl_lits
  unfold T3
  rw [cl_app, cl_app, cl_app, cl_app, l6, l11, cl_inner, cl_one]
theorem t4_cl : cl (T4 m n) = [50, 50, 57, 32] ++ 40 :: (((m :: m :: m :: digs n) ++ [121] ++ [m]) ++ 41 :: []) := by
  obtain ⟨_, _, l3, _, _, l6, l7, _⟩ := cl_lits
  unfold T4
  rw [cl_app, cl_app, cl_app, cl_app, l3, l6, l7, cl_inner, cl_one]
  simp
theorem r1_cl : cl (R1 m n) = [50, 50, 57, 32] ++ ((m :: m :: m :: digs n) ++ [m] ++ [41]) := by
  obtain ⟨_, _, _, _, _, l6, _, l8, _⟩ := cl_lits
  unfold R1
  rw [cl_app, cl_app, cl_app, l6, l8, cl_inner, cl_one]
  simp
theorem r2_cl : cl (R2 m n) = [50, 50, 57, 32, 41] ++ 40 :: ((m :: m :: m :: digs n) ++ [m]) := by
  obtain ⟨_, _, _, _, _, _, _, _, l9, _⟩ := cl_lits
  unfold R2
  rw [cl_app, cl_app, l9, cl_inner, cl_one]
  simp
theorem r4_cl : cl (R4 m n) = [50, 50, 57, 32] ++ 40 :: (((m :: m :: m :: digs n) ++ [121]) ++ 41 :: []) := by
  obtain ⟨_, _, l3, _, _, _, _, _, _, l10, _⟩ := cl_lits
  unfold R4
  rw [cl_app, cl_app, l3, l10, cl_inner]
  simp
theorem r5_cl : cl (R5 m n) = [50, 50, 57, 32] ++ 40 :: ((m :: ([m, m, m] ++ digs n) ++ [m]) ++ 41 :: []) := by
  obtain ⟨_, _, l3, _, _, l6, _⟩ := cl_lits
  unfold R5
  rw [cl_app, cl_app, cl_app, cl_app, l3, l6, cl_inner, cl_one]
  simp
theorem r6_cl : cl (R6 m n) = [50, 50, 57, 32] ++ 40 :: ((m :: ([m] ++ digs n) ++ [m]) ++ 41 :: []) := by
  obtain ⟨_, _, l3, _, _, l6, _⟩ := cl_lits
  unfold R6
  rw [cl_app, cl_app, cl_app, l3, l6, cl_one, (cl_cut m n).2]
  simp
theorem sg_cons {c : Nat} (acc r : List Nat) : splitG c acc (c :: r) = acc :: splitG c [] r := if_pos rfl
theorem sg_skip {c d : Nat} (acc r : List Nat) (h : d ≠ c) : splitG c acc (d :: r) = splitG c (acc ++ [d]) r := if_neg h
theorem sg_tail {c : Nat} {D : List Nat} (hD : c ∉ D) : splitG c [] (D ++ [c]) = [D, []] := by
  rw [splitG_pre [] [] hD, List.nil_append]; rfl
theorem t1_ok (c : Ctx2 m n) (G : Good C) : FnOk C 65 1 [.str (T1 m n), peer2] (.tuple [.str "a", .int n]) := by
  have := dlen c
  exact parse_good c G (parts := [[], [], [], digs n, []]) (by decide) t1_cl (by decide) (nmem_cons (Ne.symm c.mark.n41) (nmem_cons (Ne.symm c.mark.n41) nmem_nil)) hd229 (by decide) (by simp; lia) (by
    show splitG m [] (m :: m :: m :: (digs n ++ [m])) = _
    rw [sg_cons, sg_cons, sg_cons, sg_tail c.nm]) rfl rfl
theorem t2_ok (c : Ctx2 m n) (G : Good C) : FnOk C 65 1 [.str (T2 m n), peer4] (.tuple [.str "a", .int n]) := by
  have := dlen c
  have h50 : 50 ≠ m := by have := c.mark.dig; lia
  have h98 : 98 ≠ m := Ne.symm c.mark.n98
  exact parse_good c G (parts := [[], [50], [98], digs n, []]) (by decide) t2_cl (by decide) (nmem_cons (by decide) (nmem_cons (Ne.symm c.mark.n41) (nmem_cons (by decide) (nmem_cons (Ne.symm c.mark.n41) nmem_nil)))) hd229 (by decide) (by simp; lia) (by
    show splitG m [] (m :: 50 :: m :: 98 :: m :: (digs n ++ [m])) = _
    rw [sg_cons, sg_skip _ _ h50, sg_cons, sg_skip _ _ h98, sg_cons, sg_tail c.nm]; rfl) rfl rfl
theorem t3_reply (c : Ctx2 m n) {cd : Str} (hc : (cl cd).length = 3) (hne : cd ≠ ("229" : Str)) (G : Good C) {peer : PV} : FnRaise C 65 1 [.str (T3 cd m n), peer] (.ref 44) [.str (T3 cd m n)] := by
  have := dlen c
  refine parse_reply G ?_ ?_
  · rw [len_cl, t3_cl]; simp only [List.length_append, List.length_cons, List.length_nil]; lia
  · rw [t3_cl, List.append_assoc, List.append_assoc, List.append_assoc, List.take_append_of_le_length (by lia), List.take_of_length_le (by lia), mkS_cl]
    exact hne
theorem t4_value (c : Ctx2 m n) (G : Good C) : FnRaiseC C 65 1 [.str (T4 m n), peer2] (.type "ValueError") := by
  have := dlen c
  have D := c.dig
  have h121 : 121 ≠ m := Ne.symm c.mark.n121
  have hm41 := Ne.symm c.mark.n41
  have hs : splitG m [] ((m :: m :: m :: digs n) ++ [121] ++ [m]) = [[], [], [], digs n ++ [121], []] := by
    show splitG m [] (m :: m :: m :: ((digs n ++ [121]) ++ [m])) = _
    rw [sg_cons, sg_cons, sg_cons, sg_tail (nmem_app c.nm (nmem_cons (Ne.symm h121) nmem_nil))]
  obtain ⟨B, hc⟩ := br_of (x := T4 m n) t4_cl (by decide) (nmem_app (nmem_app (nmem_cons hm41 (nmem_cons hm41 (nmem_cons hm41 (D.nin (.inl (by decide)))))) (nmem_cons (by decide) nmem_nil)) (nmem_cons hm41 nmem_nil)) hd229 (by decide) (by simp; lia)
  exact parse_value G B (br_first (r := m :: m :: (digs n ++ [121] ++ [m])) (post := []) (by rw [t4_cl]; simp)) (br_last t4_cl) c.mark.lt (by rw [hc, hs]; rfl) (d := digs n ++ [121]) (by rw [hc, hs]; rfl) (bad_text D) (by decide)
theorem r1_proto (c : Ctx2 m n) (G : Good C) {peer : PV} : FnRaise C 65 1 [.str (R1 m n), peer] (.ref 56) [.str (R1 m n)] := by
  have := dlen c
  have hm := Ne.symm c.mark.n40
  refine parse_p1 G ?_ ?_ ?_
  · rw [len_cl, r1_cl]; simp only [List.length_append, List.length_cons, List.length_nil]; lia
  · rw [r1_cl]; exact hd229
  · rw [r1_cl, idxs_none]
    · rfl
    · exact nmem_app (by decide) (nmem_app (nmem_app (nmem_cons hm (nmem_cons hm (nmem_cons hm (c.dig.nin (.inl (by decide)))))) (nmem_cons hm nmem_nil)) (by decide))
theorem r2_proto (c : Ctx2 m n) (G : Good C) {peer : PV} : FnRaise C 65 1 [.str (R2 m n), peer] (.ref 56) [.str (R2 m n)] := by
  have := dlen c
  have hm := Ne.symm c.mark.n41
  have hl : (R2 m n).length ≤ 1000 ∧ 6 ≤ (R2 m n).length := by rw [len_cl, r2_cl]; simp only [List.length_append, List.length_cons, List.length_nil]; lia
  refine parse_p2 (L := 5) G hl.1 ?_ ?_ hl.2 ?_
  · rw [r2_cl]; exact hd229
  · rw [r2_cl, idxs_pre 0 _ (by decide)]; rfl
  · have : (cl (R2 m n)).drop 6 = (m :: m :: m :: digs n) ++ [m] := by rw [r2_cl]; rfl
    rw [this, idxs_none]
    · rfl
    · exact nmem_app (nmem_cons hm (nmem_cons hm (nmem_cons hm (c.dig.nin (.inl (by decide)))))) (nmem_cons hm nmem_nil)
theorem r3_proto (G : Good C) {peer : PV} : FnRaise C 65 1 [.str "229 ()", peer] (.ref 56) [.str "229 ()"] := by
  obtain ⟨_, _, _, _, _, _, _, _, _, _, _, l12⟩ := cl_lits
  obtain ⟨B, hc⟩ := br_of (x := "229 ()") (pre := [50, 50, 57, 32]) (body := []) (post := []) l12 (by decide) (by decide) hd229 (by decide) (by decide)
  exact parse_p3 G B (a := 41) (b := 40) (by rw [l12]; rfl) (by rw [l12]; rfl) (by decide)
theorem r4_proto (c : Ctx2 m n) (G : Good C) {peer : PV} : FnRaise C 65 1 [.str (R4 m n), peer] (.ref 56) [.str (R4 m n)] := by
  have := dlen c
  have hm := Ne.symm c.mark.n41
  obtain ⟨B, hc⟩ := br_of (x := R4 m n) r4_cl (by decide) (nmem_app (nmem_cons hm (nmem_cons hm (nmem_cons hm (c.dig.nin (.inl (by decide)))))) (by decide)) hd229 (by decide) (by simp; lia)
  exact parse_p3 G B (a := m) (b := 121) (br_first (r := m :: m :: (digs n ++ [121])) (post := []) (by rw [r4_cl]; simp)) (br_last r4_cl) c.mark.n121
theorem r5_proto (c : Ctx2 m n) (G : Good C) {peer : PV} : FnRaise C 65 1 [.str (R5 m n), peer] (.ref 56) [.str (R5 m n)] := by
  have := dlen c
  have hm := Ne.symm c.mark.n41
  have hs : splitG m [] (m :: ([m, m, m] ++ digs n) ++ [m]) = [[], [], [], [], digs n, []] := by
    show splitG m [] (m :: m :: m :: m :: (digs n ++ [m])) = _
    rw [sg_cons, sg_cons, sg_cons, sg_cons, sg_tail c.nm]
  obtain ⟨B, hc⟩ := br_of (x := R5 m n) r5_cl (by decide) (nmem_app (nmem_cons hm (nmem_app (nmem_cons hm (nmem_cons hm (nmem_cons hm nmem_nil))) (c.dig.nin (.inl (by decide))))) (nmem_cons hm nmem_nil)) hd229 (by decide) (by simp; lia)
  exact parse_p4 G B (br_first (r := ([m, m, m] ++ digs n) ++ [m]) r5_cl) (br_last r5_cl) c.mark.lt (by rw [hc, hs]; simp)
theorem r6_proto (c : Ctx2 m n) (G : Good C) {peer : PV} : FnRaise C 65 1 [.str (R6 m n), peer] (.ref 56) [.str (R6 m n)] := by
  have := dlen c
  have hm := Ne.symm c.mark.n41
  have hs : splitG m [] (m :: ([m] ++ digs n) ++ [m]) = [[], [], digs n, []] := by
    show splitG m [] (m :: m :: (digs n ++ [m])) = _
    rw [sg_cons, sg_cons, sg_tail c.nm]
  obtain ⟨B, hc⟩ := br_of (x := R6 m n) r6_cl (by decide) (nmem_app (nmem_cons hm (nmem_app (nmem_cons hm nmem_nil) (c.dig.nin (.inl (by decide))))) (nmem_cons hm nmem_nil)) hd229 (by decide) (by simp; lia)
  exact parse_p4 G B (br_first (r := ([m] ++ digs n) ++ [m]) r6_cl) (br_last r6_cl) c.mark.lt (by rw [hc, hs]; simp)
end
section
open PySem.NumText
variable {C : Cx} {m : Nat} {n : Int} {cd : Str} {A : Around} {Lf : Addr} {k : Nat}
noncomputable def SL (k : Nat) (x : Str) : Prop := x.length ≤ 40 * k
theorem len_app (x y : Str) : (x ++ y).length = x.length + y.length := by show (x.cps ++ y.cps).size = _; rw [Array.size_append]; rfl
theorem sl_app {a b : Nat} {x y : Str} (h1 : SL a x) (h2 : SL b y) : SL (a + b) (x ++ y) := by unfold SL at *; rw [len_app]; lia
theorem sl_ar {a : Nat} {x : Str} (h : SL a x) (hk : a ≤ 70) : x.length ≤ 3000 := by unfold SL at h; lia
theorem sl_one : SL 1 (one m) := by unfold SL; exact Nat.le_of_ble_eq_true rfl
theorem sl_inner (c : Ctx2 m n) : SL 1 (innerS m n) := by unfold SL; have := dlen c; rw [len_cl, cl_inner]; simp only [List.length_cons]; lia
theorem sl_cut (c : Ctx2 m n) : SL 1 (⟨(cut (innerS m n).cps.toList (some 2) none).toArray⟩ : Str) ∧ SL 1 (⟨(cut (innerS m n).cps.toList (some 1) none).toArray⟩ : Str) := by
  have := dlen c
  constructor
  · unfold SL; rw [len_cl, (cl_cut m n).1]; simp only [List.length_cons]; lia
  · unfold SL; rw [len_cl, (cl_cut m n).2]; simp only [List.length_cons]; lia
theorem fnIn_157 (G : Good C) : FnIn C 157 (fdAt C.w 157) (bodyAt C.w 157) ["mark", "port", "code"] [] :=
  FnIn.m3 G (by kernel_rfl) (by kernel_rfl) (by kernel_rfl) (fun _ _ _ => by kernel_rfl) (by decide) (by kernel_rfl)
noncomputable def Sp0 (m : Nat) (n : Int) (cd : Str) : PS := [("mark", .val (.str (one m))), ("port", .val (.int n)), ("code", .val (.str cd))]
noncomputable def Sp1 (m : Nat) (n : Int) (cd : Str) : PS := [("mark", .val (.str (one m))), ("port", .val (.int n)), ("code", .val (.str cd)), ("inner", .val (.str (innerS m n)))]
noncomputable def Sp3 (m : Nat) (n : Int) (cd : Str) : PS := [("mark", .val (.str (one m))), ("port", .val (.int n)), ("code", .val (.str cd)), ("inner", .val (.str (innerS m n))), ("other", .val (.str (T3 cd m n)))]
noncomputable abbrev en157 (w : World) (L : Addr) : En := calleeEn (fdAt w 157) [] L 157
theorem body157 (w : World) : bodyAt w 157 = [nth w 157 0, nth w 157 1, nth w 157 2, nth w 157 3, nth w 157 4, nth w 157 5, nth w 157 6, nth w 157 7, nth w 157 8] := by kernel_rfl
theorem ts_and_fX {env : En} {S : PS} {e : Expr} {es : List Expr} {p : Pos} (x : TsX C A env S e false) : TsX C A env S (.BoolOp .And (e :: es) p) false := .mk fun s F M R Q E kk =>
  wpAny_isTrue_BoolOp (wpAny_allTrue_And_cons (x.run s F M R _ _ fun h' tk F' sp R' => kk h' tk F' sp R'))
theorem ne_self {N : Nat} {d : PV} (h : Nice N d) (hn : N ≤ 60) : Cm .NotEq d d false := cm_ne (p := true) (by have := eqPV_nice h h hn hn True (by simp); simpa using this)
theorem nice_pair (n : Int) : Nice 1 (.tuple [.str "a", .int n]) := .tuple _ _ fun d hd => by
  rcases List.mem_cons.mp hd with rfl | hd
  · exact .str _ _ (by decide +kernel)
  · rw [List.mem_singleton.mp hd]; exact .int _ _
theorem s_go0 (G : Good C) (AO : AOk A k) (c : Ctx2 m n) : ExS C A (en157 C.w Lf) (Sp0 m n cd) (nth C.w 157 0) (Sp1 m n cd) .next := by
  conv => arg 5; whnf
  have hs : Sm n := ⟨by have := c.h0; lia, by have := c.h1; lia⟩
  have h1 : (strMul (one m) 3).length ≤ 3000 := by rw [len_cl, cl_mul]; exact Nat.le_of_ble_eq_true rfl
  have h2 : (Str.ofString (toString n)).length ≤ 3000 := by have := dlen c; rw [len_cl]; show (digs n).length ≤ 3000; lia
  have h3 : (one m).length ≤ 3000 := Nat.le_of_ble_eq_true rfl
  refine ex_set (d := .str (innerS m n)) (by exact Or.inl (by kernel_rfl)) (by kernel_rfl) ?_
  refine ev_binop (a := .str (strMul (one m) 3)) (b := .str (Str.ofString (toString n))) ?_ ?_ (bo_add_str h1 h2)
  · ((with_reducible apply ev_binop); (· exact ev_name rfl rfl); (· exact ev_int); (· ((apply bo_mul_str); (· assumption); (· decide); (· decide))))
  · ((with_reducible apply ev_tcall); (· exact G.ok); (· assumption); (· exact G.gl rfl); (· kernel_rfl); (· rfl); (· ((with_reducible apply EvAll.cons); (· exact ev_name rfl rfl); (· intros; rfl); (· exact EvAll.nil))); (· (refine bc_str ?_; assumption)))
theorem s_go1 (G : Good C) (AO : AOk A (k + 2)) (c : Ctx2 m n) : ExS C A (en157 C.w Lf) (Sp1 m n cd) (nth C.w 157 1) (Sp1 m n cd) .next := by
  conv => arg 5; whnf
  refine ex_if (b := false) ?_ ea_nil
  refine ts_cmp (a := .tuple [.str "a", .int n]) (b := .tuple [.str "a", .int n]) AO ?_ (by ((with_reducible apply ev_tuple); (· ((with_reducible apply EvAll.cons); (· exact ev_str); (· intros; rfl); (· ((with_reducible apply EvAll.cons); (· exact ev_name rfl rfl); (· intros; rfl); (· exact EvAll.nil))))); (· exact lenOk_of (by (simp; done))))) (ne_self (nice_pair n) (by decide)) rfl
  refine ev_call (ds := [.str (T1 m n), peer2]) G.ok AO (G.gl rfl) (by kernel_rfl) rfl (G.kf (by kernel_rfl)) ?_ (FnOk.le (heard_ok G (t1_ok c G)) (by lia))
  unfold T1
  ((with_reducible apply EvAll.cons); (· ((with_reducible apply ev_binop); (· ((with_reducible apply ev_binop); (· ((with_reducible apply ev_binop); (· exact ev_str); (· exact ev_name rfl rfl); (· ((apply bo_add_str); (· ((with_reducible apply sl_ar); (· (show SL 1 _; unfold SL; decide +kernel)); (· decide))); (· ((with_reducible apply sl_ar); (· exact sl_inner (by assumption)); (· decide))))))); (· exact ev_name rfl rfl); (· ((apply bo_add_str); (· ((with_reducible apply sl_ar); (· ((with_reducible apply sl_app); (· (show SL 1 _; unfold SL; decide +kernel)); (· exact sl_inner (by assumption)))); (· decide))); (· ((with_reducible apply sl_ar); (· exact sl_one); (· decide))))))); (· exact ev_str); (· ((apply bo_add_str); (· ((with_reducible apply sl_ar); (· ((with_reducible apply sl_app); (· ((with_reducible apply sl_app); (· (show SL 1 _; unfold SL; decide +kernel)); (· exact sl_inner (by assumption)))); (· exact sl_one))); (· decide))); (· ((with_reducible apply sl_ar); (· (show SL 1 _; unfold SL; decide +kernel)); (· decide))))))); (· intros; rfl); (· ((with_reducible apply EvAll.cons); (· ((with_reducible apply ev_tuple); (· ((with_reducible apply EvAll.cons); (· exact ev_str); (· intros; rfl); (· ((with_reducible apply EvAll.cons); (· exact ev_int); (· intros; rfl); (· exact EvAll.nil))))); (· exact lenOk_of (by decide)))); (· intros; rfl); (· exact EvAll.nil))))
theorem s_go2 (G : Good C) (AO : AOk A (k + 2)) (c : Ctx2 m n) : ExS C A (en157 C.w Lf) (Sp1 m n cd) (nth C.w 157 2) (Sp1 m n cd) .next := by
  conv => arg 5; whnf
  refine ex_if (b := false) ?_ ea_nil
  refine ts_cmp (a := .tuple [.str "a", .int n]) (b := .tuple [.str "a", .int n]) AO ?_ (by ((with_reducible apply ev_tuple); (· ((with_reducible apply EvAll.cons); (· exact ev_str); (· intros; rfl); (· ((with_reducible apply EvAll.cons); (· exact ev_name rfl rfl); (· intros; rfl); (· exact EvAll.nil))))); (· exact lenOk_of (by (simp; done))))) (ne_self (nice_pair n) (by decide)) rfl
  refine ev_call (ds := [.str (T2 m n), peer4]) G.ok AO (G.gl rfl) (by kernel_rfl) rfl (G.kf (by kernel_rfl)) ?_ (FnOk.le (heard_ok G (t2_ok c G)) (by lia))
  unfold T2
  ((with_reducible apply EvAll.cons); (· ((with_reducible apply ev_binop); (· ((with_reducible apply ev_binop); (· ((with_reducible apply ev_binop); (· ((with_reducible apply ev_binop); (· ((with_reducible apply ev_binop); (· ((with_reducible apply ev_binop); (· ((with_reducible apply ev_binop); (· exact ev_str); (· exact ev_name rfl rfl); (· ((apply bo_add_str); (· ((with_reducible apply sl_ar); (· (show SL 1 _; unfold SL; decide +kernel)); (· decide))); (· ((with_reducible apply sl_ar); (· exact sl_one); (· decide))))))); (· exact ev_str); (· ((apply bo_add_str); (· ((with_reducible apply sl_ar); (· ((with_reducible apply sl_app); (· (show SL 1 _; unfold SL; decide +kernel)); (· exact sl_one))); (· decide))); (· ((with_reducible apply sl_ar); (· exact sl_one); (· decide))))))); (· exact ev_name rfl rfl); (· ((apply bo_add_str); (· ((with_reducible apply sl_ar); (· ((with_reducible apply sl_app); (· ((with_reducible apply sl_app); (· (show SL 1 _; unfold SL; decide +kernel)); (· exact sl_one))); (· exact sl_one))); (· decide))); (· ((with_reducible apply sl_ar); (· exact sl_one); (· decide))))))); (· exact ev_str); (· ((apply bo_add_str); (· ((with_reducible apply sl_ar); (· ((with_reducible apply sl_app); (· ((with_reducible apply sl_app); (· ((with_reducible apply sl_app); (· (show SL 1 _; unfold SL; decide +kernel)); (· exact sl_one))); (· exact sl_one))); (· exact sl_one))); (· decide))); (· ((with_reducible apply sl_ar); (· exact sl_one); (· decide))))))); (· ((with_reducible apply ev_slice); (· exact ev_name rfl rfl); (· ((with_reducible apply EvO.val); exact ev_int)); (· exact EvO.nil); (· (refine sl_str ?_ ?_ ?_; (· ((with_reducible apply sl_ar); (· exact sl_inner (by assumption)); (· decide))); (· ((with_reducible apply nonneg_some); decide)); (· exact nonneg_none))))); (· ((apply bo_add_str); (· ((with_reducible apply sl_ar); (· ((with_reducible apply sl_app); (· ((with_reducible apply sl_app); (· ((with_reducible apply sl_app); (· ((with_reducible apply sl_app); (· (show SL 1 _; unfold SL; decide +kernel)); (· exact sl_one))); (· exact sl_one))); (· exact sl_one))); (· exact sl_one))); (· decide))); (· ((with_reducible apply sl_ar); (· exact (sl_cut (by assumption)).1); (· decide))))))); (· exact ev_name rfl rfl); (· ((apply bo_add_str); (· ((with_reducible apply sl_ar); (· ((with_reducible apply sl_app); (· ((with_reducible apply sl_app); (· ((with_reducible apply sl_app); (· ((with_reducible apply sl_app); (· ((with_reducible apply sl_app); (· (show SL 1 _; unfold SL; decide +kernel)); (· exact sl_one))); (· exact sl_one))); (· exact sl_one))); (· exact sl_one))); (· exact (sl_cut (by assumption)).1))); (· decide))); (· ((with_reducible apply sl_ar); (· exact sl_one); (· decide))))))); (· exact ev_str); (· ((apply bo_add_str); (· ((with_reducible apply sl_ar); (· ((with_reducible apply sl_app); (· ((with_reducible apply sl_app); (· ((with_reducible apply sl_app); (· ((with_reducible apply sl_app); (· ((with_reducible apply sl_app); (· ((with_reducible apply sl_app); (· (show SL 1 _; unfold SL; decide +kernel)); (· exact sl_one))); (· exact sl_one))); (· exact sl_one))); (· exact sl_one))); (· exact (sl_cut (by assumption)).1))); (· exact sl_one))); (· decide))); (· ((with_reducible apply sl_ar); (· exact sl_one); (· decide))))))); (· intros; rfl); (· ((with_reducible apply EvAll.cons); (· ((with_reducible apply ev_tuple); (· ((with_reducible apply EvAll.cons); (· exact ev_str); (· intros; rfl); (· ((with_reducible apply EvAll.cons); (· exact ev_int); (· intros; rfl); (· ((with_reducible apply EvAll.cons); (· exact ev_int); (· intros; rfl); (· ((with_reducible apply EvAll.cons); (· exact ev_int); (· intros; rfl); (· exact EvAll.nil))))))))); (· exact lenOk_of (by decide)))); (· intros; rfl); (· exact EvAll.nil))))
theorem s_go3 (G : Good C) (AO : AOk A k) (c : Ctx2 m n) (hcd : SL 1 cd) : ExS C A (en157 C.w Lf) (Sp1 m n cd) (nth C.w 157 3) (Sp3 m n cd) .next := by
  conv => arg 5; whnf
  refine ex_set (d := .str (T3 cd m n)) (by exact Or.inl (by kernel_rfl)) (by kernel_rfl) ?_
  unfold T3
  ((with_reducible apply ev_binop); (· ((with_reducible apply ev_binop); (· ((with_reducible apply ev_binop); (· ((with_reducible apply ev_binop); (· exact ev_name rfl rfl); (· exact ev_str); (· ((apply bo_add_str); (· ((with_reducible apply sl_ar); (· assumption); (· decide))); (· ((with_reducible apply sl_ar); (· (show SL 1 _; unfold SL; decide +kernel)); (· decide))))))); (· exact ev_name rfl rfl); (· ((apply bo_add_str); (· ((with_reducible apply sl_ar); (· ((with_reducible apply sl_app); (· assumption); (· (show SL 1 _; unfold SL; decide +kernel)))); (· decide))); (· ((with_reducible apply sl_ar); (· exact sl_inner (by assumption)); (· decide))))))); (· exact ev_name rfl rfl); (· ((apply bo_add_str); (· ((with_reducible apply sl_ar); (· ((with_reducible apply sl_app); (· ((with_reducible apply sl_app); (· assumption); (· (show SL 1 _; unfold SL; decide +kernel)))); (· exact sl_inner (by assumption)))); (· decide))); (· ((with_reducible apply sl_ar); (· exact sl_one); (· decide))))))); (· exact ev_str); (· ((apply bo_add_str); (· ((with_reducible apply sl_ar); (· ((with_reducible apply sl_app); (· ((with_reducible apply sl_app); (· ((with_reducible apply sl_app); (· assumption); (· (show SL 1 _; unfold SL; decide +kernel)))); (· exact sl_inner (by assumption)))); (· exact sl_one))); (· decide))); (· ((with_reducible apply sl_ar); (· exact sl_one); (· decide))))))
theorem so_app {x y : Str} (h1 : PyData.strOk x = true) (h2 : PyData.strOk y = true) : PyData.strOk (x ++ y) = true := by
  show ((x.cps ++ y.cps).all fun c => decide (c < 1114112)) = true
  rw [Array.all_append]
  have h1 : (x.cps.all fun c => decide (c < 1114112)) = true := h1
  have h2 : (y.cps.all fun c => decide (c < 1114112)) = true := h2
  rw [h1, h2]; rfl
theorem so_cl {x : Str} (h : ∀ c ∈ cl x, c < 256) : PyData.strOk x = true := by
  show (x.cps.all fun c => decide (c < 1114112)) = true
  rw [Array.all_eq_true_iff_forall_mem]
  intro c hc
  have := h c (by show c ∈ x.cps.toList; exact Array.mem_toList_iff.mpr hc)
  exact decide_eq_true (by lia)
theorem so_one (c : Ctx2 m n) : PyData.strOk (one m) = true := so_cl fun a ha => by rw [List.mem_singleton.mp ha]; exact c.mark.lt
theorem so_dig (c : Ctx2 m n) : ∀ a ∈ digs n, a < 256 := fun a ha => by have := c.dig.all a ha; lia
theorem so_inner (c : Ctx2 m n) : PyData.strOk (innerS m n) = true := so_cl fun a ha => by
  rw [cl_inner] at ha
  have := c.mark.lt
  rcases List.mem_cons.mp ha with rfl | ha
  · exact this
  · rcases List.mem_cons.mp ha with rfl | ha
    · exact this
    · rcases List.mem_cons.mp ha with rfl | ha
      · exact this
      · exact so_dig c a ha
theorem so_cut (c : Ctx2 m n) : PyData.strOk (⟨(cut (innerS m n).cps.toList (some 1) none).toArray⟩ : Str) = true := so_cl fun a ha => by
  rw [(cl_cut m n).2] at ha
  have := c.mark.lt
  rcases List.mem_cons.mp ha with rfl | ha
  · exact this
  · rcases List.mem_cons.mp ha with rfl | ha
    · exact this
    · exact so_dig c a ha
theorem nice_two {x y : Str} (h1 : PyData.strOk x = true) (h2 : PyData.strOk y = true) : Nice 1 (.list [.str x, .str y]) := .list _ _ fun d hd => by
  rcases List.mem_cons.mp hd with rfl | hd
  · exact .str _ _ h1
  · rw [List.mem_singleton.mp hd]; exact .str _ _ h2
theorem nice_one {x : Str} (h1 : PyData.strOk x = true) : Nice 1 (.list [.str x]) := .list _ _ fun d hd => by
  rw [List.mem_singleton.mp hd]; exact .str _ _ h1
theorem s_go4 (G : Good C) (AO : AOk A (k + 2)) (ch : ChainB C A Lf) (c : Ctx2 m n) (hl : (cl cd).length = 3) (hcd : SL 1 cd) (hso : PyData.strOk cd = true) : ExS C A (en157 C.w Lf) (Sp3 m n cd) (nth C.w 157 4) (Sp3 m n cd) .next := by
  conv => arg 5; whnf
  by_cases hc : cd = ("229" : Str)
  · refine ex_if (b := false) ?_ ea_nil
    refine ts_and_f ?_
    refine ts_cmp (a := .str cd) (b := .str "229") AO (by exact ev_name rfl rfl) ev_str ?_ rfl
    exact cm_ne_str.to (by rw [decide_eq_true hc]; rfl)
  · refine ex_ifX (b := false) ?_ ea_nil
    refine ts_and_tX (TsX.of ?_) (ts_and_fX ?_)
    · refine ts_cmp (a := .str cd) (b := .str "229") AO (by exact ev_name rfl rfl) ev_str ?_ rfl
      exact cm_ne_str.to (by rw [decide_eq_false hc]; rfl)
    · refine ts_cmpX (a := .list [.str "reply", .str (T3 cd m n)]) (b := .list [.str "reply", .str (T3 cd m n)]) AO ?_ (by ((with_reducible apply ev_list); (· ((with_reducible apply EvAll.cons); (· exact ev_str); (· intros; rfl); (· ((with_reducible apply EvAll.cons); (· exact ev_name rfl rfl); (· intros; rfl); (· exact EvAll.nil))))); (· exact lenOk_of (by (simp; done))))) (ne_self (nice_two (by decide +kernel) (by unfold T3; ((with_reducible apply so_app); (· ((with_reducible apply so_app); (· ((with_reducible apply so_app); (· ((with_reducible apply so_app); (· assumption); (· decide +kernel))); (· (with_reducible exact so_inner (by assumption))))); (· (with_reducible exact so_one (by assumption))))); (· decide +kernel)))) (by decide)) rfl
      refine ev_callX (ds := [.str (T3 cd m n), peer2]) G.ok AO ch (G.gl rfl) (by kernel_rfl) rfl (G.kf (by kernel_rfl)) ?_ (fun o => FnOkX.le (heard_reply (G.add _ _) fun C G => t3_reply c hl hc G) (by lia))
      ((with_reducible apply EvAll.cons); (· exact ev_name rfl rfl); (· intros; rfl); (· ((with_reducible apply EvAll.cons); (· ((with_reducible apply ev_tuple); (· ((with_reducible apply EvAll.cons); (· exact ev_str); (· intros; rfl); (· ((with_reducible apply EvAll.cons); (· exact ev_int); (· intros; rfl); (· exact EvAll.nil))))); (· exact lenOk_of (by decide)))); (· intros; rfl); (· exact EvAll.nil))))
theorem s_go5 (G : Good C) (AO : AOk A (k + 2)) (ch : ChainB C A Lf) (c : Ctx2 m n) : ExSC C A (en157 C.w Lf) (Sp3 m n cd) (nth C.w 157 5) (Sp3 m n cd) .next := by
  conv => arg 5; whnf
  refine exC_if (b := false) ?_ (eaC_of ea_nil)
  refine tsC_cmp (a := .list [.str "value"]) (b := .list [.str "value"]) AO ?_ (by ((with_reducible apply ev_list); (· ((with_reducible apply EvAll.cons); (· exact ev_str); (· intros; rfl); (· exact EvAll.nil))); (· exact lenOk_of (by decide)))) (ne_self (nice_one (by decide +kernel)) (by decide)) rfl
  refine evC_call (ds := [.str (T4 m n), peer2]) G.ok AO ch (G.gl rfl) (by kernel_rfl) rfl (G.kf (by kernel_rfl)) ?_ (fun o => FnOkXC.le (heard_value (G.add _ _) fun C G => t4_value c G) (by lia))
  unfold T4
  ((with_reducible apply EvAll.cons); (· ((with_reducible apply ev_binop); (· ((with_reducible apply ev_binop); (· ((with_reducible apply ev_binop); (· ((with_reducible apply ev_binop); (· exact ev_str); (· exact ev_name rfl rfl); (· ((apply bo_add_str); (· ((with_reducible apply sl_ar); (· (show SL 1 _; unfold SL; decide +kernel)); (· decide))); (· ((with_reducible apply sl_ar); (· exact sl_inner (by assumption)); (· decide))))))); (· exact ev_str); (· ((apply bo_add_str); (· ((with_reducible apply sl_ar); (· ((with_reducible apply sl_app); (· (show SL 1 _; unfold SL; decide +kernel)); (· exact sl_inner (by assumption)))); (· decide))); (· ((with_reducible apply sl_ar); (· exact sl_one); (· decide))))))); (· exact ev_name rfl rfl); (· ((apply bo_add_str); (· ((with_reducible apply sl_ar); (· ((with_reducible apply sl_app); (· ((with_reducible apply sl_app); (· (show SL 1 _; unfold SL; decide +kernel)); (· exact sl_inner (by assumption)))); (· exact sl_one))); (· decide))); (· ((with_reducible apply sl_ar); (· exact sl_one); (· decide))))))); (· exact ev_str); (· ((apply bo_add_str); (· ((with_reducible apply sl_ar); (· ((with_reducible apply sl_app); (· ((with_reducible apply sl_app); (· ((with_reducible apply sl_app); (· (show SL 1 _; unfold SL; decide +kernel)); (· exact sl_inner (by assumption)))); (· exact sl_one))); (· exact sl_one))); (· decide))); (· ((with_reducible apply sl_ar); (· exact sl_one); (· decide))))))); (· intros; rfl); (· ((with_reducible apply EvAll.cons); (· ((with_reducible apply ev_tuple); (· ((with_reducible apply EvAll.cons); (· exact ev_str); (· intros; rfl); (· ((with_reducible apply EvAll.cons); (· exact ev_int); (· intros; rfl); (· exact EvAll.nil))))); (· exact lenOk_of (by decide)))); (· intros; rfl); (· exact EvAll.nil))))
noncomputable def reps (m : Nat) (n : Int) : List Str := [R1 m n, R2 m n, "229 ()", R4 m n, R5 m n, R6 m n]
theorem s_go6 (G : Good C) (AO : AOk A (k + 2)) (c : Ctx2 m n) : ExS C A (en157 C.w Lf) (Sp3 m n cd) (nth C.w 157 6) (put (Sp3 m n cd) "replies" (.own [.str (R1 m n), .str (R2 m n), .str "229 ()", .str (R4 m n)])) .next := by
  conv => arg 5; whnf
  refine ex_own (by exact Or.inl (by kernel_rfl)) (by kernel_rfl) (el_list ?_ rfl)
  unfold R1 R2 R4
  ((with_reducible apply EvAll.cons); (· ((with_reducible apply ev_binop); (· ((with_reducible apply ev_binop); (· ((with_reducible apply ev_binop); (· exact ev_str); (· exact ev_name rfl rfl); (· ((apply bo_add_str); (· ((with_reducible apply sl_ar); (· (show SL 1 _; unfold SL; decide +kernel)); (· decide))); (· ((with_reducible apply sl_ar); (· exact sl_inner (by assumption)); (· decide))))))); (· exact ev_name rfl rfl); (· ((apply bo_add_str); (· ((with_reducible apply sl_ar); (· ((with_reducible apply sl_app); (· (show SL 1 _; unfold SL; decide +kernel)); (· exact sl_inner (by assumption)))); (· decide))); (· ((with_reducible apply sl_ar); (· exact sl_one); (· decide))))))); (· exact ev_str); (· ((apply bo_add_str); (· ((with_reducible apply sl_ar); (· ((with_reducible apply sl_app); (· ((with_reducible apply sl_app); (· (show SL 1 _; unfold SL; decide +kernel)); (· exact sl_inner (by assumption)))); (· exact sl_one))); (· decide))); (· ((with_reducible apply sl_ar); (· exact sl_one); (· decide))))))); (· intros; rfl); (· ((with_reducible apply EvAll.cons); (· ((with_reducible apply ev_binop); (· ((with_reducible apply ev_binop); (· exact ev_str); (· exact ev_name rfl rfl); (· ((apply bo_add_str); (· ((with_reducible apply sl_ar); (· (show SL 1 _; unfold SL; decide +kernel)); (· decide))); (· ((with_reducible apply sl_ar); (· exact sl_inner (by assumption)); (· decide))))))); (· exact ev_name rfl rfl); (· ((apply bo_add_str); (· ((with_reducible apply sl_ar); (· ((with_reducible apply sl_app); (· (show SL 1 _; unfold SL; decide +kernel)); (· exact sl_inner (by assumption)))); (· decide))); (· ((with_reducible apply sl_ar); (· exact sl_one); (· decide))))))); (· intros; rfl); (· ((with_reducible apply EvAll.cons); (· exact ev_str); (· intros; rfl); (· ((with_reducible apply EvAll.cons); (· ((with_reducible apply ev_binop); (· ((with_reducible apply ev_binop); (· exact ev_str); (· exact ev_name rfl rfl); (· ((apply bo_add_str); (· ((with_reducible apply sl_ar); (· (show SL 1 _; unfold SL; decide +kernel)); (· decide))); (· ((with_reducible apply sl_ar); (· exact sl_inner (by assumption)); (· decide))))))); (· exact ev_str); (· ((apply bo_add_str); (· ((with_reducible apply sl_ar); (· ((with_reducible apply sl_app); (· (show SL 1 _; unfold SL; decide +kernel)); (· exact sl_inner (by assumption)))); (· decide))); (· ((with_reducible apply sl_ar); (· (show SL 1 _; unfold SL; decide +kernel)); (· decide))))))); (· intros; rfl); (· exact EvAll.nil))))))))
theorem s_go7 (G : Good C) (AO : AOk A (k + 2)) (c : Ctx2 m n) : ExS C A (en157 C.w Lf) (put (Sp3 m n cd) "replies" (.own [.str (R1 m n), .str (R2 m n), .str "229 ()", .str (R4 m n)])) (nth C.w 157 7) (put (put (Sp3 m n cd) "replies" (.own [.str (R1 m n), .str (R2 m n), .str "229 ()", .str (R4 m n)])) "replies" (.own ((reps m n).map .str))) .next := by
  conv => arg 5; whnf
  refine ex_auglist (ds := [.str (R1 m n), .str (R2 m n), .str "229 ()", .str (R4 m n)]) (es := [.str (R5 m n), .str (R6 m n)]) (by exact Or.inl (by kernel_rfl)) rfl ?_ (by simp) (by simp)
  refine ev_list ?_ rfl
  unfold R5 R6
  ((with_reducible apply EvAll.cons); (· ((with_reducible apply ev_binop); (· ((with_reducible apply ev_binop); (· ((with_reducible apply ev_binop); (· ((with_reducible apply ev_binop); (· exact ev_str); (· exact ev_name rfl rfl); (· ((apply bo_add_str); (· ((with_reducible apply sl_ar); (· (show SL 1 _; unfold SL; decide +kernel)); (· decide))); (· ((with_reducible apply sl_ar); (· exact sl_one); (· decide))))))); (· exact ev_name rfl rfl); (· ((apply bo_add_str); (· ((with_reducible apply sl_ar); (· ((with_reducible apply sl_app); (· (show SL 1 _; unfold SL; decide +kernel)); (· exact sl_one))); (· decide))); (· ((with_reducible apply sl_ar); (· exact sl_inner (by assumption)); (· decide))))))); (· exact ev_name rfl rfl); (· ((apply bo_add_str); (· ((with_reducible apply sl_ar); (· ((with_reducible apply sl_app); (· ((with_reducible apply sl_app); (· (show SL 1 _; unfold SL; decide +kernel)); (· exact sl_one))); (· exact sl_inner (by assumption)))); (· decide))); (· ((with_reducible apply sl_ar); (· exact sl_one); (· decide))))))); (· exact ev_str); (· ((apply bo_add_str); (· ((with_reducible apply sl_ar); (· ((with_reducible apply sl_app); (· ((with_reducible apply sl_app); (· ((with_reducible apply sl_app); (· (show SL 1 _; unfold SL; decide +kernel)); (· exact sl_one))); (· exact sl_inner (by assumption)))); (· exact sl_one))); (· decide))); (· ((with_reducible apply sl_ar); (· exact sl_one); (· decide))))))); (· intros; rfl); (· ((with_reducible apply EvAll.cons); (· ((with_reducible apply ev_binop); (· ((with_reducible apply ev_binop); (· ((with_reducible apply ev_binop); (· exact ev_str); (· ((with_reducible apply ev_slice); (· exact ev_name rfl rfl); (· ((with_reducible apply EvO.val); exact ev_int)); (· exact EvO.nil); (· (refine sl_str ?_ ?_ ?_; (· ((with_reducible apply sl_ar); (· exact sl_inner (by assumption)); (· decide))); (· ((with_reducible apply nonneg_some); decide)); (· exact nonneg_none))))); (· ((apply bo_add_str); (· ((with_reducible apply sl_ar); (· (show SL 1 _; unfold SL; decide +kernel)); (· decide))); (· ((with_reducible apply sl_ar); (· exact (sl_cut (by assumption)).2); (· decide))))))); (· exact ev_name rfl rfl); (· ((apply bo_add_str); (· ((with_reducible apply sl_ar); (· ((with_reducible apply sl_app); (· (show SL 1 _; unfold SL; decide +kernel)); (· exact (sl_cut (by assumption)).2))); (· decide))); (· ((with_reducible apply sl_ar); (· exact sl_one); (· decide))))))); (· exact ev_str); (· ((apply bo_add_str); (· ((with_reducible apply sl_ar); (· ((with_reducible apply sl_app); (· ((with_reducible apply sl_app); (· (show SL 1 _; unfold SL; decide +kernel)); (· exact (sl_cut (by assumption)).2))); (· exact sl_one))); (· decide))); (· ((with_reducible apply sl_ar); (· exact sl_one); (· decide))))))); (· intros; rfl); (· exact EvAll.nil))))
theorem reps_proto (c : Ctx2 m n) : ∀ x ∈ reps m n, (∀ (C : Cx), Good C → FnRaise C 65 1 [.str x, peer2] (.ref 56) [.str x]) ∧ PyData.strOk x = true := by
  intro x hx
  unfold reps at hx
  rcases List.mem_cons.mp hx with rfl | hx
  · exact ⟨fun C G => r1_proto c G, by unfold R1; ((with_reducible apply so_app); (· ((with_reducible apply so_app); (· ((with_reducible apply so_app); (· decide +kernel); (· (with_reducible exact so_inner (by assumption))))); (· (with_reducible exact so_one (by assumption))))); (· decide +kernel))⟩
  rcases List.mem_cons.mp hx with rfl | hx
  · exact ⟨fun C G => r2_proto c G, by unfold R2; ((with_reducible apply so_app); (· ((with_reducible apply so_app); (· decide +kernel); (· (with_reducible exact so_inner (by assumption))))); (· (with_reducible exact so_one (by assumption))))⟩
  rcases List.mem_cons.mp hx with rfl | hx
  · exact ⟨fun C G => r3_proto G, by decide +kernel⟩
  rcases List.mem_cons.mp hx with rfl | hx
  · exact ⟨fun C G => r4_proto c G, by unfold R4; ((with_reducible apply so_app); (· ((with_reducible apply so_app); (· decide +kernel); (· (with_reducible exact so_inner (by assumption))))); (· decide +kernel))⟩
  rcases List.mem_cons.mp hx with rfl | hx
  · exact ⟨fun C G => r5_proto c G, by unfold R5; ((with_reducible apply so_app); (· ((with_reducible apply so_app); (· ((with_reducible apply so_app); (· ((with_reducible apply so_app); (· decide +kernel); (· (with_reducible exact so_one (by assumption))))); (· (with_reducible exact so_inner (by assumption))))); (· (with_reducible exact so_one (by assumption))))); (· decide +kernel))⟩
  rw [List.mem_singleton.mp hx]
  exact ⟨fun C G => r6_proto c G, by unfold R6; ((with_reducible apply so_app); (· ((with_reducible apply so_app); (· ((with_reducible apply so_app); (· decide +kernel); (· (with_reducible exact so_cut (by assumption))))); (· (with_reducible exact so_one (by assumption))))); (· decide +kernel))⟩
theorem s_go8 (G : Good C) (AO : AOk A (k + 2)) (ch : ChainB C A Lf) (c : Ctx2 m n) {S : PS} (hS : get S "replies" = some (.val (.list ((reps m n).map .str)))) : ExS C A (en157 C.w Lf) S (nth C.w 157 8) S (.ret (.bool false)) := by
  conv => arg 5; whnf
  refine ex_retX ?_
  refine ev_cmpX (a := .list []) (b := .list []) AO ?_ (ev_list .nil rfl) (ne_self (N := 1) (.list _ _ (fun d hd => nomatch hd)) (by decide)) rfl
  refine evx_comp (S₁ := []) (own := none) (cl := []) (ds := (reps m n).map .str) (co := some _) (fit_none ?_ ?_ rfl ?_) (it_listX AO.hh (EvX.of (ev_name hS rfl))) (fun a o ho hex => ?_) rfl (fun _ => rfl)
  · decide
  · intro h n acc; exact ⟨rfl, rfl⟩
  · decide
  · have G' : Good (C.add (en157 C.w Lf).e.locals o) := G.add _ _
    have hout : ([] : List PV) = ((reps m n).filter (fun _ => false)).map (fun x => PV.str x) := rfl
    rw [hout]
    apply CmpS.filt (S₀ := []) .str (fun _ => false) (fun x => .str x) (fun x => x ∈ reps m n) (S1 := fun x => put [] "reply" (.val (.str x))) (reps m n) Sub.nil (fun x hx => hx)
    · intro x _; (with_reducible apply tg_name); exact Or.inl (by kernel_rfl)
    · intro x; exact Sub.nil
    · intro x hx
      obtain ⟨h1, h2⟩ := reps_proto c x hx
      refine ts_cmp (a := .list [.str "proto", .str x]) (b := .list [.str "proto", .str x]) AO ?_ (by ((with_reducible apply ev_list); (· ((with_reducible apply EvAll.cons); (· exact ev_str); (· intros; rfl); (· ((with_reducible apply EvAll.cons); (· exact ev_name rfl rfl); (· intros; rfl); (· exact EvAll.nil))))); (· exact lenOk_of (by (simp; done))))) (ne_self (nice_two (by decide +kernel) h2) (by decide)) rfl
      refine ev_callA (ds := [.str x, peer2]) G'.ok AO (ch.add hex ho) (G'.gl (by rfl)) (by kernel_rfl) rfl (by rw [G'.K]; kernel_rfl) (by ((with_reducible apply EvAll.cons); (· exact ev_name rfl rfl); (· intros; rfl); (· ((with_reducible apply EvAll.cons); (· ((with_reducible apply ev_tuple); (· ((with_reducible apply EvAll.cons); (· exact ev_str); (· intros; rfl); (· ((with_reducible apply EvAll.cons); (· exact ev_int); (· intros; rfl); (· exact EvAll.nil))))); (· exact lenOk_of (by decide)))); (· intros; rfl); (· exact EvAll.nil))))) (FnOkX.le (heard_proto G' h1) (by lia))
    · intro x _; exact ev_name rfl rfl
theorem law_spoilt (G : Good C) (c : Ctx2 m n) (hl : (cl cd).length = 3) (hso : PyData.strOk cd = true) : FnOkXC C 157 3 [.str (one m), .int n, .str cd] (.bool false) := by
  have hcd : SL 1 cd := by unfold SL; rw [len_cl]; lia
  apply fn_okXC G.ok (fnIn_157 G) rfl
  intro A L AO ch hA
  refine ⟨put (put (put (Sp3 m n cd) "replies" (.own [.str (R1 m n), .str (R2 m n), .str "229 ()", .str (R4 m n)])) "replies" (.own ((reps m n).map .str))) "replies" (.val (.list ((reps m n).map .str))), ?_⟩
  rw [body157]
  refine eaC_next (s_go0 G AO c) (eaC_next (s_go1 G AO c) (eaC_next (s_go2 G AO c) (eaC_next (s_go3 G AO c hcd) (eaC_next (s_go4 G AO ch c hl hcd hso) (eaC_cons (s_go5 G AO ch c) (eaC_next (s_go6 G AO c) (eaC_next (s_go7 G AO c) (eaC_of ?_))))))))
  exact ea_freeze (x := "replies") rfl (ea_one (s_go8 G AO ch c rfl))
end
section
section
variable {C : Cx} {env : En} {F F' F'' : Fz} {M M' M'' : Mz} {h h' h'' : Heap} {S S' S'' S₁ : PS} {A : Around} {s : Shared} {E : Value → Shared → Prop} {k : Nat} {pos : Pos} {wr : List Addr}
theorem le_fset {a : Addr} {o : Obj} (sub : ∀ b p, F' b = some p → h'.get? b = some p) (ho : h'.get? a = some o) : Le F' (fset F' a o) := fun b p e => by
  unfold fset
  by_cases hb : b = a
  · subst hb
    have := sub _ _ e
    rw [ho] at this
    rw [if_pos rfl]; exact this
  · rw [if_neg hb]; exact e
theorem GrowW.freeze (W : Wd C F M h) (g : GrowW C wr F h F' h') {a : Addr} {o : Obj} (hn : h.get? a = none) (ho : h'.get? a = some o) : GrowW C wr F h (fset F' a o) h' := by
  have hF : F a = none := W.none_of_new hn
  refine ⟨g.ext, fun b p e => ?_, fun b p e => ?_, fun b p e => ?_, g.tab.mono (le_fset g.sub ho)⟩
  · unfold fset
    by_cases hb : b = a
    · subst hb; rw [hF] at e; cases e
    · rw [if_neg hb]; exact g.mono _ _ e
  · unfold fset at e
    by_cases hb : b = a
    · subst hb; rw [if_pos rfl] at e; cases e; exact ho
    · rw [if_neg hb] at e; exact g.sub _ _ e
  · unfold fset at e
    by_cases hb : b = a
    · subst hb; exact .inr hn
    · rw [if_neg hb] at e; exact g.fnew _ _ e
noncomputable def enumPV (ds : List PV) : List PV := ds.zipIdx.map fun p => .tuple [.int (p.2 : Int), p.1]
theorem enumPV_get {ds : List PV} {i : Nat} {d : PV} (h : (enumPV ds)[i]? = some d) : ∃ c, ds[i]? = some c ∧ d = .tuple [.int (i : Int), c] := by
  unfold enumPV at h
  rw [List.getElem?_map, List.getElem?_zipIdx] at h
  cases q : ds[i]? with
  | none => rw [q] at h; cases h
  | some c => rw [q] at h; cases h; exact ⟨c, rfl, by simp⟩
theorem enumPV_len (ds : List PV) : (enumPV ds).length = ds.length := by unfold enumPV; simp
theorem itr_enum (hh : A.handled = none) {elts : List Expr} {n : Nat} {p : Pos} {e it l : Addr} {vs : List Value} {ds : List PV} (hei : e ≠ it) (hel : e ≠ l) (hil : l ≠ it) (hFl : F l ≠ none) (i1 : IsAll F vs ds) :
    Itr C A F (.Tuple elts n p) e [e, it] (enumPV ds) (fun i h => (∃ old, IsEnum h e it i old) ∧ h.IsListIter it l i ∧ h.IsList l vs.toArray) where
  live := fun i h ⟨⟨old, he⟩, ⟨o, ho, hc, hd⟩, _⟩ b hb => by
    rcases List.mem_cons.mp hb with rfl | hb
    · exact ⟨_, he, fun v q => by cases q⟩
    · rw [List.mem_singleton.mp hb]; exact ⟨o, ho, fun v q => by rw [hd] at q; cases q⟩
  frame := fun i h h' ⟨⟨old, he⟩, hi, hl⟩ hk => by
    refine ⟨⟨old, hk e _ (.inl (by simp)) he⟩, ?_, hl.at fun o q => hk _ _ (.inr hFl) q⟩
    obtain ⟨o, ho, r⟩ := hi
    exact ⟨o, hk it o (.inl (by simp)) ho, r⟩
  item := fun i d s F' M' Q E hd ⟨⟨old, he⟩, hi, hl⟩ le wd hF hM hQ => by
    obtain ⟨c, hc, rfl⟩ := enumPV_get hd
    have hlt : i < vs.toArray.size := by have := (List.getElem?_eq_some_iff.mp hc).1; have := i1.length; simp; lia
    refine wpAny_pyNext_enum_itemD (Draws.list (A := A.in1) hh it l hil vs.toArray) he ⟨hi, hl⟩ hlt hei (by simp [hei, hel]) fun x h' tk hP ho hs' hT hsz hk => ⟨_, rfl, fun E' => ?_⟩
    refine wpAny_letOwnedTupleGo_enum (s := { s with heap := h', toks := tk + 1 }) ho fun h2 he2 hs2 => ?_
    have hk2 : ∀ b o, b ∉ [e, it] → s.heap.get? b = some o → h2.get? b = some o := fun b o hb q => (hs2.2 b fun z => hb (by simp [z])).trans (hk b o (fun z => hb (by simp [z])) (fun z => hb (by simp [z])) q)
    have hTe : s.heap.objs.size ≠ e := fun q => by have := Heap.lt_size he; rw [q] at this; exact Nat.lt_irrefl _ this
    have hT2 : h2.get? s.heap.objs.size = some (tupOf #[.int i tk, x] 0) := (hs2.2 _ hTe).trans hT
    have g := (GrowW.of (wr := [e, it]) wd hF hM hk2).freeze wd (size_none s.heap) hT2
    have hFT : ∀ b ∈ [e, it], fset F' s.heap.objs.size (tupOf #[.int i tk, x] 0) b = none := fun b hb => by
      unfold fset
      rw [if_neg]
      · exact hF b hb
      · intro q
        subst q
        rcases List.mem_cons.mp hb with q | q
        · exact hTe q
        · have := List.mem_singleton.mp q
          obtain ⟨o, ho', _⟩ := hi
          have h3 := Heap.lt_size ho'
          rw [← this] at h3; exact Nat.lt_irrefl _ h3
    obtain ⟨v', q1, q2⟩ := i1.get hc
    have hx : vs.toArray[i]? = some x := hP
    rw [List.getElem?_toArray, q1] at hx
    cases hx
    have hit2 : (∃ old, IsEnum h2 e it ((i + 1 : Nat) : Int) old) ∧ h2.IsListIter it l (i + 1) ∧ h2.IsList l vs.toArray := by
      refine ⟨⟨_, by have := he2; simpa using this⟩, ?_, hs'.2.at fun o q => (hs2.2 l (Ne.symm hel)).trans q⟩
      obtain ⟨o, ho', r⟩ := hs'.1
      exact ⟨o, (hs2.2 it (Ne.symm hei)).trans ho', r⟩
    exact hQ _ h2 (tk + 1) _ g hFT (Is.tuple (vs := [.int i tk, x]) (fset_self _ _ _) (.cons (.int _ _) (.cons (q2.mono (le.trans g.mono)) .nil))) hit2
  done := fun s Q E ⟨⟨old, he⟩, hi, hl⟩ hQ => by
    have hlen : (enumPV ds).length = vs.toArray.size := by rw [enumPV_len, ← i1.length]; simp
    rw [hlen] at hi he
    exact wpAny_pyNext_enum_endD (Draws.list (A := A.in1) hh it l hil vs.toArray) he ⟨hi, hl⟩ fun h' hx => hQ h' s.toks fun b o hb y => hx b o (fun e' => hb (by simp [e'])) y
  self := fun i s Q E ⟨⟨old, he⟩, _⟩ hQ => wpAny_pyIter_enum he hQ
theorem it_enum (O : C.Ok) (hh : A.handled = none) {elts : List Expr} {n : Nat} {tp p : Pos} {x : Str} {le : Expr} {ds : List PV} (e : C.glob x = some (.type "enumerate")) (hk : env.e.kindOf x = some .globalImplicit) (hd : (x == ("__debug__" : Str)) = false)
    (xs : EvAll C A env S [le] [.list ds]) : ItS C A env S (.Tuple elts n tp) (.Call (.Name x p) [le] [] pos) (enumPV ds) := .mk fun s F M R Q E kk => by
  refine Call_Name rfl ((ev_glob O (pos := p) e hk hd).run s F M R _ _ fun v h' tk F' g i => ?_)
  obtain rfl := isRaw i
  have R' := R.grow g
  refine PyProof.Rows.callWith_type xs.plain (xs.args (s := { s with heap := h', toks := tk }) R' fun vs h2 tk2 F2 g2 i2 => ?_)
  cases i2 with
  | cons i r =>
    cases r
    obtain ⟨l, ws, o, rfl, e1, lo, i1⟩ := isList i
    have W2 := R'.toWd.grow g2
    have hl := isListO (W2.sub _ _ e1) lo
    refine call_enumerate_list (s := { s with heap := h2, toks := tk2 }) hl fun h3 he hit hsz hk3 => ?_
    refine wpAny_pyIter_enum (s := { s with heap := h3, toks := tk2 }) he ?_
    have g3 : Grow C F2 h2 F2 h3 := Grow.only W2 hk3
    have hn0 : h2.get? h2.objs.size = none := size_none h2
    have hn1 : h2.get? (h2.objs.size + 1) = none := by
      cases q : h2.get? (h2.objs.size + 1) with
      | none => rfl
      | some o => exact absurd (Nat.lt_trans (Nat.lt_succ_self _) (Heap.lt_size q)) (Nat.lt_irrefl _)
    have hF0 : F2 h2.objs.size = none := W2.none_of_new hn0
    have hF1 : F2 (h2.objs.size + 1) = none := W2.none_of_new hn1
    refine kk (h2.objs.size + 1) [h2.objs.size + 1, h2.objs.size] _ h3 tk2 F2 ((g.trans g2).trans g3) ?_ ?_ (itr_enum hh (l := l) (vs := ws) (Nat.succ_ne_self _) (fun q => by rw [← q, hF1] at e1; cases e1) (fun q => by rw [q, hF0] at e1; cases e1) (by rw [e1]; simp) i1) ⟨⟨_, he⟩, hit, hl.at fun o q => hk3 _ _ q⟩
    · intro b hb
      rcases List.mem_cons.mp hb with rfl | hb
      · exact (g.trans g2).nobody R.toWd hn1
      · rw [List.mem_singleton.mp hb]; exact (g.trans g2).nobody R.toWd hn0
    · intro b hb
      rcases List.mem_cons.mp hb with rfl | hb
      · exact hF1
      · rw [List.mem_singleton.mp hb]; exact hF0
end
end
section
open PySem.NumText
variable {C : Cx}
theorem fnIn_145 (G : Good C) : FnIn C 145 (fdAt C.w 145) (bodyAt C.w 145) ["script"] [] :=
  FnIn.m1 G (by kernel_rfl) (by kernel_rfl) (by kernel_rfl) (fun _ => by kernel_rfl) (by decide) (by kernel_rfl)
noncomputable def drawF (ds : List Int) (p : Int × Nat) : List Int := ds.set (p.2 % 8) ((ds[p.2 % 8]?).getD 0 + p.1 % 1000000)
noncomputable def drawsOf (l : List Int) : List Int := l.zipIdx.foldl drawF [1, 3, 0, 2, 508, 5, 9, 3074]
theorem drawF_len (ds : List Int) (p : Int × Nat) : (drawF ds p).length = ds.length := by unfold drawF; rw [List.length_set]
noncomputable def drS (l : List Int) (ds : List Int) : PS := [("script", .val (.list (l.map .int))), ("draws", .own (ds.map .int))]
theorem enum_ints (l : List Int) : enumPV (l.map .int) = l.zipIdx.map fun p => .tuple [.int (p.2 : Int), .int p.1] := by
  unfold enumPV
  rw [List.zipIdx_map, List.map_map]
  rfl
theorem law_draws (G : Good C) (l : List Int) (hl : l.length ≤ 1000) : FnOk C 145 1 [.list (l.map .int)] (.list ((drawsOf l).map .int)) := by
  apply fn_ok G.ok (fnIn_145 G) rfl (fl := .ret (.list ((drawsOf l).map .int))) rfl
  intro A L AO
  conv => arg 5; whnf
  (with_reducible apply ea_cons)
  · (with_reducible apply ex_own); (· exact Or.inl (by kernel_rfl)); (· kernel_rfl); (with_reducible apply el_list); (· ((with_reducible apply EvAll.cons); (· exact ev_int); (· intros; rfl); (· ((with_reducible apply EvAll.cons); (· exact ev_int); (· intros; rfl); (· ((with_reducible apply EvAll.cons); (· exact ev_int); (· intros; rfl); (· ((with_reducible apply EvAll.cons); (· exact ev_int); (· intros; rfl); (· ((with_reducible apply EvAll.cons); (· exact ev_int); (· intros; rfl); (· ((with_reducible apply EvAll.cons); (· exact ev_int); (· intros; rfl); (· ((with_reducible apply EvAll.cons); (· exact ev_int); (· intros; rfl); (· ((with_reducible apply EvAll.cons); (· exact ev_int); (· intros; rfl); (· exact EvAll.nil))))))))))))))))); (· rfl)
  (with_reducible apply ea_cons)
  · (with_reducible apply ex_for)
    · (with_reducible apply it_enum); (· exact G.ok); (· exact AO.hh); (· exact G.gl rfl); (· kernel_rfl); (· rfl); (· ((with_reducible apply EvAll.cons); (· exact ev_name rfl rfl); (· intros; rfl); (· exact EvAll.nil)))
    · rw [enum_ints]
      have := ForS.foldI (C := C) (A := A) (env := calleeEn (fdAt C.w 145) [] L 145) (tgt := forTgt (nth C.w 145 1)) (body := forBody (nth C.w 145 1)) (drS l) (fun p : Int × Nat => .tuple [.int (p.2 : Int), .int p.1]) drawF (fun i ds => ds.length = 8) l.zipIdx
        (S1 := fun ds p => put (put (drS l ds) "place" (.val (.int p.2))) "number" (.val (.int p.1))) (S2 := fun ds p => put (put (put (drS l ds) "place" (.val (.int p.2))) "number" (.val (.int p.1))) "draws" (.own ((drawF ds p).map .int)))
        (fun i a x _ h => by rw [drawF_len]; exact h) (fun a x => ?_) (fun i a x hx h => ?_) (fun a x => ?_) l.zipIdx 0 [1, 3, 0, 2, 508, 5, 9, 3074] (List.drop_zero ..) rfl
      · exact this
      · conv => arg 5; whnf
        (with_reducible apply unpack2); (· exact AO.hh); (· exact Or.inl (by kernel_rfl)); (· exact Or.inl (by kernel_rfl))
      · conv => arg 5; whnf
        (with_reducible apply ea_one)
        have hm : 0 ≤ (x.2 : Int) % 8 ∧ (x.2 : Int) % 8 < 8 := by lia
        have e8 : ((x.2 : Int) % 8).toNat = x.2 % 8 := by lia
        have hlt : x.2 % 8 < a.length := by lia
        have hg : (a.map PV.int)[((x.2 : Int) % 8).toNat]? = some (.int ((a[x.2 % 8]?).getD 0)) := by
          rw [e8, List.getElem?_map, List.getElem?_eq_getElem hlt]; rfl
        have es : (drawF a x).map PV.int = (a.map PV.int).set ((x.2 : Int) % 8).toNat (.int ((a[x.2 % 8]?).getD 0 + x.1 % 1000000)) := by
          unfold drawF; rw [List.map_set, e8]
        rw [es]
        refine ex_augitem (kx := (x.2 : Int) % 8) (n := (a[x.2 % 8]?).getD 0) (n' := x.1 % 1000000) rfl rfl ?_ ?_ hm.1 (by rw [List.length_map]; lia) (lenOk_of (by rw [List.length_map]; lia)) hg ?_
        · refine ev_binop (a := .int x.1) (b := .int 1000000) (by exact ev_name rfl rfl) ?_ (bo_mod (by decide))
          exact ev_binop (a := .int 10) (b := .int 6) ev_int ev_int (bo_pow (by decide) (by decide) (by decide))
        · ((with_reducible apply ev_binop); (· exact ev_name rfl rfl); (· exact ev_int); (· (apply bo_mod; decide)))
        · intro _ _ _; rfl
      · exact .cons rfl (.cons rfl .nil)
    · intro _; rfl
  · (with_reducible apply ea_freeze (x := "draws")); (· rfl)
    (with_reducible apply ea_stop); (· ((with_reducible apply ex_ret); exact ev_name rfl rfl))
    nofun
end
section
noncomputable def evK {α : Type} (lt : Nat → Nat → Bool) : KasT α → α
  | .ret a => a
  | .ask i j k => evK lt (k (lt i j))
theorem evK_bind {α β : Type} (lt : Nat → Nat → Bool) (f : α → KasT β) : ∀ t : KasT α, evK lt (t.bind f) = evK lt (f (evK lt t))
  | .ret a => rfl
  | .ask i j k => evK_bind lt f (k (lt i j))
noncomputable def okP {α : Type} (lt : Nat → Nat → Bool) (n : Nat) : KasT α → Prop
  | .ret _ => True
  | .ask i j k => i < n ∧ j < n ∧ okP lt n (k (lt i j))
theorem okP_bind {α β : Type} {lt : Nat → Nat → Bool} {n : Nat} {f : α → KasT β} : ∀ t : KasT α, okP lt n t → okP lt n (f (evK lt t)) → okP lt n (t.bind f)
  | .ret a, _, h => h
  | .ask i j k, h, h2 => ⟨h.1, h.2.1, okP_bind (k (lt i j)) h.2.2 h2⟩
theorem kasWp_ev {α : Type} {cmp : Nat → Nat → (Bool → Shared → Prop) → Shared → Prop} {lt : Nat → Nat → Bool} {s : Shared} {n : Nat} {G : α → Shared → Prop} (hc : ∀ i j (K : Bool → Shared → Prop), i < n → j < n → K (lt i j) s → cmp i j K s) :
    ∀ t : KasT α, okP lt n t → G (evK lt t) s → t.kasWp cmp G s
  | .ret a, _, h => h
  | .ask i j k, h, h2 => hc i j _ h.1 h.2.1 (kasWp_ev hc (k (lt i j)) h.2.2 h2)
structure Ord (le : Nat → Nat → Prop) (lt : Nat → Nat → Bool) : Prop where
  trans : ∀ a b c, le a b → le b c → le a c
  refl : ∀ a, le a a
  yes : ∀ a b, lt a b = true → le a b
  no : ∀ a b, lt a b = false → le b a
  lt_le : ∀ a b c, lt a b = true → le b c → lt a c = true
noncomputable abbrev at_ (p : Array Nat) (i : Nat) : Nat := p.getD i 0
noncomputable def SrtTo (le : Nat → Nat → Prop) (p : Array Nat) (m : Nat) : Prop := ∀ i j, i ≤ j → j < m → le (at_ p i) (at_ p j)
section
variable {le : Nat → Nat → Prop} {lt : Nat → Nat → Bool} (O : Ord le lt)
include O
theorem ev_place {p : Array Nat} {k : Nat} (hs : SrtTo le p k) : ∀ (f l r : Nat), l ≤ r → r ≤ k → r - l ≤ f → (∀ i, i < l → le (at_ p i) (at_ p k)) → (∀ i, r ≤ i → i < k → lt (at_ p k) (at_ p i) = true) →
    l ≤ evK lt (kas_place p k f l r) ∧ evK lt (kas_place p k f l r) ≤ r ∧ (∀ i, i < evK lt (kas_place p k f l r) → le (at_ p i) (at_ p k)) ∧ (∀ i, evK lt (kas_place p k f l r) ≤ i → i < k → lt (at_ p k) (at_ p i) = true)
  | 0, l, r, h1, h2, h3, hl, hr => by
    have : l = r := by lia
    subst this
    exact ⟨Nat.le_refl _, Nat.le_refl _, hl, hr⟩
  | f + 1, l, r, h1, h2, h3, hl, hr => by
    unfold kas_place
    by_cases hc : l ≥ r
    · rw [if_pos hc]
      have : l = r := by lia
      subst this
      exact ⟨Nat.le_refl _, Nat.le_refl _, hl, hr⟩
    · rw [if_neg hc]
      have hm : l ≤ (l + r) / 2 ∧ (l + r) / 2 < r := by lia
      show l ≤ evK lt (if lt (at_ p k) (at_ p ((l + r) / 2)) = true then kas_place p k f l ((l + r) / 2) else kas_place p k f ((l + r) / 2 + 1) r) ∧ _
      cases ht : lt (at_ p k) (at_ p ((l + r) / 2)) with
      | true =>
        simp only [if_true, evK, ht]
        obtain ⟨a1, a2, a3, a4⟩ := ev_place hs f l ((l + r) / 2) hm.1 (by lia) (by lia) hl fun i hi hk => O.lt_le _ _ _ ht (hs _ _ hi hk)
        exact ⟨a1, by lia, a3, a4⟩
      | false =>
        simp only [Bool.false_eq_true, if_false, evK, ht]
        obtain ⟨a1, a2, a3, a4⟩ := ev_place hs f ((l + r) / 2 + 1) r (by lia) h2 (by lia) (fun i hi => O.trans _ _ _ (hs i ((l + r) / 2) (by lia) (by lia)) (O.no _ _ ht)) hr
        exact ⟨by lia, a2, a3, a4⟩
omit O in
theorem ok_place {p : Array Nat} {k n : Nat} (hp : ∀ i, at_ p i < n) : ∀ (f l r : Nat), okP lt n (kas_place p k f l r)
  | 0, l, r => trivial
  | f + 1, l, r => by
    unfold kas_place
    by_cases hc : l ≥ r
    · rw [if_pos hc]; trivial
    · rw [if_neg hc]
      refine ⟨hp _, hp _, ?_⟩
      cases lt (p.getD k 0) (p.getD ((l + r) / 2) 0) with
      | true => exact ok_place hp f _ _
      | false => exact ok_place hp f _ _
omit O in
theorem at_lt {p : Array Nat} {n : Nat} (h0 : 0 < n) (h : ∀ x ∈ p.toList, x < n) (i : Nat) : at_ p i < n := by
  by_cases q : i < p.size
  · have : at_ p i = p[i] := by simp [at_, Array.getD, q]
    rw [this]; exact h _ (by simp)
  · have : at_ p i = 0 := by simp [at_, Array.getD, q]
    rw [this]; exact h0
omit O in
theorem ok_bin {n : Nat} (h0 : 0 < n) : ∀ (f : Nat) (p : Array Nat) (k : Nat), (∀ x ∈ p.toList, x < n) → okP lt n (kas_bin f p k)
  | 0, p, k, _ => trivial
  | f + 1, p, k, h => by
    unfold kas_bin
    refine okP_bind _ (ok_place (at_lt h0 h) _ _ _) (ok_bin h0 f _ _ fun x hx => h x ?_)
    exact (Array.perm_iff_toList_perm.mp (bubble_perm p k _)).mem_iff.mp hx
theorem ev_bin : ∀ (f : Nat) (p : Array Nat) (k : Nat), f + k = p.size → SrtTo le p k → (evK lt (kas_bin f p k)).Perm p ∧ SrtTo le (evK lt (kas_bin f p k)) p.size
  | 0, p, k, h, hs => ⟨.refl _, by rw [← h, Nat.zero_add]; exact hs⟩
  | f + 1, p, k, h, hs => by
    unfold kas_bin
    rw [evK_bind]
    obtain ⟨a1, a2, a3, a4⟩ := ev_place O hs k 0 k (Nat.zero_le _) (Nat.le_refl _) (by lia) (fun i hi => by lia) fun i h1 h2 => by lia
    generalize evK lt (kas_place p k k 0 k) = x at a1 a2 a3 a4
    have hk : k < p.size := by lia
    have hsz : (bubble p k (k - x)).size = p.size := bubble_size _ _ _
    have hat : ∀ i, at_ (bubble p k (k - x)) i = if i = x then at_ p k else if x < i ∧ i ≤ k then at_ p (i - 1) else at_ p i := fun i => by
      have h1 := getElem?_bubble hk (k - x) (by lia) i
      have h2 : k - (k - x) = x := by lia
      rw [h2] at h1
      simp only [at_, Array.getD_eq_getD_getElem?]
      rw [h1]
      split
      · rfl
      · split <;> rfl
    have hq : SrtTo le (bubble p k (k - x)) (k + 1) := fun i j hij hj => by
      rw [hat, hat]
      by_cases j1 : j < x
      · rw [if_neg (by lia), if_neg (by lia), if_neg (by lia), if_neg (by lia)]
        exact hs _ _ hij (by lia)
      · by_cases j2 : j = x
        · rw [if_pos j2]
          by_cases i1 : i = x
          · rw [if_pos i1]; exact O.refl _
          · rw [if_neg i1, if_neg (by lia)]; exact a3 _ (by lia)
        · rw [if_neg j2, if_pos (show x < j ∧ j ≤ k by lia)]
          by_cases i1 : i = x
          · rw [if_pos i1]; exact O.yes _ _ (a4 _ (by lia) (by lia))
          · rw [if_neg i1]
            by_cases i2 : x < i
            · rw [if_pos (show x < i ∧ i ≤ k by lia)]; exact hs _ _ (by lia) (by lia)
            · rw [if_neg (by lia)]; exact hs _ _ (by lia) (by lia)
    obtain ⟨b1, b2⟩ := ev_bin f (bubble p k (k - x)) (k + 1) (by rw [hsz]; lia) hq
    rw [hsz] at b2
    exact ⟨b1.trans (bubble_perm _ _ _), b2⟩
end
/-! the first run, looked through -/
noncomputable def le1 (ys ns : List (Nat × Nat)) (a b : Nat) : Bool := ys.contains (a, b) || ns.contains (b, a)
noncomputable def growR (n : Nat) (ys ns : List (Nat × Nat)) (R : List Nat) : List Nat := (List.range n).filter fun c => R.contains c || R.any fun x => le1 ys ns x c
noncomputable def growsR (n : Nat) (ys ns : List (Nat × Nat)) : Nat → List Nat → List Nat
  | 0, R => R
  | f + 1, R => growsR n ys ns f (growR n ys ns R)
noncomputable def adjR (n : Nat) (ys ns : List (Nat × Nat)) : List Nat → Bool
  | a :: b :: r => (le1 ys ns a b || (growsR n ys ns n [a]).contains b) && adjR n ys ns (b :: r)
  | _ => true
noncomputable def chkL (n : Nat) (ys ns : List (Nat × Nat)) (m : Nat) (p : Array Nat) : Bool := p.toList.isPerm (List.range n) && decide (m ≤ n) && adjR n ys ns (p.toList.take (max m 1))
noncomputable def chkR (n : Nat) : KasT (Nat × Array Nat) → List (Nat × Nat) → List (Nat × Nat) → Bool
  | .ret r, ys, ns => chkL n ys ns r.1 r.2
  | .ask i j k, ys, ns => decide (i < n) && decide (j < n) && chkR n (k true) ((i, j) :: ys) ns && chkR n (k false) ys ((i, j) :: ns)
theorem chk5 : chkR 5 (kas_count 5 (List.toArray (List.range 5))) [] [] = true := by decide +kernel
theorem chk6 : chkR 6 (kas_count 6 (List.toArray (List.range 6))) [] [] = true := by decide +kernel
theorem chk7 : chkR 7 (kas_count 7 (List.toArray (List.range 7))) [] [] = true := by decide +kernel
section
variable {le : Nat → Nat → Prop} {lt : Nat → Nat → Bool} (O : Ord le lt)
include O
omit O in
theorem chkR_ev {n : Nat} : ∀ (t : KasT (Nat × Array Nat)) (ys ns : List (Nat × Nat)), chkR n t ys ns = true → (∀ q ∈ ys, lt q.1 q.2 = true) → (∀ q ∈ ns, lt q.1 q.2 = false) →
    ∃ ys' ns', chkL n ys' ns' (evK lt t).1 (evK lt t).2 = true ∧ (∀ q ∈ ys', lt q.1 q.2 = true) ∧ (∀ q ∈ ns', lt q.1 q.2 = false)
  | .ret r, ys, ns, h, hy, hn => ⟨ys, ns, h, hy, hn⟩
  | .ask i j k, ys, ns, h, hy, hn => by
    obtain ⟨h0, h2⟩ := Bool.and_eq_true_iff.mp h
    obtain ⟨_, h1⟩ := Bool.and_eq_true_iff.mp h0
    show ∃ ys' ns', chkL n ys' ns' (evK lt (k (lt i j))).1 (evK lt (k (lt i j))).2 = true ∧ _
    cases hl : lt i j with
    | true => exact chkR_ev (k true) _ _ h1 (fun q hq => by rcases List.mem_cons.mp hq with rfl | hq; exact hl; exact hy q hq) hn
    | false => exact chkR_ev (k false) _ _ h2 hy (fun q hq => by rcases List.mem_cons.mp hq with rfl | hq; exact hl; exact hn q hq)
omit O in
theorem chkR_ok {n : Nat} : ∀ (t : KasT (Nat × Array Nat)) (ys ns : List (Nat × Nat)), chkR n t ys ns = true → okP lt n t
  | .ret r, _, _, _ => trivial
  | .ask i j k, ys, ns, h => by
    obtain ⟨h0, h2⟩ := Bool.and_eq_true_iff.mp h
    obtain ⟨h3, h1⟩ := Bool.and_eq_true_iff.mp h0
    obtain ⟨h4, h5⟩ := Bool.and_eq_true_iff.mp h3
    refine ⟨of_decide_eq_true h4, of_decide_eq_true h5, ?_⟩
    cases lt i j with
    | true => exact chkR_ok (k true) _ _ h1
    | false => exact chkR_ok (k false) _ _ h2
theorem le1_le {ys ns : List (Nat × Nat)} (hy : ∀ q ∈ ys, lt q.1 q.2 = true) (hn : ∀ q ∈ ns, lt q.1 q.2 = false) {a b : Nat} (h : le1 ys ns a b = true) : le a b := by
  rcases Bool.or_eq_true_iff.mp h with q | q
  · exact O.yes _ _ (hy _ (List.contains_iff_mem.mp q))
  · exact O.no _ _ (hn _ (List.contains_iff_mem.mp q))
theorem growsR_le {n : Nat} {ys ns : List (Nat × Nat)} (hy : ∀ q ∈ ys, lt q.1 q.2 = true) (hn : ∀ q ∈ ns, lt q.1 q.2 = false) {a : Nat} : ∀ (f : Nat) (R : List Nat), (∀ c ∈ R, le a c) → ∀ c ∈ growsR n ys ns f R, le a c
  | 0, R, h => h
  | f + 1, R, h => growsR_le hy hn f _ fun c hc => by
    unfold growR at hc
    obtain ⟨_, h2⟩ := List.mem_filter.mp hc
    rcases Bool.or_eq_true_iff.mp h2 with q | q
    · exact h c (List.contains_iff_mem.mp q)
    · obtain ⟨x, hx, h3⟩ := List.any_eq_true.mp q
      exact O.trans _ _ _ (h x hx) (le1_le O hy hn h3)
theorem adjR_pw {n : Nat} {ys ns : List (Nat × Nat)} (hy : ∀ q ∈ ys, lt q.1 q.2 = true) (hn : ∀ q ∈ ns, lt q.1 q.2 = false) : ∀ l : List Nat, adjR n ys ns l = true → l.Pairwise le
  | [], _ => .nil
  | [a], _ => by simp
  | a :: b :: r, h => by
    unfold adjR at h
    obtain ⟨h1, h2⟩ := Bool.and_eq_true_iff.mp h
    have ih := adjR_pw hy hn (b :: r) h2
    have hab : le a b := by
      rcases Bool.or_eq_true_iff.mp h1 with q | q
      · exact le1_le O hy hn q
      · exact growsR_le O hy hn n [a] (fun c hc => by rw [List.mem_singleton.mp hc]; exact O.refl _) b (List.contains_iff_mem.mp q)
    refine List.pairwise_cons.mpr ⟨fun c hc => ?_, ih⟩
    rcases List.mem_cons.mp hc with rfl | hc
    · exact hab
    · exact O.trans _ _ _ hab ((List.pairwise_cons.mp ih).1 c hc)
theorem sort_ev {n : Nat} (hc : chkR n (kas_count n (List.toArray (List.range n))) [] [] = true) (hn : 1 ≤ n) :
    (evK lt (kas_sort n)).toList.Perm (List.range n) ∧ (evK lt (kas_sort n)).toList.Pairwise le ∧ okP lt n (kas_sort n) := by
  have ok1 := chkR_ok (lt := lt) _ [] [] hc
  obtain ⟨ys, ns, h, hy, hns⟩ := chkR_ev (lt := lt) _ [] [] hc (fun q hq => nomatch hq) (fun q hq => nomatch hq)
  generalize hr : evK lt (kas_count n (List.toArray (List.range n))) = r at h
  obtain ⟨m, p⟩ := r
  unfold chkL at h
  simp only [Bool.and_eq_true, decide_eq_true_eq] at h
  obtain ⟨⟨h1, h3⟩, h4⟩ := h
  have hp : p.toList.Perm (List.range n) := List.isPerm_iff.mp h1
  have hz : p.size = n := by have := hp.length_eq; rw [Array.length_toList, List.length_range] at this; exact this
  have pw := adjR_pw O hy hns _ h4
  have hm : max m 1 ≤ n := by lia
  have at1 : ∀ (q : Array Nat) (i : Nat) (hi : i < q.size), at_ q i = q[i] := fun q i hi => by simp [at_, Array.getD, hi]
  have ss : SrtTo le p (max m 1) := fun i j hij hj => by
    rw [at1 p i (by lia), at1 p j (by lia)]
    by_cases q : i = j
    · subst q; exact O.refl _
    · have := List.pairwise_iff_getElem.mp pw i j (by rw [List.length_take, Array.length_toList]; lia) (by rw [List.length_take, Array.length_toList]; lia) (by lia)
      simpa using this
  have fin : ∀ q : Array Nat, q.toList.Perm p.toList → SrtTo le q n → q.toList.Perm (List.range n) ∧ q.toList.Pairwise le := fun q hq hs => by
    refine ⟨hq.trans hp, List.pairwise_iff_getElem.mpr fun i j hi hj hij => ?_⟩
    have hz : q.size = n := by have := hq.length_eq; rw [Array.length_toList, Array.length_toList] at this; lia
    rw [Array.length_toList] at hi hj
    have := hs i j (by lia) (by lia)
    rw [at1 q i hi, at1 q j hj] at this
    simpa using this
  have main : ((evK lt (if m < n then kas_bin (n - max m 1) p (max m 1) else .ret p)).toList.Perm (List.range n) ∧ (evK lt (if m < n then kas_bin (n - max m 1) p (max m 1) else .ret p)).toList.Pairwise le) ∧ okP lt n (if m < n then kas_bin (n - max m 1) p (max m 1) else .ret p) := by
    by_cases hmn : m < n
    · rw [if_pos hmn]
      obtain ⟨b1, b2⟩ := ev_bin O (n - max m 1) p (max m 1) (by lia) ss
      rw [hz] at b2
      exact ⟨fin _ (Array.perm_iff_toList_perm.mp b1) b2, ok_bin (by lia) _ _ _ fun x hx => List.mem_range.mp (hp.mem_iff.mp hx)⟩
    · rw [if_neg hmn]
      have : max m 1 = n := by lia
      rw [this] at ss
      exact ⟨fin p (.refl _) ss, trivial⟩
  refine ⟨?_, ?_, okP_bind _ ok1 (by rw [hr]; exact main.2)⟩
  · unfold kas_sort; rw [evK_bind, hr]; exact main.1.1
  · unfold kas_sort; rw [evK_bind, hr]; exact main.1.2
end
end
section
noncomputable def bLt : List UInt8 → List UInt8 → Bool
  | _, [] => false
  | [], _ :: _ => true
  | x :: xs, y :: ys => if x < y then true else if x > y then false else bLt xs ys
theorem bLt_order : ∀ a b : List UInt8, (Builtin.Bytes.order a b == .lt) = bLt a b
  | [], [] => rfl
  | [], _ :: _ => rfl
  | _ :: _, [] => rfl
  | x :: xs, y :: ys => by
    unfold Builtin.Bytes.order bLt
    by_cases h1 : x < y
    · rw [if_pos h1, if_pos h1]; rfl
    · rw [if_neg h1, if_neg h1]
      by_cases h2 : x > y
      · rw [if_pos h2, if_pos h2]; rfl
      · rw [if_neg h2, if_neg h2]; exact bLt_order xs ys
theorem slot_bytes_lt : Slot "bytes" "__lt__" "bytes.__lt__" :=
  .of (owner := "bytes") (n := "__lt__") (by rw [typeLookup_type, builtinLookup_eq_fast]; kernel_rfl) (by decide +kernel) (by decide +kernel) (by decide +kernel)
    (by first | exact .inl (by decide +kernel) | exact .inr (by decide +kernel)) (by rw [isSubtype_type]; kernel_rfl)
theorem entry_bytes_lt : entryFor table "bytes.__lt__" = some Builtin.«bytes.__lt__» := entryFor_of_tree (by kernel_rfl)
theorem args_bytes_lt (a b : Value) : argsOk "bytes.__lt__" ⟨[a, b], []⟩ := by
  unfold argsOk; rw [signature?_of (id := "bytes.__lt__") (n := ['_', '_', 't', 'l', '_', '_']) (o := ['s', 'e', 't', 'y', 'b']) (by kernel_rfl) FB.owner_bytes]; kernel_rfl
section
variable {prog : Program} {w : World} {A : Around} {E : Value → Shared → Prop} {s : Shared}
theorem oneLt_bytes {b c : Array UInt8} {t u : Tok} {Q : Bool → Shared → Prop} (h : Q (bLt b.toList c.toList) s) : wpAny (model prog w) A (oneLt' true (.bytes b t) (.bytes c u)) Q E s := by
  rw [oneLt'_eq]
  simp only [if_true]
  refine wpAny_bind (wpAny_cRoomFor_byValue rfl ?_)
  refine wpAny_bind (wpAny_callSpecialIfBound?_slot (typeIs_bytes s b t) slot_bytes_lt (wpAny_call_entry slot_bytes_lt (typeIs_bytes s b t) entry_bytes_lt ?_ (args_bytes_lt _ _)))
  show wpAny _ _ (isInstance (.bytes c u) (.type "bytes") >>= fun r => _) _ _ s
  refine wpAny_bind (wpAny_isInstance (typeIs_bytes s c u) F.sub_bytes_bytes ?_)
  refine wpAny_pure ⟨_, rfl, ?_⟩
  show wpAny _ _ (truthOfDropped (.bool (Builtin.Bytes.order b.toList c.toList == .lt))) _ _ s
  rw [bLt_order]
  exact wpAny_truthy_bool h
theorem oneLt_int' {b : Bool} {x y : Int} {t u : Tok} {Q : Bool → Shared → Prop} (h : Q (decide (x < y)) s) : wpAny (model prog w) A (oneLt' b (.int x t) (.int y u)) Q E s := by
  cases b with
  | true => exact oneLt_int h
  | false => exact kat_one _ _ (wpAny_lt_int h)
end
noncomputable def allBut (L : Addr) (h : Heap) : List (Addr × Obj) := (List.range h.objs.size).filterMap fun a => if a = L then none else (h.get? a).map fun o => (a, o)
theorem mem_allBut {L a : Addr} {o : Obj} {h : Heap} : (a, o) ∈ allBut L h ↔ a ≠ L ∧ h.get? a = some o := by
  unfold allBut
  rw [List.mem_filterMap]
  constructor
  · rintro ⟨b, _, e⟩
    split at e
    · cases e
    · rename_i hb
      cases q : h.get? b with
      | none => rw [q] at e; cases e
      | some p => rw [q] at e; cases e; exact ⟨hb, q⟩
  · rintro ⟨h1, h2⟩
    exact ⟨a, List.mem_range.mpr (Heap.lt_size h2), by rw [if_neg h1, h2]; rfl⟩
noncomputable abbrev noHeap : Heap := {}
theorem noHeap_get (a : Addr) : noHeap.get? a = none := by
  cases q : noHeap.get? a with
  | none => rfl
  | some o => exact absurd (Heap.lt_size q) (Nat.not_lt_zero _)
theorem allBut_fr {L : Addr} {h : Heap} {m : Str → Option Value} (hn : h.Ns L m) : Fr noHeap L h m := ⟨hn, (fun b o e => by rw [noHeap_get b] at e; cases e), Nat.zero_le _⟩
theorem allBut_news {L : Addr} {h : Heap} : News noHeap L h (allBut L h) := fun p hp => by
  obtain ⟨a, o⟩ := p
  obtain ⟨h1, h2⟩ := mem_allBut.mp hp
  exact ⟨h2, h1, noHeap_get _⟩
theorem allBut_kept {L : Addr} {h h' : Heap} {g : Heap} {news : List (Addr × Obj)} (N : News g L h' news) (hs : ∀ p ∈ allBut L h, p ∈ news) : ∀ a o, a ≠ L → h.get? a = some o → h'.get? a = some o := fun a o ha e =>
  (N (a, o) (hs _ (mem_allBut.mpr ⟨ha, e⟩))).1
section
variable {C : Cx} {env : En} {F F' F'' : Fz} {M M' M'' : Mz} {h h' h'' : Heap} {S S' S'' S₁ : PS} {A : Around} {s : Shared} {E : Value → Shared → Prop} {k : Nat} {pos : Pos} {wr : List Addr}
theorem Rep.kept (R : Rep C env F M S h) {m : Str → Option Value} (hv : ∀ x pv, get S x = some pv → ∃ v, Loc C env M h m x v ∧ VarIs F M h x v pv) (hn' : h'.Ns env.e.locals m) (hk : ∀ a o, a ≠ env.e.locals → h.get? a = some o → h'.get? a = some o)
    (mono : Le F F') (sub : ∀ a o, F' a = some o → h'.get? a = some o) (fnew : ∀ a o, F' a = some o → F a = some o ∨ h.get? a = none) : Rep C env F' M S h' ∧ GrowL C env.e.locals F h F' h' := by
  refine R.framed hv hn' (fun a o _ hl e => hk a o hl e) mono sub fnew fun a ha => ?_
  obtain ⟨o, h1, h2, h3⟩ := R.tab a ha
  exact ⟨o, hk a o (fun q => R.own_out (q ▸ ha)) h1, h2, h3.mono mono⟩
theorem Rep.add1 (R : Rep C env F M S h) {m : Str → Option Value} (hv : ∀ x pv, get S x = some pv → ∃ v, Loc C env M h m x v ∧ VarIs F M h x v pv) (hn' : h'.Ns env.e.locals m) (hk : ∀ a o, a ≠ env.e.locals → h.get? a = some o → h'.get? a = some o)
    {D : Addr} {o : Obj} (hD : h.get? D = none) (ho : h'.get? D = some o) : Rep C env (fset F D o) M S h' ∧ GrowL C env.e.locals F h (fset F D o) h' ∧ Le F (fset F D o) := by
  have le : Le F (fset F D o) := fset_le (R.toWd.none_of_new hD)
  have sub : ∀ a p, fset F D o a = some p → h'.get? a = some p := fun a p e => by
    unfold fset at e
    split at e
    · rename_i q; cases e; rw [q]; exact ho
    · exact hk a p (fun q => by subst q; have := R.dis _ _ e; rw [R.frame] at this; cases this) (R.sub a p e)
  have fn : ∀ a p, fset F D o a = some p → F a = some p ∨ h.get? a = none := fun a p e => by
    unfold fset at e
    split at e
    · rename_i q; exact .inr (q ▸ hD)
    · exact .inl e
  obtain ⟨x, y⟩ := R.kept hv hn' hk le sub fn
  exact ⟨x, y, le⟩
structure Sorts (C : Cx) (A : Around) (F : Fz) (vs : List Value) (κ : SortKind) (lt : Nat → Nat → Bool) : Prop where
  kind : ∀ (s : Shared), (∀ a o, F a = some o → s.heap.get? a = some o) → ∀ (Q : SortKind → Shared → Prop), Q κ s → wpAny (model C.prog C.w) A (keyKind' vs.toArray) Q (fun _ _ => False) s
  cmp : ∀ (s : Shared), (∀ a o, F a = some o → s.heap.get? a = some o) → ∀ i j, i < vs.length → j < vs.length → ∀ (Q : Bool → Shared → Prop), Q (lt i j) s → wpAny (model C.prog C.w) A (keyLt' κ (vs.getD i Value.none) (vs.getD j Value.none)) Q (fun _ _ => False) s
theorem IsAll.perm {vs : List Value} {ds : List PV} (i : IsAll F vs ds) : ∀ p : List Nat, (∀ j ∈ p, j < ds.length) → IsAll F (p.map fun j => vs.getD j Value.none) (p.map fun j => ds.getD j PV.none)
  | [], _ => .nil
  | j :: p, h => by
    have hj : j < ds.length := h j (.head _)
    obtain ⟨v, hv, id⟩ := i.get (k := j) (d := ds[j]) (by simp [hj])
    refine .cons ?_ (i.perm p fun q hq => h q (.tail _ hq))
    have e1 : vs.getD j Value.none = v := by rw [List.getD_eq_getElem?_getD, hv]; rfl
    have e2 : ds.getD j PV.none = ds[j] := by simp [hj]
    show Is F (vs.getD j Value.none) (ds.getD j PV.none)
    rw [e1, e2]; exact id
noncomputable abbrev few (n : Nat) : Prop := n = 5 ∨ n = 6 ∨ n = 7
theorem few_ev {le : Nat → Nat → Prop} {lt : Nat → Nat → Bool} (O : Ord le lt) {n : Nat} (h : few n) : (evK lt (kas_sort n)).toList.Perm (List.range n) ∧ (evK lt (kas_sort n)).toList.Pairwise le ∧ okP lt n (kas_sort n) := by
  rcases h with rfl | rfl | rfl
  · exact sort_ev O chk5 (by decide)
  · exact sort_ev O chk6 (by decide)
  · exact sort_ev O chk7 (by decide)
noncomputable def srt (lt : Nat → Nat → Bool) (n : Nat) : List Nat := (evK lt (kas_sort n)).toList
theorem sorted_plain (R : Rep C env F M S s.heap) {l : Addr} {vs : List Value} {ds : List PV} {κ : SortKind} {le : Nat → Nat → Prop} {lt : Nat → Nat → Bool} (O : Ord le lt) (hl : s.heap.IsList l vs.toArray) (iv : IsAll F vs ds) (hn : few ds.length) (X : Sorts C A.in1.in1 F vs κ lt)
    {Q : Value → Shared → Prop} (kk : ∀ v h' tk F', GrowL C env.e.locals F s.heap F' h' → Rep C env F' M S h' → Is F' v (.list ((srt lt ds.length).map fun j => ds.getD j PV.none)) → Q v { s with heap := h', toks := tk }) : wpAny (model C.prog C.w) A (call (.builtin "sorted") [.ref l]) Q E s := by
  obtain ⟨m, hns, hv⟩ := R.vars
  have hlen : vs.length = ds.length := iv.length
  have hn2 : few vs.length := by rw [hlen]; exact hn
  obtain ⟨p1, p2, p3⟩ := few_ev O hn2
  refine kat_sorted (allBut_fr hns) allBut_news hl (by rcases hn2 with h | h | h <;> lia) (by rcases hn2 with h | h | h <;> lia) fun D e1 h' F' N' hlt => ?_
  have keep := allBut_kept (L := env.e.locals) (h := s.heap) N' fun p hp => .tail _ hp
  have nL : ∀ a o, F a = some o → a ≠ env.e.locals := fun a o e q => by subst q; have := R.dis _ _ e; rw [R.frame] at this; cases this
  have keepF : ∀ a o, F a = some o → h'.get? a = some o := fun a o e => keep a o (nL a o e) (R.sub a o e)
  have hDL : D ≠ env.e.locals := (N' _ (.head _)).2.1
  have hD : s.heap.get? D = none := by
    cases q : s.heap.get? D with
    | none => rfl
    | some o => exact absurd (hlt (D, o) (mem_allBut.mpr ⟨hDL, q⟩)) (Nat.lt_irrefl _)
  refine X.kind { s with heap := h' } keepF _ ?_
  refine kasWp_ev (lt := lt) (n := vs.length) (fun i j K hi hj hK => ?_) _ p3 ?_
  · exact X.cmp { s with heap := h' } keepF i j hi hj _ hK
  · refine KasFin.intro F' N' (.head fun q hq => Nat.ne_of_lt (hlt q hq)) fun h2 c F2 N2 => ?_
    have keep2 := allBut_kept (L := env.e.locals) (h := s.heap) N2 fun p hp => .tail _ hp
    have ho := (N2 _ (.head _)).1
    obtain ⟨R2, g2, le2⟩ := R.add1 hv F2.ns keep2 hD ho
    have hperm : IsAll F ((evK lt (kas_sort vs.length)).toList.map fun j => vs.getD j Value.none) ((srt lt ds.length).map fun j => ds.getD j PV.none) := by
      unfold srt; rw [← hlen]
      exact iv.perm _ fun j hj => by rw [← hlen]; exact List.mem_range.mp (p1.mem_iff.mp hj)
    exact kk (.ref D) h2 s.toks _ g2 R2 (Is.list (fset_self _ _ _) (LObj.of _ _) (hperm.mono le2))
end
end
section
noncomputable def allNot (L : Addr) (ws : List Addr) (h : Heap) : List (Addr × Obj) := (allBut L h).filter fun p => decide (p.1 ∉ ws)
theorem mem_allNot {L a : Addr} {o : Obj} {h : Heap} {ws : List Addr} : (a, o) ∈ allNot L ws h ↔ a ≠ L ∧ a ∉ ws ∧ h.get? a = some o := by
  unfold allNot
  rw [List.mem_filter, mem_allBut]
  rw [decide_eq_true_eq]
  exact ⟨fun x => ⟨x.1.1, x.2, x.1.2⟩, fun x => ⟨⟨x.1, x.2.2⟩, x.2.1⟩⟩
theorem allNot_ne {L a : Addr} {h : Heap} {ws : List Addr} (ha : a ∈ ws) : ∀ p ∈ allNot L ws h, p.1 ≠ a := fun p hp q => by
  obtain ⟨b, o⟩ := p
  exact (mem_allNot.mp hp).2.1 (by rw [show b = a from q]; exact ha)
theorem allNot_news {L : Addr} {h : Heap} {ws : List Addr} : News noHeap L h (allNot L ws h) := fun p hp => allBut_news p (List.mem_filter.mp hp).1
section
variable {C : Cx} {env : En} {F F' F'' F1 F2 : Fz} {M M' M'' : Mz} {h h' h'' h0 : Heap} {S S' S'' S₁ : PS} {A : Around} {s : Shared} {E : Value → Shared → Prop} {k : Nat} {pos : Pos} {wr : List Addr} {m : Str → Option Value}
theorem GrowL.but (R : Rep C env F M S h0) (g : GrowL C env.e.locals F h0 F1 h) (hk : ∀ a o, a ≠ env.e.locals → a ∉ wr → h.get? a = some o → h'.get? a = some o) (h0n : ∀ b ∈ wr, h0.get? b = none) (hF : ∀ b ∈ wr, F1 b = none) (hFL : F1 env.e.locals = none) : GrowL C env.e.locals F h0 F1 h' := by
  refine ⟨fun a o hx hl e => hk a o hl (fun q => by rw [h0n a q] at e; cases e) (g.ext a o hx hl e), g.mono, fun a o e => hk a o (fun q => by subst q; rw [hFL] at e; cases e) (fun q => by rw [hF a q] at e; cases e) (g.sub a o e), g.fnew, fun a ha => ?_⟩
  obtain ⟨o, e1, e2, e3⟩ := g.tab a ha
  obtain ⟨p, hp, _⟩ := R.tab a ha
  exact ⟨o, hk a o (fun q => R.own_out (q ▸ ha)) (fun q => by rw [h0n a q] at hp; cases hp) e1, e2, e3⟩
theorem GrowL.rep (R : Rep C env F M S h0) (hv : ∀ x pv, get S x = some pv → ∃ v, Loc C env M h0 m x v ∧ VarIs F M h0 x v pv) (g : GrowL C env.e.locals F h0 F1 h) (hn : h.Ns env.e.locals m) : Rep C env F1 M S h :=
  (R.framed hv hn g.ext g.mono g.sub g.fnew g.tab).1
theorem GrowL.ownF (R : Rep C env F M S h0) (g : GrowL C env.e.locals F h0 F1 h) : F1 env.e.locals = none := by
  cases q : F1 env.e.locals with
  | none => rfl
  | some o =>
    rcases g.fnew _ _ q with e | e
    · have := R.dis _ _ e; rw [R.frame] at this; cases this
    · obtain ⟨p, hp⟩ := R.ownAt; rw [hp] at e; cases e
structure Two (env : En) (h0 : Heap) (F1 : Fz) (h : Heap) (kS D : Addr) (ks : List Value) (e e1 : Nat) : Prop where
  k1 : h.get? kS = some (seqObj "list" ks.toArray e)
  d1 : h.get? D = some (seqObj "list" #[] e1)
  kF : F1 kS = none
  dF : F1 D = none
  k0 : h0.get? kS = none
  d0 : h0.get? D = none
  kL : kS ≠ env.e.locals
  dL : D ≠ env.e.locals
  kd : kS ≠ D
theorem Two.news {kS D : Addr} {ks : List Value} {e e1 : Nat} (t : Two env h0 F1 h kS D ks e e1) : News noHeap env.e.locals h ((kS, seqObj "list" ks.toArray e) :: (D, seqObj "list" #[] e1) :: allNot env.e.locals [kS, D] h) := fun p hp => by
  rcases List.mem_cons.mp hp with rfl | hp
  · exact ⟨t.k1, t.kL, noHeap_get _⟩
  · rcases List.mem_cons.mp hp with rfl | hp
    · exact ⟨t.d1, t.dL, noHeap_get _⟩
    · exact allNot_news p hp
theorem Two.upd {kS D : Addr} {ks : List Value} {e e1 : Nat} (t : Two env h0 F1 h kS D ks e e1) : UpdF kS (seqObj "list" ks.toArray e) ((kS, seqObj "list" ks.toArray e) :: (D, seqObj "list" #[] e1) :: allNot env.e.locals [kS, D] h) (fun o => (kS, o) :: (D, seqObj "list" #[] e1) :: allNot env.e.locals [kS, D] h) :=
  .head fun p hp => by
    rcases List.mem_cons.mp hp with rfl | hp
    · exact Ne.symm t.kd
    · exact allNot_ne (by simp) p hp
theorem keys_go (R : Rep C env F M S h0) (hv : ∀ x pv, get S x = some pv → ∃ v, Loc C env M h0 m x v ∧ VarIs F M h0 x v pv) {f : Value} {n : Nat} {key : Nat → PV} {kS D : Addr} {e1 : Nat} {Fin : List Value → Nat → Shared → Prop}
    (hkey : ∀ i, i < n → ∀ (t : Tok) (s1 : Shared) (F1 : Fz), Rep C env F1 M S s1.heap → GrowL C env.e.locals F h0 F1 s1.heap → ∀ (Q : Value → Shared → Prop), (∀ v h' tk F', Grow C F1 s1.heap F' h' → Is F' v (key i) → Q v { s1 with heap := h', toks := tk }) → wpAny (model C.prog C.w) A (call f [.int (i : Int) t]) Q (fun _ _ => False) s1)
    (hfin : ∀ (s2 : Shared) (F2 : Fz) ks e, GrowL C env.e.locals F h0 F2 s2.heap → s2.heap.Ns env.e.locals m → Two env h0 F2 s2.heap kS D ks e e1 → IsAll F2 ks ((List.range n).map key) → (∃ h tk, s2 = { s with heap := h, toks := tk }) → Fin ks e s2) :
    ∀ (r : List Value) (i : Nat) (ks : List Value) (e : Nat) (s1 : Shared) (F1 : Fz), (∀ j v, r[j]? = some v → ∃ t, v = Value.int ((i + j : Nat) : Int) t) → i + r.length = n → GrowL C env.e.locals F h0 F1 s1.heap → s1.heap.Ns env.e.locals m →
      Two env h0 F1 s1.heap kS D ks e e1 → IsAll F1 ks ((List.range i).map key) → (∃ h tk, s1 = { s with heap := h, toks := tk }) → KatKeys C.prog C.w A noHeap env.e.locals m kS f Fin r ks e s1
  | [], i, ks, e, s1, F1, hr, hn, g, ns, t, iv, hs => KatKeys.nil (hfin s1 F1 ks e g ns t (by rw [← hn]; exact iv) hs)
  | v :: r, i, ks, e, s1, F1, hr, hn, g, ns, t, iv, hs => by
    obtain ⟨tk, rfl⟩ := hr 0 v rfl
    rw [List.length_cons] at hn
    refine KatKeys.cons (hkey i (by lia) tk s1 F1 (g.rep R hv ns) g _ fun v h' tk' F' g' iv' => ?_)
    have nex : ∀ b, h0.get? b = none → ¬ C.ex b := fun b hb q => by obtain ⟨p, hp, _⟩ := R.tab b q; rw [hb] at hp; cases hp
    have hF' : ∀ b o, s1.heap.get? b = some o → F1 b = none → F' b = none := fun b o hb hf => by
      cases q : F' b with
      | none => rfl
      | some p =>
        rcases g'.fnew b p q with x | x
        · rw [hf] at x; cases x
        · rw [hb] at x; cases x
    have t' : Two env h0 F' h' kS D ks e e1 := ⟨g'.ext _ _ (nex _ t.k0) t.k1, g'.ext _ _ (nex _ t.d0) t.d1, hF' _ _ t.k1 t.kF, hF' _ _ t.d1 t.dF, t.k0, t.d0, t.kL, t.dL, t.kd⟩
    have ns' : h'.Ns env.e.locals m := by
      obtain ⟨o, es, ep, x1, x2⟩ := ns
      exact ⟨o, es, ep, g'.ext _ _ R.own_out x1, x2⟩
    have g2 : GrowL C env.e.locals F h0 F' h' := g.trans' (g.rep R hv ns) (.of g')
    refine KatBack.intro (allBut_fr ns') t'.news t'.upd fun h2 c Fr2 N2 => ?_
    have keep : ∀ a o, a ≠ env.e.locals → a ∉ [kS] → h'.get? a = some o → h2.get? a = some o := fun a o ha hb q => by
      by_cases hd : a = D
      · subst hd; rw [t'.d1] at q; cases q; exact (N2 _ (.tail _ (.head _))).1
      · exact (N2 (a, o) (.tail _ (.tail _ (mem_allNot.mpr ⟨ha, by simp only [List.mem_cons, List.mem_nil_iff, or_false, not_or]; exact ⟨by simpa using hb, hd⟩, q⟩)))).1
    have g3 := g2.but R keep (fun b hb => by rw [List.mem_singleton.mp hb]; exact t.k0) (fun b hb => by rw [List.mem_singleton.mp hb]; exact t'.kF) (g2.ownF R)
    have t3 : Two env h0 F' h2 kS D (ks ++ [v]) c e1 := ⟨(N2 _ (.head _)).1, (N2 _ (.tail _ (.head _))).1, t'.kF, t'.dF, t.k0, t.d0, t.kL, t.dL, t.kd⟩
    refine keys_go R hv hkey hfin r (i + 1) (ks ++ [v]) c _ F' (fun j w e => ?_) (by lia) g3 Fr2.ns t3 ?_ ?_
    · obtain ⟨t, rfl⟩ := hr (j + 1) w (by simpa using e)
      exact ⟨t, by rw [show i + (j + 1) = i + 1 + j by lia]⟩
    · rw [List.range_succ, List.map_append]
      exact (iv.mono g'.mono).append (.one iv')
    · obtain ⟨ha, ta, rfl⟩ := hs
      exact ⟨_, _, rfl⟩
end
end
section
section
variable {prog : Program} {w : World} {A : Around} {E : Value → Shared → Prop} {s : Shared}
theorem collect_range {r : Addr} {a b : Int} {t u v : Tok} {n : Nat} {Q : List Value → Shared → Prop} (hh : A.handled = none) (hr : IsRange s.heap r a b 1 t u v) (hsmall : Builtin.Range.small a b 1 = true) (hn : Builtin.Range.rangeSize a b 1 = n) (hlen : n ≤ 2 ^ 24)
    (hQ : ∀ h' tk acc, (∀ b o, s.heap.get? b = some o → h'.get? b = some o) → ItemsOf (fun i v => ∃ t, v = .int (a + i * 1) t) acc n → Q acc.toList { s with heap := h', toks := tk }) : wpAny (model prog w) A (collect (.ref r)) Q E s := by
  have key : ∀ R : Result → Shared → Prop, (∀ h' tk acc' c', (∀ b o, b ≠ s.heap.objs.size → (s.heap.push { cls := .type "list", data := .seq ([] : List Value).toArray }).get? b = some o → h'.get? b = some o) →
      h'.get? s.heap.objs.size = some { cls := .type "list", dict := none, data := .seq acc' c', slots := #[] } → ItemsOf (fun i v => ∃ t, v = .int (a + i * 1) t) acc' n → R (.ok (.ret (.ref s.heap.objs.size))) { s with heap := h', toks := tk }) →
      codeAny (model prog w) A (.builtin "proto.collect" ⟨[.ref r], []⟩) R s := fun R hR => by
    refine codeAny_builtin F.entry_proto_collect ?_
    rw [Around.under_plainId F.plain_proto_collect _]
    show wpAny _ A.in1 (newList [] >>= fun l => again (.builtin "list.__iadd__" ⟨[l, .ref r], []⟩)) _ _ s
    refine wpAny_bind (wpAny_newObj_type ?_)
    refine wpAny_pure ⟨plainId_quiet F.plain_list_iadd _, codeAny_builtin F.entry_list_iadd ?_⟩
    rw [Around.under_plainId F.plain_list_iadd _]
    have hS₁ : (s.heap.push { cls := .type "list", data := .seq ([] : List Value).toArray }).get? s.heap.objs.size = some { cls := .type "list", data := .seq ([] : List Value).toArray } := Heap.get?_push_size _ rfl
    exact wpAny_extend_range (s := { s with heap := s.heap.push { cls := .type "list", data := .seq ([] : List Value).toArray } }) hh (Heap.get?_push_of_some _ hr) hsmall hn hlen s.heap.objs.size (.ref s.heap.objs.size) 0 hS₁ hR
  unfold collect
  refine wpAny_bind (wpAny_runValue (key _ fun h' tk acc' c' hk hS' hacc => ?_))
  show wpAny _ A (load s.heap.objs.size >>= _) _ _ _
  refine wpAny_bind (wpAny_load hS' (wpAny_pure (hQ h' tk acc' (fun b o e => hk b o (Nat.ne_of_lt (Heap.lt_size e)) (Heap.get?_push_of_some _ e)) hacc)))
end
section
variable {C : Cx} {env : En} {F F' F'' F1 F2 : Fz} {M M' M'' : Mz} {h h' h'' h0 : Heap} {S S' S'' S₁ : PS} {A : Around} {s : Shared} {E : Value → Shared → Prop} {k : Nat} {pos : Pos} {wr : List Addr}
theorem sorted_keyed (R : Rep C env F M S s.heap) (hh : A.handled = none) {r f : Addr} {n : Nat} {t u v : Tok} (hr : IsRange s.heap r 0 (n : Int) 1 t u v) (hn : few n) {key : Nat → PV} {κ : SortKind} {le : Nat → Nat → Prop} {lt : Nat → Nat → Bool} (O : Ord le lt)
    (X : ∀ F2 ks, IsAll F2 ks ((List.range n).map key) → Sorts C A.in1.in1 F2 ks κ lt)
    (hkey : ∀ i, i < n → ∀ (t : Tok) (s1 : Shared) (F1 : Fz), Rep C env F1 M S s1.heap → GrowL C env.e.locals F s.heap F1 s1.heap → ∀ (Q : Value → Shared → Prop), (∀ v h' tk F', Grow C F1 s1.heap F' h' → Is F' v (key i) → Q v { s1 with heap := h', toks := tk }) → wpAny (model C.prog C.w) A.in1.in1 (call (.ref f) [.int (i : Int) t]) Q (fun _ _ => False) s1)
    {Q : Value → Shared → Prop} (kk : ∀ v h' tk F', GrowL C env.e.locals F s.heap F' h' → Rep C env F' M S h' → Is F' v (.list ((srt lt n).map fun j : Nat => PV.int (j : Int))) → Q v { s with heap := h', toks := tk }) :
    wpAny (model C.prog C.w) A (call (.builtin "sorted") [.ref r] [(Str.ofString "key", .ref f)]) Q E s := by
  obtain ⟨m, hns, hv⟩ := R.vars
  obtain ⟨p1, p2, p3⟩ := few_ev O hn
  refine call_function_entry_kw kind_sorted plain_sorted entry_sorted (ksk_s1 _ _) ?_
  unfold Builtin.«sorted»
  refine wpAny_bind (m := checkCount "sorted" 1 1 _) (wpAny_pure ?_)
  refine wpAny_bind (collect_range (n := n) hh hr (small_one (by decide) (by decide) (by rcases hn with h | h | h <;> subst h <;> decide) (by rcases hn with h | h | h <;> subst h <;> decide)) (by rw [rangeSize_one]; rcases hn with h | h | h <;> subst h <;> rfl) (by rcases hn with h | h | h <;> subst h <;> decide) fun h1 tk1 acc hk1 hacc => ?_)
  generalize hvs : acc.toList = vs
  have hvl : vs.length = n := by rw [← hvs, Array.length_toList]; exact hacc.1
  have hvi : ∀ j v, vs[j]? = some v → ∃ t, v = Value.int ((0 + j : Nat) : Int) t := fun j v e => by
    rw [← hvs, Array.getElem?_toList] at e
    obtain ⟨t, rfl⟩ := hacc.2 j v e
    exact ⟨t, by congr 1; lia⟩
  have h2 : 2 ≤ vs.length := by rw [hvl]; rcases hn with h | h | h <;> lia
  have h64 : vs.length < 64 := by rw [hvl]; rcases hn with h | h | h <;> lia
  refine wpAny_bind (wpAny_newList ?_ (by rw [sizeLine_eq]; lia))
  have hoL : (h1.push (seqObj "list" vs.toArray 0)).get? h1.objs.size = some (seqObj "list" vs.toArray 0) := Heap.get?_push_size _ rfl
  have keep : ∀ b o, s.heap.get? b = some o → (h1.push (seqObj "list" vs.toArray 0)).get? b = some o := fun b o q => Heap.get?_push_of_some _ (hk1 b o q)
  generalize h1.push (seqObj "list" vs.toArray 0) = hp at hoL keep ⊢
  have hD0 : s.heap.get? h1.objs.size = none := by
    cases q : s.heap.get? h1.objs.size with
    | none => rfl
    | some o => exact absurd (Heap.lt_size (hk1 _ _ q)) (Nat.lt_irrefl _)
  have hDL : h1.objs.size ≠ env.e.locals := fun q => by obtain ⟨o, ho⟩ := R.ownAt; rw [q, ho] at hD0; cases hD0
  have nsP : hp.Ns env.e.locals m := by
    obtain ⟨o, es, ep, x1, x2⟩ := hns
    exact ⟨o, es, ep, keep _ _ x1, x2⟩
  refine wpAny_bind (wpAny_holding (wpAny_call_entry_kw slot_list_sort ⟨_, hoL, rfl⟩ entry_list_sort ?body (ksk_l1 _ _)))
  case body =>
    show wpAny (model C.prog C.w) A.in1.in1 (Builtin.«list.sort» ⟨[.ref h1.objs.size], [(Str.ofString "key", .ref f)]⟩) _ _ _
    rw [ksk_t1]
    refine kat_keyed (s := { s with heap := hp, toks := tk1 }) (news := allNot env.e.locals [h1.objs.size] (hp)) (allBut_fr nsP) allNot_news hoL hDL (noHeap_get _) (fun p hp => allNot_ne (by simp) p hp) h2 h64 fun kS e1 h' F' N' l0 l1 => ?_
    have keep1 : ∀ b o, b ≠ env.e.locals → b ≠ h1.objs.size → hp.get? b = some o → h'.get? b = some o := fun b o q1 q2 q3 => (N' (b, o) (.tail _ (.tail _ (mem_allNot.mpr ⟨q1, by simpa using q2, q3⟩)))).1
    have keep2 : ∀ b o, b ≠ env.e.locals → s.heap.get? b = some o → h'.get? b = some o := fun b o q1 q2 => keep1 b o q1 (fun q => by subst q; rw [hD0] at q2; cases q2) (keep _ _ q2)
    have hkL : kS ≠ env.e.locals := (N' _ (.head _)).2.1
    have hk0 : s.heap.get? kS = none := by
      cases q : s.heap.get? kS with
      | none => rfl
      | some o => exact absurd (Nat.lt_trans l0 (Heap.lt_size (hk1 _ _ q))) (by exact fun x => absurd (Nat.lt_trans l0 (Heap.lt_size (hk1 _ _ q))) (Nat.lt_irrefl _))
    obtain ⟨R', g'⟩ := R.kept hv F'.ns keep2 (Le.refl F) (fun a o e => keep2 a o (fun q => by subst q; have := R.dis _ _ e; rw [R.frame] at this; cases this) (R.sub a o e)) fun a o e => .inl e
    have two : Two env s.heap F h' kS h1.objs.size [] 0 e1 := ⟨(N' _ (.head _)).1, (N' _ (.tail _ (.head _))).1, R.toWd.none_of_new hk0, R.toWd.none_of_new hD0, hk0, hD0, hkL, hDL, Nat.ne_of_gt l0⟩
    refine keys_go (s := s) (n := n) (key := key) R hv hkey (fun s2 F2 ks e g ns t iv hs => ?_) vs 0 [] 0 _ F hvi (by rw [hvl, Nat.zero_add]) g' F'.ns two .nil ⟨h', tk1, rfl⟩
    have hkl : ks.length = n := by rw [iv.length]; simp
    have sx := X F2 ks iv
    refine sx.kind s2 g.sub _ ?_
    have e0 : vs.length = n := hvl
    rw [e0]
    refine kasWp_ev (lt := lt) (n := n) (fun i j K hi hj hK => ?_) _ p3 ?_
    · exact sx.cmp s2 g.sub i j (by rw [hkl]; exact hi) (by rw [hkl]; exact hj) _ hK
    · refine KatFin.intro (allBut_fr ns) t.news t.upd fun h3 c3 F3 N3 => ?_
      refine KasFin.intro F3 N3 (.tail t.kd (.head fun q hq => allNot_ne (by simp) q hq)) fun h4 c4 F4 N4 => ?_
      have keep4 : ∀ b o, b ≠ env.e.locals → b ≠ kS → b ≠ h1.objs.size → s2.heap.get? b = some o → h4.get? b = some o := fun b o q1 q2 q3 q4 => (N4 (b, o) (.tail _ (.tail _ (mem_allNot.mpr ⟨q1, by simp [q2, q3], q4⟩)))).1
      have ho := (N4 _ (.tail _ (.head _))).1
      generalize hW : katRev false ((evK lt (kas_sort n)).toList.map fun i => (katRev false vs).getD i Value.none) = W at ho
      clear N4 N3
      have FL := g.ownF R
      have le2 : Le F2 (fset F2 h1.objs.size (listOf W.toArray c4)) := fset_le t.dF
      have sub4 : ∀ a o, F2 a = some o → h4.get? a = some o := fun a o e => keep4 a o (fun q => by rw [q, FL] at e; cases e) (fun q => by rw [q, t.kF] at e; cases e) (fun q => by rw [q, t.dF] at e; cases e) (g.sub a o e)
      obtain ⟨R5, g5⟩ := R.framed (F' := fset F2 h1.objs.size (listOf W.toArray c4)) hv F4.ns
        (fun a o q1 q2 e => keep4 a o q2 (fun q => by rw [q, hk0] at e; cases e) (fun q => by rw [q, hD0] at e; cases e) (g.ext a o q1 q2 e)) (g.mono.trans le2)
        (fun a o e => by
          unfold fset at e
          split at e
          · rename_i q; cases e; rw [q]; exact ho
          · exact sub4 a o e)
        (fun a o e => by
          unfold fset at e
          split at e
          · rename_i q; exact .inr (q ▸ hD0)
          · exact g.fnew a o e)
        (fun a ha => by
          obtain ⟨o, y1, y2, y3⟩ := g.tab a ha
          obtain ⟨o', z, _⟩ := R.tab a ha
          exact ⟨o, keep4 a o (fun q => R.own_out (q ▸ ha)) (fun q => by rw [q, hk0] at z; cases z) (fun q => by rw [q, hD0] at z; cases z) y1, y2, y3.mono le2⟩)
      obtain ⟨hz, tz, rfl⟩ := hs
      refine ⟨_, rfl, wpAny_pure ⟨_, rfl, kk (.ref h1.objs.size) h4 tz _ g5 R5 (Is.list (fset_self _ _ _) (LObj.of _ _) ?_)⟩⟩
      refine Eq.mp (congrArg (fun l => IsAll _ l _) hW) ?_
      have iv0 : ∀ p : List Nat, (∀ j ∈ p, j < n) → IsAll (fset F2 h1.objs.size (listOf W.toArray c4)) (p.map fun j => vs.getD j Value.none) (p.map fun j : Nat => PV.int (j : Int)) := by
        intro p
        induction p with
        | nil => intro _; exact .nil
        | cons j p ih =>
          intro hp
          have hj : j < vs.length := by rw [hvl]; exact hp j (.head _)
          obtain ⟨tt, e⟩ := hvi j vs[j] (by simp [hj])
          refine .cons ?_ (ih fun q hq => hp q (.tail _ hq))
          show Is _ (vs.getD j Value.none) (PV.int (j : Int))
          rw [show vs.getD j Value.none = vs[j] by simp [hj], e, Nat.zero_add]
          exact .int _ _
      exact iv0 _ fun j hj => List.mem_range.mp (p1.mem_iff.mp hj)
end
end
section
structure LamOk (C : Cx) (c P : Addr) (pos : Pos) : Prop where
  bt : ∃ mg, C.hb.Ns mainGlobals mg ∧ C.hb.BuiltinsAt mg P
  gP : mainGlobals ≠ P
  hd : CodeHd C.hb c P
  ex : C.ex P
  exo : ∀ o, C.exo P o ↔ (o = tabObj #[] ∨ ∃ c' : Addr, o = tabObj #[rawInt pos.line, rawInt pos.col, .ref c'])
noncomputable def CodeF (F : Fz) (c' : Addr) : Prop := ∃ oc vs t, F c' = some oc ∧ oc.data = .fields vs ∧ vs[1]? = some (.str lamQ t)
theorem CodeF.rec {F : Fz} {h : Heap} {c' : Addr} (x : CodeF F c') (sub : ∀ a o, F a = some o → h.get? a = some o) : h.CodeRec (.ref c') lamQ := by
  obtain ⟨oc, vs, t, h1, h2, h3⟩ := x
  exact ⟨c', oc, vs, t, rfl, sub _ _ h1, h2, h3⟩
theorem CodeF.mono {F F' : Fz} {c' : Addr} (x : CodeF F c') (le : Le F F') : CodeF F' c' := by
  obtain ⟨oc, vs, t, h1, h2, h3⟩ := x
  exact ⟨oc, vs, t, le _ _ h1, h2, h3⟩
theorem tab_inj {v u : Value} {o : Obj} {p : Pos} (e : o = tabObj #[rawInt p.line, rawInt p.col, v]) {l k : Value} (e2 : o.data = .fields #[l, k, u]) : v = u := by
  subst e
  injection e2 with e2
  have := congrArg (fun x : Array Value => x[2]?) e2
  simpa using this
section
variable {C : Cx} {env : En} {F F' F'' F1 F2 : Fz} {M M' M'' : Mz} {h h' h'' h0 : Heap} {S S' S'' S₁ : PS} {A : Around} {s : Shared} {E : Value → Shared → Prop} {k : Nat} {pos : Pos} {wr : List Addr}
  {params : Arguments} {body : Expr} {scope : Scope} {clos : List (Str × Addr)} {c P : Addr}
theorem make_lambda (O : C.Ok) (X : LamOk C c P pos) (R : Rep C env F M S s.heap) (hdef : defaultsOf params env.e = ([], [])) (hcl : closureFor scope env.e = pure clos) (hcode : env.e.code = .ref c) (hq : env.e.qual ++ "<lambda>" = lamQ) {Q : Value → Shared → Prop}
    (kk : ∀ f c' ctv pm h' tk F', Grow C F s.heap F' h' → F' f = some (kla_obj "<lambda>" lamQ params body scope clos pm c' ctv) → CodeF F' c' → Q (.ref f) { s with heap := h', toks := tk }) :
    wpAny (model C.prog C.w) A (eval (.Lambda params body scope pos) env.e) Q E s := by
  obtain ⟨mg, hg, hb⟩ := X.bt
  have W := R.toWd
  have hg' := hg.keeps W.baseH
  have hb' := hb.keeps W.baseH
  have hC := X.hd.keeps W.baseH
  obtain ⟨oP, hP, hx, hN⟩ := W.tab P X.ex
  refine kla_eval hdef ?_
  rw [hq]
  rcases (X.exo oP).mp hx with e | ⟨c', e⟩
  · subst e
    refine kla_makeFunction (mg := mg) hcl R.ev.gl hg' hcode hC hP trivial rfl X.gP hb' fun c' ctv h' tk hxt hge hlt hrec htb => ?_
    obtain ⟨c2, oc, vs, t, e2, hoc, hd, hv⟩ := hrec
    cases e2
    have nb : ∀ b, s.heap.objs.size ≤ b → s.heap.get? b = none := fun b hb => by
      cases q : s.heap.get? b with
      | none => rfl
      | some o => exact absurd (Heap.lt_size q) (Nat.not_lt.mpr hb)
    have hsz : s.heap.objs.size ≤ h'.objs.size := Nat.le_trans hge (Nat.le_of_lt hlt)
    have hcn := nb c' hge
    have hfn := nb h'.objs.size hsz
    have Fc := W.none_of_new hcn
    have Ff := W.none_of_new hfn
    have Pc : ¬ c' = P := fun q => by subst q; rw [hP] at hcn; cases hcn
    have hne : h'.objs.size ≠ c' := Nat.ne_of_gt hlt
    let of_ : Obj := kla_obj "<lambda>" lamQ params body scope clos ((mg "__name__").getD .none) c' ctv
    let F' : Fz := fset (fset F c' oc) h'.objs.size of_
    have le1 : Le F (fset F c' oc) := fset_le Fc
    have le2 : Le (fset F c' oc) F' := fset_le (by unfold fset; rw [if_neg hne]; exact Ff)
    have fc : F' c' = some oc := le2 _ _ (fset_self _ _ _)
    have nP : ∀ a o, F a = some o → a ≠ P := fun a o e q => by subst q; rw [W.tbF _ X.ex] at e; cases e
    have up : ∀ a o, a ≠ P → s.heap.get? a = some o → (h'.push of_).get? a = some o := fun a o q e => Heap.get?_push_of_some _ (hxt a o q e)
    have g : Grow C F s.heap F' (h'.push of_) := by
      refine ⟨fun a o q e => up a o (fun r => q (r ▸ X.ex)) e, le1.trans le2, fun a o e => ?_, fun a o e => ?_, fun a ha => ?_⟩
      · have e : (if a = h'.objs.size then some of_ else (if a = c' then some oc else F a)) = some o := e
        split at e
        · rename_i q; cases e; rw [q]; exact Heap.get?_push_size _ rfl
        · split at e
          · rename_i q; cases e; rw [q]; exact Heap.get?_push_of_some _ hoc
          · exact up a o (nP a o e) (W.sub a o e)
      · have e : (if a = h'.objs.size then some of_ else (if a = c' then some oc else F a)) = some o := e
        split at e
        · rename_i q; exact .inr (q ▸ hfn)
        · split at e
          · rename_i q; exact .inr (q ▸ hcn)
          · exact .inl e
      · by_cases q : a = P
        · subst q
          refine ⟨_, Heap.get?_push_of_some _ htb, (X.exo _).mpr (.inr ⟨c', rfl⟩), fun l k c2 e2 => ?_⟩
          have := tab_inj (p := pos) rfl e2
          cases this
          exact ⟨oc, vs, t, fc, hd, hv⟩
        · obtain ⟨o, h1, h2, h3⟩ := W.tab a ha
          exact ⟨o, up a o q h1, h2, h3.mono (le1.trans le2)⟩
    exact kk h'.objs.size c' ctv _ (h'.push of_) tk F' g (fset_self _ _ _) ⟨oc, vs, t, fc, hd, hv⟩
  · obtain ⟨oc, vs, t, fc, hd, hv⟩ := hN _ _ c' (by rw [e])
    refine kla_makeFunctionHit (cv := .ref c') (mg := mg) (ps := #[rawInt pos.line, rawInt pos.col, .ref c']) hcl R.ev.gl hg' hcode hC (by rw [← e]; exact hP) (by simp [TriplesOk, rawInt]) (by simp [codeAmong, rawInt]) hb' fun ctv h' tk hk hsz => ?_
    have g := (Grow.only W hk).trans (pushI (W.grow (Grow.only W hk)) (kla_obj "<lambda>" lamQ params body scope clos ((mg "__name__").getD .none) c' ctv))
    have hfn : s.heap.get? h'.objs.size = none := by
      cases q : s.heap.get? h'.objs.size with
      | none => rfl
      | some o => exact absurd (Heap.lt_size q) (Nat.not_lt.mpr hsz)
    have ho := Heap.get?_push_size h' (o := kla_obj "<lambda>" lamQ params body scope clos ((mg "__name__").getD .none) c' ctv) rfl
    exact kk h'.objs.size c' ctv _ _ tk _ (g.freeze W hfn ho) (fset_self _ _ _) ⟨oc, vs, t, g.le_freeze ho _ _ fc, hd, hv⟩
end
end
section
section
variable {C : Cx} {env : En} {F F' F'' F1 F2 : Fz} {M M' M'' : Mz} {h h' h'' h0 : Heap} {S S' S'' S₁ : PS} {A : Around} {s : Shared} {E : Value → Shared → Prop} {k : Nat} {pos : Pos} {wr : List Addr}
  {params : Arguments} {body : Expr} {scope : Scope} {clos : List (Str × Addr)} {c P : Addr}
noncomputable def lamEn (scope : Scope) (L f c' : Addr) (y : Str) (cy : Addr) : En := ⟨envX lamQ scope L f (.ref c') [(y, cy)], []⟩
theorem lam_call (O : C.Ok) (hroom : A.depth < recursionLimit) {f c' : Addr} {pm ctv : Value} {x y : Str} {cy : Addr} (R : Rep C env F M S s.heap) (Ff : F f = some (kla_obj "<lambda>" lamQ params body scope [(y, cy)] pm c' ctv)) (hc : CodeF F c')
    (hbind : ∀ v, bindArgs (kla_fn "<lambda>" lamQ params body scope [(y, cy)] pm (.ref c') ctv) ⟨[v], []⟩ = pure [(x, v)]) (hloc : scope.names.lookup x = some .local) (hfree : scope.names.lookup y = some .free) (hny : (y == ("__classdict__" : Str)) = false)
    (hnc : ∀ x ∈ scope.names, x.2 ≠ .cell) (hco : scope.isCoroutine = false) (hgen : scope.isGenerator = false) (hk : scope.kind = .function) (hcell : env.e.cells.lookup y = some cy) (hkind : env.e.kindOf y = some .cell) {dx dy d : PV} (hy : get S y = some (.val dy))
    (B : ∀ L, EvS C (A.deeper (lamEn scope L f c' y cy).e) (lamEn scope L f c' y cy) [(x, .val dx), (y, .val dy)] body d) {v : Value} (iv : Is F v dx) {Q : Value → Shared → Prop} (kk : ∀ v h' tk F', Grow C F s.heap F' h' → Is F' v d → Q v { s with heap := h', toks := tk }) :
    wpAny (model C.prog C.w) A (call (.ref f) [v]) Q E s := by
  have W := R.toWd
  refine wpAny_call (kla_callFunE hroom (W.sub _ _ Ff) rfl hco hgen rfl (hc.rec W.sub) ?_)
  rw [hbind]
  refine wpAny_pure (wpAny_newFunctionEnv hnc (fun p hp => by rw [List.mem_singleton.mp hp]; exact hloc) (fun h₁ hns hsb => ⟨(O.nolimit.keeps W.baseH).fresh _ hsb, ?_⟩) hk)
  have hk₁ : ∀ b o, s.heap.get? b = some o → h₁.get? b = some o := fun b o e => hsb.extBut b o (Nat.ne_of_lt (Heap.lt_size e)) (Heap.get?_push_of_some _ e)
  have hL0 : s.heap.get? s.heap.objs.size = none := size_none _
  have nL : ¬ C.ex s.heap.objs.size := fun q => by obtain ⟨p, hp, _⟩ := W.tab _ q; rw [hp] at hL0; cases hL0
  have g : Grow C F s.heap F h₁ := Grow.only W hk₁
  let M₁ : Mz := fun b => open Classical in if C.ex b then some .tab else if b = s.heap.objs.size then some .frame else none
  have md : MD C s.heap M₁ := fun b l e => by
    have e : (open Classical in if C.ex b then some Lab.tab else if b = s.heap.objs.size then some .frame else none) = some l := e
    split at e
    · rename_i q; exact .inl q
    · split at e
      · rename_i q; exact .inr (q ▸ hL0)
      · cases e
  have mfr : M₁ s.heap.objs.size = some .frame := by
    show (open Classical in if C.ex s.heap.objs.size then some Lab.tab else if s.heap.objs.size = s.heap.objs.size then some .frame else none) = _
    rw [if_neg nL, if_pos rfl]
  have mt : ∀ b, C.ex b → M₁ b = some .tab := fun b q => by
    show (open Classical in if C.ex b then some Lab.tab else if b = s.heap.objs.size then some .frame else none) = _
    rw [if_pos q]
  have cyOk : M₁ cy = none ∧ ¬ C.ex cy ∧ ∃ v', Is F v' dy ∧ s.heap.IsCell cy (some v') := by
    obtain ⟨m, hm, hv⟩ := R.vars
    obtain ⟨v', l, i⟩ := hv y _ hy
    rcases l with ⟨l, _⟩ | ⟨_, l⟩ | ⟨l, _⟩
    · rw [hkind] at l; cases l
    · obtain ⟨c2, e1, e2, e3⟩ := l
      rw [hcell] at e1; cases e1
      have nx : ¬ C.ex cy := fun q => by
        rcases e2 with e2 | e2
        · rw [W.mtab _ q] at e2; cases e2
        · exact e2.2 q
      have ne : cy ≠ s.heap.objs.size := fun q => by obtain ⟨o, ho, _⟩ := e3; rw [q, hL0] at ho; cases ho
      refine ⟨?_, nx, v', i, e3⟩
      show (open Classical in if C.ex cy then some Lab.tab else if cy = s.heap.objs.size then some .frame else none) = _
      rw [if_neg nx, if_neg ne]
    · rw [hkind] at l; cases l
  obtain ⟨cM, cX, vy, iy, hcy⟩ := cyOk
  have hcy1 : h₁.IsCell cy (some vy) := by obtain ⟨o, h1, h2⟩ := hcy; exact ⟨o, hk₁ _ _ h1, h2⟩
  have R₁ : Rep C (lamEn scope s.heap.objs.size f c' y cy) F M₁ [(x, .val dx), (y, .val dy)] h₁ := by
    refine ⟨⟨g.sub, fun b o e => ?_, fun b l e => ?_, W.base, g.tab, mt⟩, ⟨_, hns, fun z pv e => ?_⟩, mfr, (fun z hz => by cases hz), ⟨hk, rfl, rfl⟩⟩
    · cases q : M₁ b with
      | none => rfl
      | some l =>
        rcases md b l q with r | r
        · rw [W.tbF _ r] at e; cases e
        · have := W.sub b o e; rw [r] at this; cases this
    · rcases md b l e with r | r
      · obtain ⟨p, hp, _⟩ := g.tab b r; exact ⟨p, hp⟩
      · have e : (open Classical in if C.ex b then some Lab.tab else if b = s.heap.objs.size then some .frame else none) = some l := e
        split at e
        · rename_i q; obtain ⟨p, hp, _⟩ := g.tab b q; exact ⟨p, hp⟩
        · split at e
          · rename_i q; subst q; obtain ⟨o, _, _, ho, _⟩ := hns; exact ⟨o, ho⟩
          · cases e
    · have e : (if x = z then some (PVar.val dx) else if y = z then some (.val dy) else none) = some pv := e
      split at e
      · rename_i q; cases e; subst q
        exact ⟨v, .inl ⟨hloc, by simp⟩, iv⟩
      · split at e
        · rename_i q; cases e; subst q
          exact ⟨vy, .inr (.inr ⟨hfree, hny, cy, by show List.lookup y [(y, cy)] = _; simp, .inr ⟨cM, cX⟩, hcy1⟩), iy⟩
        · cases e
  refine kla_codeExpr ((B s.heap.objs.size).run { s with heap := h₁, toks := s.toks + 1 } F M₁ R₁ _ _ fun v' h' tk F' g' iv' => ?_)
  exact kk v' h' tk F' (g.trans g') iv'
end
end
section
structure Fst (C : Cx) (A : Around) (T : Value) (a : Nat → PV) (eqf ltf : Nat → Nat → Bool) : Prop where
  T1 : (T == T) = true
  T2 : (T != Value.type "tuple") = true
  ty : ∀ (F : Fz) i v, Is F v (a i) → ∀ h, Looks (model C.prog C.w) h (typeOf v) T
  eq : ∀ (F : Fz) i j v u (s : Shared) (Q : Bool → Shared → Prop), Is F v (a i) → Is F u (a j) → Q (eqf i j) s → wpAny (model C.prog C.w) A (eqBool v u) Q (fun _ _ => False) s
  lt : ∀ (F : Fz) i j v u (s : Shared) (Q : Bool → Shared → Prop), Is F v (a i) → Is F u (a j) → Q (ltf i j) s → wpAny (model C.prog C.w) A (oneLt' true v u) Q (fun _ _ => False) s
theorem fst_int {C : Cx} {A : Around} (r : Nat → Int) : Fst C A (.type "int") (fun i => .int (r i)) (fun i j => decide (r i = r j)) (fun i j => decide (r i < r j)) where
  T1 := rfl
  T2 := rfl
  ty := fun F i v iv h => by obtain ⟨t, rfl⟩ := isInt iv; exact Looks.of_pure rfl
  eq := fun F i j v u s Q iv ju q => by obtain ⟨t, rfl⟩ := isInt iv; obtain ⟨t', rfl⟩ := isInt ju; exact wpAny_eqBool_int (by rw [show (r i == r j) = decide (r i = r j) by by_cases h : r i = r j <;> simp [h]]; exact q)
  lt := fun F i j v u s Q iv ju q => by obtain ⟨t, rfl⟩ := isInt iv; obtain ⟨t', rfl⟩ := isInt ju; exact oneLt_int q
theorem fst_bytes {C : Cx} {A : Around} (r : Nat → List UInt8) : Fst C A (.type "bytes") (fun i => .bytes (r i)) (fun i j => decide (r i = r j)) (fun i j => bLt (r i) (r j)) where
  T1 := rfl
  T2 := rfl
  ty := fun F i v iv h => by obtain ⟨t, rfl⟩ := isBytes iv; exact Looks.of_pure rfl
  eq := fun F i j v u s Q iv ju q => by obtain ⟨t, rfl⟩ := isBytes iv; obtain ⟨t', rfl⟩ := isBytes ju; exact eqBool_bytes q
  lt := fun F i j v u s Q iv ju q => by obtain ⟨t, rfl⟩ := isBytes iv; obtain ⟨t', rfl⟩ := isBytes ju; exact oneLt_bytes q
noncomputable def pairPV (a : Nat → PV) (b : Nat → Int) (i : Nat) : PV := .tuple [a i, .int (b i)]
noncomputable def pairLt (eqf ltf : Nat → Nat → Bool) (b : Nat → Int) (i j : Nat) : Bool := if eqf i j then (if b i = b j then false else decide (b i < b j)) else ltf i j
structure StrictO {α : Type} (L : α → α → Bool) : Prop where
  asymm : ∀ a b, L a b = true → L b a = false
  neg : ∀ a b c, L c b = false → L a c = false → L a b = false
  conn : ∀ a b, L a b = false → L b a = false → a = b
theorem so_int : StrictO (fun a b : Int => decide (a < b)) where
  asymm := fun a b h => by simp at h ⊢; lia
  neg := fun a b c h1 h2 => by simp at h1 h2 ⊢; lia
  conn := fun a b h1 h2 => by simp at h1 h2; lia
theorem so_bytes : StrictO bLt where
  asymm := fun a => by
    induction a with
    | nil => intro b h; cases b <;> rfl
    | cons x xs ih =>
      intro b h
      cases b with
      | nil => cases h
      | cons y ys =>
        unfold bLt at h ⊢
        by_cases h1 : x < y
        · rw [if_neg (UInt8.not_lt.mpr (UInt8.le_of_lt h1)), if_pos h1]
        · rw [if_neg h1] at h
          by_cases h2 : x > y
          · rw [if_pos h2] at h; cases h
          · rw [if_neg h2] at h; rw [if_neg h2, if_neg h1]; exact ih ys h
  neg := fun a => by
    induction a with
    | nil => intro b c h1 h2; cases b with
      | nil => rfl
      | cons y ys => cases c with
        | nil => cases h1
        | cons z zs => cases h2
    | cons x xs ih =>
      intro b c h1 h2
      cases b with
      | nil => rfl
      | cons y ys =>
        cases c with
        | nil => cases h1
        | cons z zs =>
          unfold bLt at h1 h2 ⊢
          have e1 : ¬ z < y := fun q => by rw [if_pos q] at h1; cases h1
          have e2 : ¬ x < z := fun q => by rw [if_pos q] at h2; cases h2
          have e3 : ¬ x < y := by
            rw [UInt8.lt_iff_toNat_lt] at *; lia
          rw [if_neg e3]
          by_cases h3 : x > y
          · rw [if_pos h3]
          · rw [if_neg h3]
            have e4 : ¬ z > y := by
              show ¬ y < z
              have h3' : ¬ y < x := h3
              rw [UInt8.lt_iff_toNat_lt] at *; lia
            have e5 : ¬ x > z := by
              show ¬ z < x
              have h3' : ¬ y < x := h3
              rw [UInt8.lt_iff_toNat_lt] at *; lia
            rw [if_neg e1, if_neg e4] at h1
            rw [if_neg e2, if_neg e5] at h2
            exact ih ys zs h1 h2
  conn := fun a => by
    induction a with
    | nil => intro b h1 h2; cases b with
      | nil => rfl
      | cons y ys => cases h1
    | cons x xs ih =>
      intro b h1 h2
      cases b with
      | nil => cases h2
      | cons y ys =>
        unfold bLt at h1 h2
        have e1 : ¬ x < y := fun q => by rw [if_pos q] at h1; cases h1
        have e2 : ¬ y < x := fun q => by rw [if_pos q] at h2; cases h2
        have e : x = y := UInt8.le_antisymm (UInt8.not_lt.mp e2) (UInt8.not_lt.mp e1)
        rw [if_neg e1, if_neg (show ¬ x > y from e2)] at h1
        rw [if_neg e2, if_neg (show ¬ y > x from e1)] at h2
        rw [e, ih ys h1 h2]
theorem pair_ord {α : Type} [DecidableEq α] {L : α → α → Bool} (O : StrictO L) (x : Nat → α) (b : Nat → Int) : Ord (fun i j => pairLt (fun i j => decide (x i = x j)) (fun i j => L (x i) (x j)) b j i = false) (pairLt (fun i j => decide (x i = x j)) (fun i j => L (x i) (x j)) b) := by
  have pl : ∀ i j, pairLt (fun i j => decide (x i = x j)) (fun i j => L (x i) (x j)) b i j = if x i = x j then decide (b i < b j) else L (x i) (x j) := fun i j => by
    unfold pairLt
    by_cases h : x i = x j
    · simp only [h, decide_true, if_true]
      by_cases hb : b i = b j
      · rw [if_pos hb]; simp [hb]
      · rw [if_neg hb]
    · simp [h]
  have irr : ∀ a, L a a = false := fun a => by
    cases h : L a a with
    | false => rfl
    | true => have := O.asymm _ _ h; rw [h] at this; cases this
  have asy : ∀ i j, pairLt (fun i j => decide (x i = x j)) (fun i j => L (x i) (x j)) b i j = true → pairLt (fun i j => decide (x i = x j)) (fun i j => L (x i) (x j)) b j i = false := fun i j h => by
    rw [pl] at h ⊢
    by_cases e : x i = x j
    · rw [if_pos e] at h; rw [if_pos e.symm]; simp at h ⊢; lia
    · rw [if_neg e] at h; rw [if_neg (Ne.symm e)]; exact O.asymm _ _ h
  have neg : ∀ i j k, pairLt (fun i j => decide (x i = x j)) (fun i j => L (x i) (x j)) b k j = false → pairLt (fun i j => decide (x i = x j)) (fun i j => L (x i) (x j)) b i k = false → pairLt (fun i j => decide (x i = x j)) (fun i j => L (x i) (x j)) b i j = false := fun i j k h1 h2 => by
    rw [pl] at h1 h2 ⊢
    by_cases e1 : x k = x j
    · rw [if_pos e1] at h1
      by_cases e2 : x i = x k
      · rw [if_pos e2] at h2; rw [if_pos (e2.trans e1)]; simp at h1 h2 ⊢; lia
      · rw [if_neg e2] at h2; rw [if_neg (fun q => e2 (q.trans e1.symm)), ← e1]; exact h2
    · rw [if_neg e1] at h1
      by_cases e2 : x i = x k
      · rw [if_neg (by rw [e2]; exact e1), e2]; exact h1
      · rw [if_neg e2] at h2
        by_cases e3 : x i = x j
        · rw [e3] at h2; exact absurd (O.conn _ _ h1 h2) e1
        · rw [if_neg e3]; exact O.neg _ _ _ h1 h2
  exact ⟨fun i j k h1 h2 => neg _ _ _ h1 h2, fun i => by rw [pl, if_pos rfl]; simp, asy, fun i j h => h, fun i j k h1 h2 => by
    cases q : pairLt (fun i j => decide (x i = x j)) (fun i j => L (x i) (x j)) b i k with
    | true => rfl
    | false => have := neg i j k h2 q; rw [h1] at this; cases this⟩
section
variable {C : Cx} {env : En} {F F' F'' F1 F2 : Fz} {M M' M'' : Mz} {h h' h'' h0 : Heap} {S S' S'' S₁ : PS} {A : Around} {s : Shared} {E : Value → Shared → Prop} {k : Nat} {pos : Pos} {wr : List Addr}
theorem is_pair {a : Nat → PV} {b : Nat → Int} {i : Nat} {v : Value} (iv : Is F v (pairPV a b i)) : ∃ x n u t, v = .ref x ∧ F x = some (tupOf #[u, .int (b i) t] n) ∧ Is F u (a i) := by
  unfold pairPV at iv
  cases iv with
  | tuple h1 h2 =>
    cases h2 with
    | cons i1 r =>
      cases r with
      | cons i2 r =>
        cases r
        obtain ⟨t, rfl⟩ := isInt i2
        exact ⟨_, _, _, t, rfl, h1, i1⟩
theorem pair_tups {a : Nat → PV} {b : Nat → Int} : ∀ {l : List Nat} {ks : List Value}, IsAll F ks (l.map (pairPV a b)) → (∀ x o, F x = some o → h.get? x = some o) → ∃ fs, KatTups h ks fs ∧ fs.length = l.length ∧ ∀ v ∈ fs, ∃ i, Is F v (a i)
  | [], ks, iv, hs => by
    cases iv
    exact ⟨[], .nil, rfl, fun v hv => by cases hv⟩
  | i :: l, ks, iv, hs => by
    cases iv with
    | cons i1 r =>
      obtain ⟨x, n, u, t, rfl, h1, h2⟩ := is_pair i1
      obtain ⟨fs, y1, y2, y3⟩ := pair_tups r hs
      refine ⟨u :: fs, .cons (hs _ _ h1) rfl rfl rfl y1, by simp [y2], fun v hv => ?_⟩
      rcases List.mem_cons.mp hv with rfl | hv
      · exact ⟨i, h2⟩
      · exact y3 v hv
theorem pair_sorts {T : Value} {a : Nat → PV} {b : Nat → Int} {eqf ltf : Nat → Nat → Bool} (X : Fst C A T a eqf ltf) {n : Nat} (hn : 0 < n) {ks : List Value} (iv : IsAll F ks ((List.range n).map (pairPV a b))) : Sorts C A F ks (tuples' true) (pairLt eqf ltf b) where
  kind := fun s hs Q q => by
    obtain ⟨fs, h1, h2, h3⟩ := pair_tups iv hs
    have e := X.T2
    refine kat_kind (T := T) h1 (by rw [h2]; simpa using hn) (fun v hv => ?_) X.T1 (by rw [e]; exact q)
    obtain ⟨i, hi⟩ := h3 v hv
    exact X.ty F i v hi _
  cmp := fun s hs i j hi hj Q q => by
    have hl : ks.length = n := by rw [iv.length]; simp
    have one : ∀ i, i < n → Is F (ks.getD i Value.none) (pairPV a b i) := fun i hi => by
      obtain ⟨v, hv, iv'⟩ := iv.get (k := i) (d := pairPV a b i) (by simp [hi])
      rw [List.getD_eq_getElem?_getD, hv]
      exact iv'
    obtain ⟨x, n1, u, t, ex, fx, iu⟩ := is_pair (one i (by lia))
    obtain ⟨y, n2, u', t', ey, fy, iu'⟩ := is_pair (one j (by lia))
    rw [ex, ey]
    refine kat_lt (hs _ _ fx) rfl (hs _ _ fy) rfl ?_
    show KatLex C.prog C.w A true false Q [(u, u'), (.int (b i) t, .int (b j) t')] 0 s
    unfold pairLt at q
    refine kat_cons (X.eq F i j u u' s _ iu iu' ?_)
    cases he : eqf i j with
    | true =>
      rw [he, if_pos rfl] at q
      refine kat_yes (kat_cons (wpAny_eqBool_int ?_))
      by_cases hb : b i = b j
      · rw [if_pos hb] at q
        rw [show (b i == b j) = true by simp [hb]]
        exact kat_yes (kat_nil q)
      · rw [if_neg hb] at q
        rw [show (b i == b j) = false by simp [hb]]
        exact kat_no (oneLt_int' q)
    | false =>
      rw [he] at q
      exact kat_no (X.lt F i j u u' s _ iu iu' q)
end
end
section
noncomputable def rowAt (row : List UInt8) (i : Nat) : Int := ((row.getD i 0).toNat : Int)
noncomputable def plLt (row : List UInt8) : Nat → Nat → Bool := pairLt (fun i j => decide (rowAt row i = rowAt row j)) (fun i j => decide (rowAt row i < rowAt row j)) fun i => (i : Int)
theorem pl_ord (row : List UInt8) : Ord (fun i j => plLt row j i = false) (plLt row) := pair_ord so_int (rowAt row) _
noncomputable def orderOf (row : List UInt8) : List Nat := srt (plLt row) row.length
section
variable {C : Cx} {env : En} {F F' F'' F1 F2 : Fz} {M M' M'' : Mz} {h h' h'' h0 : Heap} {S S' S'' S₁ : PS} {A : Around} {s : Shared} {E : Value → Shared → Prop} {k : Nat} {pos : Pos} {wr : List Addr}
  {params : Arguments} {body : Expr} {scope : Scope} {clos : List (Str × Addr)} {c P : Addr}
theorem ev_order (O : C.Ok) (AO : AOk A k) {lpos : Pos} (X : LamOk C c P lpos) {x1 x2 x y : Str} {p1 p2 p3 kp : Pos} {be : Expr} {cy : Addr} {row : List UInt8} (hn : few row.length)
    (e1 : C.glob x1 = some (.builtin "sorted")) (k1 : env.e.kindOf x1 = some .globalImplicit) (d1 : (x1 == ("__debug__" : Str)) = false) (e2 : C.glob x2 = some (.type "range")) (k2 : env.e.kindOf x2 = some .globalImplicit) (d2 : (x2 == ("__debug__" : Str)) = false)
    (xa : EvAll C A env S [be] [.int row.length])
    (hdef : defaultsOf params env.e = ([], [])) (hcl : closureFor scope env.e = pure [(y, cy)]) (hcode : env.e.code = .ref c) (hq : env.e.qual ++ "<lambda>" = lamQ)
    (hbind : ∀ pm c' ctv v, bindArgs (kla_fn "<lambda>" lamQ params body scope [(y, cy)] pm c' ctv) ⟨[v], []⟩ = pure [(x, v)]) (hloc : scope.names.lookup x = some .local) (hfree : scope.names.lookup y = some .free) (hny : (y == ("__classdict__" : Str)) = false)
    (hnc : ∀ x ∈ scope.names, x.2 ≠ .cell) (hco : scope.isCoroutine = false) (hgen : scope.isGenerator = false) (hk : scope.kind = .function) (hcell : env.e.cells.lookup y = some cy) (hkind : env.e.kindOf y = some .cell) (hy : get S y = some (.val (.bytes row)))
    (B : ∀ A L f c' (i : Nat), i < row.length → EvS C A (lamEn scope L f c' y cy) [(x, .val (.int (i : Int))), (y, .val (.bytes row))] body (.tuple [.int (rowAt row i), .int (i : Int)])) :
    EvX C A env S (.Call (.Name x1 p1) [.Call (.Name x2 p2) [be] [] p3] [⟨some (Str.ofString "key"), .Lambda params body scope lpos, kp⟩] pos) (.list ((orderOf row).map fun j : Nat => PV.int (j : Int))) := .mk fun s F M R Q E kk => by
  refine wpAny_bind ((ev_glob O (pos := p1) e1 k1 d1).run s F M R _ _ fun v h1 tk1 F1 g1 i1 => ?_)
  obtain rfl := isRaw i1
  have R1 := R.grow g1
  refine callWith_kw ?_
  refine spliced_cons ?_
  refine Call_Name rfl ((ev_glob O (pos := p2) e2 k2 d2).run { s with heap := h1, toks := tk1 } F1 M R1 _ _ fun v h2 tk2 F2 g2 i2 => ?_)
  obtain rfl := isRaw i2
  have R2 := R1.grow g2
  refine PyProof.Rows.callWith_type xa.plain (xa.args (s := { s with heap := h2, toks := tk2 }) R2 fun vs h3 tk3 F3 g3 i3 => ?_)
  cases i3 with
  | cons i r =>
    cases r
    obtain ⟨t, rfl⟩ := isInt i
    have R3 := R2.grow g3
    refine call_range_1 (s := { s with heap := h3, toks := tk3 }) ?_
    have gR := pushI R3.toWd { cls := .type "range", data := .fields #[.int 0 tk3, .int (row.length : Int) t, .int 1 (tk3 + 1)] }
    have R4 := R3.grow gR
    have hr : IsRange (h3.push { cls := .type "range", data := .fields #[.int 0 tk3, .int (row.length : Int) t, .int 1 (tk3 + 1)] }) h3.objs.size 0 (row.length : Int) 1 tk3 t (tk3 + 1) := Heap.get?_push_size h3 rfl
    refine spliced_nil ?_
    refine kws_cons (make_lambda (s := { s with heap := h3.push { cls := .type "range", data := .fields #[.int 0 tk3, .int (row.length : Int) t, .int 1 (tk3 + 1)] }, toks := tk3 + 1 + 1 }) O X R4 hdef hcl hcode hq fun f c' ctv pm h5 tk5 F5 g5 hf hcF => ?_)
    refine kws_nil ?_
    have R5 := R4.grow g5
    have nexr : ¬ C.ex h3.objs.size := fun q => by
      obtain ⟨o, ho, _⟩ := R3.tab _ q
      exact absurd (Heap.lt_size ho) (Nat.lt_irrefl _)
    have hr5 : IsRange h5 h3.objs.size 0 (row.length : Int) 1 tk3 t (tk3 + 1) := g5.ext _ _ nexr hr
    have gg : Grow C F s.heap F5 h5 := (((g1.trans g2).trans g3).trans gR).trans g5
    refine sorted_keyed (s := { s with heap := h5, toks := tk5 }) (key := pairPV (fun i => .int (rowAt row i)) (fun i => (i : Int))) R5 AO.hh hr5 hn (pl_ord row) (fun F2 ks iv => pair_sorts (fst_int (rowAt row)) (by rcases hn with h | h | h <;> lia) iv) (fun i hi t s1 F1 R' g' Q' kk' => ?_) ?_
    · exact lam_call O (by have := AO.depth; show A.depth < _; lia) R' (g'.mono _ _ hf) (hcF.mono g'.mono) (hbind _ _ _) hloc hfree hny hnc hco hgen hk hcell hkind hy (fun L => B _ L f c' i hi) (.int _ _) kk'
    · intro v h6 tk6 F6 g6 R6 iv
      exact kk v h6 tk6 F6 ((GrowL.of gg).trans' R5 g6) R6 iv
end
end
section
open PySem.NumText
variable {C : Cx} {A : Around} {k : Nat} {Lf : Addr} {m : Nat} {base : Int} {row : List UInt8} {ord : List Nat}
noncomputable def lamPos : Pos := ⟨137, 40, 137, 73⟩
noncomputable abbrev Lam (C : Cx) : Prop := LamOk C 177 173 lamPos
theorem fnIn_178 (G : Good C) : FnIn C 178 (fdAt C.w 178) (bodyAt C.w 178) ["row", "base", "mark"] ["row"] :=
  FnIn.mk' (by rw [G.K]; kernel_rfl) (by rw [G.K]; kernel_rfl) (by kernel_rfl) (len3 fun _ _ _ => by kernel_rfl) (by decide)
    (fun x hx => by
      rcases List.mem_cons.mp hx with rfl | hx
      · exact .inr ⟨by kernel_rfl, fun L => by kernel_rfl⟩
      · exact all_local (fd := fdAt C.w 178) (ns := ["base", "mark"]) (by kernel_rfl) x hx)
    (fun x hx => by
      rw [List.mem_singleton.mp hx]
      exact ⟨by kernel_rfl, fun L => by kernel_rfl⟩)
noncomputable abbrev en178 (w : World) (L : Addr) : En := calleeEn (fdAt w 178) ["row"] L 178
noncomputable def Ro0 (m : Nat) (base : Int) (row : List UInt8) : PS := [("row", .val (.bytes row)), ("base", .val (.int base)), ("mark", .val (.str (one m)))]
noncomputable def Ro1 (m : Nat) (base : Int) (row : List UInt8) (ord : List Nat) : PS := [("row", .val (.bytes row)), ("base", .val (.int base)), ("mark", .val (.str (one m))), ("order", .val (.list (ord.map fun j : Nat => PV.int (j : Int))))]
theorem body178 (w : World) : bodyAt w 178 = [nth w 178 0, nth w 178 1, nth w 178 2, nth w 178 3, nth w 178 4] := by kernel_rfl
theorem idx_nat {α : Type} {ds : List α} {i : Nat} (hl : ds.length ≤ 3000) (hi : i < ds.length) : idx ds (i : Int) = some ds[i] := by
  unfold idx
  rw [if_pos (lenOk_of hl), if_pos (Int.natCast_nonneg i), if_pos (by lia), Int.toNat_natCast, List.getElem?_eq_getElem hi]
theorem r_go0 (G : Good C) (X : Lam C) (AO : AOk A k) (hn : few row.length) : ExS C A (en178 C.w Lf) (Ro0 m base row) (nth C.w 178 0) (Ro1 m base row (orderOf row)) .next := by
  conv => arg 5; whnf
  have hl : row.length ≤ 3000 := by rcases hn with h | h | h <;> lia
  refine ex_setX (d := .list ((orderOf row).map fun j : Nat => PV.int (j : Int))) (by exact Or.inl (by kernel_rfl)) (by kernel_rfl) ?_
  refine ev_order (x := "place") (y := "row") (cy := Lf + 1) (row := row) G.ok AO X hn (G.gl rfl) (by kernel_rfl) rfl (G.gl rfl) (by kernel_rfl) rfl ?_ ?_ ?_ ?_ ?_ ?_ ?_ ?_ ?_ ?_ ?_ ?_ ?_ ?_ ?_ ?_ ?_
  · ((with_reducible apply EvAll.cons); (· ((with_reducible apply ev_bcall); (· exact G.ok); (· assumption); (· exact G.gl rfl); (· kernel_rfl); (· rfl); (· ((with_reducible apply EvAll.cons); (· exact ev_name rfl rfl); (· intros; rfl); (· exact EvAll.nil))); (· (refine bc_len_bytes ?_; assumption)))); (· intros; rfl); (· exact EvAll.nil))
  · kernel_rfl
  · kernel_rfl
  · kernel_rfl
  · kernel_rfl
  · intro pm c' ctv v; kernel_rfl
  · kernel_rfl
  · kernel_rfl
  · rfl
  · decide
  · rfl
  · rfl
  · rfl
  · kernel_rfl
  · kernel_rfl
  · rfl
  · intro A L f c' i hi
    (with_reducible apply ev_tuple)
    · (with_reducible apply EvAll.cons)
      · (with_reducible apply ev_sub); (· exact ev_name rfl rfl); (· exact ev_name rfl rfl); (· exact sb_bytes (c := row.getD i 0) (Int.natCast_nonneg i) (by rw [idx_nat hl hi, List.getD_eq_getElem?_getD, List.getElem?_eq_getElem hi]; rfl)); (· rfl)
      · intros; rfl
      · ((with_reducible apply EvAll.cons); (· exact ev_name rfl rfl); (· intros; rfl); (· exact EvAll.nil))
    · exact lenOk_of (by simp)
end
section
open PySem.NumText
variable {C : Cx} {A : Around} {k : Nat} {Lf : Addr} {m : Nat} {base : Int} {row : List UInt8} {ord : List Nat}
noncomputable def natsPV (l : List Nat) : List PV := l.map fun j : Nat => PV.int (j : Int)
noncomputable def intsPV (l : List Int) : List PV := l.map .int
noncomputable def rgo (row : List UInt8) (ord : List Nat) : Nat → Nat → List Nat → List Int → List Nat × List Int × Nat
  | 0, here, gone, heard => (gone, heard, here)
  | f + 1, here, gone, heard => if here ∈ gone then (gone, heard, here) else rgo row ord f (ord.getD here 0) (gone ++ [here]) (heard ++ [rowAt row (ord.getD here 0)])
noncomputable def rstep (row : List UInt8) (ord : List Nat) (a : List Nat × List (List Int)) (st : Nat) : List Nat × List (List Int) :=
  ((rgo row ord row.length st a.1 []).1, if (rgo row ord row.length st a.1 []).2.1 = [] then a.2 else a.2 ++ [(rgo row ord row.length st a.1 []).2.1])
noncomputable def roundsOf (row : List UInt8) (ord : List Nat) : List (List Int) := ((List.range row.length).foldl (rstep row ord) ([], [])).2
noncomputable def IE (m : Nat) (base : Int) (row : List UInt8) (ord : List Nat) (st : Nat) (rounds : List (List Int)) (gone : List Nat) (heard : List Int) (here : Nat) : PS :=
  [("row", .val (.bytes row)), ("base", .val (.int base)), ("mark", .val (.str (one m))), ("order", .val (.list (natsPV ord))), ("rounds", .own (rounds.map fun l => .list (intsPV l))), ("gone", .own (natsPV gone)), ("start", .val (.int (st : Int))), ("heard", .own (intsPV heard)), ("here", .val (.int (here : Int)))]
noncomputable def rW (w : World) : Stmt := ((forBody (nth w 178 3))[2]?).getD (.Pass ⟨0, 0, 0, 0⟩)
theorem inPV_nats {a : Nat} {l : List Nat} : inPV (.int (a : Int)) (natsPV l) = some (decide (a ∈ l)) := by
  have e : natsPV l = (l.map fun j : Nat => (j : Int)).map PV.int := by unfold natsPV; rw [List.map_map]; rfl
  rw [e, inPV_ints]
  congr 1
  have : ((a : Int) ∈ l.map fun j : Nat => (j : Int)) ↔ a ∈ l := by
    rw [List.mem_map]
    exact ⟨fun ⟨b, h1, h2⟩ => by rw [← Int.ofNat.inj h2]; exact h1, fun h => ⟨a, h, rfl⟩⟩
  simp only [this]
noncomputable def RP (m : Nat) (h p : Int) : Str := ((((("229 (" ++ one m) ++ Str.ofString (toString h)) ++ strMul (one m) 2) ++ Str.ofString (toString p)) ++ one m) ++ ")"
theorem rp_cl (h p : Int) : cl (RP m h p) = [50, 50, 57, 32] ++ 40 :: ((m :: ((digs h ++ [m, m]) ++ digs p) ++ [m]) ++ 41 :: []) := by
  unfold RP
  rw [cl_app, cl_app, cl_app, cl_app, cl_app, cl_app, cl_lits.2.2.1, cl_lits.2.2.2.2.2.1, cl_one, cl_mul]
  show _ ++ _ ++ digs h ++ (List.replicate 2 [m]).flatten ++ digs p ++ _ ++ _ = _
  simp [List.replicate]
theorem split_end (h p : Int) (hh : m ∉ digs h) (hp : m ∉ digs p) : splitG m [] (m :: ((digs h ++ [m, m]) ++ digs p) ++ [m]) = [[], digs h, [], digs p, []] := by
  have e : m :: ((digs h ++ [m, m]) ++ digs p) ++ [m] = m :: (digs h ++ m :: (m :: (digs p ++ [m]))) := by simp
  rw [e, sg_cons, splitG_pre _ _ hh, sg_cons, sg_tail hp]
  rfl
theorem rp_ok (G : Good C) (c : Ctx2 m p) (h : Int) (ch : Ctx2 m h) (a b : Int) : FnOk C 65 1 [.str (RP m h p), .tuple [.int a, .int b]] (.tuple [.int a, .int p]) := by
  have h1 := dlen c
  have h2 := dlen ch
  exact parse_good c G (parts := [[], digs h, [], digs p, []]) (Nat.le_of_ble_eq_true rfl) (rp_cl h p) (by decide) (nmem_app (ch.dig.nin (.inl (by decide))) (nmem_cons (Ne.symm c.mark.n41) (nmem_cons (Ne.symm c.mark.n41) nmem_nil))) hd229 (by decide) (by simp; lia) (split_end h p ch.nm c.nm) rfl rfl
structure RowCtx (m : Nat) (base : Int) (row : List UInt8) (ord : List Nat) : Prop where
  mrk : Mk m
  b0 : 0 ≤ base
  b1 : base < 1000000
  n : few row.length
  len : ord.length = row.length
  lt : ∀ j ∈ ord, j < row.length
variable {base : Int} {row : List UInt8} {ord : List Nat}
theorem RowCtx.next (c : RowCtx m base row ord) {h : Nat} (hh : h < row.length) : ord[h]? = some (ord.getD h 0) ∧ ord.getD h 0 < row.length := by
  have hl : h < ord.length := by rw [c.len]; exact hh
  have e : ord.getD h 0 = ord[h] := by simp [hl]
  exact ⟨by rw [e]; simp [hl], by rw [e]; exact c.lt _ (List.getElem_mem hl)⟩
theorem RowCtx.at (c : RowCtx m base row ord) {n : Int} (h0 : 0 ≤ n) (h1 : n < 2000000) : Ctx2 m n := ⟨c.mrk, h0, by lia⟩
theorem RowCtx.n7 (c : RowCtx m base row ord) : row.length ≤ 7 := by rcases c.n with h | h | h <;> lia
theorem row_get {i : Nat} (h : i < row.length) : row[((i : Nat) : Int).toNat]? = some (row.getD i 0) := by
  rw [Int.toNat_natCast, List.getD_eq_getElem?_getD, List.getElem?_eq_getElem h]; rfl
theorem r_body (G : Good C) (AO : AOk A (k + 2)) (c : RowCtx m base row ord) {st here : Nat} {rounds : List (List Int)} {gone : List Nat} {heard : List Int} (hh : here < row.length) (hg : gone.length ≤ 200) (hd : heard.length ≤ 200) :
    ExA C A (en178 C.w Lf) (IE m base row ord st rounds gone heard here) (whBody (rW C.w)) (IE m base row ord st rounds (gone ++ [here]) (heard ++ [rowAt row (ord.getD here 0)]) (ord.getD here 0)) .next := by
  obtain ⟨n1, n2⟩ := c.next hh
  have hz := c.n7
  have hb0 := c.b0
  have hb1 := c.b1
  have c1 : Ctx2 m (here : Int) := c.at (by lia) (by lia)
  have c2 : Ctx2 m (base + (ord.getD here 0 : Nat)) := c.at (by lia) (by lia)
  have e1 : natsPV gone ++ [PV.int (here : Int)] = natsPV (gone ++ [here]) := by unfold natsPV; rw [List.map_append]; rfl
  have e2 : intsPV heard ++ [PV.int (rowAt row (ord.getD here 0))] = intsPV (heard ++ [rowAt row (ord.getD here 0)]) := by unfold intsPV; rw [List.map_append]; rfl
  have e3 : base + (ord.getD here 0 : Nat) - base = (ord.getD here 0 : Nat) := by lia
  have ho : idx (natsPV ord) (here : Int) = some (.int (ord.getD here 0 : Nat)) := by
    exact idx_pos (by unfold natsPV; rw [List.length_map, c.len]; lia) (Int.natCast_nonneg _) (by lia) (by unfold natsPV; rw [Int.toNat_natCast, List.getElem?_map, n1]; rfl)
  have hr : Sb (.bytes row) (.int (ord.getD here 0 : Nat)) (.int (rowAt row (ord.getD here 0))) :=
    sb_bytes (c := row.getD (ord.getD here 0) 0) (Int.natCast_nonneg _) (idx_pos (by lia) (Int.natCast_nonneg _) (by lia) (row_get n2))
  refine ExA.weaken (S' := put (put (put (put (put (put (IE m base row ord st rounds gone heard here) "gone" (.own (natsPV gone ++ [PV.int (here : Int)]))) "reply" (.val (.str (RP m (here : Int) (base + (ord.getD here 0 : Nat)))))) "host" (.val (.int (rowAt row (ord.getD here 0))))) "port" (.val (.int (base + (ord.getD here 0 : Nat))))) "heard" (.own (intsPV heard ++ [PV.int (rowAt row (ord.getD here 0))]))) "here" (.val (.int (ord.getD here 0 : Nat)))) ?_
    (.cons rfl (.cons rfl (.cons rfl (.cons rfl (.cons rfl (.cons (by rw [← e1]; rfl) (.cons rfl (.cons (by rw [← e2]; rfl) (.cons rfl .nil)))))))))
  conv => arg 5; whnf
  (with_reducible apply ea_cons)
  · (with_reducible apply ex_append); (· rfl); (· rfl); (· exact ev_name rfl rfl); (· intro _; rfl); (· exact lenOk_of (by unfold natsPV; rw [List.length_map]; lia)); (· rfl)
  (with_reducible apply ea_cons)
  · have s1 : Sm (here : Int) := ⟨by lia, by lia⟩
    have s2 : Sm (base + (ord.getD here 0 : Nat)) := ⟨by lia, by lia⟩
    have hm : (one m).length ≤ 3000 := Nat.le_of_ble_eq_true rfl
    have l0 : SL 1 ("229 (" : Str) := by unfold SL; decide
    have l1 : SL 1 (one m) := sl_one
    have l2 : SL 1 (Str.ofString (toString (here : Int))) := by unfold SL; have := dlen c1; rw [len_cl]; show (digs (here : Int)).length ≤ _; lia
    have l3 : SL 1 (strMul (one m) 2) := by unfold SL; rw [len_cl, cl_mul]; exact Nat.le_of_ble_eq_true rfl
    have l4 : SL 1 (Str.ofString (toString (base + (ord.getD here 0 : Nat)))) := by unfold SL; have := dlen c2; rw [len_cl]; show (digs _).length ≤ _; lia
    have l5 : SL 1 (")" : Str) := by unfold SL; decide
    refine ex_set (d := .str (RP m (here : Int) (base + (ord.getD here 0 : Nat)))) (by exact Or.inl (by kernel_rfl)) (by kernel_rfl) ?_
    unfold RP
    refine ev_binop (a := .str (((((("229 (" ++ one m) ++ Str.ofString (toString (here : Int))) ++ strMul (one m) 2) ++ Str.ofString (toString (base + (ord.getD here 0 : Nat)))) ++ one m))) (b := .str ")") ?_ ?_ (bo_add_str (sl_ar (sl_app (sl_app (sl_app (sl_app (sl_app l0 l1) l2) l3) l4) l1) (by decide)) (sl_ar l5 (by decide)))
    · refine ev_binop (a := .str ((((("229 (" ++ one m) ++ Str.ofString (toString (here : Int))) ++ strMul (one m) 2) ++ Str.ofString (toString (base + (ord.getD here 0 : Nat)))))) (b := .str (one m)) ?_ ?_ (bo_add_str (sl_ar (sl_app (sl_app (sl_app (sl_app l0 l1) l2) l3) l4) (by decide)) (sl_ar l1 (by decide)))
      · refine ev_binop (a := .str (((("229 (" ++ one m) ++ Str.ofString (toString (here : Int))) ++ strMul (one m) 2))) (b := .str (Str.ofString (toString (base + (ord.getD here 0 : Nat))))) ?_ ?_ (bo_add_str (sl_ar (sl_app (sl_app (sl_app l0 l1) l2) l3) (by decide)) (sl_ar l4 (by decide)))
        · refine ev_binop (a := .str ((("229 (" ++ one m) ++ Str.ofString (toString (here : Int))))) (b := .str (strMul (one m) 2)) ?_ ?_ (bo_add_str (sl_ar (sl_app (sl_app l0 l1) l2) (by decide)) (sl_ar l3 (by decide)))
          · refine ev_binop (a := .str ("229 (" ++ one m)) (b := .str (Str.ofString (toString (here : Int)))) ?_ ?_ (bo_add_str (sl_ar (sl_app l0 l1) (by decide)) (sl_ar l2 (by decide)))
            · refine ev_binop (a := .str "229 (") (b := .str (one m)) ?_ ?_ (bo_add_str (sl_ar l0 (by decide)) (sl_ar l1 (by decide)))
              · exact ev_str
              · exact ev_name rfl rfl
            · exact ev_tcall (ds := [.int (here : Int)]) G.ok AO (G.gl rfl) (by kernel_rfl) rfl (by ((with_reducible apply EvAll.cons); (· exact ev_name rfl rfl); (· intros; rfl); (· exact EvAll.nil))) (bc_str s1)
          · exact ev_binop (a := .str (one m)) (b := .int 2) (by exact ev_name rfl rfl) ev_int (bo_mul_str hm (by decide) (by decide))
        · refine ev_tcall (ds := [.int (base + (ord.getD here 0 : Nat))]) G.ok AO (G.gl rfl) (by kernel_rfl) rfl ?_ (bc_str s2)
          (with_reducible apply EvAll.cons); rotate_left; (· intros; rfl); (· exact .nil)
          refine ev_binop (a := .int base) (b := .int (ord.getD here 0 : Nat)) (by exact ev_name rfl rfl) ?_ bo_add_int
          exact ev_sub (a := .list (natsPV ord)) (b := .int (here : Int)) (by exact ev_name rfl rfl) (by exact ev_name rfl rfl) (sb_list ho) rfl
      · exact ev_name rfl rfl
    · exact ev_str
  (with_reducible apply ea_cons)
  · (with_reducible apply ex_tuple)
    · refine ev_call (ds := [.str (RP m (here : Int) (base + (ord.getD here 0 : Nat))), .tuple [.int (rowAt row (ord.getD here 0)), .int base]]) G.ok AO (G.gl rfl) (by kernel_rfl) rfl (G.kf (by kernel_rfl)) ?_ (FnOk.le (rp_ok G c2 _ c1 _ _) (by lia))
      (with_reducible apply EvAll.cons); (· exact ev_name rfl rfl); (· intros; rfl)
      (with_reducible apply EvAll.cons); rotate_left; (· intros; rfl); (· exact .nil)
      (with_reducible apply ev_tuple)
      · (with_reducible apply EvAll.cons)
        · (with_reducible apply ev_sub); (· exact ev_name rfl rfl); (· ((with_reducible apply ev_sub); (· exact ev_name rfl rfl); (· exact ev_name rfl rfl); (· ((with_reducible apply sb_list); assumption)); (· rfl))); (· exact hr); (· rfl)
        · intros; rfl
        · ((with_reducible apply EvAll.cons); (· exact ev_name rfl rfl); (· intros; rfl); (· exact EvAll.nil))
      · exact lenOk_of (by simp)
    · (with_reducible apply unpack2); (· exact AO.hh); (· exact Or.inl (by kernel_rfl)); (· exact Or.inl (by kernel_rfl))
    · kernel_rfl
    · kernel_rfl
  (with_reducible apply ea_cons)
  · (with_reducible apply ex_append); (· rfl); (· rfl); (· exact ev_name rfl rfl); (· intro _; rfl); (· exact lenOk_of (by unfold intsPV; rw [List.length_map]; lia)); (· rfl)
  (with_reducible apply ea_cons)
  · refine ex_set (d := .int (ord.getD here 0 : Nat)) (by exact Or.inl (by kernel_rfl)) (by kernel_rfl) ?_
    refine Eq.mp (congrArg (EvS C A _ _ _) (congrArg PV.int e3)) ?_
    ((with_reducible apply ev_binop); (· exact ev_name rfl rfl); (· exact ev_name rfl rfl); (· exact bo_sub_int))
  (with_reducible apply ea_nil)
end
section
structure Pm (n : Nat) (p : Nat → Nat) : Prop where
  lt : ∀ i, i < n → p i < n
  inj : ∀ i j, i < n → j < n → p i = p j → i = j
noncomputable def it (p : Nat → Nat) : Nat → Nat → Nat
  | 0, i => i
  | k + 1, i => p (it p k i)
theorem it_add (p : Nat → Nat) (i : Nat) (b : Nat) : ∀ a, it p (a + b) i = it p a (it p b i)
  | 0 => by rw [Nat.zero_add]; rfl
  | a + 1 => by rw [Nat.succ_add]; show p (it p (a + b) i) = p _; rw [it_add p i b a]
section
variable {n : Nat} {p : Nat → Nat} (P : Pm n p)
include P
theorem Pm.it_lt {i : Nat} (h : i < n) : ∀ k, it p k i < n
  | 0 => h
  | k + 1 => P.lt _ (Pm.it_lt h k)
theorem Pm.it_inj {i j : Nat} (hi : i < n) (hj : j < n) : ∀ k, it p k i = it p k j → i = j
  | 0, e => e
  | k + 1, e => Pm.it_inj hi hj k (P.inj _ _ (P.it_lt hi k) (P.it_lt hj k) e)
end
noncomputable def cgo (p : Nat → Nat) : Nat → Nat → List Nat → List Nat → List Nat × List Nat
  | 0, here, gone, acc => (gone, acc)
  | f + 1, here, gone, acc => if here ∈ gone then (gone, acc) else cgo p f (p here) (gone ++ [here]) (acc ++ [p here])
noncomputable def cstep (p : Nat → Nat) (n : Nat) (a : List Nat × List (List Nat)) (st : Nat) : List Nat × List (List Nat) :=
  ((cgo p n st a.1 []).1, if (cgo p n st a.1 []).2 = [] then a.2 else a.2 ++ [(cgo p n st a.1 []).2])
noncomputable def cyc (p : Nat → Nat) (n : Nat) : List (List Nat) := ((List.range n).foldl (cstep p n) ([], [])).2
theorem rgo_cgo (row : List UInt8) (ord : List Nat) : ∀ (f here : Nat) (gone acc : List Nat), (rgo row ord f here gone (acc.map (rowAt row))).1 = (cgo (fun i => ord.getD i 0) f here gone acc).1 ∧ (rgo row ord f here gone (acc.map (rowAt row))).2.1 = (cgo (fun i => ord.getD i 0) f here gone acc).2.map (rowAt row)
  | 0, here, gone, acc => ⟨rfl, rfl⟩
  | f + 1, here, gone, acc => by
    unfold rgo cgo
    by_cases h : here ∈ gone
    · rw [if_pos h, if_pos h]; exact ⟨rfl, rfl⟩
    · rw [if_neg h, if_neg h]
      have := rgo_cgo row ord f (ord.getD here 0) (gone ++ [here]) (acc ++ [ord.getD here 0])
      rw [List.map_append] at this
      exact this
theorem rounds_cyc (row : List UInt8) (ord : List Nat) : roundsOf row ord = (cyc (fun i => ord.getD i 0) row.length).map fun c => c.map (rowAt row) := by
  unfold roundsOf cyc
  suffices h : ∀ (l : List Nat) (a : List Nat × List (List Nat)), l.foldl (rstep row ord) (a.1, a.2.map fun c => c.map (rowAt row)) = ((l.foldl (cstep (fun i => ord.getD i 0) row.length) a).1, (l.foldl (cstep (fun i => ord.getD i 0) row.length) a).2.map fun c => c.map (rowAt row)) by
    have := h (List.range row.length) ([], [])
    exact congrArg Prod.snd this
  intro l
  induction l with
  | nil => intro a; rfl
  | cons st l ih =>
    intro a
    rw [List.foldl_cons, List.foldl_cons, ← ih]
    congr 1
    obtain ⟨h1, h2⟩ := rgo_cgo row ord row.length st a.1 []
    unfold rstep cstep
    simp only [List.map_nil] at h1 h2
    dsimp only
    rw [h1, h2]
    by_cases he : (cgo (fun i => ord.getD i 0) row.length st a.1 []).2 = []
    · rw [if_pos he, if_pos (by rw [he]; rfl)]
    · rw [if_neg he, if_neg (by rw [List.map_eq_nil_iff]; exact he), List.map_append]; rfl
noncomputable def orb (p : Nat → Nat) (s t : Nat) : List Nat := (List.range t).map fun j => it p j s
theorem orb_succ (p : Nat → Nat) (s t : Nat) : orb p s (t + 1) = orb p s t ++ [it p t s] := by unfold orb; rw [List.range_succ, List.map_append]; rfl
section
variable {n : Nat} {p : Nat → Nat} (P : Pm n p)
include P
theorem orb_nodup_succ {s t : Nat} (hs : s < n) (h : (orb p s t).Nodup) (hn : it p t s ∉ orb p s t) : (orb p s (t + 1)).Nodup := by
  rw [orb_succ]
  refine List.nodup_append.mpr ⟨h, by simp, fun a ha b hb q => ?_⟩
  rw [List.mem_singleton.mp hb] at q
  exact hn (q ▸ ha)
theorem orb_back {s t : Nat} (hs : s < n) (h : (orb p s t).Nodup) (hm : it p t s ∈ orb p s t) : 1 ≤ t ∧ it p t s = s := by
  obtain ⟨j, hj, e⟩ := List.mem_map.mp hm
  have hj := List.mem_range.mp hj
  refine ⟨by lia, ?_⟩
  cases j with
  | zero => exact e.symm
  | succ j =>
    cases t with
    | zero => lia
    | succ t =>
      have e2 := P.inj _ _ (P.it_lt hs j) (P.it_lt hs t) e
      unfold orb at h
      have h2 := List.pairwise_iff_getElem.mp (List.nodup_iff_pairwise_ne.mp h) j t (by simp; lia) (by simp) (by lia)
      simp only [List.getElem_map, List.getElem_range] at h2
      exact absurd e2 h2
theorem cgo_go {G : List Nat} {s : Nat} (hs : s < n) (hG : ∀ i, i < n → (p i ∈ G ↔ i ∈ G)) (hsG : s ∉ G) : ∀ (f k : Nat), f + k = n → (orb p s k).Nodup →
    ∃ t, k ≤ t ∧ t ≤ n ∧ 1 ≤ t ∧ it p t s = s ∧ (orb p s t).Nodup ∧ cgo p f (it p k s) (G ++ orb p s k) ((List.range k).map fun j => it p (j + 1) s) = (G ++ orb p s t, (List.range t).map fun j => it p (j + 1) s)
  | 0, k, hk, hn => by
    have hk : k = n := by lia
    subst hk
    have hm : it p k s ∈ orb p s k := by
      have hsub : orb p s k ⊆ List.range k := fun x hx => by
        obtain ⟨j, hj, rfl⟩ := List.mem_map.mp hx
        exact List.mem_range.mpr (P.it_lt hs j)
      have hl : (orb p s k).length = k := by unfold orb; simp
      cases Classical.em (it p k s ∈ orb p s k) with
      | inl h => exact h
      | inr h =>
        have h2 := orb_nodup_succ P hs hn h
        have h3 := List.Nodup.length_le_of_subset h2 (l₂ := List.range k) (fun x hx => by
          rw [orb_succ] at hx
          rcases List.mem_append.mp hx with q | q
          · exact hsub q
          · rw [List.mem_singleton.mp q]; exact List.mem_range.mpr (P.it_lt hs k))
        rw [orb_succ, List.length_append, hl, List.length_range, List.length_singleton] at h3
        lia
    obtain ⟨h1, h2⟩ := orb_back P hs hn hm
    exact ⟨k, Nat.le_refl _, Nat.le_refl _, h1, h2, hn, rfl⟩
  | f + 1, k, hk, hn => by
    have nG : it p k s ∉ G := by
      clear hk hn
      induction k with
      | zero => exact hsG
      | succ k ih => exact fun q => ih ((hG _ (P.it_lt hs k)).mp q)
    by_cases hm : it p k s ∈ orb p s k
    · obtain ⟨h1, h2⟩ := orb_back P hs hn hm
      refine ⟨k, Nat.le_refl _, by lia, h1, h2, hn, ?_⟩
      unfold cgo
      rw [if_pos (List.mem_append_right _ hm)]
    · have h2 := orb_nodup_succ P hs hn hm
      obtain ⟨t, t1, t2, t3, t4, t5, t6⟩ := cgo_go hs hG hsG f (k + 1) (by lia) h2
      refine ⟨t, by lia, t2, t3, t4, t5, ?_⟩
      unfold cgo
      rw [if_neg (fun q => (List.mem_append.mp q).elim nG hm), ← t6, orb_succ, List.append_assoc]
      congr 1
      rw [List.range_succ, List.map_append]; rfl
end
end
section
structure Cy (n : Nat) (p : Nat → Nat) (c : List Nat) (s t : Nat) : Prop where
  sn : s < n
  t1 : 1 ≤ t
  tn : t ≤ n
  back : it p t s = s
  nd : (orb p s t).Nodup
  eq : c = (List.range t).map fun j => it p (j + 1) s
structure Seen (n : Nat) (p : Nat → Nat) (a : List Nat × List (List Nat)) : Prop where
  nd : a.1.Nodup
  sub : ∀ i ∈ a.1, i < n
  cl : ∀ i, i < n → (p i ∈ a.1 ↔ i ∈ a.1)
  fl : a.2.flatten.Perm a.1
  cy : ∀ c ∈ a.2, ∃ s t, Cy n p c s t
theorem Cy.len {n : Nat} {p : Nat → Nat} {c : List Nat} {s t : Nat} (y : Cy n p c s t) : c.length = t := by rw [y.eq]; simp
theorem Cy.perm {n : Nat} {p : Nat → Nat} {c : List Nat} {s t : Nat} (y : Cy n p c s t) : c.Perm (orb p s t) := by
  have h1 : orb p s (t + 1) = s :: c := by
    rw [y.eq]
    unfold orb
    rw [List.range_succ_eq_map, List.map_cons, List.map_map]
    rfl
  have h2 : orb p s (t + 1) = orb p s t ++ [s] := by rw [orb_succ, y.back]
  rw [h1] at h2
  have h3 : (s :: c).Perm (s :: orb p s t) := by rw [h2]; exact List.perm_append_comm
  exact h3.cons_inv
section
variable {n : Nat} {p : Nat → Nat} (P : Pm n p)
include P
theorem seen_step {a : List Nat × List (List Nat)} (S : Seen n p a) {st : Nat} (hs : st < n) : Seen n p (cstep p n a st) ∧ (∀ i ∈ a.1, i ∈ (cstep p n a st).1) ∧ st ∈ (cstep p n a st).1 := by
  by_cases hm : st ∈ a.1
  · have e : cgo p n st a.1 [] = (a.1, []) := by
      cases n with
      | zero => lia
      | succ n => unfold cgo; rw [if_pos hm]
    unfold cstep
    rw [e, if_pos rfl]
    exact ⟨S, fun i hi => hi, hm⟩
  · obtain ⟨t, t1, t2, t3, t4, t5, t6⟩ := cgo_go P hs S.cl hm n 0 (by lia) (by unfold orb; exact List.nodup_nil)
    have e : cgo p n st a.1 [] = (a.1 ++ orb p st t, (List.range t).map fun j => it p (j + 1) st) := by
      have e0 : a.1 ++ orb p st 0 = a.1 := by unfold orb; simp
      rw [e0] at t6
      exact t6
    have y : Cy n p ((List.range t).map fun j => it p (j + 1) st) st t := ⟨hs, t3, t2, t4, t5, rfl⟩
    have hne : (List.range t).map (fun j => it p (j + 1) st) ≠ [] := by
      intro q
      have := congrArg List.length q
      simp at this; lia
    have memO : ∀ x, x ∈ orb p st t ↔ ∃ j, j < t ∧ it p j st = x := fun x => by
      unfold orb; rw [List.mem_map]
      exact ⟨fun ⟨j, h1, h2⟩ => ⟨j, List.mem_range.mp h1, h2⟩, fun ⟨j, h1, h2⟩ => ⟨j, List.mem_range.mpr h1, h2⟩⟩
    have notG : ∀ j, it p j st ∉ a.1 := fun j => by
      induction j with
      | zero => exact hm
      | succ j ih => exact fun q => ih ((S.cl _ (P.it_lt hs j)).mp q)
    have clO : ∀ i, i < n → (p i ∈ orb p st t ↔ i ∈ orb p st t) := fun i hi => by
      rw [memO, memO]
      constructor
      · rintro ⟨j, hj, ej⟩
        cases j with
        | zero =>
          refine ⟨t - 1, by lia, P.inj _ _ (P.it_lt hs _) hi ?_⟩
          have : it p t st = p (it p (t - 1) st) := by
            cases t with
            | zero => lia
            | succ t => rfl
          rw [← this, t4]; exact ej
        | succ j => exact ⟨j, by lia, P.inj _ _ (P.it_lt hs _) hi ej⟩
      · rintro ⟨j, hj, ej⟩
        by_cases hl : j + 1 < t
        · exact ⟨j + 1, hl, by rw [← ej]; rfl⟩
        · have : j + 1 = t := by lia
          refine ⟨0, by lia, ?_⟩
          rw [← ej]
          show st = it p (j + 1) st
          rw [this, t4]
    unfold cstep
    rw [e, if_neg hne]
    refine ⟨⟨?_, fun i hi => ?_, fun i hi => ?_, ?_, fun c hc => ?_⟩, fun i hi => List.mem_append_left _ hi, List.mem_append_right _ ((memO _).mpr ⟨0, by lia, rfl⟩)⟩
    · refine List.nodup_append.mpr ⟨S.nd, t5, fun x hx y hy q => ?_⟩
      obtain ⟨j, _, rfl⟩ := (memO y).mp hy
      exact notG j (q ▸ hx)
    · rcases List.mem_append.mp hi with h | h
      · exact S.sub i h
      · obtain ⟨j, _, rfl⟩ := (memO i).mp h
        exact P.it_lt hs j
    · show p i ∈ a.1 ++ orb p st t ↔ i ∈ a.1 ++ orb p st t
      rw [List.mem_append, List.mem_append, S.cl i hi, clO i hi]
    · show (a.2 ++ [(List.range t).map fun j => it p (j + 1) st]).flatten.Perm (a.1 ++ orb p st t)
      rw [List.flatten_append, List.flatten_cons, List.flatten_nil, List.append_nil]
      exact S.fl.append y.perm
    · rcases List.mem_append.mp hc with h | h
      · exact S.cy c h
      · rw [List.mem_singleton.mp h]; exact ⟨st, t, y⟩
theorem seen_all : ∀ (l : List Nat) (a : List Nat × List (List Nat)), Seen n p a → (∀ i ∈ l, i < n) → Seen n p (l.foldl (cstep p n) a) ∧ (∀ i ∈ a.1, i ∈ (l.foldl (cstep p n) a).1) ∧ ∀ i ∈ l, i ∈ (l.foldl (cstep p n) a).1
  | [], a, S, _ => ⟨S, fun i hi => hi, fun i hi => by cases hi⟩
  | st :: l, a, S, hl => by
    obtain ⟨S1, m1, m2⟩ := seen_step P S (hl st (.head _))
    obtain ⟨S2, m3, m4⟩ := seen_all l _ S1 fun i hi => hl i (.tail _ hi)
    refine ⟨S2, fun i hi => m3 i (m1 i hi), fun i hi => ?_⟩
    rcases List.mem_cons.mp hi with rfl | hi
    · exact m3 _ m2
    · exact m4 i hi
theorem cyc_ok : (cyc p n).flatten.Perm (List.range n) ∧ ∀ c ∈ cyc p n, ∃ s t, Cy n p c s t := by
  have S0 : Seen n p ([], []) := ⟨List.nodup_nil, (fun i hi => nomatch hi), (fun i _ => ⟨(fun h => nomatch h), (fun h => nomatch h)⟩), List.Perm.refl _, (fun c hc => nomatch hc)⟩
  obtain ⟨S, _, m⟩ := seen_all P (List.range n) ([], []) S0 fun i hi => List.mem_range.mp hi
  refine ⟨S.fl.trans ((List.perm_ext_iff_of_nodup S.nd List.nodup_range).mpr fun i => ⟨fun h => List.mem_range.mpr (S.sub i h), fun h => m i h⟩), S.cy⟩
end
end
section
open PySem.NumText
variable {C : Cx} {A : Around} {k : Nat} {Lf : Addr} {m : Nat} {base : Int} {row : List UInt8} {ord : List Nat}
theorem left_lt {n here : Nat} {gone : List Nat} (h : here < n) (hg : here ∉ gone) : ((List.range n).filter fun j => decide (j ∉ gone ++ [here])).length < ((List.range n).filter fun j => decide (j ∉ gone)).length := by
  have e : (List.range n).filter (fun j => decide (j ∉ gone ++ [here])) = ((List.range n).filter fun j => decide (j ∉ gone)).filter fun j => decide (j ≠ here) := by
    rw [List.filter_filter]
    refine List.filter_congr fun j _ => ?_
    simp only [List.mem_append, List.mem_singleton, not_or, ne_eq]
    by_cases h1 : j ∈ gone <;> by_cases h2 : j = here <;> simp [h1, h2]
  rw [e, List.length_filter_lt_length_iff_exists]
  exact ⟨here, List.mem_filter.mpr ⟨List.mem_range.mpr h, by simpa using hg⟩, by simp⟩
theorem r_test (AO : AOk A (k + 2)) {st here : Nat} {rounds : List (List Int)} {gone : List Nat} {heard : List Int} {b : Bool} (h : (!decide (here ∈ gone)) = b) : TsS C A (en178 C.w Lf) (IE m base row ord st rounds gone heard here) (whTest (rW C.w)) b := by
  rw [← h]
  conv => arg 5; whnf
  exact ts_notin_own AO (ev_name rfl rfl) rfl rfl inPV_nats
theorem r_while (G : Good C) (AO : AOk A (k + 2)) (c : RowCtx m base row ord) {st : Nat} {rounds : List (List Int)} (f : Nat) : ∀ (here : Nat) (gone : List Nat) (heard : List Int), here < row.length → ((List.range row.length).filter fun j => decide (j ∉ gone)).length ≤ f → gone.length + f ≤ 200 → heard.length + f ≤ 200 →
    WhS C A (en178 C.w Lf) (whTest (rW C.w)) (whBody (rW C.w)) (IE m base row ord st rounds (rgo row ord f here gone heard).1 (rgo row ord f here gone heard).2.1 (rgo row ord f here gone heard).2.2) .next f (IE m base row ord st rounds gone heard here) := by
  induction f with
  | zero =>
    intro here gone heard hh hl hg hd
    have hm : here ∈ gone := Classical.byContradiction fun hm => by have := left_lt hh hm; lia
    exact .done (r_test AO (show (!decide (here ∈ gone)) = false by rw [decide_eq_true hm]; rfl)) rfl
  | succ f ih =>
    intro here gone heard hh hl hg hd
    by_cases hm : here ∈ gone
    · rw [show rgo row ord (f + 1) here gone heard = (gone, heard, here) from if_pos hm]
      exact .done (r_test AO (show (!decide (here ∈ gone)) = false by rw [decide_eq_true hm]; rfl)) rfl
    · rw [show rgo row ord (f + 1) here gone heard = rgo row ord f (ord.getD here 0) (gone ++ [here]) (heard ++ [rowAt row (ord.getD here 0)]) from if_neg hm]
      have h1 := left_lt hh hm
      exact .step (r_test AO (show (!decide (here ∈ gone)) = true by rw [decide_eq_false hm]; rfl)) (r_body G AO c hh (by lia) (by lia)) (ih _ _ _ (c.next hh).2 (by lia) (by rw [List.length_append, List.length_singleton]; lia) (by rw [List.length_append, List.length_singleton]; lia))
theorem rgo_gone : ∀ (f here : Nat) (gone : List Nat) (heard : List Int), (rgo row ord f here gone heard).1.length ≤ gone.length + f ∧ (rgo row ord f here gone heard).2.1.length ≤ heard.length + f
  | 0, here, gone, heard => ⟨Nat.le_refl _, Nat.le_refl _⟩
  | f + 1, here, gone, heard => by
    unfold rgo
    split
    · exact ⟨Nat.le_add_right _ _, Nat.le_add_right _ _⟩
    · obtain ⟨h1, h2⟩ := rgo_gone f (ord.getD here 0) (gone ++ [here]) (heard ++ [rowAt row (ord.getD here 0)])
      rw [List.length_append, List.length_singleton] at h1 h2
      exact ⟨by lia, by lia⟩
noncomputable def OE (m : Nat) (base : Int) (row : List UInt8) (ord : List Nat) (a : List Nat × List (List Int)) : PS :=
  [("row", .val (.bytes row)), ("base", .val (.int base)), ("mark", .val (.str (one m))), ("order", .val (.list (natsPV ord))), ("rounds", .own (a.2.map fun l => .list (intsPV l))), ("gone", .own (natsPV a.1))]
theorem r_start (G : Good C) (AO : AOk A (k + 2)) (c : RowCtx m base row ord) {st : Nat} {a : List Nat × List (List Int)} (hs : st < row.length) (h1 : a.1.length ≤ 100) (h2 : a.2.length ≤ 100) :
    ExA C A (en178 C.w Lf) (put (OE m base row ord a) "start" (.val (.int (st : Int)))) (forBody (nth C.w 178 3)) (put (OE m base row ord (rstep row ord a st)) "start" (.val (.int (st : Int)))) .next := by
  have hz := c.n7
  have hw := r_while (Lf := Lf) (st := st) (rounds := a.2) G AO c row.length st a.1 [] hs (Nat.le_trans (List.length_filter_le _ _) (by rw [List.length_range]; exact Nat.le_refl _)) (by lia) (by rw [List.length_nil]; lia)
  obtain ⟨g1, g2⟩ := rgo_gone (row := row) (ord := ord) row.length st a.1 []
  generalize hr : rgo row ord row.length st a.1 [] = r at hw g1 g2
  obtain ⟨gone, heard, here⟩ := r
  have er : rstep row ord a st = (gone, if heard = [] then a.2 else a.2 ++ [heard]) := by unfold rstep; rw [hr]
  rw [er]
  rw [List.length_nil] at g2
  simp only at hw g1 g2
  conv => arg 5; whnf
  refine ea_cons (S' := put (put (OE m base row ord a) "start" (.val (.int (st : Int)))) "heard" (.own [])) ?_ ?_
  · (with_reducible apply ex_own); (· exact Or.inl (by kernel_rfl)); (· kernel_rfl); (with_reducible apply el_list); (· exact EvAll.nil); (· rfl)
  refine ea_cons (S' := IE m base row ord st a.2 a.1 [] st) ?_ ?_
  · refine ex_set (d := .int (st : Int)) ?_ ?_ ?_; (· exact Or.inl (by kernel_rfl)); (· kernel_rfl); (· exact ev_name rfl rfl)
  refine ea_cons (S' := IE m base row ord st a.2 gone heard here) (ex_while hw) ?_
  (with_reducible apply ea_freeze (x := "heard")); (· rfl)
  have hnice : Nice 1 (.list (intsPV heard)) := .list _ _ nice_ints
  have hne : Cm .NotEq (.list (intsPV heard)) (.list []) (!decide (heard = [])) := by
    have := eqPV_nice hnice (.list 0 [] fun d hd => nomatch hd) (by decide) (by decide) (heard = []) (by
      constructor
      · intro h; injection h with h; unfold intsPV at h; exact List.map_eq_nil_iff.mp h
      · intro h; rw [h]; rfl)
    exact cm_ne this
  by_cases he : heard = []
  · subst he
    rw [if_pos rfl]
    rw [decide_eq_true rfl] at hne
    refine ExA.weaken (S' := put (IE m base row ord st a.2 gone [] here) "heard" (.val (.list (intsPV [])))) ?_ (.cons rfl (.cons rfl (.cons rfl (.cons rfl (.cons rfl (.cons rfl (.cons rfl .nil)))))))
    refine ea_one (ex_if (b := false) ?_ ea_nil)
    exact ts_cmp AO (by exact ev_name rfl rfl) (by ((with_reducible apply ev_list); (· exact EvAll.nil); (· exact lenOk_of (by decide)))) hne rfl
  · rw [if_neg he]
    rw [decide_eq_false he] at hne
    refine ExA.weaken (S' := put (put (IE m base row ord st a.2 gone heard here) "heard" (.val (.list (intsPV heard)))) "rounds" (.own ((a.2.map fun l => .list (intsPV l)) ++ [.list (intsPV heard)]))) ?_ (.cons rfl (.cons rfl (.cons rfl (.cons rfl (.cons (by rw [List.map_append]; rfl) (.cons rfl (.cons rfl .nil)))))))
    refine ea_one (ex_if (b := true) ?_ (ea_one ?_))
    · exact ts_cmp AO (by exact ev_name rfl rfl) (by ((with_reducible apply ev_list); (· exact EvAll.nil); (· exact lenOk_of (by decide)))) hne rfl
    · (with_reducible apply ex_append); (· rfl); (· rfl); (· exact ev_name rfl rfl); (· intro _; rfl); (· exact lenOk_of (by rw [List.length_map]; lia)); (· rfl)
end
section
open PySem.NumText
variable {C : Cx} {A : Around} {k : Nat} {Lf : Addr} {m : Nat} {base : Int} {row : List UInt8} {ord : List Nat}
theorem orderOf_ctx (hm : Mk m) (b0 : 0 ≤ base) (b1 : base < 1000000) (hn : few row.length) : RowCtx m base row (orderOf row) := by
  obtain ⟨p1, p2, p3⟩ := few_ev (pl_ord row) hn
  exact ⟨hm, b0, b1, hn, by unfold orderOf srt; rw [p1.length_eq, List.length_range], fun j hj => List.mem_range.mp (p1.mem_iff.mp hj)⟩
theorem range_nats (n : Nat) : rangeL 0 (n : Int) = (List.range n).map fun st : Nat => PV.int (st : Int) := by
  unfold rangeL
  rw [Int.sub_zero, Int.toNat_natCast]
  exact List.map_congr_left fun i _ => by rw [Int.zero_add]
theorem rstep_len (a : List Nat × List (List Int)) (st : Nat) : (rstep row ord a st).1.length ≤ a.1.length + row.length ∧ (rstep row ord a st).2.length ≤ a.2.length + 1 := by
  unfold rstep
  refine ⟨(rgo_gone _ _ _ _).1, ?_⟩
  dsimp only
  split
  · exact Nat.le_succ _
  · rw [List.length_append]; exact Nat.le_refl _
theorem law_rounds (G : Good C) (X : Lam C) (hm : Mk m) (b0 : 0 ≤ base) (b1 : base < 1000000) (hn : few row.length) : FnOk C 178 3 [.bytes row, .int base, .str (one m)] (.list ((roundsOf row (orderOf row)).map fun l => .list (intsPV l))) := by
  have c := orderOf_ctx hm b0 b1 hn
  have hz := c.n7
  apply fn_ok G.ok (fnIn_178 G) rfl (fl := .ret (.list ((roundsOf row (orderOf row)).map fun l => .list (intsPV l)))) rfl
  intro A L AO
  rw [body178]
  apply ea_cons (r_go0 (m := m) (base := base) (row := row) G X AO hn)
  apply ea_cons (S' := put (Ro1 m base row (orderOf row)) "rounds" (.own []))
  · conv => arg 5; whnf
    (with_reducible apply ex_own); (· exact Or.inl (by kernel_rfl)); (· kernel_rfl); (with_reducible apply el_list); (· exact EvAll.nil); (· rfl)
  apply ea_cons (S' := OE m base row (orderOf row) ([], []))
  · conv => arg 5; whnf
    refine ex_own ?_ ?_ ?_; (· exact Or.inl (by kernel_rfl)); (· kernel_rfl); (with_reducible apply el_list); (· exact EvAll.nil); (· rfl)
  apply ea_cons (S' := OE m base row (orderOf row) ((List.range row.length).foldl (rstep row (orderOf row)) ([], [])))
  · conv => arg 5; whnf
    have hl : row.length ≤ 3000 := by lia
    refine ex_for (ds := (List.range row.length).map fun st : Nat => PV.int (st : Int)) ?_ ?_ ?_
    · rw [← range_nats]
      refine it_range1 G.ok AO.hh (G.gl rfl) (by kernel_rfl) rfl ?_ (by lia)
      ((with_reducible apply EvAll.cons); (· ((with_reducible apply ev_bcall); (· exact G.ok); (· assumption); (· exact G.gl rfl); (· kernel_rfl); (· rfl); (· ((with_reducible apply EvAll.cons); (· exact ev_name rfl rfl); (· intros; rfl); (· exact EvAll.nil))); (· (refine bc_len_bytes ?_; assumption)))); (· intros; rfl); (· exact EvAll.nil))
    · refine ForS.foldI (OE m base row (orderOf row)) (fun st : Nat => PV.int (st : Int)) (rstep row (orderOf row)) (fun i a => a.1.length ≤ 7 * i ∧ a.2.length ≤ i ∧ i ≤ 7) (List.range row.length)
        (S1 := fun a st => put (OE m base row (orderOf row) a) "start" (.val (.int (st : Int)))) (S2 := fun a st => put (OE m base row (orderOf row) (rstep row (orderOf row) a st)) "start" (.val (.int (st : Int))))
        (fun i a x hx h => ?_) (fun a x => ?_) (fun i a x hx h => ?_) (fun a x => ?_) _ 0 ([], []) (List.drop_zero ..) (by simp)
      · have hi : i < row.length := by have := (List.getElem?_eq_some_iff.mp hx).1; simpa using this
        obtain ⟨q1, q2⟩ := rstep_len (row := row) (ord := orderOf row) a x
        exact ⟨by lia, by lia, by lia⟩
      · conv => arg 5; whnf
        exact tg_name (by exact Or.inl (by kernel_rfl))
      · have hi : x < row.length := List.mem_range.mp (List.mem_of_getElem? hx)
        exact r_start G AO c hi (by lia) (by lia)
      · exact .cons rfl (.cons rfl (.cons rfl (.cons rfl (.cons rfl (.cons rfl .nil)))))
    · intro _; rfl
  (with_reducible apply ea_freeze (x := "rounds")); (· rfl)
  conv => arg 5; whnf
  (with_reducible apply ea_stop)
  · refine ex_ret ?_
    exact ev_name rfl rfl
  · nofun
end
section
section
variable {C : Cx} {env : En} {F F' F'' F1 F2 : Fz} {M M' M'' : Mz} {h h' h'' h0 : Heap} {S S' S'' S₁ : PS} {A : Around} {s : Shared} {E : Value → Shared → Prop} {k : Nat} {pos : Pos} {wr : List Addr}
theorem ev_sortedX (O : C.Ok) {x : Str} {p : Pos} {a : Expr} {ds : List PV} {κ : SortKind} {le : Nat → Nat → Prop} {lt : Nat → Nat → Bool} (e : C.glob x = some (.builtin "sorted")) (hk : env.e.kindOf x = some .globalImplicit) (hd : (x == ("__debug__" : Str)) = false)
    (xa : EvAll C A env S [a] [.list ds]) (Or : Ord le lt) (hn : few ds.length) (X : ∀ F vs, IsAll F vs ds → Sorts C A.in1.in1 F vs κ lt) : EvX C A env S (.Call (.Name x p) [a] [] pos) (.list ((srt lt ds.length).map fun j => ds.getD j PV.none)) := .mk fun s F M R Q E kk => by
  refine Call_Name rfl ((ev_glob O (pos := p) e hk hd).run s F M R _ _ fun v h' tk F' g i => ?_)
  obtain rfl := isRaw i
  have R' := R.grow g
  refine Calls.callWith_builtin xa.plain (xa.args (s := { s with heap := h', toks := tk }) R' fun vs h2 tk2 F2 g2 i2 => ?_)
  cases i2 with
  | cons i r =>
    cases r
    cases i with
    | list fa lo iv =>
      have R2 := R'.grow g2
      refine sorted_plain (s := { s with heap := h2, toks := tk2 }) R2 Or ⟨_, R2.sub _ _ fa, lo.1, lo.2.1⟩ iv hn (X _ _ iv) fun v h3 tk3 F3 g3 R3 i3 => ?_
      exact kk v h3 tk3 F3 ((GrowL.of (g.trans g2)).trans' R2 g3) R3 i3
theorem ev_tcallX (O : C.Ok) (AO : AOk A k) {x : Str} {id : String} {a : Expr} {d0 d : PV} {p pos : Pos} (e : C.glob x = some (.type id)) (hk : env.e.kindOf x = some .globalImplicit) (hd : (x == ("__debug__" : Str)) = false)
    (xa : EvX C A env S a d0) (hst : ∀ en : Env, starEach [a] en = [(false, eval a en)]) (ok : BC (.type id) [d0] d) : EvX C A env S (.Call (.Name x p) [a] [] pos) d := .mk fun s F M R Q E kk => by
  refine Call_Name (trees := [(false, eval a env.e)]) (by rw [hst]; rfl) ((ev_glob O (pos := p) e hk hd).run s F M R _ _ fun v h' tk F' g i => ?_)
  obtain rfl := isRaw i
  have R' := R.grow g
  refine PyProof.Rows.callWith_type rfl (Calls.evalArgs_plain (spliced_cons (xa.run { s with heap := h', toks := tk } F' M R' _ _ fun v h2 tk2 F2 g2 R2 i2 => spliced_nil ?_)))
  exact ok.run (s := { s with heap := h2, toks := tk2 }) R2.toWd AO (.one i2) Q E fun v h3 tk3 F3 g3 i3 => kk v h3 tk3 F3 (((GrowL.of g).trans' R' g2).trans' R2 (.of g3)) (R2.grow g3) i3
end
end
section
open PySem.NumText
variable {C : Cx} {A : Around} {k : Nat} {Lf : Addr}
theorem fnIn_183 (G : Good C) : FnIn C 183 (fdAt C.w 183) (bodyAt C.w 183) ["rounds"] [] :=
  FnIn.m1 G (by kernel_rfl) (by kernel_rfl) (by kernel_rfl) (fun _ => by kernel_rfl) (by decide) (by kernel_rfl)
noncomputable abbrev en183 (w : World) (L : Addr) : En := calleeEn (fdAt w 183) [] L 183
theorem body183 (w : World) : bodyAt w 183 = [nth w 183 0, nth w 183 1, nth w 183 2] := by kernel_rfl
noncomputable def saidOf (heard : List Int) (t : Nat) : Int := 16 ^ 14 * numOf (heard.drop t ++ heard.take t) / (16 ^ heard.length - 1)
noncomputable def lastOf (heard : List Int) (t : Nat) : Int := heard.getD ((t + heard.length - 1) % heard.length) 0
noncomputable def turnOf (heard : List Int) (t : Nat) : List UInt8 × Int := (wordOf (saidOf heard t) 14, lastOf heard t)
noncomputable def turnsPV (l : List (List UInt8 × Int)) : List PV := l.map fun p => .tuple [.bytes p.1, .int p.2]
noncomputable def turnsOf (l : List (List UInt8 × Int)) (heard : List Int) : List (List UInt8 × Int) := (List.range heard.length).foldl (fun a t => a ++ [turnOf heard t]) l
noncomputable def turnedOf (rounds : List (List Int)) : List (List UInt8 × Int) := rounds.foldl turnsOf []
structure RoundOk (heard : List Int) : Prop where
  l1 : 1 ≤ heard.length
  l7 : heard.length ≤ 7
  ab : ∀ c ∈ heard, 65 ≤ c ∧ c ≤ 80
theorem num_bound : ∀ (l : List Int) (n : Int) (j : Nat), (∀ c ∈ l, 65 ≤ c ∧ c ≤ 80) → 0 ≤ n → n < 16 ^ j → 0 ≤ l.foldl (fun n c => 16 * n + c - 65) n ∧ l.foldl (fun n c => 16 * n + c - 65) n < 16 ^ (j + l.length)
  | [], n, j, _, h0, h1 => ⟨h0, h1⟩
  | c :: l, n, j, h, h0, h1 => by
    obtain ⟨q1, q2⟩ := h c (.head _)
    have e : (16 : Int) ^ (j + 1) = 16 * 16 ^ j := by rw [Int.pow_succ]; lia
    have := num_bound l (16 * n + c - 65) (j + 1) (fun d hd => h d (.tail _ hd)) (by lia) (by rw [e]; lia)
    rw [List.length_cons, show j + (l.length + 1) = j + 1 + l.length by lia]
    exact this
theorem numOf_bound {l : List Int} (h : ∀ c ∈ l, 65 ≤ c ∧ c ≤ 80) : 0 ≤ numOf l ∧ numOf l < 16 ^ l.length := by
  have := num_bound l 0 0 h (by lia) (by lia)
  rw [Nat.zero_add] at this
  exact this
theorem pow_bound {j : Nat} (h1 : 1 ≤ j) (h7 : j ≤ 7) : (0 : Int) < 16 ^ j - 1 ∧ (16 : Int) ^ j - 1 < 1073741824 ∧ (16 : Int) ^ j ≤ 268435456 := by
  have : j = 1 ∨ j = 2 ∨ j = 3 ∨ j = 4 ∨ j = 5 ∨ j = 6 ∨ j = 7 := by lia
  rcases this with h | h | h | h | h | h | h <;> subst h <;> decide
variable {heard : List Int}
theorem RoundOk.turned (r : RoundOk heard) (t : Nat) : (heard.drop t ++ heard.take t).length = heard.length ∧ ∀ c ∈ heard.drop t ++ heard.take t, 65 ≤ c ∧ c ≤ 80 := by
  refine ⟨by rw [List.length_append, List.length_drop, List.length_take]; lia, fun c hc => ?_⟩
  rcases List.mem_append.mp hc with h | h
  · exact r.ab c (List.mem_of_mem_drop h)
  · exact r.ab c (List.mem_of_mem_take h)
theorem RoundOk.said (r : RoundOk heard) (t : Nat) : 0 ≤ saidOf heard t ∧ saidOf heard t < 16 ^ 21 := by
  obtain ⟨h1, h2⟩ := r.turned t
  obtain ⟨n0, n1⟩ := numOf_bound h2
  obtain ⟨p1, p2, p3⟩ := pow_bound r.l1 r.l7
  rw [h1] at n1
  unfold saidOf
  generalize numOf (heard.drop t ++ heard.take t) = N at *
  generalize (16 : Int) ^ heard.length = P at *
  refine ⟨Int.ediv_nonneg (by lia) (by lia), ?_⟩
  refine Int.lt_of_le_of_lt (Int.ediv_le_self _ (by lia)) ?_
  have : (16 : Int) ^ 14 = 72057594037927936 := by decide
  have e2 : (16 : Int) ^ 21 = 19342813113834066795298816 := by decide
  rw [this, e2]; lia
theorem cut_from {l : List Int} {t : Nat} (h : t ≤ l.length) : cut (l.map PV.int) (some (t : Int)) none = (l.drop t).map PV.int := by
  unfold cut; simp [List.take_of_length_le]
theorem cut_to {l : List Int} {t : Nat} (h : t ≤ l.length) : cut (l.map PV.int) none (some (t : Int)) = (l.take t).map PV.int := by
  unfold cut; simp
theorem last_ix (r : RoundOk heard) {t : Nat} (ht : t < heard.length) : idx (heard.map PV.int) ((t : Int) - 1) = some (.int (lastOf heard t)) := by
  have h7 := r.l7
  unfold lastOf
  cases t with
  | zero =>
    have e : (0 + heard.length - 1) % heard.length = heard.length - 1 := by rw [Nat.zero_add]; exact Nat.mod_eq_of_lt (by lia)
    rw [e]
    refine idx_neg (by rw [List.length_map]; lia) (by lia) (by rw [List.length_map]; lia) ?_
    have e2 : (((0 : Nat) : Int) - 1 + ((heard.map PV.int).length : Nat)).toNat = heard.length - 1 := by rw [List.length_map]; lia
    rw [e2, List.getElem?_map, List.getElem?_eq_getElem (by lia)]
    simp [List.getD_eq_getElem?_getD, List.getElem?_eq_getElem (show heard.length - 1 < heard.length by lia)]
  | succ t =>
    have e : (t + 1 + heard.length - 1) % heard.length = t := by
      rw [show t + 1 + heard.length - 1 = t + heard.length by lia, Nat.add_mod_right]; exact Nat.mod_eq_of_lt (by lia)
    rw [e]
    refine idx_pos (by rw [List.length_map]; lia) (by lia) (by lia) ?_
    have e2 : (((t + 1 : Nat) : Int) - 1).toNat = t := by lia
    rw [e2, List.getElem?_map, List.getElem?_eq_getElem (by lia)]
    simp [List.getD_eq_getElem?_getD, List.getElem?_eq_getElem (show t < heard.length by lia)]
noncomputable def BE (rounds : List (List Int)) (tl : List (List UInt8 × Int)) : PS := [("rounds", .val (.list (rounds.map fun l => .list (intsPV l)))), ("turned", .own (turnsPV tl))]
noncomputable def BI (rounds : List (List Int)) (heard : List Int) (tl : List (List UInt8 × Int)) : PS := [("rounds", .val (.list (rounds.map fun l => .list (intsPV l)))), ("turned", .own (turnsPV tl)), ("heard", .val (.list (intsPV heard)))]
theorem b_turn (G : Good C) (AO : AOk A (k + 2)) (r : RoundOk heard) {rounds : List (List Int)} {t : Nat} (ht : t < heard.length) {tl : List (List UInt8 × Int)} (hl : tl.length ≤ 2000) :
    ExA C A (en183 C.w Lf) (put (BI rounds heard tl) "turn" (.val (.int (t : Int)))) (forBody (forBody1 (nth C.w 183 1))) (put (put (BI rounds heard (tl ++ [turnOf heard t])) "turn" (.val (.int (t : Int)))) "said" (.val (.int (saidOf heard t)))) .next := by
  obtain ⟨s0, s1⟩ := r.said t
  obtain ⟨p1, p2, p3⟩ := pow_bound r.l1 r.l7
  have h7 := r.l7
  have hlen : (intsPV heard).length = heard.length := by unfold intsPV; rw [List.length_map]
  have e1 : turnsPV tl ++ [PV.tuple [.bytes (wordOf (saidOf heard t) 14), .int (lastOf heard t)]] = turnsPV (tl ++ [turnOf heard t]) := by unfold turnsPV; rw [List.map_append]; rfl
  refine ExA.weaken (S' := put (put (put (BI rounds heard tl) "turn" (.val (.int (t : Int)))) "said" (.val (.int (saidOf heard t)))) "turned" (.own (turnsPV tl ++ [PV.tuple [.bytes (wordOf (saidOf heard t) 14), .int (lastOf heard t)]]))) ?_ (.cons rfl (.cons (by rw [← e1]; rfl) (.cons rfl (.cons rfl (.cons rfl .nil)))))
  conv => arg 5; whnf
  (with_reducible apply ea_cons)
  · refine ex_set (d := .int (saidOf heard t)) (by exact Or.inl (by kernel_rfl)) (by kernel_rfl) ?_
    unfold saidOf
    refine ev_binop (a := .int (16 ^ 14 * numOf (heard.drop t ++ heard.take t))) (b := .int (16 ^ heard.length - 1)) ?_ ?_ (bo_div p1 p2)
    · refine ev_binop (a := .int (16 ^ 14)) (b := .int (numOf (heard.drop t ++ heard.take t))) ?_ ?_ (bo_mul_int (.inl (by decide)))
      · exact ev_binop (a := .int 16) (b := .int 14) ev_int ev_int (bo_pow (by decide) (by decide) (by decide))
      · refine ev_call (ds := [.list ((heard.drop t ++ heard.take t).map .int)]) G.ok AO (G.gl rfl) (by kernel_rfl) rfl (G.kf (by kernel_rfl)) ?_ (FnOk.le (law_number G _) (by lia))
        (with_reducible apply EvAll.cons); rotate_left; (· intros; rfl); (· exact .nil)
        rw [List.map_append]
        refine ev_binop (a := .list ((heard.drop t).map .int)) (b := .list ((heard.take t).map .int)) ?_ ?_ (bo_add_list (by rw [List.length_map, List.length_drop]; lia) (by rw [List.length_map, List.length_take]; lia))
        · refine ev_slice (a := .list (intsPV heard)) (lo := some (t : Int)) (hi := none) (by exact ev_name rfl rfl) (.val (by exact ev_name rfl rfl)) .nil ?_
          rw [← cut_from (Nat.le_of_lt ht)]
          exact sl_list (by lia) (nonneg_some (by lia)) nonneg_none
        · refine ev_slice (a := .list (intsPV heard)) (lo := none) (hi := some (t : Int)) (by exact ev_name rfl rfl) .nil (.val (by exact ev_name rfl rfl)) ?_
          rw [← cut_to (Nat.le_of_lt ht)]
          exact sl_list (by lia) nonneg_none (nonneg_some (by lia))
    · refine ev_binop (a := .int (16 ^ heard.length)) (b := .int 1) ?_ ev_int bo_sub_int
      have : Bo .Pow (.int 16) (.int ((intsPV heard).length : Nat)) (.int (16 ^ heard.length)) := by
        rw [hlen]
        have := bo_pow (a := 16) (n := (heard.length : Int)) (by lia) (by lia) (by decide)
        rw [Int.toNat_natCast] at this
        exact this
      refine ev_binop (a := .int 16) (b := .int ((intsPV heard).length : Nat)) ev_int ?_ this
      exact ev_bcall (ds := [.list (intsPV heard)]) G.ok AO (G.gl rfl) (by kernel_rfl) rfl (by ((with_reducible apply EvAll.cons); (· exact ev_name rfl rfl); (· intros; rfl); (· exact EvAll.nil))) (bc_len_list (by lia))
  (with_reducible apply ea_cons)
  · refine ex_append (d := .tuple [.bytes (wordOf (saidOf heard t) 14), .int (lastOf heard t)]) rfl rfl ?_ (fun _ => rfl) (lenOk_of (by unfold turnsPV; rw [List.length_map]; lia)) rfl
    (with_reducible apply ev_tuple); rotate_left; (· exact lenOk_of (by simp))
    (with_reducible apply EvAll.cons)
    · refine ev_call (ds := [.int (saidOf heard t), .int 14]) G.ok AO (G.gl rfl) (by kernel_rfl) rfl (G.kf (by kernel_rfl)) (by ((with_reducible apply EvAll.cons); (· exact ev_name rfl rfl); (· intros; rfl); (· ((with_reducible apply EvAll.cons); (· exact ev_int); (· intros; rfl); (· exact EvAll.nil))))) (FnOk.le (law_word G _ _ ?_ (by decide)) (by lia))
      rw [if_neg (by lia)]
      refine Int.lt_of_lt_of_le s1 ?_
      exact Int.le_of_lt (by decide)
    · intros; rfl
    (with_reducible apply EvAll.cons); rotate_left; (· intros; rfl); (· exact .nil)
    refine ev_sub (a := .list (intsPV heard)) (b := .int ((t : Int) - 1)) (by exact ev_name rfl rfl) ?_ (sb_list (last_ix r ht)) rfl
    ((with_reducible apply ev_binop); (· exact ev_name rfl rfl); (· exact ev_int); (· exact bo_sub_int))
  (with_reducible apply ea_nil)
theorem b_heard (G : Good C) (AO : AOk A (k + 2)) (r : RoundOk heard) {rounds : List (List Int)} {tl : List (List UInt8 × Int)} (hl : tl.length ≤ 1900) :
    ExA C A (en183 C.w Lf) (BI rounds heard tl) (forBody (nth C.w 183 1)) (BI rounds heard (turnsOf tl heard)) .next := by
  have h7 := r.l7
  have hlen : (intsPV heard).length = heard.length := by unfold intsPV; rw [List.length_map]
  conv => arg 5; whnf
  (with_reducible apply ea_one)
  refine ex_for (ds := (List.range heard.length).map fun st : Nat => PV.int (st : Int)) ?_ ?_ ?_
  · rw [← range_nats]
    refine it_range1 G.ok AO.hh (G.gl rfl) (by kernel_rfl) rfl ?_ (by lia)
    (with_reducible apply EvAll.cons); rotate_left; (· intros; rfl); (· exact .nil)
    rw [← hlen]
    exact ev_bcall (ds := [.list (intsPV heard)]) G.ok AO (G.gl rfl) (by kernel_rfl) rfl (by ((with_reducible apply EvAll.cons); (· exact ev_name rfl rfl); (· intros; rfl); (· exact EvAll.nil))) (bc_len_list (by lia))
  · refine ForS.foldI (BI rounds heard) (fun st : Nat => PV.int (st : Int)) (fun a t => a ++ [turnOf heard t]) (fun i a => a.length ≤ 1900 + i ∧ i ≤ 7) (List.range heard.length)
      (S1 := fun a t => put (BI rounds heard a) "turn" (.val (.int (t : Int)))) (S2 := fun a t => put (put (BI rounds heard (a ++ [turnOf heard t])) "turn" (.val (.int (t : Int)))) "said" (.val (.int (saidOf heard t))))
      (fun i a x hx h => ?_) (fun a x => ?_) (fun i a x hx h => ?_) (fun a x => ?_) _ 0 tl (List.drop_zero ..) ⟨by lia, by lia⟩
    · have hi : i < heard.length := (range_get hx).2
      exact ⟨by rw [List.length_append, List.length_singleton]; lia, by lia⟩
    · conv => arg 5; whnf
      exact tg_name (by exact Or.inl (by kernel_rfl))
    · exact b_turn G AO r (by have := range_get hx; lia) (by lia)
    · exact .cons rfl (.cons rfl (.cons rfl .nil))
  · intro _; rfl
end
section
open PySem.NumText
variable {C : Cx} {A : Around} {k : Nat} {Lf : Addr}
noncomputable def tlW (tl : List (List UInt8 × Int)) (i : Nat) : List UInt8 := (tl.getD i ([], 0)).1
noncomputable def tlB (tl : List (List UInt8 × Int)) (i : Nat) : Int := (tl.getD i ([], 0)).2
noncomputable def bkLt (tl : List (List UInt8 × Int)) : Nat → Nat → Bool := pairLt (fun i j => decide (tlW tl i = tlW tl j)) (fun i j => bLt (tlW tl i) (tlW tl j)) (tlB tl)
noncomputable def backL (rounds : List (List Int)) : List Int := (srt (bkLt (turnedOf rounds)) (turnedOf rounds).length).map (tlB (turnedOf rounds))
noncomputable def backOf (rounds : List (List Int)) : List UInt8 := bytesOf (backL rounds)
theorem turns_pairs (tl : List (List UInt8 × Int)) : turnsPV tl = (List.range tl.length).map (pairPV (fun i => .bytes (tlW tl i)) (tlB tl)) := by
  unfold turnsPV
  refine List.ext_getElem (by simp) fun i h1 h2 => ?_
  have hi : i < tl.length := by simpa using h1
  rw [List.getElem_map, List.getElem_map, List.getElem_range]
  have e : tl.getD i ([], 0) = tl[i] := by simp [hi]
  unfold pairPV tlW tlB
  simp only [e]
theorem back_ret (G : Good C) (AO : AOk A (k + 2)) {rounds : List (List Int)} {tl : List (List UInt8 × Int)} (hn : few tl.length) (hb : ∀ j, j < tl.length → 0 ≤ tlB tl j ∧ tlB tl j < 256) {S : PS} (hS : get S "turned" = some (.val (.list (turnsPV tl)))) :
    ExS C A (en183 C.w Lf) S (nth C.w 183 2) S (.ret (.bytes (bytesOf ((srt (bkLt tl) tl.length).map (tlB tl))))) := by
  have hl : (turnsPV tl).length = tl.length := by unfold turnsPV; rw [List.length_map]
  have O := pair_ord so_bytes (tlW tl) (tlB tl)
  obtain ⟨q1, q2, q3⟩ := few_ev O hn
  have hm : ∀ j ∈ srt (bkLt tl) tl.length, j < tl.length := fun j hj => List.mem_range.mp (q1.mem_iff.mp hj)
  have hsl : (srt (bkLt tl) tl.length).length = tl.length := by unfold srt; exact (List.Perm.length_eq q1).trans List.length_range
  have e : (srt (bkLt tl) (turnsPV tl).length).map (fun j => (turnsPV tl).getD j PV.none) = (srt (bkLt tl) tl.length).map (pairPV (fun i => .bytes (tlW tl i)) (tlB tl)) := by
    rw [hl]
    refine List.map_congr_left fun j hj => ?_
    have := hm j hj
    rw [turns_pairs, List.getD_eq_getElem?_getD, List.getElem?_map, List.getElem?_range this]
    rfl
  have h7 : tl.length ≤ 7 := by rcases hn with h | h | h <;> lia
  conv => arg 5; whnf
  refine ex_retX ?_
  refine ev_tcallX (d0 := .list (((srt (bkLt tl) tl.length).map (tlB tl)).map .int)) G.ok AO (G.gl rfl) (by kernel_rfl) rfl ?_ (fun _ => rfl) (bc_bytes (by rw [List.length_map, hsl]; lia) fun n hn => ?_)
  · refine evx_comp (S₁ := []) (own := none) (cl := []) (ds := (srt (bkLt tl) tl.length).map (pairPV (fun i => .bytes (tlW tl i)) (tlB tl))) (co := none) (fit_none ?_ ?_ rfl ?_) (it_listX AO.hh ?_) (fun a o ho hex => ?_) ?_ (fun _ => rfl)
    · decide
    · intro h n acc; exact ⟨rfl, rfl⟩
    · decide
    · rw [← e]
      refine ev_sortedX (κ := tuples' true) (lt := bkLt tl) G.ok (G.gl rfl) (by kernel_rfl) rfl (.cons (ev_name hS rfl) (fun _ _ => rfl) .nil) O (by rw [hl]; exact hn) fun F vs iv => ?_
      rw [turns_pairs] at iv
      exact pair_sorts (fst_bytes (tlW tl)) (by rcases hn with h | h | h <;> lia) iv
    · rw [List.map_map]
      apply CmpS.map (S₀ := []) (pairPV (fun i => .bytes (tlW tl i)) (tlB tl)) (fun j => .int (tlB tl j)) (fun _ => True) (S1 := fun j => put (put [] "said" (.val (.bytes (tlW tl j)))) "last" (.val (.int (tlB tl j)))) _ Sub.nil (fun _ _ => trivial)
      · intro j _
        show TgS _ _ _ _ _ (.tuple [.bytes (tlW tl j), .int (tlB tl j)]) _
        (with_reducible apply unpack2); (· exact AO.hh); (· exact Or.inl (by kernel_rfl)); (· exact Or.inl (by kernel_rfl))
      · intro j; exact Sub.nil
      · intro j _; exact ev_name rfl rfl
    · exact lenOk_of (by rw [List.length_map, hsl]; lia)
  · obtain ⟨j, hj, rfl⟩ := List.mem_map.mp hn
    exact hb j (hm j hj)
theorem turnsOf_eq (tl : List (List UInt8 × Int)) (heard : List Int) : turnsOf tl heard = tl ++ (List.range heard.length).map (turnOf heard) := by
  unfold turnsOf
  generalize List.range heard.length = l
  induction l generalizing tl with
  | nil => simp
  | cons t l ih => rw [List.foldl_cons, ih]; simp
theorem turned_eq (rounds : List (List Int)) : turnedOf rounds = (rounds.map fun heard => (List.range heard.length).map (turnOf heard)).flatten := by
  unfold turnedOf
  suffices h : ∀ tl, rounds.foldl turnsOf tl = tl ++ (rounds.map fun heard => (List.range heard.length).map (turnOf heard)).flatten by rw [h, List.nil_append]
  induction rounds with
  | nil => intro tl; simp
  | cons heard rounds ih => intro tl; rw [List.foldl_cons, ih, turnsOf_eq]; simp
theorem last_mem {heard : List Int} {t : Nat} (r : RoundOk heard) : lastOf heard t ∈ heard := by
  have hl : (t + heard.length - 1) % heard.length < heard.length := Nat.mod_lt _ (by have := r.l1; lia)
  unfold lastOf
  rw [List.getD_eq_getElem?_getD, List.getElem?_eq_getElem hl]
  exact List.getElem_mem hl
theorem turned_last {rounds : List (List Int)} (hr : ∀ h ∈ rounds, RoundOk h) : ∀ p ∈ turnedOf rounds, 65 ≤ p.2 ∧ p.2 ≤ 80 := fun p hp => by
  rw [turned_eq] at hp
  obtain ⟨l, hl, hp⟩ := List.mem_flatten.mp hp
  obtain ⟨heard, hh, rfl⟩ := List.mem_map.mp hl
  obtain ⟨t, ht, rfl⟩ := List.mem_map.mp hp
  exact (hr _ hh).ab _ (last_mem (hr _ hh))
theorem law_back (G : Good C) {rounds : List (List Int)} (hr : ∀ h ∈ rounds, RoundOk h) (hl : rounds.length ≤ 7) (hn : few (turnedOf rounds).length) : FnOk C 183 3 [.list (rounds.map fun l => .list (intsPV l))] (.bytes (backOf rounds)) := by
  apply fn_ok G.ok (fnIn_183 G) rfl (fl := .ret (.bytes (backOf rounds))) rfl
  intro A L AO
  rw [body183]
  apply ea_cons (S' := BE rounds [])
  · conv => arg 5; whnf
    refine ex_own ?_ ?_ ?_; (· exact Or.inl (by kernel_rfl)); (· kernel_rfl); (with_reducible apply el_list); (· exact EvAll.nil); (· rfl)
  apply ea_cons (S' := BE rounds (rounds.foldl turnsOf []))
  · conv => arg 5; whnf
    refine ex_for (it_list AO.hh (by exact ev_name rfl rfl)) ?_ (fun _ => rfl)
    refine ForS.foldI (BE rounds) (fun l : List Int => PV.list (intsPV l)) turnsOf (fun i a => a.length ≤ 7 * i ∧ i ≤ 7) rounds
      (S1 := fun a heard => BI rounds heard a) (S2 := fun a heard => BI rounds heard (turnsOf a heard))
      (fun i a x hx h => ?_) (fun a x => ?_) (fun i a x hx h => ?_) (fun a x => ?_) _ 0 [] (List.drop_zero ..) ⟨Nat.zero_le _, Nat.zero_le _⟩
    · have hi := (List.getElem?_eq_some_iff.mp hx).1
      have := (hr x (List.mem_of_getElem? hx)).l7
      exact ⟨by rw [turnsOf_eq, List.length_append, List.length_map, List.length_range]; lia, by lia⟩
    · conv => arg 5; whnf
      exact tg_name (by exact Or.inl (by kernel_rfl))
    · exact b_heard G AO (hr x (List.mem_of_getElem? hx)) (by lia)
    · exact .cons rfl (.cons rfl .nil)
  (with_reducible apply ea_freeze (x := "turned")); (· rfl)
  (with_reducible apply ea_stop)
  · refine back_ret (rounds := rounds) (tl := turnedOf rounds) G AO hn (fun j hj => ?_) rfl
    have : tlB (turnedOf rounds) j = (turnedOf rounds)[j].2 := by unfold tlB; simp [hj]
    rw [this]
    have := turned_last hr _ (List.getElem_mem hj)
    lia
  · nofun
end
section
noncomputable def val (ds : List Nat) : Nat := ds.foldl (fun n d => 16 * n + d) 0
theorem val_from : ∀ (ds : List Nat) (n : Nat), ds.foldl (fun n d => 16 * n + d) n = n * 16 ^ ds.length + val ds
  | [], n => by simp [val]
  | d :: ds, n => by
    have hv : val (d :: ds) = d * 16 ^ ds.length + val ds := by
      show List.foldl (fun n d => 16 * n + d) (16 * 0 + d) ds = _
      rw [val_from ds, Nat.mul_zero, Nat.zero_add]
    rw [List.foldl_cons, val_from ds, hv, List.length_cons, Nat.pow_succ, Nat.add_mul]
    have : 16 * n * 16 ^ ds.length = n * (16 ^ ds.length * 16) := by rw [Nat.mul_comm 16 n, Nat.mul_assoc, Nat.mul_comm 16]
    lia
theorem val_cons (d : Nat) (ds : List Nat) : val (d :: ds) = d * 16 ^ ds.length + val ds := by
  unfold val
  rw [List.foldl_cons, val_from]; simp [val]
theorem val_snoc (ds : List Nat) (d : Nat) : val (ds ++ [d]) = 16 * val ds + d := by unfold val; rw [List.foldl_append]; rfl
theorem val_lt : ∀ ds : List Nat, (∀ d ∈ ds, d < 16) → val ds < 16 ^ ds.length
  | [], _ => by simp [val]
  | d :: ds, h => by
    have ih := val_lt ds fun e he => h e (.tail _ he)
    have hd := h d (.head _)
    rw [val_cons, List.length_cons, Nat.pow_succ]
    have : d * 16 ^ ds.length ≤ 15 * 16 ^ ds.length := Nat.mul_le_mul_right _ (by lia)
    lia
theorem val_small : ∀ ds : List Nat, ds ≠ [] → (∀ d ∈ ds, d < 8) → val ds < 16 ^ ds.length - 1
  | [], h, _ => absurd rfl h
  | d :: ds, _, h => by
    have ih := val_lt ds fun e he => by have := h e (.tail _ he); lia
    have hd := h d (.head _)
    rw [val_cons, List.length_cons, Nat.pow_succ]
    have : d * 16 ^ ds.length ≤ 7 * 16 ^ ds.length := Nat.mul_le_mul_right _ (by lia)
    have hp : 0 < 16 ^ ds.length := Nat.pow_pos (by decide)
    lia
theorem frac (L : Nat) (hL : 1 ≤ L) : ∀ (m : Nat) (g : Nat → Nat), (∀ k, g k < 8) → (∀ k, g (k + L) = g k) → 16 ^ m * val ((List.range L).map g) / (16 ^ L - 1) = val ((List.range m).map g)
  | 0, g, h8, hp => by
    have := val_small ((List.range L).map g) (by intro q; have := congrArg List.length q; simp at this; lia) (fun d hd => by obtain ⟨k, _, rfl⟩ := List.mem_map.mp hd; exact h8 k)
    rw [List.length_map, List.length_range] at this
    rw [Nat.pow_zero, Nat.one_mul, Nat.div_eq_of_lt this]
    rfl
  | m + 1, g, h8, hp => by
    have ih := frac L hL m (fun k => g (k + 1)) (fun k => h8 _) fun k => by show g (k + L + 1) = g (k + 1); rw [show k + L + 1 = k + 1 + L by lia]; exact hp _
    obtain ⟨l, rfl⟩ : ∃ l, L = l + 1 := ⟨L - 1, by lia⟩
    have e1 : (List.range (l + 1)).map g = g 0 :: (List.range l).map fun k => g (k + 1) := by rw [List.range_succ_eq_map, List.map_cons, List.map_map]; rfl
    have e2 : (List.range (l + 1)).map (fun k => g (k + 1)) = ((List.range l).map fun k => g (k + 1)) ++ [g 0] := by
      rw [List.range_succ, List.map_append]
      have : g (l + 1) = g 0 := by have := hp 0; rw [Nat.zero_add] at this; exact this
      show _ ++ [g (l + 1)] = _
      rw [this]
    have e3 : (List.range (m + 1)).map g = g 0 :: (List.range m).map fun k => g (k + 1) := by rw [List.range_succ_eq_map, List.map_cons, List.map_map]; rfl
    have hpos : 0 < 16 ^ l := Nat.pow_pos (by decide)
    have key : 16 * val ((List.range (l + 1)).map g) = g 0 * (16 ^ (l + 1) - 1) + val ((List.range (l + 1)).map fun k => g (k + 1)) := by
      rw [e1, e2, val_cons, val_snoc, List.length_map, List.length_range, Nat.pow_succ, Nat.mul_sub, Nat.mul_add]
      have h1 : g 0 * (16 ^ l * 16) = 16 * (g 0 * 16 ^ l) := by rw [Nat.mul_comm (16 ^ l), ← Nat.mul_assoc, Nat.mul_comm (g 0) 16, Nat.mul_assoc]
      have h2 : g 0 ≤ g 0 * 16 ^ l := Nat.le_mul_of_pos_right _ hpos
      rw [h1]
      lia
    have hP : 0 < 16 ^ (l + 1) - 1 := by rw [Nat.pow_succ]; lia
    rw [Nat.pow_succ, Nat.mul_assoc, key, Nat.mul_add, ← Nat.mul_assoc, Nat.mul_comm (16 ^ m * g 0), Nat.mul_add_div hP, ih, e3, val_cons, List.length_map, List.length_range, Nat.mul_comm (16 ^ m)]
end
section
noncomputable def ltr (d : Nat) : UInt8 := (65 + d).toUInt8
theorem cut_ap : ∀ d : Fin 16, cut apL (some (d.val : Int)) (some ((d.val : Int) + 1)) = [ltr d.val] := by decide +kernel
theorem val_zero : ∀ ds : List Nat, val ds = 0 → ∀ d ∈ ds, d = 0
  | [], _, d, hd => by cases hd
  | e :: ds, h, d, hd => by
    rw [val_cons] at h
    have hp : 0 < 16 ^ ds.length := Nat.pow_pos (by decide)
    have h1 : e * 16 ^ ds.length = 0 := by lia
    have h2 : e = 0 := by
      rcases Nat.mul_eq_zero.mp h1 with q | q
      · exact q
      · lia
    rcases List.mem_cons.mp hd with rfl | hd
    · exact h2
    · exact val_zero ds (by lia) d hd
theorem drop_zero : ∀ ds : List Nat, (∀ d ∈ ds, d = 0) → ds.dropWhile (· == 0) = []
  | [], _ => rfl
  | d :: ds, h => by
    rw [List.dropWhile_cons, h d (.head _)]
    exact drop_zero ds fun e he => h e (.tail _ he)
theorem zero_drop : ∀ ds : List Nat, ds.dropWhile (· == 0) = [] → ∀ d ∈ ds, d = 0
  | [], _, d, hd => by cases hd
  | e :: ds, h, d, hd => by
    rw [List.dropWhile_cons] at h
    split at h
    · rename_i q
      have he : e = 0 := by simpa using q
      rcases List.mem_cons.mp hd with rfl | hd
      · exact he
      · exact zero_drop ds h d hd
    · cases h
theorem val_all0 : ∀ ds : List Nat, (∀ d ∈ ds, d = 0) → val ds = 0
  | [], _ => rfl
  | d :: ds, h => by rw [val_cons, h d (.head _), val_all0 ds fun e he => h e (.tail _ he)]; simp
theorem apGo_val : ∀ (f : Nat) (ds : List Nat) (v : List UInt8), (∀ d ∈ ds, d < 16) → ds.length ≤ f → apGo f (val ds : Nat) v = (ds.dropWhile (· == 0)).map ltr ++ v
  | 0, ds, v, h, hl => by
    have : ds = [] := List.eq_nil_of_length_eq_zero (by lia)
    subst this; rfl
  | f + 1, ds, v, h, hl => by
    unfold apGo
    by_cases h0 : val ds = 0
    · rw [if_pos (by rw [h0]; rfl), drop_zero ds (val_zero ds h0)]; rfl
    · rw [if_neg (by lia)]
      rcases List.eq_nil_or_concat ds with q | ⟨ds0, d, q⟩
      · subst q; exact absurd rfl h0
      · have q : ds = ds0 ++ [d] := by rw [q]; simp
        subst q
        have hd : d < 16 := h d (by simp)
        rw [List.length_append, List.length_singleton] at hl
        rw [val_snoc] at h0 ⊢
        have e1 : (((16 * val ds0 + d : Nat) : Int)) / 16 = (val ds0 : Nat) := by lia
        have e2 : (((16 * val ds0 + d : Nat) : Int)) % 16 = (d : Nat) := by lia
        rw [e1, e2, cut_ap ⟨d, hd⟩, apGo_val f ds0 _ (fun e he => h e (List.mem_append_left _ he)) (by lia), List.dropWhile_append]
        split
        · rename_i hz
          have hz : ds0.dropWhile (· == 0) = [] := by simpa using hz
          have hv := val_all0 ds0 (zero_drop ds0 hz)
          have hd0 : d ≠ 0 := by lia
          rw [hz, List.dropWhile_cons]
          rw [if_neg (by simpa using hd0)]
          rfl
        · rw [List.map_append, List.append_assoc]; rfl
theorem ltr_zero : ltr 0 = 65 := by decide
theorem pad : ∀ ds : List Nat, (List.replicate (ds.length - (ds.dropWhile (· == 0)).length) (65 : UInt8)) ++ (ds.dropWhile (· == 0)).map ltr = ds.map ltr
  | [] => rfl
  | d :: ds => by
    rw [List.dropWhile_cons]
    split
    · rename_i q
      have he : d = 0 := by simpa using q
      subst he
      have hl : (ds.dropWhile (· == 0)).length ≤ ds.length := (List.dropWhile_sublist _).length_le
      rw [List.length_cons, Nat.succ_sub hl, List.replicate_succ, List.cons_append, pad ds, List.map_cons, ltr_zero]
    · rw [Nat.sub_self]; rfl
theorem rep65 (k : Nat) : (List.replicate k ([65] : List UInt8)).flatten = List.replicate k 65 := by
  induction k with
  | zero => rfl
  | succ k ih => rw [List.replicate_succ, List.flatten_cons, ih, List.replicate_succ]; rfl
theorem word_val (ds : List Nat) (h : ∀ d ∈ ds, d < 16) (hl : ds.length ≤ 160) (z : Int) (hz : z = (val ds : Nat) ∨ z = -((val ds : Nat) : Int)) : wordOf z (ds.length : Int) = ds.map ltr := by
  have ha : (if z < 0 then -z else z) = (val ds : Nat) := by rcases hz with q | q <;> subst q <;> split <;> lia
  have hd : (ds.dropWhile (· == 0)).length ≤ ds.length := (List.dropWhile_sublist _).length_le
  have e : apOf z = (ds.dropWhile (· == 0)).map ltr := by
    unfold apOf
    rw [ha, apGo_val 160 ds [] h hl, List.append_nil]
  unfold wordOf
  rw [e, rep65, List.length_map]
  have e2 : ((ds.length : Int) - ((ds.dropWhile (· == 0)).length : Nat)).toNat = ds.length - (ds.dropWhile (· == 0)).length := by lia
  rw [e2, pad]
end
section
section
variable {prog : Program} {w : World} {A : Around} {R : Result → Shared → Prop} {s : Shared}
theorem compTurn_in (elt target iter : Expr) (ifs : List Expr) (g0 : Comprehension) (scope : Scope) (pos : Pos) (it acc : Value) (env : Env) :
    compTurn (.ListComp elt [g0, ⟨target, iter, ifs, 0⟩] scope pos) 1 it acc env = (do
      standAt iter.pos
      match ← pyNext it with
      | none => pure (.done .next)
      | some v =>
        letOwnedTupleGo target it v
        assign target env v
        let mut ok := true
        for c in ifs do
          if ok then ok ← isTrue c env (eval c env)
        if ok then
          (do let _ ← call (.builtin "list.append") [acc, ← eval elt env])
        again (.compLoop (.ListComp elt [g0, ⟨target, iter, ifs, 0⟩] scope pos) 1 it acc env)) := by rfl
theorem compTurn_out (elt t0 i0 t1 i1 : Expr) (ifs : List Expr) (scope : Scope) (pos : Pos) (it acc : Value) (env : Env) :
    compTurn (.ListComp elt [⟨t0, i0, [], 0⟩, ⟨t1, i1, ifs, 0⟩] scope pos) 0 it acc env = (do
      standAt i0.pos
      match ← pyNext it with
      | none => pure (.done .next)
      | some v =>
        letOwnedTupleGo t0 it v
        assign t0 env v
        let mut ok := true
        for c in ([] : List Expr) do
          if ok then ok ← isTrue c env (eval c env)
        if ok then
          let x ← eval i1 env
          standAt i1.pos
          let x ← foldedSetIterable i1 env x
          let _ ← runOwn (.compStart (.ListComp elt [⟨t0, i0, [], 0⟩, ⟨t1, i1, ifs, 0⟩] scope pos) 1 (← holding [x] (pyIter x)) acc env) env
        again (.compLoop (.ListComp elt [⟨t0, i0, [], 0⟩, ⟨t1, i1, ifs, 0⟩] scope pos) 0 it acc env)) := by rfl
theorem cloop1_rule {elt target iter : PySem.Expr} {co : Option Expr} {g0 : Comprehension} {scope : Scope} {pos : Pos} {it acc : Value} {env : Env} : LoopRule prog w A (.compLoop (.ListComp elt [g0, ⟨target, iter, co.toList, 0⟩] scope pos) 1 it acc env) target co elt it acc env := fun R s I turn n h => by
  refine codeAny_loop rfl I (fun n s hI => ?_) n h
  show wpAny _ A ((compTurn (.ListComp elt [g0, ⟨target, iter, co.toList, 0⟩] scope pos) 1 it acc env).onRaise (fun x => do noteFrame x env; theTreesLotGoes x)) _ _ s
  refine wpAny_noted ?_
  rw [compTurn_in]
  refine wpAny_bind (wpAny_standAt (wpAny_bind (wpAny_mono (turn n s hI) (fun r s₁ h₁ => ?_) fun _ _ h' => h')))
  cases r with
  | none => exact wpAny_pure h₁
  | some v =>
    refine wpAny_bind (wpAny_mono h₁ (fun _ s₀ h₀' => ?_) fun _ _ h' => h')
    refine wpAny_bind (wpAny_mono h₀' (fun _ s₂ h₂ => ?_) fun _ _ h' => h')
    cases co with
    | none =>
      refine wpAny_bind (wpAny_tests_nil ?_)
      have h₂ := h₂
      unfold TestP at h₂
      dsimp only at h₂
      rw [if_pos rfl] at h₂
      exact wpAny_bind (wpAny_bind (wpAny_mono h₂ (fun x s₄ h₄ => wpAny_bind (wpAny_mono h₄ (fun _ s₅ h₅ => wpAny_pure (wpAny_pure ⟨rfl, h₅⟩)) fun _ _ h' => h')) fun _ _ h' => h'))
    | some c =>
      refine wpAny_bind (wpAny_tests_one (wpAny_mono h₂ (fun okb s₃ h₃ => ?_) fun _ _ h' => h'))
      cases okb with
      | false => exact wpAny_pure ⟨rfl, h₃⟩
      | true => exact wpAny_bind (wpAny_bind (wpAny_mono h₃ (fun x s₄ h₄ => wpAny_bind (wpAny_mono h₄ (fun _ s₅ h₅ => wpAny_pure (wpAny_pure ⟨rfl, h₅⟩)) fun _ _ h' => h')) fun _ _ h' => h'))
theorem codeAny_compStart1 {elt target iter ifs g0 scope pos it acc env}
    (h0 : codeAny (model prog w) A (.compLoop (.ListComp elt [g0, ⟨target, iter, ifs, 0⟩] scope pos) 1 it acc env) R s)
    (h : wpAny (model prog w) A (pyIter it) (fun it' s' => codeAny (model prog w) A (.compLoop (.ListComp elt [g0, ⟨target, iter, ifs, 0⟩] scope pos) 1 it' acc env) R s')
      (notedBy (model prog w) A env fun x s' => R (.error x) s') s) :
    codeAny (model prog w) A (.compStart (.ListComp elt [g0, ⟨target, iter, ifs, 0⟩] scope pos) 1 it acc env) R s := by
  refine codeAny_of_tree ?_
  show wpAny _ _ ((compStart (.ListComp elt [g0, ⟨target, iter, ifs, 0⟩] scope pos) 1 it acc env).onRaise (fun x => do noteFrame x env; standAt theWindowsPlace)) _ _ s
  refine wpAny_notedAt ?_
  unfold compStart
  show wpAny _ _ (ask >>= _) _ _ s
  refine wpAny_bind (wpAny_askSetting (wpAny_ite ?_))
  split
  · first
      | exact wpAny_bind (wpAny_pure (wpAny_pure (And.intro rfl h0)))
      | exact wpAny_pure (And.intro rfl h0)
  · first
      | exact wpAny_bind (wpAny_rule (wpAny_bind (wpAny_standAt (wpAny_bind (wpAny_mono h (fun it' s' h' => wpAny_pure (And.intro rfl h')) fun _ _ x => x)))))
      | (refine wpAny_bind (wpAny_rule ?_); show wpAny _ _ (standAt iter.pos >>= _) _ _ s; exact wpAny_bind (wpAny_standAt (wpAny_bind (wpAny_mono h (fun it' s' h' => wpAny_pure (And.intro rfl h')) fun _ _ x => x))))
end
end
section
inductive Cmp2 (C : Cx) (A : Around) (env : En) (t0 t1 i1 : Expr) (co : Option Expr) (elt : Expr) (S₀ : PS) : List PV → List PV → Prop
  | nil : Cmp2 C A env t0 t1 i1 co elt S₀ [] []
  | cons {d : PV} {ds es o1 out : List PV} {S1 : PS} : TgS C A env S₀ t0 d S1 → ItS C A env S1 t1 i1 es → es.length ≤ 1000 → CmpB C A env t1 co elt (fun S' => Sub S₀ S') es S1 o1 → Cmp2 C A env t0 t1 i1 co elt S₀ ds out → Cmp2 C A env t0 t1 i1 co elt S₀ (d :: ds) (o1 ++ out)
section
variable {C : Cx} {env cenv : En} {F F' F'' : Fz} {M M' M'' : Mz} {h h' h'' : Heap} {S S' S'' S₁ S₀ : PS} {A : Around} {s : Shared} {E : Value → Shared → Prop} {k : Nat} {pos : Pos} {wr : List Addr}
noncomputable def hidL (C : Cx) (M : Mz) (ws : List Addr) (h : Heap) : List Addr := (List.range h.objs.size).filter fun b => @decide ((M b ≠ none ∧ ¬ C.ex b) ∨ b ∈ ws) (Classical.propDecidable _)
theorem mem_hidL {ws : List Addr} {b : Addr} : b ∈ hidL C M ws h ↔ b < h.objs.size ∧ ((M b ≠ none ∧ ¬ C.ex b) ∨ b ∈ ws) := by
  unfold hidL
  rw [List.mem_filter, List.mem_range]
  exact ⟨fun x => ⟨x.1, @of_decide_eq_true _ (Classical.propDecidable _) x.2⟩, fun x => ⟨x.1, @decide_eq_true _ (Classical.propDecidable _) x.2⟩⟩
theorem Cmp2.inv0 {t0 t1 i1 elt : Expr} {co : Option Expr} {out : List PV} (H : Cmp2 C A cenv t0 t1 i1 co elt S₀ [] out) : out = [] := by cases H; rfl
theorem Cmp2.inv {t0 t1 i1 elt : Expr} {co : Option Expr} {d : PV} {ds out : List PV} (H : Cmp2 C A cenv t0 t1 i1 co elt S₀ (d :: ds) out) : ∃ S1 es o1 r, TgS C A cenv S₀ t0 d S1 ∧ ItS C A cenv S1 t1 i1 es ∧ es.length ≤ 1000 ∧ CmpB C A cenv t1 co elt (fun S' => Sub S₀ S') es S1 o1 ∧ out = o1 ++ r ∧ Cmp2 C A cenv t0 t1 i1 co elt S₀ ds r := by
  cases H with
  | cons tg it hes cb r => exact ⟨_, _, _, _, tg, it, hes, cb, rfl, r⟩
theorem none_of {α : Type} {x : Option α} (h : ∀ p, x = some p → False) : x = none := by
  cases x with
  | none => rfl
  | some p => exact (h p rfl).elim
theorem comp2_in {t0 i0 t1 i1 elt : Expr} {co : Option Expr} {scope : Scope} {done es o1 : List PV} {vs : List Value} {d : PV} {v : Value} {S1 : PS} {i : Nat} {tgt : Expr} {ds : List PV} {I D : Addr} {St : Nat → Heap → Prop} {F₀ Fi : Fz} {h₀ : Heap} {o : Obj} {KK : Shared → Prop} (T : Itr C A Fi tgt I wr ds St) (hw : ∀ b ∈ D :: wr, h₀.get? b = none) (hD : D ∉ wr)
    (L : LB C cenv Fi F₀ h₀ wr D St o vs done i F M S₀ s.heap) (iv : Is F v d) (tg : TgS C A cenv S₀ t0 d S1) (it : ItS C A cenv S1 t1 i1 es) (hes : es.length ≤ 1000) (cb : CmpB C A cenv t1 co elt (fun S' => Sub S₀ S') es S1 o1) (hdl : done.length ≤ 1500)
    (fin : ∀ h' tk F' M' o' vs', LB C cenv Fi F₀ h₀ wr D St o' vs' (done ++ o1) i F' M' S₀ h' → KK { s with heap := h', toks := tk }) :
    wpAny (model C.prog C.w) A (assign t0 cenv.e v) (fun _ s₂ => wpAny (model C.prog C.w) A (eval i1 cenv.e) (fun x s₃ => wpAny (model C.prog C.w) A (pyIter x) (fun y s₄ =>
        wpAny (model C.prog C.w) A (runOwn (.compStart (.ListComp elt [⟨t0, i0, [], 0⟩, ⟨t1, i1, co.toList, 0⟩] scope pos) 1 y (.ref D) cenv.e) cenv.e) (fun _ s₅ => KK s₅) E s₄) E s₃) E s₂) E s := by
  refine tg.run s F M L.R v iv _ _ fun h3 tk3 F3 M3 sp R3 => ?_
  have L3 := L.stp T sp R3
  clear L sp iv tg
  refine it.run { s with heap := h3, toks := tk3 } F3 M3 R3 _ _ fun I2 wr2 St2 h4 tk4 F4 g4 hw2 hF4w T2 st4 => ?_
  have L4 := L3.grow T g4
  have nx := L3.nx
  have live4 := T.live _ _ L4.st
  have wr2M : ∀ b ∈ wr2, M3 b = none := fun b hb => none_of fun l q => by obtain ⟨p, hp⟩ := R3.mex b l q; have := hw2 b hb; rw [hp] at this; cases this
  have wr2x : ∀ b ∈ wr2, h₀.get? b = none := fun b hb => none_of fun p q => by
    by_cases hx : C.ex b
    · have := R3.mtab b hx; rw [wr2M b hb] at this; cases this
    · have := L3.g.ext b p hx q; rw [hw2 b hb] at this; cases this
  have hDw2 : D ∉ wr2 := fun q => by have := hw2 D q; rw [L3.ho] at this; cases this
  have seen : ∀ b p, ¬ C.ex b → h₀.get? b = some p → (hideAll h4 (hidL C M3 (D :: wr2) h4)).get? b = some p := fun b p hx e => by
    refine hideAll_get _ (L4.g.ext b p hx e) fun q => ?_
    rcases (mem_hidL.mp q).2 with ⟨q, _⟩ | q
    · refine q (none_of fun l r => ?_)
      rcases L4.md b l r with r | r
      · exact hx r
      · rw [r] at e; cases e
    · rcases List.mem_cons.mp q with rfl | q
      · have := hw b (.head _); rw [this] at e; cases e
      · rw [wr2x b q] at e; cases e
  have seenW : ∀ b p, b ∈ wr → h4.get? b = some p → (hideAll h4 (hidL C M3 (D :: wr2) h4)).get? b = some p := fun b p hb e => by
    refine hideAll_get _ e fun q => ?_
    rcases (mem_hidL.mp q).2 with ⟨q, _⟩ | q
    · exact q (L4.hM b (List.mem_cons_of_mem _ hb))
    · rcases List.mem_cons.mp q with rfl | q
      · exact hD hb
      · have := hw2 b q
        obtain ⟨p', hp', _⟩ := T.live _ _ L3.st b hb
        rw [hp'] at this; cases this
  have back : ∀ b, ¬ C.ex b → (hideAll h4 (hidL C M3 (D :: wr2) h4)).get? b = none → h₀.get? b = none := fun b hx e => none_of fun p q => by rw [seen b p hx q] at e; cases e
  have fin2 : codeAny (model C.prog C.w) A (.compLoop (.ListComp elt [⟨t0, i0, [], 0⟩, ⟨t1, i1, co.toList, 0⟩] scope pos) 1 (.ref I2) (.ref D) cenv.e) (fun r s' => match r with | .ok f => KK s' | .error e => cameBackBy (model C.prog C.w) A cenv.e E e s') { s with heap := h4, toks := tk4 } := by
    refine comp_loopG (s := { s with heap := h4, toks := tk4 }) (F₀ := F4) (h₀ := hideAll h4 (hidL C M3 (D :: wr2) h4)) (done0 := done) (vs0 := vs) cloop1_rule T2 cb L4.R (Le.refl _) ⟨fun b p _ e => of_hideAll _ e, Le.refl _, L4.R.sub, fun b p e => .inl e, L4.R.tab⟩ (fun b l e => ?_) (fun b hb => none_of fun p q => ?_) (fun b hb => ?_) (fun b hb => ?_) hDw2 L4.ho L4.lo L4.iv st4 (by lia) fun h5 tk5 F5 M5 S5 o5 vs5 g5 R5 hW le5 md5 hF5 hM5 ho5 lo5 iv5 => ?_
    · by_cases hx : C.ex b
      · exact .inl hx
      · refine .inr (hideAll_none _ (mem_hidL.mpr ⟨?_, .inl ⟨by rw [e]; simp, hx⟩⟩))
        obtain ⟨p, hp⟩ := L4.R.mex b l e
        exact Heap.lt_size hp
    · have := hideAll_none (h := h4) (l := hidL C M3 (D :: wr2) h4) (mem_hidL.mpr ⟨Heap.lt_size (of_hideAll _ q), .inr hb⟩)
      rw [this] at q; cases q
    · rcases List.mem_cons.mp hb with rfl | hb
      · exact L4.hF _ (.head _)
      · exact hF4w b hb
    · rcases List.mem_cons.mp hb with rfl | hb
      · exact L4.hM _ (.head _)
      · exact wr2M b hb
    · refine fin h5 tk5 F5 M5 o5 vs5 ⟨R5.weaken hW, L4.le.trans le5, ⟨fun b p hx e => g5.ext b p hx (seen b p hx e), L4.g.mono.trans le5, R5.sub, fun b p e => ?_, R5.tab⟩, fun b l e => ?_, fun b hb => ?_, fun b hb => ?_, ho5, lo5, iv5, st_keep T L4.st (fun b p e => ⟨L4.R.sub b p (L4.le _ _ e), R5.sub b p (le5 _ _ (L4.le _ _ e))⟩) fun b p hb e => g5.ext b p (nx b (List.mem_cons_of_mem _ hb)) (seenW b p hb e)⟩
      · rcases g5.fnew b p e with q | q
        · exact L4.g.fnew b p q
        · exact .inr (back b (fun hx => by rw [R5.toWd.tbF _ hx] at e; cases e) q)
      · rcases md5 b l e with q | q
        · exact .inl q
        · by_cases hx : C.ex b
          · exact .inl hx
          · exact .inr (back b hx q)
      · rcases List.mem_cons.mp hb with rfl | hb
        · exact hF5 _ (.head _)
        · refine none_of fun p q => ?_
          obtain ⟨p', hp', _⟩ := live4 b hb
          rcases g5.fnew b p q with r | r
          · rw [L4.hF b (List.mem_cons_of_mem _ hb)] at r; cases r
          · rw [seenW b p' hb hp'] at r; cases r
      · rcases List.mem_cons.mp hb with rfl | hb
        · exact hM5 _ (.head _)
        · refine none_of fun l q => ?_
          obtain ⟨p', hp', _⟩ := live4 b hb
          rcases md5 b l q with r | r
          · exact absurd r (nx b (List.mem_cons_of_mem _ hb))
          · rw [seenW b p' hb hp'] at r; cases r
  exact wpAny_runOwn (codeAny_compStart1 fin2 (T2.self 0 _ _ _ st4 fin2))
noncomputable def J2 (C : Cx) (A : Around) (cenv : En) (t0 t1 i1 : Expr) (co : Option Expr) (elt : Expr) (S₀ : PS) (ds out : List PV) (Fi F₀ : Fz) (h₀ : Heap) (wr : List Addr) (D : Addr) (St : Nat → Heap → Prop) (n : Nat) (h : Heap) : Prop :=
  ∃ F M i o vs done rest, i + n = ds.length ∧ Cmp2 C A cenv t0 t1 i1 co elt S₀ (ds.drop i) rest ∧ done ++ rest = out ∧ LB C cenv Fi F₀ h₀ wr D St o vs done i F M S₀ h
theorem comp2_loop {t0 i0 t1 i1 elt : Expr} {co : Option Expr} {scope : Scope} {ds out : List PV} (H : Cmp2 C A cenv t0 t1 i1 co elt S₀ ds out) (hout : out.length ≤ 1500) (hs : ∀ x, foldedSetIterable i1 cenv.e x = pure x) :
    LoopOk C A cenv (.ListComp elt [⟨t0, i0, [], 0⟩, ⟨t1, i1, co.toList, 0⟩] scope pos) t0 ds S₀ out := by
  intro wr I D St F₀ Fi F h₀ o₀ M s RR T R le g₀ md hw hF hM hD ho lo st a
  refine codeAny_loop rfl (AtS s (J2 C A cenv t0 t1 i1 co elt S₀ ds out Fi F₀ h₀ wr D St)) (fun n s' hI => ?_) ds.length ⟨s.heap, s.toks, rfl, F, M, 0, o₀, [], [], out, Nat.zero_add _, H, rfl, R, le, g₀, md, hF, hM, ho, lo, .nil, st⟩
  clear H R le g₀ md hF hM ho lo st
  obtain ⟨h, tk, rfl, F, M, i, o, vs, done, rest, hn, H, hdr, L⟩ := hI
  show wpAny _ A ((compTurn (.ListComp elt [⟨t0, i0, [], 0⟩, ⟨t1, i1, co.toList, 0⟩] scope pos) 0 (.ref I) (.ref D) cenv.e).onRaise (fun x => do noteFrame x cenv.e; theTreesLotGoes x)) _ _ _
  refine wpAny_noted ?_
  rw [compTurn_out]
  refine wpAny_bind (wpAny_standAt ?_)
  have hFw : ∀ b ∈ wr, F b = none := fun b hb => L.hF b (List.mem_cons_of_mem _ hb)
  have hMw : ∀ b ∈ wr, M b = none := fun b hb => L.hM b (List.mem_cons_of_mem _ hb)
  cases hd : ds[i]? with
  | none =>
    have hi := List.getElem?_eq_none_iff.mp hd
    rw [List.drop_of_length_le hi] at H
    refine wpAny_bind (T.done _ _ _ ((show i = ds.length by lia) ▸ L.st) fun h' tk' hk => ?_)
    have g := GrowW.of L.R.toWd hFw hMw hk
    have R' := L.R.growW g hMw (T.live _ _ L.st)
    exact wpAny_pure (a h' tk' F M S₀ o vs (L.g.growW g (fun b hb => hw b (List.mem_cons_of_mem _ hb)) R'.tbF) R' R'.frame L.hF (hk _ _ hD L.ho) L.lo (by rw [← hdr, H.inv0, List.append_nil]; exact L.iv))
  | some d =>
    have hlt := (List.getElem?_eq_some_iff.mp hd).1
    rw [drop_at hd] at H
    obtain ⟨S1, es, o1, r, tg, it, hes, cb, hr, H⟩ := H.inv
    have hdl := congrArg List.length hdr
    rw [List.length_append] at hdl
    refine wpAny_bind (wpAny_mono (T.item i d _ F M (fun v s' => wpAny (model C.prog C.w) A (assign t0 cenv.e v) (fun _ s₂ => wpAny (model C.prog C.w) A (eval i1 cenv.e) (fun x s₃ => wpAny (model C.prog C.w) A (pyIter x) (fun y s₄ =>
        wpAny (model C.prog C.w) A (runOwn (.compStart (.ListComp elt [⟨t0, i0, [], 0⟩, ⟨t1, i1, co.toList, 0⟩] scope pos) 1 y (.ref D) cenv.e) cenv.e) (fun _ s₅ => ∃ m, m < n ∧ AtS s (J2 C A cenv t0 t1 i1 co elt S₀ ds out Fi F₀ h₀ wr D St) m s₅) (notedBy (model C.prog C.w) A cenv.e fun e s' => RR (.error e) s') s₄)
        (notedBy (model C.prog C.w) A cenv.e fun e s' => RR (.error e) s') s₃) (notedBy (model C.prog C.w) A cenv.e fun e s' => RR (.error e) s') s₂) (notedBy (model C.prog C.w) A cenv.e fun e s' => RR (.error e) s') s') _ hd L.st L.le L.R.toWd hFw hMw fun v h2 tk2 F2 g hF2 iv2 st2 => comp2_in (s := { s with heap := h2, toks := tk2 }) T hw hD (L.item T hw hD g hF2 st2) iv2 tg it hes cb (by lia) fun h' tk F' M' o' vs' L' => ⟨n - 1, by lia, h', tk, rfl, F', M', i + 1, o', vs', done ++ o1, r, by lia, H, by rw [← hdr, hr, List.append_assoc], L'⟩) (fun r s₁ hr => ?_) fun _ _ e => e)
    obtain ⟨v, rfl, hv⟩ := hr
    refine wpAny_bind (wpAny_mono (hv _) (fun _ s₂ h₂ => ?_) fun _ _ e => e)
    refine wpAny_bind (wpAny_mono h₂ (fun _ s₃ h₃ => ?_) fun _ _ e => e)
    refine wpAny_bind (wpAny_tests_nil ?_)
    rw [if_pos rfl]
    refine wpAny_bind (wpAny_mono h₃ (fun x s₄ h₄ => ?_) fun _ _ e => e)
    refine wpAny_bind (wpAny_standAt ?_)
    rw [hs]
    refine wpAny_bind (wpAny_pure ?_)
    refine wpAny_bind (wpAny_holding (wpAny_mono h₄ (fun y s₅ h₅ => ?_) fun _ _ e => e))
    exact wpAny_bind (wpAny_mono h₅ (fun _ s₆ h₆ => wpAny_pure ⟨rfl, h₆⟩) fun _ _ e => e)
end
end
section
noncomputable def leadW (sizes : List Int) (rest : Int) : WS := wsOf (leadStr sizes rest)
noncomputable def cnts (sizes : List Int) (c : List Int) : List Int := sizes.foldl (fun c s => bump c s.toNat) c
theorem wsGo_blanks (k : Nat) (r : List Nat) : ∀ s : WI, wsGo (List.replicate k 32 ++ r) s = wsGo r { s with n := s.n + k, b := s.b + k } := by
  induction k with
  | zero => intro s; simp
  | succ k ih =>
    intro s
    rw [List.replicate_succ, List.cons_append]
    show (if (32 : Nat) = 32 then wsGo (List.replicate k 32 ++ r) { s with n := s.n + 1, b := s.b + 1 } else _) = _
    rw [if_pos rfl, ih]
    congr 1
    have e1 : s.n + 1 + (k : Int) = s.n + ((k + 1 : Nat) : Int) := by lia
    have e2 : s.b + 1 + k = s.b + (k + 1) := by lia
    simp only [e1, e2]
theorem wsGo_lead : ∀ (sizes : List Int) (rest : Int) (n nt : Int) (c : List Int), (∀ s ∈ sizes, 0 ≤ s) → 0 ≤ rest →
    wsGo (leadL sizes rest) ⟨n, nt, 0, c⟩ = ⟨n + sizes.sum + sizes.length + rest, nt + sizes.length, rest.toNat, cnts sizes c⟩
  | [], rest, n, nt, c, _, h => by
    show wsGo (List.replicate rest.toNat 32 ++ [120, 32, 9]) _ = _
    rw [wsGo_blanks]
    show (⟨n + (rest.toNat : Int), nt, 0 + rest.toNat, c⟩ : WI) = _
    rw [Int.toNat_of_nonneg h]
    simp [cnts]
  | s :: sizes, rest, n, nt, c, hs, h => by
    have ih := wsGo_lead sizes rest (n + s + 1) (nt + 1) (bump c s.toNat) (fun t ht => hs t (.tail _ ht)) h
    have h0 := hs s (.head _)
    have e : leadL (s :: sizes) rest = List.replicate s.toNat 32 ++ 9 :: leadL sizes rest := by
      unfold leadL; simp
    rw [e, wsGo_blanks]
    show wsGo (leadL sizes rest) ⟨n + (s.toNat : Int) + 1, nt + 1, 0, bump c (0 + s.toNat)⟩ = _
    rw [Int.toNat_of_nonneg h0, Nat.zero_add, ih]
    have e1 : n + s + 1 + sizes.sum + (sizes.length : Int) + rest = n + (s :: sizes).sum + ((s :: sizes).length : Int) + rest := by
      rw [List.sum_cons, List.length_cons]; lia
    have e2 : nt + 1 + (sizes.length : Int) = nt + ((s :: sizes).length : Int) := by rw [List.length_cons]; lia
    rw [e1, e2]
    rfl
theorem leadW_eq {sizes : List Int} {rest : Int} (hs : ∀ s ∈ sizes, 0 ≤ s) (h : 0 ≤ rest) : leadW sizes rest = { raw := leadStr sizes rest, n := sizes.sum + sizes.length + rest, nt := sizes.length, count := cnts sizes [], b := rest } := by
  have e := wsGo_lead sizes rest 0 0 [] hs h
  have e2 : (leadStr sizes rest).cps.toList = leadL sizes rest := cl_lead sizes rest
  unfold leadW wsOf
  simp only [e2, e]
  have : ((rest.toNat : Nat) : Int) = rest := Int.toNat_of_nonneg h
  simp [this]
theorem bump_len' (c : List Int) (b : Nat) : (bump c b).length = max c.length (b + 1) := by
  unfold bump
  show (List.set (if c.length ≤ b then c ++ List.replicate (b - c.length + 1) 0 else c) b _).length = _
  rw [List.length_set]
  split
  · rw [List.length_append, List.length_replicate]; lia
  · lia
theorem bump_get (c : List Int) (b k : Nat) : ((bump c b)[k]?).getD 0 = (c[k]?).getD 0 + if k = b then 1 else 0 := by
  unfold bump
  have key : ∀ c' : List Int, b < c'.length → (∀ j : Nat, (c'[j]?).getD 0 = (c[j]?).getD 0) → ((c'.set b ((c'[b]?).getD 0 + 1))[k]?).getD 0 = (c[k]?).getD 0 + if k = b then 1 else 0 := fun c' hb hc => by
    rw [List.getElem?_set]
    by_cases h : b = k
    · subst h
      rw [if_pos rfl, if_pos hb, if_pos rfl]
      show (c'[b]?).getD 0 + 1 = _
      rw [hc]
    · rw [if_neg h, if_neg (Ne.symm h), hc]; lia
  show ((List.set (if c.length ≤ b then c ++ List.replicate (b - c.length + 1) 0 else c) b _)[k]?).getD 0 = _
  split
  · rename_i hle
    refine key _ (by rw [List.length_append, List.length_replicate]; lia) fun j => ?_
    by_cases hj : j < c.length
    · rw [List.getElem?_append_left hj]
    · rw [List.getElem?_append_right (by lia), List.getElem?_eq_none (l := c) (by lia)]
      cases q : (List.replicate (b - c.length + 1) (0 : Int))[j - c.length]? with
      | none => rfl
      | some x => rw [List.getElem?_replicate] at q; split at q <;> cases q; rfl
  · rename_i hle
    exact key _ (by lia) fun j => rfl
noncomputable def hasN (sizes : List Int) (k : Nat) : Int := ((sizes.filter fun s => decide (s.toNat = k)).length : Int)
theorem cnts_get : ∀ (sizes : List Int) (c : List Int) (k : Nat), ((cnts sizes c)[k]?).getD 0 = (c[k]?).getD 0 + hasN sizes k
  | [], c, k => by show (c[k]?).getD 0 = _; unfold hasN; simp
  | s :: sizes, c, k => by
    show ((cnts sizes (bump c s.toNat))[k]?).getD 0 = _
    rw [cnts_get sizes, bump_get]
    unfold hasN
    by_cases h : s.toNat = k
    · rw [if_pos h.symm, List.filter_cons_of_pos (by simpa using h), List.length_cons]; lia
    · rw [if_neg (Ne.symm h), List.filter_cons_of_neg (by simpa using h)]; lia
theorem cnts_len : ∀ (sizes : List Int) (c : List Int) (N : Nat), c.length ≤ N → (∀ s ∈ sizes, s.toNat + 1 ≤ N) → (cnts sizes c).length ≤ N
  | [], c, N, h, _ => h
  | s :: sizes, c, N, h, hs => cnts_len sizes (bump c s.toNat) N (by rw [bump_len']; have := hs s (.head _); lia) fun t ht => hs t (.tail _ ht)
theorem leadW_ok {sizes : List Int} {rest : Int} (h1 : sizes.length ≤ 20) (hs : ∀ s ∈ sizes, 0 ≤ s ∧ s ≤ 40) (h : 0 ≤ rest ∧ rest ≤ 60) : (leadW sizes rest).Ok := by
  rw [leadW_eq (fun s x => (hs s x).1) h.1]
  refine ⟨?_, fun c hc => ?_, h, ⟨Int.natCast_nonneg _, by show (sizes.length : Int) ≤ 100; lia⟩⟩
  · have := cnts_len sizes [] 41 (Nat.zero_le _) fun s x => by have := hs s x; lia
    show (cnts sizes []).length ≤ 60
    lia
  · obtain ⟨k, hk, e⟩ := List.getElem_of_mem hc
    have := cnts_get sizes [] k
    rw [show (cnts sizes [])[k]? = some c by rw [List.getElem?_eq_getElem hk]; exact congrArg some e] at this
    have e2 : c = 0 + hasN sizes k := this
    have hb : 0 ≤ hasN sizes k ∧ hasN sizes k ≤ 20 := by
      unfold hasN
      have := List.length_filter_le (fun s : Int => decide (s.toNat = k)) sizes
      lia
    lia
end
section
open PySem.NumText
variable {C : Cx} {A : Around} {k : Nat} {Lf : Addr}
noncomputable abbrev owL : List Str := ["size", "rest", "row", "sizes", "step", "past"]
theorem fnIn_193 (G : Good C) : FnIn C 193 (fdAt C.w 193) (bodyAt C.w 193) ["script"] owL :=
  FnIn.mk' (by rw [G.K]; kernel_rfl) (by rw [G.K]; kernel_rfl) (by kernel_rfl) (len1 fun _ => by kernel_rfl) (by decide) (all_local (by kernel_rfl))
    (fun x hx => by
      rcases List.mem_cons.mp hx with rfl | hx
      · exact ⟨by kernel_rfl, fun L => by kernel_rfl⟩
      rcases List.mem_cons.mp hx with rfl | hx
      · exact ⟨by kernel_rfl, fun L => by kernel_rfl⟩
      rcases List.mem_cons.mp hx with rfl | hx
      · exact ⟨by kernel_rfl, fun L => by kernel_rfl⟩
      rcases List.mem_cons.mp hx with rfl | hx
      · exact ⟨by kernel_rfl, fun L => by kernel_rfl⟩
      rcases List.mem_cons.mp hx with rfl | hx
      · exact ⟨by kernel_rfl, fun L => by kernel_rfl⟩
      rw [List.mem_singleton.mp hx]
      exact ⟨by kernel_rfl, fun L => by kernel_rfl⟩)
noncomputable abbrev en193 (w : World) (L : Addr) : En := calleeEn (fdAt w 193) owL L 193
theorem sto_ow {w : World} {x : Str} (h : x ∈ owL) : Sto (en193 w Lf) x := .inr h
set_option genInjectivity false in
set_option genSizeOf false in
structure LV where
  script : List Int
  draws : List Int
  d4 : Int
  d5 : Int
  d6 : Int
  d7 : Int
  n : Nat
  base : Int
  m : Nat
  rest : Int
  row : List UInt8
  rounds : List (List Int)
  mir : List (List Int)
  aro : List (List Int)
noncomputable def szs (r : List (List Int)) : List Int := r.map fun h => (h.length : Int)
noncomputable def roundsPV (r : List (List Int)) : PV := .list (r.map fun l => .list (intsPV l))
noncomputable def LV.sizes (v : LV) : List Int := szs v.rounds
noncomputable def LV.many (v : LV) : Nat := v.rounds.length
noncomputable def LV.past (v : LV) : Int := maxI (v.sizes ++ [v.rest]) + 1
noncomputable def LV.typed (v : LV) : WS := leadW v.sizes v.rest
noncomputable def LV.low (v : LV) : List Int := v.sizes.map fun s => s - 1
noncomputable def LV.lines (v : LV) : List (Int × Int × Int) := witOf v.typed (leadW v.low v.rest)
noncomputable def LV.far (v : LV) : WS := leadW v.sizes v.past
noncomputable def LV.about (v : LV) : List UInt8 := v.row.reverse
noncomputable def bytesI (b : List UInt8) : List Int := b.map fun c => (c.toNat : Int)
structure LOk (v : LV) : Prop where
  dr : v.draws = drawsOf v.script
  sl : v.script.length ≤ 63
  dl : v.draws.length = 8
  ix4 : idx (intsPV v.draws) 4 = some (.int v.d4)
  ix5 : idx (intsPV v.draws) 5 = some (.int v.d5)
  ix6 : idx (intsPV v.draws) 6 = some (.int v.d6)
  ix7 : idx (intsPV v.draws) 7 = some (.int v.d7)
  hn : 5 + v.d7 % 3 = (v.n : Int)
  few : Mine.few v.n
  hb : v.d7 / 3 % 60000 = v.base
  hm : idx ("|!-/~x;+" : Str).cps.toList (v.base % 8) = some v.m
  mrk : Mk v.m
  hr : v.d6 / 4 % 4 = v.rest
  rl : v.row.length = v.n
  hrow : bytesOf ((v.draws.take v.n).map fun d => 65 + d % 4) = v.row
  word : wordOf (numOf (bytesI v.row) * (1 - 2 * (v.d5 / 4 % 2))) (v.n : Int) = v.row
  ab : ∀ c ∈ v.row, 65 ≤ c.toNat ∧ c.toNat ≤ 68
  rd : v.rounds = roundsOf v.row (orderOf v.row)
  back : backOf v.rounds = v.row
  rok : ∀ h ∈ v.rounds, RoundOk h
  r1 : 1 ≤ v.rounds.length
  r7 : v.rounds.length ≤ 7
  tl : Mine.few (turnedOf v.rounds).length
variable {v : LV}
theorem LOk.n7 (o : LOk v) : 5 ≤ v.n ∧ v.n ≤ 7 := by rcases o.few with h | h | h <;> lia
theorem LOk.b0 (o : LOk v) : 0 ≤ v.base ∧ v.base < 60000 := by have := o.hb; lia
theorem LOk.r0 (o : LOk v) : 0 ≤ v.rest ∧ v.rest < 4 := by have := o.hr; lia
noncomputable def W1 (v : LV) : PS := [("script", .val (.list (intsPV v.script))), ("draws", .val (.list (intsPV v.draws)))]
noncomputable def W5 (v : LV) : PS := [("script", .val (.list (intsPV v.script))), ("draws", .val (.list (intsPV v.draws))), ("size", .val (.int (v.n : Int))), ("base", .val (.int v.base)), ("mark", .val (.str (one v.m))), ("rest", .val (.int v.rest))]
noncomputable def W8 (v : LV) : PS := [("script", .val (.list (intsPV v.script))), ("draws", .val (.list (intsPV v.draws))), ("size", .val (.int (v.n : Int))), ("base", .val (.int v.base)), ("mark", .val (.str (one v.m))), ("rest", .val (.int v.rest)), ("due", .val (.bytes v.row)), ("row", .val (.bytes v.row)), ("rounds", .val (roundsPV v.rounds))]
theorem body193 (w : World) : bodyAt w 193 = [nth w 193 0, nth w 193 1, nth w 193 2, nth w 193 3, nth w 193 4, nth w 193 5, nth w 193 6, nth w 193 7, nth w 193 8, nth w 193 9, nth w 193 10, nth w 193 11, nth w 193 12, nth w 193 13, nth w 193 14, nth w 193 15, nth w 193 16, nth w 193 17, nth w 193 18, nth w 193 19, nth w 193 20, nth w 193 21, nth w 193 22, nth w 193 23, nth w 193 24, nth w 193 25, nth w 193 26, nth w 193 27, nth w 193 28, nth w 193 29, nth w 193 30, nth w 193 31, nth w 193 32, nth w 193 33, nth w 193 34] := by kernel_rfl
theorem l_go0 (G : Good C) (AO : AOk A (k + 4)) (o : LOk v) : ExS C A (en193 C.w Lf) [("script", .val (.list (intsPV v.script)))] (nth C.w 193 0) (W1 v) .next := by
  conv => arg 5; whnf
  refine ex_set (d := .list (intsPV v.draws)) (by exact Or.inl (by kernel_rfl)) (by kernel_rfl) ?_
  rw [o.dr]
  exact ev_call (ds := [.list (v.script.map .int)]) G.ok AO (G.gl rfl) (by kernel_rfl) rfl (G.kf (by kernel_rfl)) (.cons (ev_name rfl rfl) (fun _ _ => rfl) .nil) (FnOk.le (law_draws G _ (by have := o.sl; lia)) (by lia))
theorem l_go1 (G : Good C) (AO : AOk A (k + 4)) (o : LOk v) : ExA C A (en193 C.w Lf) (W1 v) [nth C.w 193 1, nth C.w 193 2, nth C.w 193 3, nth C.w 193 4] (W5 v) .next := by
  have i6 := o.ix6
  have i7 := o.ix7
  have hm := o.hm
  have hb := o.b0
  conv => arg 5; whnf
  refine ea_cons (S' := put (W1 v) "size" (.val (.int (v.n : Int)))) ?_ ?_
  · conv => arg 5; whnf
    refine ex_set (d := .int (v.n : Int)) (sto_ow (by decide)) (by kernel_rfl) ?_
    rw [← o.hn]
    refine ev_binop (a := .int 5) (b := .int (v.d7 % 3)) ev_int ?_ bo_add_int
    exact ev_binop (a := .int v.d7) (b := .int 3) (ev_sub (ev_name rfl rfl) ev_int (sb_list i7) rfl) ev_int (bo_mod (by decide))
  refine ea_cons (S' := put (put (W1 v) "size" (.val (.int (v.n : Int)))) "base" (.val (.int v.base))) ?_ ?_
  · conv => arg 5; whnf
    refine ex_set (d := .int v.base) (by exact Or.inl (by kernel_rfl)) (by kernel_rfl) ?_
    rw [← o.hb]
    refine ev_binop (a := .int (v.d7 / 3)) (b := .int 60000) ?_ ev_int (bo_mod (by decide))
    exact ev_binop (a := .int v.d7) (b := .int 3) (ev_sub (ev_name rfl rfl) ev_int (sb_list i7) rfl) ev_int (bo_div (by decide) (by decide))
  refine ea_cons (S' := put (put (put (W1 v) "size" (.val (.int (v.n : Int)))) "base" (.val (.int v.base))) "mark" (.val (.str (one v.m)))) ?_ ?_
  · conv => arg 5; whnf
    refine ex_set (d := .str (one v.m)) (by exact Or.inl (by kernel_rfl)) (by kernel_rfl) ?_
    refine ev_sub (a := .str "|!-/~x;+") (b := .int (v.base % 8)) ev_str ?_ (sb_str (by lia) hm) rfl
    exact ev_binop (a := .int v.base) (b := .int 8) (by exact ev_name rfl rfl) ev_int (bo_mod (by decide))
  refine ea_cons (S' := W5 v) ?_ ?_
  · conv => arg 5; whnf
    refine ex_set (d := .int v.rest) (sto_ow (by decide)) (by kernel_rfl) ?_
    rw [← o.hr]
    refine ev_binop (a := .int (v.d6 / 4)) (b := .int 4) ?_ ev_int (bo_mod (by decide))
    exact ev_binop (a := .int v.d6) (b := .int 4) (ev_sub (ev_name rfl rfl) ev_int (sb_list i6) rfl) ev_int (bo_div (by decide) (by decide))
  exact ea_nil
end
section
noncomputable def up65 (ds : List Nat) : List Int := ds.map fun d => ((65 + d : Nat) : Int)
theorem numOf_val (ds : List Nat) : numOf (up65 ds) = (val ds : Nat) := by
  unfold numOf up65 val
  suffices h : ∀ (ds : List Nat) (n : Nat), (ds.map fun d => ((65 + d : Nat) : Int)).foldl (fun n c => 16 * n + c - 65) (n : Int) = ((ds.foldl (fun n d => 16 * n + d) n : Nat) : Int) from h ds 0
  intro ds
  induction ds with
  | nil => intro n; rfl
  | cons d ds ih =>
    intro n
    rw [List.map_cons, List.foldl_cons, List.foldl_cons, ← ih]
    congr 1
    lia
noncomputable def dg (row : List UInt8) : List Nat := row.map fun c => c.toNat - 65
structure Ab (row : List UInt8) : Prop where
  ab : ∀ c ∈ row, 65 ≤ c.toNat ∧ c.toNat ≤ 68
theorem ltr_dg {c : UInt8} (h : 65 ≤ c.toNat) : ltr (c.toNat - 65) = c := by
  unfold ltr
  rw [show 65 + (c.toNat - 65) = c.toNat by lia]
  exact UInt8.ofNat_toNat
theorem dg_row {row : List UInt8} (h : Ab row) : (dg row).map ltr = row ∧ bytesI row = up65 (dg row) ∧ ∀ d ∈ dg row, d < 4 := by
  refine ⟨?_, ?_, fun d hd => ?_⟩
  · unfold dg
    rw [List.map_map]
    conv => rhs; rw [← List.map_id row]
    exact List.map_congr_left fun c hc => ltr_dg (h.ab c hc).1
  · unfold bytesI up65 dg
    rw [List.map_map]
    exact List.map_congr_left fun c hc => by
      have := h.ab c hc
      show (c.toNat : Int) = ((65 + (c.toNat - 65) : Nat) : Int)
      lia
  · obtain ⟨c, hc, rfl⟩ := List.mem_map.mp hd
    have := h.ab c hc
    lia
theorem word_row {row : List UInt8} (h : Ab row) (hl : row.length ≤ 160) {s : Int} (hs : s = 1 ∨ s = -1) : wordOf (numOf (bytesI row) * s) (row.length : Int) = row := by
  obtain ⟨h1, h2, h3⟩ := dg_row h
  have hlen : (dg row).length = row.length := by unfold dg; rw [List.length_map]
  rw [h2, numOf_val]
  have := word_val (dg row) (fun d hd => by have := h3 d hd; lia) (by lia) (((val (dg row) : Nat) : Int) * s) (by rcases hs with q | q <;> subst q <;> simp)
  rw [hlen, h1] at this
  exact this
theorem said_word {heard : List Int} {t L : Nat} (hL : 1 ≤ L) (hlen : heard.length = L) {g : Nat → Nat} (h8 : ∀ k, g k < 8) (hp : ∀ k, g (k + L) = g k) (hh : heard.drop t ++ heard.take t = up65 ((List.range L).map g)) : wordOf (saidOf heard t) 14 = ((List.range 14).map g).map ltr := by
  have hf := frac L hL 14 g h8 hp
  have hpos : 1 ≤ 16 ^ L := Nat.pow_pos (by decide)
  have e : saidOf heard t = (val ((List.range 14).map g) : Nat) := by
    unfold saidOf
    rw [hh, numOf_val, hlen, ← hf]
    rw [Int.natCast_ediv, Int.natCast_mul, Int.natCast_sub hpos]
    simp
  have := word_val ((List.range 14).map g) (fun d hd => by obtain ⟨k, _, rfl⟩ := List.mem_map.mp hd; have := h8 k; lia) (by simp) _ (.inl e)
  have e2 : (((List.range 14).map g).length : Int) = 14 := by simp
  rw [e2] at this
  exact this
end
section
theorem nodup_inj {α : Type} {l : List α} (nd : l.Nodup) {i j : Nat} (hi : i < l.length) (hj : j < l.length) (e : l[i] = l[j]) : i = j := by
  have h := List.pairwise_iff_getElem.mp (List.nodup_iff_pairwise_ne.mp nd)
  rcases Nat.lt_trichotomy i j with q | q | q
  · exact absurd e (h i j hi hj q)
  · exact q
  · exact absurd e.symm (h j i hj hi q)
noncomputable def oo (row : List UInt8) (i : Nat) : Nat := (orderOf row).getD i 0
section
variable {row : List UInt8} (hn : few row.length)
include hn
theorem ord_perm : (orderOf row).Perm (List.range row.length) := (few_ev (pl_ord row) hn).1
theorem ord_len : (orderOf row).length = row.length := by rw [(ord_perm hn).length_eq, List.length_range]
theorem oo_at {i : Nat} (h : i < row.length) : ∃ h' : i < (orderOf row).length, oo row i = (orderOf row)[i] := by
  have h' : i < (orderOf row).length := by rw [ord_len hn]; exact h
  exact ⟨h', by unfold oo; simp [h']⟩
theorem ord_pm : Pm row.length (oo row) where
  lt := fun i h => by
    obtain ⟨h', e⟩ := oo_at hn h
    rw [e]
    exact List.mem_range.mp ((ord_perm hn).mem_iff.mp (List.getElem_mem h'))
  inj := fun i j hi hj e => by
    obtain ⟨h1, e1⟩ := oo_at hn hi
    obtain ⟨h2, e2⟩ := oo_at hn hj
    rw [e1, e2] at e
    have nd : (orderOf row).Nodup := (ord_perm hn).nodup_iff.mpr List.nodup_range
    exact nodup_inj nd h1 h2 e
theorem ord_lt {i j : Nat} (hij : i < j) (hj : j < row.length) : rowAt row (oo row i) < rowAt row (oo row j) ∨ (rowAt row (oo row i) = rowAt row (oo row j) ∧ oo row i < oo row j) := by
  obtain ⟨h1, e1⟩ := oo_at hn (Nat.lt_trans hij hj)
  obtain ⟨h2, e2⟩ := oo_at hn hj
  have hp := List.pairwise_iff_getElem.mp (few_ev (pl_ord row) hn).2.1 i j h1 h2 hij
  have hp : plLt row (oo row j) (oo row i) = false := by rw [e1, e2]; exact hp
  have hne : oo row i ≠ oo row j := fun q => by have := (ord_pm hn).inj i j (Nat.lt_trans hij hj) hj q; lia
  unfold plLt pairLt at hp
  by_cases hq : rowAt row (oo row j) = rowAt row (oo row i)
  · simp only [hq, decide_true, if_true] at hp
    refine .inr ⟨hq.symm, ?_⟩
    by_cases hb : ((oo row j : Nat) : Int) = ((oo row i : Nat) : Int)
    · lia
    · rw [if_neg hb] at hp
      simp only [decide_eq_false_iff_not] at hp
      lia
  · simp only [hq, decide_false] at hp
    simp only [Bool.false_eq_true, if_false, decide_eq_false_iff_not] at hp
    exact .inl (by lia)
noncomputable def wl (row : List UInt8) (m i : Nat) : List UInt8 := (List.range m).map fun k => row.getD (it (oo row) (k + 1) i) 0
omit hn in
theorem it_shift (p : Nat → Nat) (i : Nat) : ∀ k, it p k (p i) = it p (k + 1) i
  | 0 => rfl
  | k + 1 => by show p (it p k (p i)) = p _; rw [it_shift p i k]
omit hn in
theorem wl_succ (m i : Nat) : wl row (m + 1) i = row.getD (oo row i) 0 :: wl row m (oo row i) := by
  unfold wl
  rw [List.range_succ_eq_map, List.map_cons, List.map_map]
  congr 1
  refine List.map_congr_left fun k _ => ?_
  show row.getD (it (oo row) (k + 1 + 1) i) 0 = row.getD (it (oo row) (k + 1) (oo row i)) 0
  rw [it_shift]
theorem wl_mono : ∀ (m i j : Nat), i < j → j < row.length → bLt (wl row m j) (wl row m i) = false
  | 0, i, j, _, _ => rfl
  | m + 1, i, j, hij, hj => by
    rw [wl_succ, wl_succ]
    unfold bLt
    rcases ord_lt hn hij hj with h | ⟨h1, h2⟩
    · unfold rowAt at h
      have h : (row.getD (oo row i) 0).toNat < (row.getD (oo row j) 0).toNat := by lia
      rw [if_neg (by rw [UInt8.lt_iff_toNat_lt]; lia), if_pos (by show _ < _; rw [UInt8.lt_iff_toNat_lt]; exact h)]
    · unfold rowAt at h1
      have h1 : (row.getD (oo row i) 0).toNat = (row.getD (oo row j) 0).toNat := by lia
      rw [if_neg (by rw [UInt8.lt_iff_toNat_lt]; lia), if_neg (by show ¬ _ < _; rw [UInt8.lt_iff_toNat_lt]; lia)]
      exact wl_mono m _ _ h2 ((ord_pm hn).lt j hj)
end
end
section
theorem two_len : ∀ (cs : List (List Nat)) (c d : List Nat), c ∈ cs → d ∈ cs → c ≠ d → c.length + d.length ≤ cs.flatten.length
  | [], c, d, h, _, _ => by cases h
  | e :: cs, c, d, hc, hd, hne => by
    have one : ∀ (cs : List (List Nat)) (c : List Nat), c ∈ cs → c.length ≤ cs.flatten.length := fun cs => by
      induction cs with
      | nil => intro c h; cases h
      | cons e cs ih =>
        intro c h
        rw [List.flatten_cons, List.length_append]
        rcases List.mem_cons.mp h with rfl | h
        · lia
        · have := ih c h; lia
    rw [List.flatten_cons, List.length_append]
    rcases List.mem_cons.mp hc with q1 | q1
    · rcases List.mem_cons.mp hd with q2 | q2
      · exact absurd (q1.trans q2.symm) hne
      · have := one cs d q2; rw [q1]; lia
    · rcases List.mem_cons.mp hd with q2 | q2
      · have := one cs c q1; rw [q2]; lia
      · have := two_len cs c d q1 q2 hne; lia
theorem it_mul {p : Nat → Nat} {i t : Nat} (h : it p t i = i) : ∀ m, it p (t * m) i = i
  | 0 => rfl
  | m + 1 => by rw [Nat.mul_succ, it_add, h, it_mul h m]
theorem prod12 : ∀ t : Fin 8, t.val * (7 - t.val) ≤ 14 := by decide
section
variable {n : Nat} {p : Nat → Nat} (P : Pm n p)
include P
theorem mem_cyc {i : Nat} (hi : i < n) : ∃ c ∈ cyc p n, i ∈ c ∧ ∃ s t, Cy n p c s t ∧ it p t i = i := by
  obtain ⟨h1, h2⟩ := cyc_ok P
  obtain ⟨c, hc, hic⟩ := List.mem_flatten.mp (h1.mem_iff.mpr (List.mem_range.mpr hi))
  obtain ⟨s, t, y⟩ := h2 c hc
  refine ⟨c, hc, hic, s, t, y, ?_⟩
  obtain ⟨a, ha, rfl⟩ := List.mem_map.mp (y.perm.mem_iff.mp hic)
  rw [← it_add, Nat.add_comm, it_add, y.back]
theorem both_back (h7 : n ≤ 7) {i j : Nat} (hi : i < n) (hj : j < n) : ∃ K, 1 ≤ K ∧ K ≤ 14 ∧ it p K i = i ∧ it p K j = j := by
  obtain ⟨c, hc, hic, s, t, y, bi⟩ := mem_cyc P hi
  obtain ⟨d, hd, hjd, s', t', y', bj⟩ := mem_cyc P hj
  have l1 := y.len
  have l2 := y'.len
  have := y.t1
  have := y'.t1
  have := y.tn
  by_cases he : c = d
  · subst he
    have : t = t' := by lia
    subst this
    exact ⟨t, by lia, by lia, bi, bj⟩
  · have hl := two_len _ c d hc hd he
    rw [(cyc_ok P).1.length_eq, List.length_range, l1, l2] at hl
    refine ⟨t * t', Nat.mul_pos (by lia) (by lia), ?_, it_mul bi t', by rw [Nat.mul_comm]; exact it_mul bj t⟩
    have h1 : t * t' ≤ t * (7 - t) := Nat.mul_le_mul_left _ (by lia)
    have h2 := prod12 ⟨t, by lia⟩
    exact Nat.le_trans h1 h2
end
section
variable {row : List UInt8} (hn : few row.length)
include hn
theorem wl_tie {i j : Nat} (hi : i < row.length) (hj : j < row.length) (h : wl row 14 i = wl row 14 j) : row.getD i 0 = row.getD j 0 := by
  obtain ⟨K, k1, k2, bi, bj⟩ := both_back (ord_pm hn) (by rcases hn with h | h | h <;> lia) hi hj
  have e : ∀ i, (wl row 14 i)[K - 1]? = some (row.getD (it (oo row) K i) 0) := fun i => by
    unfold wl
    rw [List.getElem?_map, List.getElem?_range (by lia)]
    show some (row.getD (it (oo row) (K - 1 + 1) i) 0) = _
    rw [show K - 1 + 1 = K by lia]
  have e1 := e i
  rw [h, e j, bi, bj] at e1
  injection e1 with e1
  exact e1.symm
noncomputable def itm (row : List UInt8) (i : Nat) : List UInt8 × Int := (wl row 14 i, rowAt row i)
theorem row_ab (h : Ab row) {i : Nat} (hi : i < row.length) : 65 ≤ (row.getD i 0).toNat ∧ (row.getD i 0).toNat ≤ 68 := by
  have e : row.getD i 0 = row[i] := by simp [hi]
  rw [e]
  exact h.ab _ (List.getElem_mem hi)
theorem turn_one (h : Ab row) {c : List Nat} {s t : Nat} (y : Cy row.length (oo row) c s t) : (List.range (c.map (rowAt row)).length).map (turnOf (c.map (rowAt row))) = (orb (oo row) s t).map (itm row) := by
  have hl : (c.map (rowAt row)).length = t := by rw [List.length_map, y.len]
  have t1 := y.t1
  have at_ : ∀ k, k < t → (c.map (rowAt row))[k]? = some (rowAt row (it (oo row) (k + 1) s)) := fun k hk => by
    rw [y.eq, List.map_map, List.getElem?_map, List.getElem?_range hk]; rfl
  rw [hl]
  unfold orb
  rw [List.map_map]
  refine List.map_congr_left fun u hu => ?_
  have hu := List.mem_range.mp hu
  have bk : ∀ k, it (oo row) (k + t) (it (oo row) u s) = it (oo row) k (it (oo row) u s) := fun k => by
    rw [← it_add, ← it_add, show k + t + u = k + u + t by lia, it_add (oo row) s t, y.back]
  have ltn : ∀ k, it (oo row) k s < row.length := fun k => (ord_pm hn).it_lt y.sn k
  show (wordOf (saidOf (c.map (rowAt row)) u) 14, lastOf (c.map (rowAt row)) u) = (wl row 14 (it (oo row) u s), rowAt row (it (oo row) u s))
  congr 1
  · have hx : (c.map (rowAt row)).drop u ++ (c.map (rowAt row)).take u = up65 ((List.range t).map fun k => (row.getD (it (oo row) (k + 1) (it (oo row) u s)) 0).toNat - 65) := by
      refine List.ext_getElem? fun k => ?_
      by_cases hk : k < t
      · have er : (up65 ((List.range t).map fun k => (row.getD (it (oo row) (k + 1) (it (oo row) u s)) 0).toNat - 65))[k]? = some (rowAt row (it (oo row) (k + 1 + u) s)) := by
          unfold up65
          rw [List.getElem?_map, List.getElem?_map, List.getElem?_range hk]
          have := row_ab hn h (ltn (k + 1 + u))
          show some (((65 + ((row.getD (it (oo row) (k + 1) (it (oo row) u s)) 0).toNat - 65) : Nat)) : Int) = some (((row.getD (it (oo row) (k + 1 + u) s) 0).toNat : Int))
          rw [← it_add]
          congr 1
          lia
        rw [er]
        by_cases h1 : k < t - u
        · rw [List.getElem?_append_left (by rw [List.length_drop, hl]; exact h1), List.getElem?_drop, at_ _ (by lia), show u + k + 1 = k + 1 + u by lia]
        · rw [List.getElem?_append_right (by rw [List.length_drop, hl]; lia), List.length_drop, hl, List.getElem?_take_of_lt (by lia), at_ _ (by lia)]
          have : it (oo row) (k + 1 + u) s = it (oo row) (k - (t - u) + 1) s := by
            rw [show k + 1 + u = (k - (t - u) + 1) + t by lia, it_add, y.back]
          rw [this]
      · rw [List.getElem?_eq_none (by rw [List.length_append, List.length_drop, List.length_take, hl]; lia), List.getElem?_eq_none (by unfold up65; rw [List.length_map, List.length_map, List.length_range]; lia)]
    have := said_word (heard := c.map (rowAt row)) (t := u) t1 hl (g := fun k => (row.getD (it (oo row) (k + 1) (it (oo row) u s)) 0).toNat - 65)
      (fun k => by
        have := row_ab hn h (ltn (k + 1 + u))
        show (row.getD (it (oo row) (k + 1) (it (oo row) u s)) 0).toNat - 65 < 8
        rw [← it_add]; lia)
      (fun k => by
        show (row.getD (it (oo row) (k + t + 1) (it (oo row) u s)) 0).toNat - 65 = _
        rw [show k + t + 1 = k + 1 + t by lia, bk]) hx
    rw [this]
    unfold wl
    rw [List.map_map]
    refine List.map_congr_left fun k _ => ?_
    show ltr ((row.getD (it (oo row) (k + 1) (it (oo row) u s)) 0).toNat - 65) = row.getD (it (oo row) (k + 1) (it (oo row) u s)) 0
    refine ltr_dg ?_
    rw [← it_add]
    exact (row_ab hn h (ltn (k + 1 + u))).1
  · unfold lastOf
    rw [hl]
    cases u with
    | zero =>
      have e : (0 + t - 1) % t = t - 1 := by rw [Nat.zero_add]; exact Nat.mod_eq_of_lt (by lia)
      rw [e, List.getD_eq_getElem?_getD, at_ _ (by lia), show t - 1 + 1 = t by lia, y.back]
      rfl
    | succ u =>
      have e : (u + 1 + t - 1) % t = u := by rw [show u + 1 + t - 1 = u + t by lia, Nat.add_mod_right]; exact Nat.mod_eq_of_lt (by lia)
      rw [e, List.getD_eq_getElem?_getD, at_ _ (by lia)]
      rfl
end
end
section
theorem flat_perm {α β : Type} {A : List α → List β} {f : α → β} : ∀ cs : List (List α), (∀ c ∈ cs, (A c).Perm (c.map f)) → (cs.map A).flatten.Perm (cs.flatten.map f)
  | [], _ => .refl _
  | c :: cs, h => by
    rw [List.map_cons, List.flatten_cons, List.flatten_cons, List.map_append]
    exact (h c (.head _)).append (flat_perm cs fun d hd => h d (.tail _ hd))
noncomputable def ltP (x y : List UInt8 × Int) : Bool := if x.1 = y.1 then decide (x.2 < y.2) else bLt x.1 y.1
theorem ltP_conn {x y : List UInt8 × Int} (h1 : ltP x y = false) (h2 : ltP y x = false) : x = y := by
  obtain ⟨a, b⟩ := x
  obtain ⟨c, d⟩ := y
  unfold ltP at h1 h2
  by_cases e : a = c
  · subst e
    simp at h1 h2
    congr 1; lia
  · rw [if_neg e] at h1
    rw [if_neg (Ne.symm e)] at h2
    exact absurd (so_bytes.conn _ _ h1 h2) e
theorem ltP_eq (x y : List UInt8 × Int) : (if (decide (x.1 = y.1)) = true then (if x.2 = y.2 then false else decide (x.2 < y.2)) else bLt x.1 y.1) = ltP x y := by
  obtain ⟨a, b⟩ := x
  obtain ⟨c, d⟩ := y
  unfold ltP
  by_cases h : a = c
  · simp only [h, decide_true, if_true]
    by_cases hb : b = d
    · rw [if_pos hb]; simp [hb]
    · rw [if_neg hb]
  · simp [h]
theorem bk_ltP (tl : List (List UInt8 × Int)) (i j : Nat) : bkLt tl i j = ltP (tl.getD i ([], 0)) (tl.getD j ([], 0)) := ltP_eq _ _
theorem getD_range {α : Type} (l : List α) (d : α) : (List.range l.length).map (fun i => l.getD i d) = l := by
  refine List.ext_getElem (by simp) fun i h1 h2 => ?_
  rw [List.getElem_map, List.getElem_range]
  simp [h2]
section
variable {row : List UInt8} (hn : few row.length) (h : Ab row)
include hn h
theorem oo_fun : (fun i => (orderOf row).getD i 0) = oo row := rfl
theorem turned_perm : (turnedOf (roundsOf row (orderOf row))).Perm ((List.range row.length).map (itm row)) := by
  rw [rounds_cyc, turned_eq, List.map_map]
  obtain ⟨h1, h2⟩ := cyc_ok (ord_pm hn)
  refine List.Perm.trans (flat_perm (f := itm row) (cyc (oo row) row.length) fun c hc => ?_) (h1.map _)
  obtain ⟨s, t, y⟩ := h2 c hc
  show ((List.range (c.map (rowAt row)).length).map (turnOf (c.map (rowAt row)))).Perm _
  rw [turn_one hn h y]
  exact y.perm.symm.map _
theorem back_row : backOf (roundsOf row (orderOf row)) = row ∧ (turnedOf (roundsOf row (orderOf row))).length = row.length := by
  have tp := turned_perm hn h
  have tlen : (turnedOf (roundsOf row (orderOf row))).length = row.length := by rw [tp.length_eq, List.length_map, List.length_range]
  refine ⟨?_, tlen⟩
  generalize htl : turnedOf (roundsOf row (orderOf row)) = tl at tp tlen
  have hn2 : few tl.length := by rw [tlen]; exact hn
  obtain ⟨q1, q2, _⟩ := few_ev (pair_ord so_bytes (tlW tl) (tlB tl)) hn2
  have e1 : ((srt (bkLt tl) tl.length).map fun k => tl.getD k ([], 0)).Perm tl := by
    have := q1.map (fun k => tl.getD k ([], 0))
    rw [getD_range] at this
    exact this
  have s1 : ((srt (bkLt tl) tl.length).map fun k => tl.getD k ([], 0)).Pairwise fun x y => ltP y x = false := by
    rw [List.pairwise_map]
    refine q2.imp fun {a b} hab => ?_
    rw [← bk_ltP]
    exact hab
  have s2 : ((List.range row.length).map (itm row)).Pairwise fun x y => ltP y x = false := by
    rw [List.pairwise_map]
    refine List.pairwise_lt_range.imp_of_mem fun {a b} ha hb hab => ?_
    have hb := List.mem_range.mp hb
    unfold ltP itm
    by_cases e : wl row 14 b = wl row 14 a
    · rw [if_pos e]
      have := wl_tie hn hb (by lia) e
      unfold rowAt
      rw [this]; simp
    · rw [if_neg e]
      exact wl_mono hn 14 a b hab hb
  have e2 := List.Perm.eq_of_pairwise (fun x y _ _ h1 h2 => ltP_conn h2 h1) s1 s2 (e1.trans tp)
  have e3 : (srt (bkLt tl) tl.length).map (tlB tl) = (List.range row.length).map (rowAt row) := by
    have := congrArg (List.map Prod.snd) e2
    rw [List.map_map, List.map_map] at this
    exact this
  unfold backOf backL
  rw [htl, e3]
  unfold bytesOf
  rw [List.map_map]
  conv => rhs; rw [← getD_range row 0]
  refine List.map_congr_left fun i _ => ?_
  show (((row.getD i 0).toNat : Int)).toNat.toUInt8 = row.getD i 0
  rw [Int.toNat_natCast]
  exact UInt8.ofNat_toNat
end
end
section
noncomputable def mr (n i : Nat) : Nat := n - 1 - i
theorem mr_lt {n i : Nat} (h : i < n) : mr n i < n := by unfold mr; lia
theorem mr_mr {n i : Nat} (h : i < n) : mr n (mr n i) = i := by unfold mr; lia
theorem mr_perm (n : Nat) : ((List.range n).map (mr n)).Perm (List.range n) := by
  refine (List.perm_ext_iff_of_nodup ?_ List.nodup_range).mpr fun i => ?_
  · rw [List.nodup_iff_pairwise_ne, List.pairwise_map]
    refine List.pairwise_lt_range.imp_of_mem fun {a b} ha hb hab => ?_
    have := List.mem_range.mp hb
    unfold mr; lia
  · rw [List.mem_map, List.mem_range]
    exact ⟨fun ⟨j, hj, e⟩ => by rw [← e]; exact mr_lt (List.mem_range.mp hj), fun h => ⟨mr n i, List.mem_range.mpr (mr_lt h), mr_mr h⟩⟩
noncomputable def mrow (row : List UInt8) : List UInt8 := bytesOf ((bytesI row.reverse).map fun c => 133 - c)
theorem mrow_len (row : List UInt8) : (mrow row).length = row.length := by unfold mrow bytesOf bytesI; simp
section
variable {row : List UInt8} (hn : few row.length) (h : Ab row)
include hn h
theorem mrow_at {i : Nat} (hi : i < row.length) : rowAt (mrow row) i = 133 - rowAt row (mr row.length i) := by
  have hm := mr_lt hi
  have ab := row_ab hn h hm
  have e1 : (mrow row)[i]? = some ((133 - ((row.getD (mr row.length i) 0).toNat : Int)).toNat.toUInt8) := by
    unfold mrow bytesOf bytesI
    rw [List.getElem?_map, List.getElem?_map, List.getElem?_map, List.getElem?_reverse hi]
    have : row[row.length - 1 - i]? = some (row.getD (mr row.length i) 0) := by
      rw [List.getD_eq_getElem?_getD]
      unfold mr at hm ⊢
      rw [List.getElem?_eq_getElem hm]; rfl
    rw [this]; rfl
  unfold rowAt
  rw [List.getD_eq_getElem?_getD, e1]
  show (((133 - ((row.getD (mr row.length i) 0).toNat : Int)).toNat.toUInt8).toNat : Int) = _
  have : ((133 - ((row.getD (mr row.length i) 0).toNat : Int)).toNat.toUInt8).toNat = (133 - ((row.getD (mr row.length i) 0).toNat : Int)).toNat := by
    rw [show ((133 - ((row.getD (mr row.length i) 0).toNat : Int)).toNat.toUInt8).toNat = (133 - ((row.getD (mr row.length i) 0).toNat : Int)).toNat % 256 from UInt8.toNat_ofNat ..]
    lia
  rw [this]; lia
theorem mrow_ord : orderOf (mrow row) = (List.range row.length).map fun i => mr row.length (oo row (mr row.length i)) := by
  have hn' : few (mrow row).length := by rw [mrow_len]; exact hn
  have P := ord_pm hn
  have p1 := (few_ev (pl_ord (mrow row)) hn').1
  have s1 := (few_ev (pl_ord (mrow row)) hn').2.1
  rw [mrow_len] at p1
  have p2 : ((List.range row.length).map fun i => mr row.length (oo row (mr row.length i))).Perm (List.range row.length) := by
    have q1 : ((List.range row.length).map (oo row)).Perm (List.range row.length) := by
      have : (List.range row.length).map (oo row) = orderOf row := by rw [← ord_len hn]; exact getD_range _ 0
      rw [this]; exact ord_perm hn
    have q2 := ((mr_perm row.length).map (fun i => mr row.length (oo row i)))
    have q3 := (q1.map (mr row.length)).trans (mr_perm row.length)
    rw [List.map_map] at q2 q3
    exact q2.trans q3
  have s2 : ((List.range row.length).map fun i => mr row.length (oo row (mr row.length i))).Pairwise fun i j => plLt (mrow row) j i = false := by
    rw [List.pairwise_map]
    refine List.pairwise_lt_range.imp_of_mem fun {i j} hi hj hij => ?_
    have hj := List.mem_range.mp hj
    have hi : i < row.length := by lia
    have hab : mr row.length j < mr row.length i := by unfold mr; lia
    have l1 := P.lt _ (mr_lt hj)
    have l2 := P.lt _ (mr_lt hi)
    have e1 := mrow_at hn h (mr_lt l1)
    have e2 := mrow_at hn h (mr_lt l2)
    rw [mr_mr l1] at e1
    rw [mr_mr l2] at e2
    unfold plLt pairLt
    rcases ord_lt hn hab (mr_lt hi) with q | ⟨q1, q2⟩
    · have hne : ¬ rowAt (mrow row) (mr row.length (oo row (mr row.length j))) = rowAt (mrow row) (mr row.length (oo row (mr row.length i))) := by rw [e1, e2]; lia
      simp only [hne, decide_false, Bool.false_eq_true, if_false, decide_eq_false_iff_not]
      rw [e1, e2]; lia
    · have heq : rowAt (mrow row) (mr row.length (oo row (mr row.length j))) = rowAt (mrow row) (mr row.length (oo row (mr row.length i))) := by rw [e1, e2]; lia
      simp only [heq, decide_true, if_true]
      split
      · rfl
      · simp only [decide_eq_false_iff_not]
        unfold mr at l1 l2 q2 ⊢
        lia
  refine List.Perm.eq_of_pairwise (le := fun i j => plLt (mrow row) j i = false) (fun a b _ _ h1 h2 => ?_) s1 s2 ((by show (orderOf (mrow row)).Perm _; unfold orderOf srt; rw [mrow_len]; exact p1.trans p2.symm))
  unfold plLt pairLt at h1 h2
  by_cases e : rowAt (mrow row) b = rowAt (mrow row) a
  · simp only [e, decide_true, if_true] at h1 h2
    by_cases e2 : ((b : Nat) : Int) = (a : Nat)
    · lia
    · rw [if_neg e2] at h1
      rw [if_neg (Ne.symm e2)] at h2
      simp only [decide_eq_false_iff_not] at h1 h2
      lia
  · have e' : ¬ rowAt (mrow row) a = rowAt (mrow row) b := fun q => e q.symm
    simp only [e, e', decide_false, Bool.false_eq_true, if_false, decide_eq_false_iff_not] at h1 h2
    lia
end
end
section
noncomputable def perB (p : Nat → Nat) (k i : Nat) : Bool := decide (it p k i = i) && (List.range k).all fun u => decide (u = 0) || decide (it p u i ≠ i)
theorem perB_iff {p : Nat → Nat} {k i : Nat} : perB p k i = true ↔ it p k i = i ∧ ∀ u, 1 ≤ u → u < k → it p u i ≠ i := by
  unfold perB
  rw [Bool.and_eq_true, decide_eq_true_eq, List.all_eq_true]
  constructor
  · rintro ⟨h1, h2⟩
    refine ⟨h1, fun u a b => ?_⟩
    have := h2 u (List.mem_range.mpr b)
    rw [Bool.or_eq_true, decide_eq_true_eq, decide_eq_true_eq] at this
    rcases this with q | q
    · lia
    · exact q
  · rintro ⟨h1, h2⟩
    refine ⟨h1, fun u hu => ?_⟩
    rw [Bool.or_eq_true, decide_eq_true_eq, decide_eq_true_eq]
    by_cases q : u = 0
    · exact .inl q
    · exact .inr (h2 u (by lia) (List.mem_range.mp hu))
noncomputable def sizeN (cs : List (List Nat)) (k : Nat) : Nat := (cs.filter fun c => decide (c.length = k)).length
section
variable {n : Nat} {p : Nat → Nat} (P : Pm n p)
include P
theorem cy_per {c : List Nat} {s t : Nat} (y : Cy n p c s t) {i : Nat} (hi : i ∈ c) {k : Nat} (hk : 1 ≤ k) : perB p k i = decide (c.length = k) := by
  obtain ⟨a, ha, rfl⟩ := List.mem_map.mp (y.perm.mem_iff.mp hi)
  have ha := List.mem_range.mp ha
  have bk : it p t (it p a s) = it p a s := by rw [← it_add, Nat.add_comm, it_add, y.back]
  have at_s : ∀ u, it p u (it p a s) = it p a s → it p u s = s := fun u e => by
    rw [← it_add, Nat.add_comm, it_add] at e
    exact P.it_inj (P.it_lt y.sn u) y.sn a e
  have no : ∀ u, 1 ≤ u → u < t → it p u s ≠ s := fun u h1 h2 e => by
    have h := List.pairwise_iff_getElem.mp (List.nodup_iff_pairwise_ne.mp y.nd) 0 u (by unfold orb; simp; lia) (by unfold orb; simp; exact h2) (by lia)
    unfold orb at h
    simp only [List.getElem_map, List.getElem_range] at h
    exact h e.symm
  rw [y.len]
  by_cases hq : t = k
  · subst hq
    rw [decide_eq_true rfl]
    exact perB_iff.mpr ⟨bk, fun u h1 h2 e => no u h1 h2 (at_s u e)⟩
  · rw [decide_eq_false hq]
    cases hb : perB p k (it p a s) with
    | false => rfl
    | true =>
      obtain ⟨h1, h2⟩ := perB_iff.mp hb
      rcases Nat.lt_or_gt_of_ne hq with q | q
      · exact absurd bk (h2 t y.t1 q)
      · exact absurd (at_s k h1) (no k hk q)
theorem per_count {k : Nat} (hk : 1 ≤ k) : ((List.range n).filter (perB p k)).length = k * sizeN (cyc p n) k := by
  obtain ⟨h1, h2⟩ := cyc_ok P
  rw [(h1.symm.filter (perB p k)).length_eq]
  suffices h : ∀ cs : List (List Nat), (∀ c ∈ cs, ∃ s t, Cy n p c s t) → (cs.flatten.filter (perB p k)).length = k * sizeN cs k from h _ h2
  intro cs
  induction cs with
  | nil => intro _; rfl
  | cons c cs ih =>
    intro hc
    obtain ⟨s, t, y⟩ := hc c (.head _)
    rw [List.flatten_cons, List.filter_append, List.length_append, ih fun d hd => hc d (.tail _ hd)]
    unfold sizeN
    by_cases hl : c.length = k
    · have : c.filter (perB p k) = c := List.filter_eq_self.mpr fun i hi => by rw [cy_per P y hi hk, decide_eq_true hl]
      rw [this, List.filter_cons_of_pos (by simpa using hl), List.length_cons, hl, Nat.mul_succ]; lia
    · have : c.filter (perB p k) = [] := List.filter_eq_nil_iff.mpr fun i hi => by rw [cy_per P y hi hk, decide_eq_false hl]; decide
      rw [this, List.filter_cons_of_neg (by simpa using hl)]; simp
end
theorem conj_sizes {n : Nat} {p q : Nat → Nat} (P : Pm n p) (Q : Pm n q) (hq : ∀ i, i < n → q i = mr n (p (mr n i))) {k : Nat} (hk : 1 ≤ k) : sizeN (cyc q n) k = sizeN (cyc p n) k := by
  have hit : ∀ u i, i < n → it q u i = mr n (it p u (mr n i)) := fun u => by
    induction u with
    | zero => intro i hi; exact (mr_mr hi).symm
    | succ u ih =>
      intro i hi
      show q (it q u i) = mr n (p (it p u (mr n i)))
      rw [ih i hi, hq _ (mr_lt (P.it_lt (mr_lt hi) u)), mr_mr (P.it_lt (mr_lt hi) u)]
  have hper : ∀ i, i < n → perB q k i = perB p k (mr n i) := fun i hi => by
    have key : ∀ u, it q u i = i ↔ it p u (mr n i) = mr n i := fun u => by
      rw [hit u i hi]
      constructor
      · intro e
        have := congrArg (mr n) e
        rw [mr_mr (P.it_lt (mr_lt hi) u)] at this
        exact this
      · intro e; rw [e, mr_mr hi]
    rw [Bool.eq_iff_iff, perB_iff, perB_iff, key]
    exact ⟨fun x => ⟨x.1, fun u a b c => x.2 u a b ((key u).mpr c)⟩, fun x => ⟨x.1, fun u a b c => x.2 u a b ((key u).mp c)⟩⟩
  have e1 : ((List.range n).filter (perB q k)).length = ((List.range n).filter (perB p k)).length := by
    rw [← (((mr_perm n).filter (perB p k)).length_eq), List.filter_map, List.length_map]
    congr 1
    exact List.filter_congr fun i hi => hper i (List.mem_range.mp hi)
  rw [per_count Q hk, per_count P hk] at e1
  exact Nat.eq_of_mul_eq_mul_left (by lia) e1
end
section
theorem ext_getD {l l' : List Int} (hl : l.length = l'.length) (h : ∀ k : Nat, (l[k]?).getD 0 = (l'[k]?).getD 0) : l = l' := by
  refine List.ext_getElem hl fun i h1 h2 => ?_
  have := h i
  rw [List.getElem?_eq_getElem h1, List.getElem?_eq_getElem h2] at this
  exact this
theorem bump_comm (c : List Int) (a b : Nat) : bump (bump c a) b = bump (bump c b) a := by
  refine ext_getD (by rw [bump_len', bump_len', bump_len', bump_len']; lia) fun k => ?_
  rw [bump_get, bump_get, bump_get, bump_get]; lia
theorem cnts_perm {l l' : List Int} (h : l.Perm l') (c : List Int) : cnts l c = cnts l' c := by
  unfold cnts
  exact h.foldl_eq' (fun x _ y _ z => bump_comm z _ _) c
theorem hasN_count {l : List Int} (hl : ∀ s ∈ l, 0 ≤ s) (k : Nat) : hasN l k = (l.count (k : Int) : Nat) := by
  unfold hasN
  rw [List.count_eq_countP, List.countP_eq_length_filter]
  congr 2
  refine List.filter_congr fun s hs => ?_
  have := hl s hs
  by_cases h : s = (k : Int)
  · simp [h]
  · have h2 : ¬ s.toNat = k := by lia
    simp [h, h2]
theorem perm_of_cnts {l l' : List Int} (hl : ∀ s ∈ l, 0 ≤ s) (hl' : ∀ s ∈ l', 0 ≤ s) (h : cnts l [] = cnts l' []) : l.Perm l' := by
  refine List.perm_iff_count.mpr fun a => ?_
  by_cases ha : 0 ≤ a
  · have h1 := cnts_get l [] a.toNat
    have h2 := cnts_get l' [] a.toNat
    rw [h] at h1
    have e : hasN l a.toNat = hasN l' a.toNat := by
      have : (([] : List Int)[a.toNat]?).getD 0 = 0 := rfl
      lia
    rw [hasN_count hl, hasN_count hl'] at e
    have e2 : ((a.toNat : Nat) : Int) = a := by lia
    rw [e2] at e
    lia
  · rw [List.count_eq_zero_of_not_mem fun q => ha (hl a q), List.count_eq_zero_of_not_mem fun q => ha (hl' a q)]
theorem equal_lead {s s' : List Int} {r r' : Int} (hs : ∀ x ∈ s, 0 ≤ x) (hs' : ∀ x ∈ s', 0 ≤ x) (hr : 0 ≤ r) (hr' : 0 ≤ r') : equalOf (leadW s r) (leadW s' r') = true ↔ s.Perm s' ∧ r = r' := by
  rw [leadW_eq hs hr, leadW_eq hs' hr']
  unfold equalOf
  rw [decide_eq_true_eq]
  exact ⟨fun x => ⟨perm_of_cnts hs hs' x.1, x.2⟩, fun x => ⟨cnts_perm x.1 [], x.2⟩⟩
theorem sortI_iff {l l' : List Int} : sortI l = sortI l' ↔ l.Perm l' :=
  ⟨fun h => (sortI_perm l).symm.trans (h ▸ sortI_perm l'), fun h => List.Perm.eq_of_pairwise (fun a b _ _ h1 h2 => Int.le_antisymm h1 h2) (sortI_pw l) (sortI_pw l') ((sortI_perm l).trans (h.trans (sortI_perm l').symm))⟩
end
section
theorem fold_sum (g : Nat → Int) : ∀ (l : List Nat) (a : Int), l.foldl (fun x i => x + g i) a = a + (l.map g).sum
  | [], a => by simp
  | i :: l, a => by rw [List.foldl_cons, fold_sum g l, List.map_cons, List.sum_cons]; lia
theorem hasN_cons (s : Int) (l : List Int) (k : Nat) : hasN (s :: l) k = hasN l k + if s.toNat = k then 1 else 0 := by
  unfold hasN
  by_cases h : s.toNat = k
  · rw [if_pos h, List.filter_cons_of_pos (by simpa using h), List.length_cons]; lia
  · rw [if_neg h, List.filter_cons_of_neg (by simpa using h)]; lia
noncomputable def gsum (t : Int) (l : List Int) (N : Nat) : Int := ((List.range N).map fun i : Nat => (t + (i : Int)) / t * hasN l (t + (i : Int)).toNat).sum
theorem gsum_succ (t : Int) (l : List Int) (N : Nat) : gsum t l (N + 1) = gsum t l N + (t + (N : Int)) / t * hasN l (t + (N : Int)).toNat := by
  unfold gsum
  rw [List.range_succ, List.map_append, List.sum_append]; simp
theorem gsum_cons {t s : Int} (ht : 1 ≤ t) (h0 : 0 ≤ s) (l : List Int) : ∀ N : Nat, gsum t (s :: l) N = gsum t l N + if t ≤ s ∧ s < t + N then s / t else 0
  | 0 => by
    rw [if_neg (by lia)]
    unfold gsum; simp
  | N + 1 => by
    rw [gsum_succ, gsum_succ, gsum_cons ht h0 l N, hasN_cons]
    by_cases h : s = t + (N : Int)
    · rw [if_neg (by lia), if_pos (by lia), if_pos (by lia), ← h, Int.mul_add, Int.mul_one]; lia
    · rw [if_neg (c := s.toNat = _) (by lia)]
      by_cases h2 : t ≤ s ∧ s < t + N
      · rw [if_pos h2, if_pos (by lia)]; simp only [Int.add_zero]; lia
      · rw [if_neg h2, if_neg (by lia)]; simp only [Int.add_zero]
theorem gsum_all {t : Int} (ht : 1 ≤ t) : ∀ (l : List Int) (N : Nat), (∀ s ∈ l, 0 ≤ s ∧ s < t + N) → gsum t l N = (l.map fun s => s / t).sum
  | [], N, _ => by
    unfold gsum hasN
    have : ∀ l : List Nat, (l.map fun i : Nat => (t + (i : Int)) / t * ((([] : List Int).filter fun s => decide (s.toNat = (t + (i : Int)).toNat)).length : Int)).sum = 0 := fun l => by
      induction l with
      | nil => rfl
      | cons a l ih => rw [List.map_cons, List.sum_cons, ih]; simp
    exact this _
  | s :: l, N, h => by
    have hs := h s (.head _)
    rw [gsum_cons ht hs.1, gsum_all ht l N fun x hx => h x (.tail _ hx), List.map_cons, List.sum_cons]
    by_cases q : t ≤ s
    · rw [if_pos ⟨q, hs.2⟩]; lia
    · rw [if_neg (by lia), Int.ediv_eq_zero_of_lt hs.1 (by lia)]; lia
theorem cnts_ge : ∀ (l : List Int) (c : List Int), c.length ≤ (cnts l c).length ∧ ∀ s ∈ l, s.toNat + 1 ≤ (cnts l c).length
  | [], c => ⟨Nat.le_refl _, fun s h => nomatch h⟩
  | s :: l, c => by
    obtain ⟨h1, h2⟩ := cnts_ge l (bump c s.toNat)
    have := bump_len' c s.toNat
    refine ⟨?_, fun x hx => ?_⟩
    · show c.length ≤ (cnts l (bump c s.toNat)).length; lia
    · show x.toNat + 1 ≤ (cnts l (bump c s.toNat)).length
      rcases List.mem_cons.mp hx with rfl | hx
      · lia
      · exact h2 x hx
section
variable {l : List Int} {r : Int} (hl : ∀ s ∈ l, 0 ≤ s) (hr : 0 ≤ r)
include hl hr
theorem il_lead {t : Int} (ht : 1 ≤ t) : ilOf (leadW l r) t = r + t * (l.map fun s => s / t + 1).sum := by
  have e1 : ilSum (leadW l r) t = (l.map fun s => s / t).sum := by
    unfold ilSum
    rw [fold_sum (fun i : Nat => (t + (i : Int)) / t * cntAt (leadW l r) (t + (i : Int)))]
    have hc : (leadW l r).count = cnts l [] := by rw [leadW_eq hl hr]
    rw [hc, Int.zero_add]
    have hg : (fun i : Nat => (t + (i : Int)) / t * cntAt (leadW l r) (t + (i : Int))) = fun i : Nat => (t + (i : Int)) / t * hasN l (t + (i : Int)).toNat := by
      funext i
      have : cntAt (leadW l r) (t + (i : Int)) = hasN l (t + (i : Int)).toNat := by
        unfold cntAt
        rw [hc, cnts_get]
        show (0 : Int) + _ = _
        lia
      rw [this]
    rw [hg]
    refine gsum_all ht l _ fun s hs => ⟨hl s hs, ?_⟩
    have := (cnts_ge l []).2 s hs
    have := hl s hs
    lia
  have e2 : (leadW l r).nt = l.length ∧ (leadW l r).b = r := by rw [leadW_eq hl hr]; exact ⟨rfl, rfl⟩
  unfold ilOf
  rw [e1, e2.1, e2.2]
  congr 2
  clear e1 e2 hl
  induction l with
  | nil => rfl
  | cons s l ih => rw [List.map_cons, List.map_cons, List.sum_cons, List.sum_cons, ← ih, List.length_cons]; lia
theorem run_ge : (∀ s ∈ l, s ≤ runOf (leadW l r)) ∧ r ≤ runOf (leadW l r) := by
  rw [leadW_eq hl hr]
  unfold runOf
  refine ⟨fun s hs => ?_, Int.le_max_right _ _⟩
  have := (cnts_ge l []).2 s hs
  have := hl s hs
  refine Int.le_trans ?_ (Int.le_max_left _ _)
  show s ≤ (((cnts l []).length : Nat) : Int) - 1
  lia
theorem run_le {M : Int} (h0 : 0 ≤ M) (h1 : ∀ s ∈ l, s ≤ M) (h2 : r ≤ M) : runOf (leadW l r) ≤ M := by
  rw [leadW_eq hl hr]
  unfold runOf
  refine Int.max_le.mpr ⟨?_, h2⟩
  have := cnts_len l [] (M.toNat + 1) (by simp) fun s hs => by have := h1 s hs; lia
  show (((cnts l []).length : Nat) : Int) - 1 ≤ M
  lia
theorem lead_n : (leadW l r).n = l.sum + l.length + r ∧ (leadW l r).nt = l.length ∧ (leadW l r).b = r := by rw [leadW_eq hl hr]; exact ⟨rfl, rfl, rfl⟩
theorem lead_simple : ((leadW l r).count.length : Int) ≤ 1 ↔ ∀ s ∈ l, s = 0 := by
  rw [leadW_eq hl hr]
  show ((cnts l []).length : Int) ≤ 1 ↔ _
  constructor
  · intro h s hs
    have := (cnts_ge l []).2 s hs
    have := hl s hs
    lia
  · intro h
    have := cnts_len l [] 1 (by simp) fun s hs => by rw [h s hs]; decide
    lia
end
theorem div_less {t : Int} (ht : 1 ≤ t) (s : Int) : s / t = (s - 1) / t + if s % t = 0 then 1 else 0 := by
  have e : s - 1 = (s % t - 1) + t * (s / t) := by have := Int.mul_ediv_add_emod s t; lia
  have t0 : t ≠ 0 := by lia
  rw [e, Int.add_mul_ediv_left _ _ t0]
  have h1 := Int.emod_nonneg s t0
  have h2 := Int.emod_lt_of_pos s (by lia : 0 < t)
  by_cases h : s % t = 0
  · rw [if_pos h, h]
    have : (0 - 1 : Int) = (t - 1) + t * (-1) := by lia
    rw [this, Int.add_mul_ediv_left _ _ t0, Int.ediv_eq_zero_of_lt (a := t - 1) (b := t) (by lia) (by lia)]; lia
  · rw [if_neg h, Int.ediv_eq_zero_of_lt (a := s % t - 1) (b := t) (by lia) (by lia)]; lia
noncomputable def hits (l : List Int) (t : Int) : Int := ((l.filter fun s => decide (s % t = 0)).length : Int)
theorem sum_less {t : Int} (ht : 1 ≤ t) : ∀ l : List Int, (l.map fun s => s / t + 1).sum = ((l.map fun s => s - 1).map fun s => s / t + 1).sum + hits l t
  | [] => rfl
  | s :: l => by
    have ih := sum_less ht l
    have d := div_less ht s
    unfold hits at ih ⊢
    rw [List.map_cons, List.map_cons, List.map_cons, List.sum_cons, List.sum_cons, ih]
    by_cases h : s % t = 0
    · rw [List.filter_cons_of_pos (by simpa using h), List.length_cons]; rw [if_pos h] at d; lia
    · rw [List.filter_cons_of_neg (by simpa using h)]; rw [if_neg h] at d; lia
theorem fold_pick {β : Type} (c : Nat → Prop) [DecidablePred c] (f : Nat → β) : ∀ (l : List Nat) (a : List β), l.foldl (fun a i => if c i then a else a ++ [f i]) a = a ++ (l.filter fun i => !decide (c i)).map f
  | [], a => by simp
  | i :: l, a => by
    rw [List.foldl_cons, fold_pick c f l]
    by_cases h : c i
    · rw [if_pos h, List.filter_cons_of_neg (by simpa using h)]
    · rw [if_neg h, List.filter_cons_of_pos (by simpa using h)]; simp
theorem range_pick (p : Nat → Bool) (N K : Nat) : (List.range N).filter p = (List.range (N + K)).filter fun i => decide (i < N) && p i := by
  rw [List.range_add, List.filter_append]
  rw [List.filter_eq_nil_iff (l := (List.range K).map (N + ·)) |>.mpr fun i hi => by
    obtain ⟨j, _, rfl⟩ := List.mem_map.mp hi
    simp; intro q; lia]
  rw [List.append_nil]
  exact List.filter_congr fun i hi => by simp [List.mem_range.mp hi]
theorem range_same {p q : Nat → Bool} {N M : Nat} (h : ∀ i, (i < N ∧ p i = true) ↔ (i < M ∧ q i = true)) : (List.range N).filter p = (List.range M).filter q := by
  rw [range_pick p N M, range_pick q M N, Nat.add_comm M N]
  refine List.filter_congr fun i _ => ?_
  rw [Bool.eq_iff_iff, Bool.and_eq_true, Bool.and_eq_true, decide_eq_true_eq, decide_eq_true_eq]
  exact h i
theorem wit_pick (w v : WS) : witOf w v = ((List.range (max (runOf w) (runOf v) + 1).toNat).filter fun i : Nat => !decide (ilOf w (1 + (i : Int)) = ilOf v (1 + (i : Int)))).map fun i : Nat => (1 + (i : Int), ilOf w (1 + (i : Int)), ilOf v (1 + (i : Int))) := by
  unfold witOf
  rw [show max (runOf w) (runOf v) + 1 + 1 - 1 = max (runOf w) (runOf v) + 1 by lia]
  have := fold_pick (fun i : Nat => ilOf w (1 + (i : Int)) = ilOf v (1 + (i : Int))) (fun i : Nat => (1 + (i : Int), ilOf w (1 + (i : Int)), ilOf v (1 + (i : Int)))) (List.range (max (runOf w) (runOf v) + 1).toNat) []
  rw [List.nil_append] at this
  exact this
theorem lessGo_iff (w v : WS) : ∀ l : List Nat, lessGo w v l = true ↔ ∀ i ∈ l, ilOf w (2 + (i : Int)) < ilOf v (2 + (i : Int))
  | [] => by unfold lessGo; simp
  | i :: l => by
    unfold lessGo
    by_cases h : ilOf v (2 + (i : Int)) ≤ ilOf w (2 + (i : Int))
    · rw [if_pos h]
      constructor
      · intro q; cases q
      · intro q
        have := q i (.head _)
        lia
    · rw [if_neg h, lessGo_iff w v l]
      refine ⟨fun q j hj => ?_, fun q j hj => q j (.tail _ hj)⟩
      rcases List.mem_cons.mp hj with rfl | hj
      · lia
      · exact q j hj
theorem sum_ge : ∀ {l : List Int}, (∀ s ∈ l, 0 ≤ s) → 0 ≤ l.sum ∧ ∀ s ∈ l, s ≤ l.sum
  | [], _ => ⟨Int.le_refl _, fun s h => nomatch h⟩
  | x :: l, h => by
    obtain ⟨h1, h2⟩ := sum_ge (l := l) fun s hs => h s (.tail _ hs)
    have hx := h x (.head _)
    rw [List.sum_cons]
    refine ⟨by lia, fun s hs => ?_⟩
    rcases List.mem_cons.mp hs with rfl | hs
    · lia
    · have := h2 s hs; lia
end
section
open PySem.NumText
variable {C : Cx} {A : Around} {k : Nat} {Lf : Addr} {v : LV}
theorem code3 : ∀ k : Fin 900, (digs (100 + (k.val : Int))).length = 3 := by decide +kernel
noncomputable def codeS (v : LV) : Str := Str.ofString (toString (100 + v.d4 / 4 % 900))
theorem code_ok (v : LV) : (cl (codeS v)).length = 3 ∧ PyData.strOk (codeS v) = true := by
  have h0 : 0 ≤ v.d4 / 4 % 900 ∧ v.d4 / 4 % 900 < 900 := by lia
  constructor
  · have := code3 ⟨(v.d4 / 4 % 900).toNat, by lia⟩
    have e : (((v.d4 / 4 % 900).toNat : Nat) : Int) = v.d4 / 4 % 900 := by lia
    rw [show ((⟨(v.d4 / 4 % 900).toNat, by lia⟩ : Fin 900).val : Int) = v.d4 / 4 % 900 from e] at this
    exact this
  · have D : Dig (digs (100 + v.d4 / 4 % 900)) := digs_dig (by lia) (by lia)
    exact so_cl fun a ha => by have := D.all a ha; lia
theorem l_go5 (G : Good C) (AO : AOk A (k + 4)) (ch : ChainB C A Lf) (o : LOk v) : ExSC C A (en193 C.w Lf) (W5 v) (nth C.w 193 5) (W5 v) .next := by
  have b := o.b0
  have i4 := o.ix4
  conv => arg 5; whnf
  refine exC_if (b := false) ?_ (eaC_of ea_nil)
  refine tsC_val (d := .bool false) ?_ rfl (by intros; rfl)
  refine evC_call (ds := [.str (one v.m), .int v.base, .str (codeS v)]) G.ok AO ch (G.gl rfl) (by kernel_rfl) rfl (G.kf (by kernel_rfl)) ?_ fun o' => FnOkXC.le (law_spoilt (G.add _ _) ⟨o.mrk, b.1, by lia⟩ (code_ok v).1 (code_ok v).2) (by lia)
  (with_reducible apply EvAll.cons); (· exact ev_name rfl rfl); (· intros; rfl)
  (with_reducible apply EvAll.cons); (· exact ev_name rfl rfl); (· intros; rfl)
  (with_reducible apply EvAll.cons); rotate_left; (· intros; rfl); (· exact .nil)
  refine ev_tcall (ds := [.int (100 + v.d4 / 4 % 900)]) G.ok AO (G.gl rfl) (by kernel_rfl) rfl ?_ (bc_str ⟨by lia, by lia⟩)
  (with_reducible apply EvAll.cons); rotate_left; (· intros; rfl); (· exact .nil)
  refine ev_binop (a := .int 100) (b := .int (v.d4 / 4 % 900)) ev_int ?_ bo_add_int
  refine ev_binop (a := .int (v.d4 / 4)) (b := .int 900) ?_ ev_int (bo_mod (by decide))
  exact ev_binop (a := .int v.d4) (b := .int 4) (ev_sub (ev_name rfl rfl) ev_int (sb_list i4) rfl) ev_int (bo_div (by decide) (by decide))
end
section
open PySem.NumText
variable {C : Cx} {A : Around} {k : Nat} {Lf : Addr} {v : LV}
noncomputable def W6 (v : LV) : PS := [("script", .val (.list (intsPV v.script))), ("draws", .val (.list (intsPV v.draws))), ("size", .val (.int (v.n : Int))), ("base", .val (.int v.base)), ("mark", .val (.str (one v.m))), ("rest", .val (.int v.rest)), ("due", .val (.bytes v.row))]
noncomputable def W7 (v : LV) : PS := [("script", .val (.list (intsPV v.script))), ("draws", .val (.list (intsPV v.draws))), ("size", .val (.int (v.n : Int))), ("base", .val (.int v.base)), ("mark", .val (.str (one v.m))), ("rest", .val (.int v.rest)), ("due", .val (.bytes v.row)), ("row", .val (.bytes v.row))]
theorem l_go6 (G : Good C) (AO : AOk A (k + 4)) (o : LOk v) : ExS C A (en193 C.w Lf) (W5 v) (nth C.w 193 6) (W6 v) .next := by
  have hn := o.n7
  have hd := o.dl
  have ht : (v.draws.take v.n).length ≤ 8 := by rw [List.length_take]; lia
  conv => arg 5; whnf
  refine ex_set (d := .bytes v.row) (by exact Or.inl (by kernel_rfl)) (by kernel_rfl) ?_
  rw [← o.hrow]
  refine ev_tcall (ds := [.list (((v.draws.take v.n).map fun d => 65 + d % 4).map .int)]) G.ok AO (G.gl rfl) (by kernel_rfl) rfl (.cons ?_ (fun _ _ => rfl) .nil) (bc_bytes (by rw [List.length_map]; lia) fun x hx => ?_)
  · rw [List.map_map]
    refine el_ev (el_comp (S₁ := []) (own := none) (cl := []) (ds := (v.draws.take v.n).map .int) (co := none) (fit_none ?_ ?_ rfl ?_) (it_list AO.hh ?_) (fun a => ?_) ?_ (fun _ => rfl))
    · decide
    · intro h n acc; exact ⟨rfl, rfl⟩
    · decide
    · refine ev_slice (a := .list (intsPV v.draws)) (lo := none) (hi := some (v.n : Int)) (ev_name rfl rfl) .nil (.val (ev_name rfl rfl)) ?_
      rw [← cut_to (by lia)]
      exact sl_list (by unfold intsPV; rw [List.length_map]; lia) nonneg_none (nonneg_some (by lia))
    · apply CmpS.map (S₀ := []) .int (fun d => .int (65 + d % 4)) (fun _ => True) (S1 := fun d => put [] "draw" (.val (.int d))) _ Sub.nil (fun _ _ => trivial)
      · intro s _; (with_reducible apply tg_name); exact Or.inl (by kernel_rfl)
      · intro s; exact Sub.nil
      · intro s _
        refine ev_binop (a := .int 65) (b := .int (s % 4)) ev_int ?_ bo_add_int
        exact ev_binop (a := .int s) (b := .int 4) (by exact ev_name rfl rfl) ev_int (bo_mod (by decide))
    · exact lenOk_of (by rw [List.length_map]; lia)
  · obtain ⟨d, _, rfl⟩ := List.mem_map.mp hx
    lia
theorem row_ints (o : LOk v) : (bytesI v.row).length = v.n ∧ ∀ c ∈ bytesI v.row, 65 ≤ c ∧ c ≤ 80 := by
  refine ⟨by unfold bytesI; rw [List.length_map, o.rl], fun c hc => ?_⟩
  obtain ⟨b, hb, rfl⟩ := List.mem_map.mp hc
  have := o.ab b hb
  lia
theorem l_go7 (G : Good C) (AO : AOk A (k + 4)) (o : LOk v) : ExS C A (en193 C.w Lf) (W6 v) (nth C.w 193 7) (W7 v) .next := by
  have hn := o.n7
  have i5 := o.ix5
  obtain ⟨h1, h2⟩ := row_ints o
  obtain ⟨n0, n1⟩ := numOf_bound h2
  rw [h1] at n1
  have p7 := (pow_bound (show 1 ≤ v.n by lia) hn.2).2.2
  have hs : v.d5 / 4 % 2 = 0 ∨ v.d5 / 4 % 2 = 1 := by lia
  conv => arg 5; whnf
  refine ex_set (d := .bytes v.row) (sto_ow (by decide)) (by kernel_rfl) ?_
  refine Eq.mp (congrArg (EvS C A _ _ _) (congrArg PV.bytes o.word)) ?_
  refine ev_call (ds := [.int (numOf (bytesI v.row) * (1 - 2 * (v.d5 / 4 % 2))), .int (v.n : Int)]) G.ok AO (G.gl rfl) (by kernel_rfl) rfl (G.kf (by kernel_rfl)) ?_ (FnOk.le (law_word G _ _ ?_ (by lia)) (by lia))
  · (with_reducible apply EvAll.cons); rotate_left; (· intros; rfl); (· exact .cons (ev_name rfl rfl) (fun _ _ => rfl) .nil)
    refine ev_binop (a := .int (numOf (bytesI v.row))) (b := .int (1 - 2 * (v.d5 / 4 % 2))) ?_ ?_ (bo_mul_int (.inr ⟨by lia, by lia⟩))
    · exact ev_call (ds := [.bytes v.row]) G.ok AO (G.gl rfl) (by kernel_rfl) rfl (G.kf (by kernel_rfl)) (.cons (ev_name rfl rfl) (fun _ _ => rfl) .nil) (FnOk.le (law_number_b G _) (by lia))
    · refine ev_binop (a := .int 1) (b := .int (2 * (v.d5 / 4 % 2))) ev_int ?_ bo_sub_int
      refine ev_binop (a := .int 2) (b := .int (v.d5 / 4 % 2)) ev_int ?_ (bo_mul_int (.inl (by decide)))
      refine ev_binop (a := .int (v.d5 / 4)) (b := .int 2) ?_ ev_int (bo_mod (by decide))
      exact ev_binop (a := .int v.d5) (b := .int 4) (ev_sub (ev_name rfl rfl) ev_int (sb_list i5) rfl) ev_int (bo_div (by decide) (by decide))
  · have e : (16 : Int) ^ 160 > 268435456 := by decide
    generalize numOf (bytesI v.row) = N at *
    rcases hs with h | h <;> rw [h] <;> split <;> lia
theorem l_go8 (G : Good C) (X : Lam C) (AO : AOk A (k + 4)) (o : LOk v) : ExS C A (en193 C.w Lf) (W7 v) (nth C.w 193 8) (W8 v) .next := by
  have hb := o.b0
  conv => arg 5; whnf
  refine ex_set (d := roundsPV v.rounds) (by exact Or.inl (by kernel_rfl)) (by kernel_rfl) ?_
  rw [o.rd]
  exact ev_call (ds := [.bytes v.row, .int v.base, .str (one v.m)]) G.ok AO (G.gl rfl) (by kernel_rfl) rfl (G.kf (by kernel_rfl)) (.cons (ev_name rfl rfl) (fun _ _ => rfl) (.cons (ev_name rfl rfl) (fun _ _ => rfl) (.cons (ev_name rfl rfl) (fun _ _ => rfl) .nil))) (FnOk.le (law_rounds G X o.mrk hb.1 (by lia) (by rw [o.rl]; exact o.few)) (by lia))
end
section
open PySem.NumText
variable {C : Cx} {A : Around} {k : Nat} {Lf : Addr} {v : LV}
theorem l_go9 (G : Good C) (AO : AOk A (k + 4)) (o : LOk v) : ExS C A (en193 C.w Lf) (W8 v) (nth C.w 193 9) (W8 v) .next := by
  conv => arg 5; whnf
  refine ex_if (b := false) ?_ ea_nil
  refine ts_or_f ?_ (ts_or_f ?_ ts_or_nil)
  · refine ts_cmp (a := .bytes v.row) (b := .bytes v.row) AO (ev_name rfl rfl) (ev_name rfl rfl) ?_ rfl
    exact cm_ne_bytes.to (by rw [decide_eq_true rfl]; rfl)
  · refine ts_cmp (a := .bytes v.row) (b := .bytes v.row) AO ?_ (ev_name rfl rfl) ?_ rfl
    · refine Eq.mp (congrArg (EvS C A _ _ _) (congrArg PV.bytes o.back)) ?_
      exact ev_call (ds := [roundsPV v.rounds]) G.ok AO (G.gl rfl) (by kernel_rfl) rfl (G.kf (by kernel_rfl)) (.cons (ev_name rfl rfl) (fun _ _ => rfl) .nil) (FnOk.le (law_back G o.rok o.r7 o.tl) (by lia))
    · exact cm_ne_bytes.to (by rw [decide_eq_true rfl]; rfl)
noncomputable abbrev ap (S T : PS) : PS := S ++ T
noncomputable def W9 (v : LV) : PS := ap (W8 v) [("sizes", .val (.list (intsPV v.sizes)))]
noncomputable def W12 (v : LV) : PS := ap (W8 v) [("sizes", .val (.list (intsPV v.sizes))), ("many", .val (.int (v.many : Int))), ("typed", .val (wsObj v.typed))]
theorem rounds_len (o : LOk v) {r : List Int} (h : r ∈ v.rounds) : r.length ≤ 7 := (o.rok r h).l7
theorem szs_eq (r : List (List Int)) : intsPV (szs r) = r.map fun h => .int ((h.length : Nat) : Int) := by
  unfold intsPV szs; rw [List.map_map]; rfl
theorem l_go10 (G : Good C) (AO : AOk A (k + 4)) (o : LOk v) : ExS C A (en193 C.w Lf) (W8 v) (nth C.w 193 10) (W9 v) .next := by
  have h7 := o.r7
  conv => arg 5; whnf
  refine ex_set (d := .list (intsPV v.sizes)) (sto_ow (by decide)) (by kernel_rfl) ?_
  refine el_ev (el_comp (S₁ := []) (own := none) (cl := []) (ds := v.rounds.map fun l => .list (intsPV l)) (co := none) (fit_none ?_ ?_ rfl ?_) (it_list AO.hh (ev_name rfl rfl)) (fun a => ?_) ?_ (fun _ => rfl))
  · decide
  · intro h n acc; exact ⟨rfl, rfl⟩
  · decide
  · unfold LV.sizes
    rw [szs_eq]
    apply CmpS.map (S₀ := []) (fun l : List Int => .list (intsPV l)) (fun l : List Int => .int ((l.length : Nat) : Int)) (fun l => l.length ≤ 7) (S1 := fun l => put [] "heard" (.val (.list (intsPV l)))) _ Sub.nil (fun l hl => rounds_len o hl)
    · intro s _; (with_reducible apply tg_name); exact Or.inl (by kernel_rfl)
    · intro s; exact Sub.nil
    · intro s hs
      have e : (intsPV s).length = s.length := by unfold intsPV; rw [List.length_map]
      rw [← e]
      exact ev_bcall (ds := [.list (intsPV s)]) G.ok AO (G.gl rfl) (by kernel_rfl) rfl (.cons (ev_name rfl rfl) (fun _ _ => rfl) .nil) (bc_len_list (by lia))
  · exact lenOk_of (by rw [List.length_map]; lia)
theorem sizes_ok (o : LOk v) : v.sizes.length = v.many ∧ v.many ≤ 7 ∧ 1 ≤ v.many ∧ ∀ s ∈ v.sizes, 1 ≤ s ∧ s ≤ 7 := by
  refine ⟨by unfold LV.sizes szs LV.many; rw [List.length_map], o.r7, o.r1, fun s hs => ?_⟩
  obtain ⟨r, hr, rfl⟩ := List.mem_map.mp hs
  have := o.rok r hr
  have := this.l1
  have := (o.rok r hr).l7
  lia
theorem l_go11 (G : Good C) (AO : AOk A (k + 4)) (o : LOk v) : ExA C A (en193 C.w Lf) (W9 v) [nth C.w 193 11, nth C.w 193 12] (W12 v) .next := by
  obtain ⟨s1, s2, s3, s4⟩ := sizes_ok o
  have hr := o.r0
  have e : (intsPV v.sizes).length = v.many := by unfold intsPV; rw [List.length_map, s1]
  refine ea_cons (S' := ap (W9 v) [("many", .val (.int (v.many : Int)))]) ?_ ?_
  · conv => arg 5; whnf
    refine ex_set (d := .int (v.many : Int)) (by exact Or.inl (by kernel_rfl)) (by kernel_rfl) ?_
    rw [← e]
    exact ev_bcall (ds := [.list (intsPV v.sizes)]) G.ok AO (G.gl rfl) (by kernel_rfl) rfl (.cons (ev_name rfl rfl) (fun _ _ => rfl) .nil) (bc_len_list (by lia))
  refine ea_cons (S' := W12 v) ?_ ?_
  · conv => arg 5; whnf
    refine ex_set (d := wsObj v.typed) (by exact Or.inl (by kernel_rfl)) (by kernel_rfl) ?_
    exact ev_call (ds := [.list (v.sizes.map .int), .int v.rest]) G.ok AO (G.gl rfl) (by kernel_rfl) rfl (G.kf (by kernel_rfl)) (.cons (ev_name rfl rfl) (fun _ _ => rfl) (.cons (ev_name rfl rfl) (fun _ _ => rfl) .nil)) (FnOk.le (lead G _ _ (by lia) (fun s hs => by have := s4 s hs; lia) (by lia)) (by lia))
  exact ea_nil
end
section
noncomputable def closL (env : Env) : List (Str × NameKind) → List (Str × Addr) → List (Str × Addr)
  | [], acc => acc
  | (x, k) :: r, acc => if k == .free then closL env r ((x, (env.cells.lookup x).getD 0) :: acc) else closL env r acc
theorem closureFor_of {scope : Scope} {env : Env} (h : scope.names.all (fun p => p.2 != .free || (env.cells.lookup p.1).isSome) = true) : closureFor scope env = pure (closL env scope.names []) := by
  unfold closureFor
  have key : ∀ (l : List (Str × NameKind)) (acc : List (Str × Addr)), l.all (fun p => p.2 != .free || (env.cells.lookup p.1).isSome) = true →
      (forIn l acc fun p cs => (match p with
        | (name, kind) => if (kind == NameKind.free) = true then (do let a ← cellOf env name; pure (ForInStep.yield ((name, a) :: cs))) else pure (ForInStep.yield cs) : Sem (ForInStep (List (Str × Addr))))) = pure (closL env l acc) := by
    intro l
    induction l with
    | nil => intro acc _; rfl
    | cons p r ih =>
      intro acc hl
      obtain ⟨x, kd⟩ := p
      rw [List.all_cons, Bool.and_eq_true] at hl
      rw [List.forIn_cons]
      unfold closL
      dsimp only
      by_cases hk : (kd == NameKind.free) = true
      · rw [if_pos hk, if_pos hk]
        have h1 : (env.cells.lookup x).isSome = true := by
          have := hl.1
          simp only [bne, hk, Bool.not_true, Bool.false_or] at this
          exact this
        obtain ⟨a, ha⟩ := Option.isSome_iff_exists.mp h1
        have hc : cellOf env x = pure a := by unfold cellOf; rw [ha]
        rw [hc, ha]
        simp only [pure_bind]
        exact ih _ hl.2
      · rw [if_neg hk, if_neg hk]
        simp only [pure_bind]
        exact ih _ hl.2
  have := key scope.names [] h
  simp only [bind_pure] at *
  exact this
noncomputable def FitAll (env : En) (S : PS) (scope : Scope) (own : Option Str) (cl : List (Str × Addr)) : PS → Prop
  | [] => True
  | (x, p) :: r => (∃ d, p = .val d ∧ get S x = some (.val d) ∧ (∀ a, (compE scope own cl a env.e).cells.lookup x = env.e.cells.lookup x) ∧
    (∀ a, (compE scope own cl a env.e).kindOf x = some .cell ∨ ((compE scope own cl a env.e).kindOf x = some .free ∧ (x == ("__classdict__" : Str)) = false)) ∧ (env.e.kindOf x = some .cell ∨ env.e.kindOf x = some .free)) ∧ FitAll env S scope own cl r
theorem FitAll.fit {env : En} {S : PS} {scope : Scope} {own : Option Str} {cl : List (Str × Addr)} : ∀ {S₁ : PS}, FitAll env S scope own cl S₁ → ∀ x pv, get S₁ x = some pv → ∃ d, pv = .val d ∧ get S x = some (.val d) ∧ (∀ a, (compE scope own cl a env.e).cells.lookup x = env.e.cells.lookup x) ∧
    (∀ a, (compE scope own cl a env.e).kindOf x = some .cell ∨ ((compE scope own cl a env.e).kindOf x = some .free ∧ (x == ("__classdict__" : Str)) = false)) ∧ (env.e.kindOf x = some .cell ∨ env.e.kindOf x = some .free)
  | [], _, x, pv, e => by cases e
  | (y, p) :: r, h, x, pv, e => by
    have e : (if y = x then some p else get r x) = some pv := e
    by_cases hy : y = x
    · rw [if_pos hy] at e; cases e; subst hy; exact h.1
    · rw [if_neg hy] at e; exact h.2.fit x pv e
theorem fit_of {env : En} {S S₁ : PS} {scope : Scope} {own : Option Str} (h1 : scope.names.all (fun p => p.2 != .free || (env.e.cells.lookup p.1).isSome) = true) (h2 : CompCells scope own) (h3 : scope.kind = .function) (h4 : ∀ x ∈ scope.names, x.2 = .local → scope.names.lookup x.1 = some .local)
    (h5 : FitAll env S scope own (closL env.e scope.names []) S₁) (h6 : ∀ x ∈ own.toList, ∀ a, (compE scope own (closL env.e scope.names []) a env.e).kindOf x = some .cell) : CompFit env S S₁ scope own (closL env.e scope.names []) :=
  ⟨closureFor_of h1, h2, h3, h4, h5.fit, h6⟩
end
section
open PySem.NumText
variable {C : Cx} {A : Around} {k : Nat} {Lf : Addr} {v : LV} {S : PS}
theorem leadW_eq' (sizes : List Int) (rest : Int) : wsOf (leadStr sizes rest) = leadW sizes rest := rfl
theorem lead_ev (G : Good C) (AO : AOk A (k + 4)) {e1 e2 : Expr} {p pos : Pos} {sizes : List Int} {rest : Int} (xs : EvAll C A (en193 C.w Lf) S [e1, e2] [.list (sizes.map .int), .int rest]) (h1 : sizes.length ≤ 20) (h2 : ∀ s ∈ sizes, 0 ≤ s ∧ s ≤ 40) (h3 : 0 ≤ rest ∧ rest ≤ 100) :
    EvS C A (en193 C.w Lf) S (.Call (.Name "_law_lead" p) [e1, e2] [] pos) (wsObj (leadW sizes rest)) :=
  ev_call (ds := [.list (sizes.map .int), .int rest]) G.ok AO (G.gl rfl) (by kernel_rfl) rfl (G.kf (by kernel_rfl)) xs (FnOk.le (lead G _ _ h1 h2 h3) (by lia))
theorem wit_ev (G : Good C) (AO : AOk A (k + 4)) {x : Str} {e : Expr} {np apos pos : Pos} {w u : WS} (hx : get S x = some (.val (wsObj w))) (hd : (x == ("__debug__" : Str)) = false) (hl : (apos.endLine == pos.line) = true) (xs : EvAll C A (en193 C.w Lf) S [e] [wsObj u]) (hw : w.Ok) (hu : u.Ok) :
    EvS C A (en193 C.w Lf) S (.Call (.Attribute (.Name x np) "not_equal_witness" apos) [e] [] pos) (.list (witPV (witOf w u))) :=
  ev_meth (fs := wsFs w) (ds := [wsObj u]) G.ok AO hx hd (inst_134 G) (by rw [G.K]; kernel_rfl) (by rw [G.K]; kernel_rfl) (by rw [G.K]; kernel_rfl) rfl (by show 1 < 20; decide) hl xs (FnOk.le (witness G w u hw hu) (by lia))
theorem less_ev (G : Good C) (AO : AOk A (k + 4)) {x : Str} {e : Expr} {np apos pos : Pos} {w u : WS} (hx : get S x = some (.val (wsObj w))) (hd : (x == ("__debug__" : Str)) = false) (hl : (apos.endLine == pos.line) = true) (xs : EvAll C A (en193 C.w Lf) S [e] [wsObj u]) (hw : w.Ok) (hu : u.Ok) :
    EvS C A (en193 C.w Lf) S (.Call (.Attribute (.Name x np) "less" apos) [e] [] pos) (.bool (lessOf w u)) :=
  ev_meth (fs := wsFs w) (ds := [wsObj u]) G.ok AO hx hd (inst_134 G) (by rw [G.K]; kernel_rfl) (by rw [G.K]; kernel_rfl) (by rw [G.K]; kernel_rfl) rfl (by show 1 < 20; decide) hl xs (FnOk.le (less_ok G w u hw hu) (by lia))
theorem equal_ev (G : Good C) (AO : AOk A (k + 4)) {x : Str} {e : Expr} {np apos pos : Pos} {w u : WS} (hx : get S x = some (.val (wsObj w))) (hd : (x == ("__debug__" : Str)) = false) (hl : (apos.endLine == pos.line) = true) (xs : EvAll C A (en193 C.w Lf) S [e] [wsObj u]) :
    EvS C A (en193 C.w Lf) S (.Call (.Attribute (.Name x np) "equal" apos) [e] [] pos) (.bool (equalOf w u)) :=
  ev_meth (fs := wsFs w) (ds := [wsObj u]) G.ok AO hx hd (inst_134 G) (by rw [G.K]; kernel_rfl) (by rw [G.K]; kernel_rfl) (by rw [G.K]; kernel_rfl) rfl (by show 1 < 20; decide) hl xs (FnOk.le (equal_ok G w u) (by lia))
theorem typed_ok (o : LOk v) : v.typed.Ok := by
  obtain ⟨s1, s2, s3, s4⟩ := sizes_ok o
  have hr := o.r0
  exact leadW_ok (by lia) (fun s hs => by have := s4 s hs; lia) (by lia)
theorem low_ok (o : LOk v) : v.low.length ≤ 20 ∧ ∀ s ∈ v.low, 0 ≤ s ∧ s ≤ 40 := by
  obtain ⟨s1, s2, s3, s4⟩ := sizes_ok o
  refine ⟨by unfold LV.low; rw [List.length_map]; lia, fun s hs => ?_⟩
  obtain ⟨t, ht, rfl⟩ := List.mem_map.mp hs
  have := s4 t ht
  lia
noncomputable def W13 (v : LV) : PS := ap (W8 v) [("sizes", .val (.list (intsPV v.sizes))), ("many", .val (.int (v.many : Int))), ("typed", .val (wsObj v.typed)), ("lines", .val (.list (witPV v.lines)))]
theorem low_ev (AO : AOk A (k + 4)) (o : LOk v) {scope : Scope} {p1 p2 p3 p4 p5 p6 : Pos} {kk : Nat} (hS : get S "sizes" = some (.val (.list (intsPV v.sizes)))) (hsc : scope = { kind := .function, names := [(".0", .local), ("one", .local)], isGenerator := false, isCoroutine := false }) :
    EvS C A (en193 C.w Lf) S (.ListComp (.BinOp (.Name "one" p1) .Sub (.Constant (.int 1) kk p2) p3) [⟨.Name "one" p4, .Name "sizes" p5, [], 0⟩] scope p6) (.list (v.low.map .int)) := by
  subst hsc
  obtain ⟨s1, s2, s3, s4⟩ := sizes_ok o
  have e : v.low.map PV.int = v.sizes.map fun s => .int (s - 1) := by unfold LV.low; rw [List.map_map]; rfl
  rw [e]
  refine el_ev (el_comp (S₁ := []) (own := none) (cl := []) (ds := v.sizes.map .int) (co := none) (fit_none ?_ ?_ rfl ?_) (it_list AO.hh (ev_name hS rfl)) (fun a => ?_) ?_ (fun _ => rfl))
  · decide
  · intro h n acc; exact ⟨rfl, rfl⟩
  · decide
  · apply CmpS.map (S₀ := []) .int (fun s => .int (s - 1)) (fun _ => True) (S1 := fun s => put [] "one" (.val (.int s))) _ Sub.nil (fun _ _ => trivial)
    · intro s _; (with_reducible apply tg_name); exact Or.inl (by kernel_rfl)
    · intro s; exact Sub.nil
    · intro s _
      exact ev_binop (a := .int s) (b := .int 1) (by exact ev_name rfl rfl) ev_int bo_sub_int
  · exact lenOk_of (by rw [List.length_map]; lia)
theorem l_go13 (G : Good C) (AO : AOk A (k + 4)) (o : LOk v) : ExS C A (en193 C.w Lf) (W12 v) (nth C.w 193 13) (W13 v) .next := by
  have hr := o.r0
  obtain ⟨l1, l2⟩ := low_ok o
  conv => arg 5; whnf
  refine ex_set (d := .list (witPV v.lines)) (by exact Or.inl (by kernel_rfl)) (by kernel_rfl) ?_
  refine wit_ev G AO (w := v.typed) (u := leadW v.low v.rest) rfl rfl rfl (.cons ?_ (fun _ _ => rfl) .nil) (typed_ok o) (leadW_ok l1 l2 (by lia))
  exact lead_ev G AO (.cons (low_ev AO o rfl rfl) (fun _ _ => rfl) (.cons (ev_name rfl rfl) (fun _ _ => rfl) .nil)) l1 l2 (by lia)
end
section
open PySem.NumText
variable {C : Cx} {A : Around} {k : Nat} {Lf : Addr} {v : LV} {S : PS}
noncomputable def hasL (v : LV) (st : Int) : List Int := v.sizes.filter fun one => decide (one % st = 0)
noncomputable def colOf (v : LV) (st less : Int) : Int := v.rest + st * (v.sizes.map fun one => (one - less) / st + 1).sum
noncomputable def wantF (v : LV) (a : List (Int × Int × Int)) (i : Nat) : List (Int × Int × Int) := if hasL v (1 + (i : Int)) = [] then a else a ++ [(1 + (i : Int), colOf v (1 + (i : Int)) 0, colOf v (1 + (i : Int)) 1)]
noncomputable def wantOf (v : LV) : List (Int × Int × Int) := (List.range v.n).foldl (wantF v) []
noncomputable def W14 (v : LV) (a : List (Int × Int × Int)) : PS := ap (W13 v) [("wanted", .own (witPV a))]
theorem ne_nil_ints (l : List Int) : Cm .NotEq (.list (intsPV l)) (.list []) (!decide (l = [])) := by
  have hnice : Nice 1 (.list (intsPV l)) := .list _ _ nice_ints
  have := eqPV_nice hnice (.list 0 [] fun d hd => nomatch hd) (by decide) (by decide) (l = []) (by
    constructor
    · intro h; injection h with h; unfold intsPV at h; exact List.map_eq_nil_iff.mp h
    · intro h; rw [h]; rfl)
  exact cm_ne this
theorem has_ts (G : Good C) (AO : AOk A (k + 4)) (o : LOk v) {a : List (Int × Int × Int)} {st : Int} (hs : 1 ≤ st ∧ st ≤ 7) : TsS C A (en193 C.w Lf) (put (W14 v a) "step" (.val (.int st))) (ifTest (forBody1 (nth C.w 193 15))) (!decide (hasL v st = [])) := by
  obtain ⟨s1, s2, s3, s4⟩ := sizes_ok o
  conv => arg 5; whnf
  refine ts_cmp (a := .list (intsPV (hasL v st))) (b := .list []) AO ?_ (ev_list .nil rfl) (ne_nil_ints _) rfl
  refine el_ev (el_comp (S₁ := [("step", .val (.int st))]) (own := none) (ds := v.sizes.map .int) (co := some _) (fit_of ?_ ?_ rfl ?_ ?_ ?_) (it_list AO.hh (ev_name rfl rfl)) (fun a => ?_) ?_ (fun _ => rfl))
  · kernel_rfl
  · intro h n acc; exact ⟨rfl, rfl⟩
  · decide
  · exact ⟨⟨_, rfl, rfl, fun a => by kernel_rfl, fun a => .inl (by kernel_rfl), .inl (by kernel_rfl)⟩, trivial⟩
  · intro x hx; cases hx
  · unfold hasL intsPV
    apply CmpS.filt (S₀ := [("step", .val (.int st))]) .int (fun one => decide (one % st = 0)) .int (fun _ => True) (S1 := fun s => put [("step", .val (.int st))] "one" (.val (.int s))) _ (Sub.refl _) (fun _ _ => trivial)
    · intro s _; (with_reducible apply tg_name); exact Or.inl (by kernel_rfl)
    · intro s; exact .cons rfl .nil
    · intro s _
      refine ts_cmp (a := .int (s % st)) (b := .int 0) AO ?_ ev_int cm_eq_int rfl
      exact ev_binop (a := .int s) (b := .int st) (by exact ev_name rfl rfl) (by exact ev_name rfl rfl) (bo_mod (by lia))
    · intro s _; exact ev_name rfl rfl
  · exact lenOk_of (by rw [List.length_map]; lia)
end
section
open PySem.NumText
variable {C : Cx} {A : Around} {k : Nat} {Lf : Addr} {v : LV} {S : PS}
noncomputable def ifBody (s : Stmt) : List Stmt := match s with
  | .If _ b _ _ => b
  | _ => []
theorem col_bound (o : LOk v) {st less : Int} (hs : 1 ≤ st ∧ st ≤ 8) (hl : 0 ≤ less ∧ less ≤ 1) : 0 ≤ (v.sizes.map fun one => (one - less) / st + 1).sum ∧ (v.sizes.map fun one => (one - less) / st + 1).sum ≤ 8 * v.sizes.length := by
  obtain ⟨s1, s2, s3, s4⟩ := sizes_ok o
  suffices h : ∀ l : List Int, (∀ s ∈ l, 1 ≤ s ∧ s ≤ 7) → 0 ≤ (l.map fun one => (one - less) / st + 1).sum ∧ (l.map fun one => (one - less) / st + 1).sum ≤ 8 * l.length from h _ s4
  intro l
  induction l with
  | nil => intro _; exact ⟨Int.le_refl _, Int.le_refl _⟩
  | cons s l ih =>
    intro h
    obtain ⟨h1, h2⟩ := ih fun t ht => h t (.tail _ ht)
    have h3 := h s (.head _)
    have q1 : 0 ≤ (s - less) / st := Int.ediv_nonneg (by lia) (by lia)
    have q2 : (s - less) / st ≤ s - less := Int.ediv_le_self _ (by lia)
    rw [List.map_cons, List.sum_cons, List.length_cons]
    lia
noncomputable def Cs (v : LV) (st : Int) : PS := [("rest", .val (.int v.rest)), ("step", .val (.int st)), ("sizes", .val (.list (intsPV v.sizes)))]
theorem cols_ex (G : Good C) (AO : AOk A (k + 4)) (o : LOk v) {a : List (Int × Int × Int)} {st : Int} (hs : 1 ≤ st ∧ st ≤ 7) :
    ExS C A (en193 C.w Lf) (put (W14 v a) "step" (.val (.int st))) (((ifBody (forBody1 (nth C.w 193 15)))[0]?).getD (.Pass ⟨0, 0, 0, 0⟩)) (put (put (W14 v a) "step" (.val (.int st))) "columns" (.val (.list [.int (colOf v st 0), .int (colOf v st 1)]))) .next := by
  obtain ⟨s1, s2, s3, s4⟩ := sizes_ok o
  conv => arg 5; whnf
  refine ex_comp (S₁ := Cs v st) (own := some "less") (ds := ([0, 1] : List Int).map .int) (co := none) (out := ([0, 1] : List Int).map fun less => .int (colOf v st less)) (fit_of ?_ ?_ rfl ?_ ?_ ?_) (it_list AO.hh ?_) (fun a => ?_) (lenOk_of (by simp)) (fun _ => rfl) (.inl (by kernel_rfl)) (by kernel_rfl)
  · kernel_rfl
  · intro h n acc; exact ⟨rfl, rfl⟩
  · decide
  · exact ⟨⟨_, rfl, rfl, fun a => by kernel_rfl, fun a => .inl (by kernel_rfl), .inl (by kernel_rfl)⟩, ⟨_, rfl, rfl, fun a => by kernel_rfl, fun a => .inl (by kernel_rfl), .inl (by kernel_rfl)⟩, ⟨_, rfl, rfl, fun a => by kernel_rfl, fun a => .inl (by kernel_rfl), .inl (by kernel_rfl)⟩, trivial⟩
  · intro x hx a
    have hx : x ∈ (["less"] : List Str) := hx
    rw [List.mem_singleton.mp hx]
    kernel_rfl
  · exact ev_list (.cons ev_int (fun _ _ => rfl) (.cons ev_int (fun _ _ => rfl) .nil)) rfl
  · apply CmpS.map (S₀ := Cs v st) .int (fun less => .int (colOf v st less)) (fun less => 0 ≤ less ∧ less ≤ 1) (S1 := fun s => put (Cs v st) "less" (.val (.int s))) _ (Sub.refl _) (by simp)
    · intro s _; (with_reducible apply tg_name); exact .inr (show ("less" : Str) ∈ (["less"] : List Str) from .head _)
    · intro s; exact .cons rfl (.cons rfl (.cons rfl .nil))
    · intro s hl
      obtain ⟨b1, b2⟩ := col_bound o (st := st) (less := s) (by lia) hl
      unfold colOf
      refine ev_binop (a := .int v.rest) (b := .int (st * (v.sizes.map fun one => (one - s) / st + 1).sum)) (by exact ev_name rfl rfl) ?_ bo_add_int
      refine ev_binop (a := .int st) (b := .int (v.sizes.map fun one => (one - s) / st + 1).sum) (by exact ev_name rfl rfl) ?_ (bo_mul_int (.inl ⟨by lia, by lia⟩))
      refine ev_bcall (ds := [.list ((v.sizes.map fun one => (one - s) / st + 1).map .int)]) G.ok AO (G.gl rfl) (by kernel_rfl) rfl (.cons ?_ (fun _ _ => rfl) .nil) (bc_sum _)
      rw [List.map_map]
      refine el_ev (el_comp (S₁ := [("less", .val (.int s)), ("step", .val (.int st))]) (own := none) (ds := v.sizes.map .int) (co := none) (fit_of ?_ ?_ rfl ?_ ?_ ?_) (it_list AO.hh (ev_name rfl rfl)) (fun a => ?_) ?_ (fun _ => rfl))
      · kernel_rfl
      · intro h n acc; exact ⟨rfl, rfl⟩
      · decide
      · exact ⟨⟨_, rfl, rfl, fun a => by kernel_rfl, fun a => .inl (by kernel_rfl), .inl (by kernel_rfl)⟩, ⟨_, rfl, rfl, fun a => by kernel_rfl, fun a => .inl (by kernel_rfl), .inl (by kernel_rfl)⟩, trivial⟩
      · intro x hx; cases hx
      · apply CmpS.map (S₀ := [("less", .val (.int s)), ("step", .val (.int st))]) .int (fun one => .int ((one - s) / st + 1)) (fun _ => True) (S1 := fun one => put [("less", .val (.int s)), ("step", .val (.int st))] "one" (.val (.int one))) _ (Sub.refl _) (fun _ _ => trivial)
        · intro one _; (with_reducible apply tg_name); exact Or.inl (by kernel_rfl)
        · intro one; exact .cons rfl (.cons rfl .nil)
        · intro one _
          refine ev_binop (a := .int ((one - s) / st)) (b := .int 1) ?_ ev_int bo_add_int
          refine ev_binop (a := .int (one - s)) (b := .int st) ?_ (by exact ev_name rfl rfl) (bo_div (by lia) (by lia))
          exact ev_binop (a := .int one) (b := .int s) (by exact ev_name rfl rfl) (by exact ev_name rfl rfl) bo_sub_int
      · exact lenOk_of (by rw [List.length_map]; lia)
end
section
open PySem.NumText
variable {C : Cx} {A : Around} {k : Nat} {Lf : Addr} {v : LV} {S : PS}
theorem wit_app (a : List (Int × Int × Int)) (p : Int × Int × Int) : witPV (a ++ [p]) = witPV a ++ [.tuple [.int p.1, .int p.2.1, .int p.2.2]] := by unfold witPV; rw [List.map_append]; rfl
theorem w_body (G : Good C) (AO : AOk A (k + 4)) (o : LOk v) {a : List (Int × Int × Int)} {i : Nat} (hi : i < v.n) (ha : a.length ≤ 100) :
    ExA C A (en193 C.w Lf) (put (W14 v a) "step" (.val (.int (1 + (i : Int))))) (forBody (nth C.w 193 15)) (put (W14 v (wantF v a i)) "step" (.val (.int (1 + (i : Int))))) .next := by
  have hn := o.n7
  have t := has_ts (Lf := Lf) (a := a) G AO o (st := 1 + (i : Int)) (by lia)
  have c := cols_ex (Lf := Lf) (a := a) G AO o (st := 1 + (i : Int)) (by lia)
  generalize hst : (1 + (i : Int)) = st at t c
  have hw : wantF v a i = if hasL v st = [] then a else a ++ [(st, colOf v st 0, colOf v st 1)] := by unfold wantF; rw [hst]
  rw [hw]
  by_cases he : hasL v st = []
  · rw [if_pos he]
    rw [decide_eq_true he] at t
    exact ea_one (ex_if (b := false) t ea_nil)
  · rw [if_neg he]
    rw [decide_eq_false he] at t
    refine ExA.weaken (S' := put (put (put (W14 v a) "step" (.val (.int st))) "columns" (.val (.list [.int (colOf v st 0), .int (colOf v st 1)]))) "wanted" (.own (witPV a ++ [.tuple [.int st, .int (colOf v st 0), .int (colOf v st 1)]]))) (ea_one (ex_if (b := true) t ?_))
      (.cons rfl (.cons rfl (.cons rfl (.cons rfl (.cons rfl (.cons rfl (.cons rfl (.cons rfl (.cons rfl (.cons rfl (.cons rfl (.cons rfl (.cons rfl (.cons (by rw [wit_app]; rfl) (.cons rfl .nil)))))))))))))))
    refine ea_cons c (ea_one ?_)
    conv => arg 5; whnf
    refine ex_append (d := .tuple [.int st, .int (colOf v st 0), .int (colOf v st 1)]) rfl rfl ?_ (fun _ => rfl) (lenOk_of (by unfold witPV; rw [List.length_map]; lia)) rfl
    refine ev_tuple (.cons (ev_name rfl rfl) (fun _ _ => rfl) (.cons ?_ (fun _ _ => rfl) (.cons ?_ (fun _ _ => rfl) .nil))) rfl
    · exact ev_sub (a := .list [.int (colOf v st 0), .int (colOf v st 1)]) (b := .int 0) (ev_name rfl rfl) ev_int (sb_list rfl) rfl
    · exact ev_sub (a := .list [.int (colOf v st 0), .int (colOf v st 1)]) (b := .int 1) (ev_name rfl rfl) ev_int (sb_list rfl) rfl
theorem wantF_len (a : List (Int × Int × Int)) (i : Nat) : (wantF v a i).length ≤ a.length + 1 := by
  unfold wantF
  split
  · lia
  · rw [List.length_append]; exact Nat.le_refl _
theorem range1 (n : Nat) : rangeL 1 ((n : Int) + 1) = (List.range n).map fun i : Nat => PV.int (1 + (i : Int)) := by
  unfold rangeL
  have : ((n : Int) + 1 - 1).toNat = n := by lia
  rw [this]
theorem nice_wit (l : List (Int × Int × Int)) : Nice 2 (.list (witPV l)) := .list _ _ fun d hd => by
  obtain ⟨p, _, rfl⟩ := List.mem_map.mp hd
  refine .tuple _ _ fun e he => ?_
  simp only [List.mem_cons, List.mem_nil_iff, or_false] at he
  rcases he with rfl | rfl | rfl <;> exact .int _ _
theorem l_go15 (G : Good C) (AO : AOk A (k + 4)) (o : LOk v) (hl : v.lines = wantOf v) : ExA C A (en193 C.w Lf) (W13 v) [nth C.w 193 14, nth C.w 193 15, nth C.w 193 16] (W13 v) .next := by
  have hn := o.n7
  obtain ⟨s1, s2, s3, s4⟩ := sizes_ok o
  have hr := o.r0
  refine ExA.weaken (S' := put (W14 v (wantOf v)) "wanted" (.val (.list (witPV (wantOf v))))) ?_ (.cons rfl (.cons rfl (.cons rfl (.cons rfl (.cons rfl (.cons rfl (.cons rfl (.cons rfl (.cons rfl (.cons rfl (.cons rfl (.cons rfl (.cons rfl .nil)))))))))))))
  refine ea_cons (S' := W14 v []) ?_ ?_
  · conv => arg 5; whnf
    refine ex_own ?_ ?_ ?_; (· exact Or.inl (by kernel_rfl)); (· kernel_rfl); (with_reducible apply el_list); (· exact EvAll.nil); (· rfl)
  refine ea_cons (S' := W14 v (wantOf v)) ?_ ?_
  · conv => arg 5; whnf
    refine ex_for (ds := (List.range v.n).map fun i : Nat => PV.int (1 + (i : Int))) ?_ ?_ (fun _ => rfl)
    · rw [← range1]
      refine it_range2 G.ok AO.hh (G.gl rfl) (by kernel_rfl) rfl (.cons ev_int (fun _ _ => rfl) (.cons ?_ (fun _ _ => rfl) .nil)) (by lia)
      exact ev_binop (a := .int (v.n : Int)) (b := .int 1) (ev_name rfl rfl) ev_int bo_add_int
    · refine ForS.foldI (W14 v) (fun i : Nat => PV.int (1 + (i : Int))) (wantF v) (fun i a => a.length ≤ i ∧ i ≤ 7) (List.range v.n)
        (S1 := fun a i => put (W14 v a) "step" (.val (.int (1 + (i : Int))))) (S2 := fun a i => put (W14 v (wantF v a i)) "step" (.val (.int (1 + (i : Int)))))
        (fun i a x hx h => ?_) (fun a x => ?_) (fun i a x hx h => ?_) (fun a x => ?_) _ 0 [] (List.drop_zero ..) ⟨Nat.zero_le _, Nat.zero_le _⟩
      · have hi := range_get hx
        have := wantF_len (v := v) a x
        exact ⟨by lia, by lia⟩
      · conv => arg 5; whnf
        exact tg_name (sto_ow (by decide))
      · exact w_body G AO o (by have := range_get hx; lia) (by lia)
      · exact .cons rfl (.cons rfl (.cons rfl (.cons rfl (.cons rfl (.cons rfl (.cons rfl (.cons rfl (.cons rfl (.cons rfl (.cons rfl (.cons rfl (.cons rfl (.cons rfl .nil)))))))))))))
  (with_reducible apply ea_freeze (x := "wanted")); (· rfl)
  refine ea_one ?_
  conv => arg 5; whnf
  refine ex_if (b := false) ?_ ea_nil
  refine ts_or_f ?_ (ts_or_f ?_ ts_or_nil)
  · refine ts_cmp (a := .list (witPV v.lines)) (b := .list (witPV (wantOf v))) AO (ev_name rfl rfl) (ev_name rfl rfl) ?_ rfl
    rw [hl]
    exact ne_self (nice_wit _) (by decide)
  · have ht : v.typed.nt = (v.many : Int) := by
      unfold LV.typed
      rw [leadW_eq (fun s hs => by have := s4 s hs; lia) hr.1]
      show (v.sizes.length : Int) = _
      rw [s1]
    refine ts_cmp (a := .int (v.many : Int)) (b := .int (v.many : Int)) AO ?_ (ev_name rfl rfl) ?_ rfl
    · rw [← ht]
      exact ev_attr (fs := wsFs v.typed) G.ok rfl rfl (inst_134 G) (by rw [G.K]; kernel_rfl) rfl rfl
    · exact cm_ne_int.to (by rw [decide_eq_true rfl]; rfl)
end
section
open PySem.NumText
variable {C : Cx} {A : Around} {k : Nat} {Lf : Addr} {v : LV} {S : PS}
theorem maxI_all {P : Int → Prop} {l : List Int} (hl : l ≠ []) (h : ∀ x ∈ l, P x) : P (maxI l) := by
  cases l with
  | nil => exact absurd rfl hl
  | cons a r =>
    show P (r.foldl (fun x y => max x y) a)
    have h0 := h a (.head _)
    have hr : ∀ x ∈ r, P x := fun x hx => h x (.tail _ hx)
    clear h hl
    induction r generalizing a with
    | nil => exact h0
    | cons b r ih =>
      rw [List.foldl_cons]
      refine ih (max a b) ?_ fun x hx => hr x (.tail _ hx)
      rcases Int.le_total a b with q | q
      · rw [Int.max_eq_right q]; exact hr b (.head _)
      · rw [Int.max_eq_left q]; exact h0
theorem past_ok (o : LOk v) : 1 ≤ v.past ∧ v.past ≤ 8 := by
  obtain ⟨s1, s2, s3, s4⟩ := sizes_ok o
  have hr := o.r0
  have := maxI_all (P := fun x => 0 ≤ x ∧ x ≤ 7) (l := v.sizes ++ [v.rest]) (by simp) (fun x hx => by
    rcases List.mem_append.mp hx with h | h
    · have := s4 x h; lia
    · rw [List.mem_singleton.mp h]; lia)
  unfold LV.past
  lia
noncomputable def W17 (v : LV) : PS := ap (W13 v) [("past", .val (.int v.past))]
noncomputable def W18 (v : LV) : PS := ap (W13 v) [("past", .val (.int v.past)), ("far", .val (wsObj v.far))]
theorem far_ok (o : LOk v) : v.far.Ok := by
  obtain ⟨s1, s2, s3, s4⟩ := sizes_ok o
  have hp := past_ok o
  exact leadW_ok (by lia) (fun s hs => by have := s4 s hs; lia) (by lia)
theorem l_go17 (G : Good C) (AO : AOk A (k + 4)) (o : LOk v) : ExA C A (en193 C.w Lf) (W13 v) [nth C.w 193 17, nth C.w 193 18] (W18 v) .next := by
  obtain ⟨s1, s2, s3, s4⟩ := sizes_ok o
  have hp := past_ok o
  have hs : (intsPV v.sizes).length ≤ 7 := by unfold intsPV; rw [List.length_map]; lia
  refine ea_cons (S' := W17 v) ?_ ?_
  · conv => arg 5; whnf
    refine ex_set (d := .int v.past) (sto_ow (by decide)) (by kernel_rfl) ?_
    unfold LV.past
    refine ev_binop (a := .int (maxI (v.sizes ++ [v.rest]))) (b := .int 1) ?_ ev_int bo_add_int
    refine ev_bcall (ds := [.list ((v.sizes ++ [v.rest]).map .int)]) G.ok AO (G.gl rfl) (by kernel_rfl) rfl (.cons ?_ (fun _ _ => rfl) .nil) (bc_max (by simp))
    rw [List.map_append]
    exact ev_binop (a := .list (intsPV v.sizes)) (b := .list [.int v.rest]) (ev_name rfl rfl) (ev_list (.cons (ev_name rfl rfl) (fun _ _ => rfl) .nil) rfl) (bo_add_list (by lia) (by simp))
  refine ea_cons (S' := W18 v) ?_ ea_nil
  conv => arg 5; whnf
  refine ex_set (d := wsObj v.far) (by exact Or.inl (by kernel_rfl)) (by kernel_rfl) ?_
  exact lead_ev G AO (.cons (ev_name rfl rfl) (fun _ _ => rfl) (.cons (ev_name rfl rfl) (fun _ _ => rfl) .nil)) (by lia) (fun s hs => by have := s4 s hs; lia) (by lia)
noncomputable def ecol (v : LV) (st : Int) : Int := v.rest + st * (v.sizes.map fun one => one / st + 1).sum
noncomputable def evL (v : LV) : List (Int × Int) := (List.range (v.past + 1).toNat).map fun i : Nat => (1 + (i : Int), ecol v (1 + (i : Int)))
noncomputable def evPV (v : LV) : List PV := (evL v).map fun p => .tuple [.int p.1, .int p.2]
noncomputable def W19 (v : LV) : PS := ap (W13 v) [("past", .val (.int v.past)), ("far", .val (wsObj v.far)), ("every", .val (.list (evPV v)))]
theorem l_go19 (G : Good C) (AO : AOk A (k + 4)) (o : LOk v) : ExS C A (en193 C.w Lf) (W18 v) (nth C.w 193 19) (W19 v) .next := by
  obtain ⟨s1, s2, s3, s4⟩ := sizes_ok o
  have hp := past_ok o
  have e : evPV v = ((List.range (v.past + 1).toNat).map fun i : Nat => 1 + (i : Int)).map fun st => .tuple [.int st, .int (ecol v st)] := by
    unfold evPV evL; rw [List.map_map, List.map_map]; rfl
  have er : rangeL 1 (v.past + 2) = ((List.range (v.past + 1).toNat).map fun i : Nat => 1 + (i : Int)).map .int := by
    unfold rangeL; rw [List.map_map, show v.past + 2 - 1 = v.past + 1 by lia]; rfl
  conv => arg 5; whnf
  refine ex_comp (S₁ := [("rest", .val (.int v.rest)), ("sizes", .val (.list (intsPV v.sizes)))]) (own := some "step") (ds := rangeL 1 (v.past + 2)) (co := none) (out := evPV v) (fit_of ?_ ?_ rfl ?_ ?_ ?_) ?_ (fun a => ?_) (lenOk_of (by unfold rangeL; rw [List.length_map, List.length_range]; lia)) (fun _ => rfl) (.inl (by kernel_rfl)) (by kernel_rfl)
  · kernel_rfl
  · intro h n acc; exact ⟨rfl, rfl⟩
  · decide
  · exact ⟨⟨_, rfl, rfl, fun a => by kernel_rfl, fun a => .inl (by kernel_rfl), .inl (by kernel_rfl)⟩, ⟨_, rfl, rfl, fun a => by kernel_rfl, fun a => .inl (by kernel_rfl), .inl (by kernel_rfl)⟩, trivial⟩
  · intro x hx a
    have hx : x ∈ (["step"] : List Str) := hx
    rw [List.mem_singleton.mp hx]
    kernel_rfl
  · refine it_range2 G.ok AO.hh (G.gl rfl) (by kernel_rfl) rfl (.cons ev_int (fun _ _ => rfl) (.cons ?_ (fun _ _ => rfl) .nil)) (by lia)
    exact ev_binop (a := .int v.past) (b := .int 2) (ev_name rfl rfl) ev_int bo_add_int
  · rw [e, er]
    apply CmpS.map (S₀ := [("rest", .val (.int v.rest)), ("sizes", .val (.list (intsPV v.sizes)))]) .int (fun st => .tuple [.int st, .int (ecol v st)]) (fun st => 1 ≤ st ∧ st ≤ 9) (S1 := fun s => put [("rest", .val (.int v.rest)), ("sizes", .val (.list (intsPV v.sizes)))] "step" (.val (.int s))) _ (Sub.refl _) (fun st hst => by
      obtain ⟨i, hi, rfl⟩ := List.mem_map.mp hst
      have := List.mem_range.mp hi
      lia)
    · intro s _; (with_reducible apply tg_name); exact .inr (show ("step" : Str) ∈ (["step"] : List Str) from .head _)
    · intro s; exact .cons rfl (.cons rfl .nil)
    · intro s hl
      refine ev_tuple (.cons (ev_name rfl rfl) (fun _ _ => rfl) (.cons ?_ (fun _ _ => rfl) .nil)) rfl
      unfold ecol
      refine ev_binop (a := .int v.rest) (b := .int (s * (v.sizes.map fun one => one / s + 1).sum)) (ev_name rfl rfl) ?_ bo_add_int
      refine ev_binop (a := .int s) (b := .int (v.sizes.map fun one => one / s + 1).sum) (ev_name rfl rfl) ?_ (bo_mul_int (.inl ⟨by lia, by lia⟩))
      refine ev_bcall (ds := [.list ((v.sizes.map fun one => one / s + 1).map .int)]) G.ok AO (G.gl rfl) (by kernel_rfl) rfl (.cons ?_ (fun _ _ => rfl) .nil) (bc_sum _)
      rw [List.map_map]
      refine el_ev (el_comp (S₁ := [("step", .val (.int s))]) (own := none) (ds := v.sizes.map .int) (co := none) (fit_of ?_ ?_ rfl ?_ ?_ ?_) (it_list AO.hh (ev_name rfl rfl)) (fun a => ?_) ?_ (fun _ => rfl))
      · kernel_rfl
      · intro h n acc; exact ⟨rfl, rfl⟩
      · decide
      · exact ⟨⟨_, rfl, rfl, fun a => by kernel_rfl, fun a => .inl (by kernel_rfl), .inl (by kernel_rfl)⟩, trivial⟩
      · intro x hx; cases hx
      · apply CmpS.map (S₀ := [("step", .val (.int s))]) .int (fun one => .int (one / s + 1)) (fun _ => True) (S1 := fun one => put [("step", .val (.int s))] "one" (.val (.int one))) _ (Sub.refl _) (fun _ _ => trivial)
        · intro one _; (with_reducible apply tg_name); exact Or.inl (by kernel_rfl)
        · intro one; exact .cons rfl .nil
        · intro one _
          refine ev_binop (a := .int (one / s)) (b := .int 1) ?_ ev_int bo_add_int
          exact ev_binop (a := .int one) (b := .int s) (by exact ev_name rfl rfl) (by exact ev_name rfl rfl) (bo_div (by lia) (by lia))
      · exact lenOk_of (by rw [List.length_map]; lia)
end
section
open PySem.NumText
variable {C : Cx} {A : Around} {k : Nat} {Lf : Addr} {v : LV} {S : PS}
noncomputable def up1 (v : LV) : List (Int × Int × Int) := (evL v).map fun p => (p.1, p.2, p.2 + v.past - v.rest)
noncomputable def up2 (v : LV) : List (Int × Int × Int) := (evL v).map fun p => (p.1, p.2 + v.past - v.rest, p.2)
noncomputable def PR (v : LV) : PS := [("past", .val (.int v.past)), ("rest", .val (.int v.rest))]
theorem evL_len (o : LOk v) : (evPV v).length ≤ 3000 := by
  have := past_ok o
  unfold evPV evL
  rw [List.length_map, List.length_map, List.length_range]; lia
theorem l_go20 (G : Good C) (AO : AOk A (k + 4)) (o : LOk v) (h1 : witOf v.typed v.far = up1 v) : ExS C A (en193 C.w Lf) (W19 v) (nth C.w 193 20) (W19 v) .next := by
  have el := evL_len o
  conv => arg 5; whnf
  refine ex_if (b := false) ?_ ea_nil
  refine ts_cmp (a := .list (witPV (up1 v))) (b := .list (witPV (up1 v))) AO ?_ ?_ (ne_self (nice_wit _) (by decide)) rfl
  · rw [← h1]
    exact wit_ev G AO (w := v.typed) (u := v.far) rfl rfl rfl (.cons (ev_name rfl rfl) (fun _ _ => rfl) .nil) (typed_ok o) (far_ok o)
  · have e : witPV (up1 v) = (evL v).map fun p => .tuple [.int p.1, .int p.2, .int (p.2 + v.past - v.rest)] := by unfold witPV up1; rw [List.map_map]; rfl
    rw [e]
    refine el_ev (el_comp (S₁ := PR v) (own := none) (ds := evPV v) (co := none) (fit_of ?_ ?_ rfl ?_ ?_ ?_) (it_list AO.hh (ev_name rfl rfl)) (fun a => ?_) (lenOk_of el) (fun _ => rfl))
    · kernel_rfl
    · intro h n acc; exact ⟨rfl, rfl⟩
    · decide
    · exact ⟨⟨_, rfl, rfl, fun a => by kernel_rfl, fun a => .inl (by kernel_rfl), .inl (by kernel_rfl)⟩, ⟨_, rfl, rfl, fun a => by kernel_rfl, fun a => .inl (by kernel_rfl), .inl (by kernel_rfl)⟩, trivial⟩
    · intro x hx; cases hx
    · unfold evPV
      apply CmpS.map (S₀ := PR v) (fun p : Int × Int => .tuple [.int p.1, .int p.2]) (fun p => .tuple [.int p.1, .int p.2, .int (p.2 + v.past - v.rest)]) (fun _ => True) (S1 := fun p => put (put (PR v) "step" (.val (.int p.1))) "column" (.val (.int p.2))) _ (Sub.refl _) (fun _ _ => trivial)
      · intro p _; (with_reducible apply unpack2); (· exact AO.hh); (· exact Or.inl (by kernel_rfl)); (· exact Or.inl (by kernel_rfl))
      · intro p; exact .cons rfl (.cons rfl .nil)
      · intro p _
        refine ev_tuple (.cons (ev_name rfl rfl) (fun _ _ => rfl) (.cons (ev_name rfl rfl) (fun _ _ => rfl) (.cons ?_ (fun _ _ => rfl) .nil))) rfl
        refine ev_binop (a := .int (p.2 + v.past)) (b := .int v.rest) ?_ (ev_name rfl rfl) bo_sub_int
        exact ev_binop (a := .int p.2) (b := .int v.past) (ev_name rfl rfl) (ev_name rfl rfl) bo_add_int
theorem l_go21 (G : Good C) (AO : AOk A (k + 4)) (o : LOk v) (h2 : witOf v.far v.typed = up2 v) : ExS C A (en193 C.w Lf) (W19 v) (nth C.w 193 21) (W19 v) .next := by
  have el := evL_len o
  conv => arg 5; whnf
  refine ex_if (b := false) ?_ ea_nil
  refine ts_cmp (a := .list (witPV (up2 v))) (b := .list (witPV (up2 v))) AO ?_ ?_ (ne_self (nice_wit _) (by decide)) rfl
  · rw [← h2]
    exact wit_ev G AO (w := v.far) (u := v.typed) rfl rfl rfl (.cons (ev_name rfl rfl) (fun _ _ => rfl) .nil) (far_ok o) (typed_ok o)
  · have e : witPV (up2 v) = (evL v).map fun p => .tuple [.int p.1, .int (p.2 + v.past - v.rest), .int p.2] := by unfold witPV up2; rw [List.map_map]; rfl
    rw [e]
    refine el_ev (el_comp (S₁ := PR v) (own := none) (ds := evPV v) (co := none) (fit_of ?_ ?_ rfl ?_ ?_ ?_) (it_list AO.hh (ev_name rfl rfl)) (fun a => ?_) (lenOk_of el) (fun _ => rfl))
    · kernel_rfl
    · intro h n acc; exact ⟨rfl, rfl⟩
    · decide
    · exact ⟨⟨_, rfl, rfl, fun a => by kernel_rfl, fun a => .inl (by kernel_rfl), .inl (by kernel_rfl)⟩, ⟨_, rfl, rfl, fun a => by kernel_rfl, fun a => .inl (by kernel_rfl), .inl (by kernel_rfl)⟩, trivial⟩
    · intro x hx; cases hx
    · unfold evPV
      apply CmpS.map (S₀ := PR v) (fun p : Int × Int => .tuple [.int p.1, .int p.2]) (fun p => .tuple [.int p.1, .int (p.2 + v.past - v.rest), .int p.2]) (fun _ => True) (S1 := fun p => put (put (PR v) "step" (.val (.int p.1))) "column" (.val (.int p.2))) _ (Sub.refl _) (fun _ _ => trivial)
      · intro p _; (with_reducible apply unpack2); (· exact AO.hh); (· exact Or.inl (by kernel_rfl)); (· exact Or.inl (by kernel_rfl))
      · intro p; exact .cons rfl (.cons rfl .nil)
      · intro p _
        refine ev_tuple (.cons (ev_name rfl rfl) (fun _ _ => rfl) (.cons ?_ (fun _ _ => rfl) (.cons (ev_name rfl rfl) (fun _ _ => rfl) .nil))) rfl
        refine ev_binop (a := .int (p.2 + v.past)) (b := .int v.rest) ?_ (ev_name rfl rfl) bo_sub_int
        exact ev_binop (a := .int p.2) (b := .int v.past) (ev_name rfl rfl) (ev_name rfl rfl) bo_add_int
end
section
open PySem.NumText
theorem CmpB.filt {C : Cx} {A : Around} {env : En} {β : Type} {tgt elt c : Expr} {S₀ : PS} {W : PS → Prop} (hW : ∀ S, Sub S₀ S → W S) (g : β → PV) (p : β → Bool) (f : β → PV) (V : β → Prop) {S1 : β → PS} : ∀ (l : List β) {S : PS}, Sub S₀ S → (∀ x ∈ l, V x) → (∀ x, V x → TgS C A env S₀ tgt (g x) (S1 x)) → (∀ x, Sub S₀ (S1 x)) → (∀ x, V x → TsS C A env (S1 x) c (p x)) → (∀ x, V x → EvS C A env (S1 x) elt (f x)) → CmpB C A env tgt (some c) elt W (l.map g) S ((l.filter p).map f)
  | [], S, h, _, _, _, _, _ => .nil (hW S h)
  | x :: l, S, h, hv, t, w, hc, y => by
    have vx := hv x (.head _)
    have hv' : ∀ z ∈ l, V z := fun z hz => hv z (.tail _ hz)
    cases q : p x with
    | true => rw [List.filter_cons_of_pos q]; exact .take ((t x vx).pre h) (by have := hc x vx; rw [q] at this; exact this) (y x vx) (CmpB.filt hW g p f V l (w x) hv' t w hc y)
    | false => rw [List.filter_cons_of_neg (by rw [q]; decide)]; exact .skip ((t x vx).pre h) (by have := hc x vx; rw [q] at this; exact this) (CmpB.filt hW g p f V l (w x) hv' t w hc y)
theorem Sub.trans {S S' S'' : PS} (x : Sub S S') (y : Sub S' S'') : Sub S S'' := fun a p e => y a p (x a p e)
variable {C : Cx} {A : Around} {k : Nat} {Lf : Addr} {v : LV} {S : PS}
noncomputable def fallB (row : List UInt8) (late early : Nat) : Bool := decide (rowAt row early > rowAt row late)
noncomputable def fallO (row : List UInt8) (late : Nat) : List PV := ((List.range late).filter (fallB row late)).map fun _ => .int (late : Int)
noncomputable def fallN (row : List UInt8) (n : Nat) : Nat := ((List.range n).map fun late => ((List.range late).filter (fallB row late)).length).sum
noncomputable def RwS (v : LV) : PS := [("row", .val (.bytes v.row))]
theorem row_sub (o : LOk v) {env : En} {T : PS} {x : Str} {p1 p2 p3 : Pos} {i : Nat} (hi : i < v.n) (h1 : get T "row" = some (.val (.bytes v.row))) (h2 : get T x = some (.val (.int (i : Int)))) (hd : (x == ("__debug__" : Str)) = false) :
    EvS C A env T (.Subscript (.Name "row" p1) (.Name x p2) p3) (.int (rowAt v.row i)) := by
  have hn := o.n7
  have hrl := o.rl
  refine ev_sub (a := .bytes v.row) (b := .int (i : Int)) (ev_name h1 rfl) (ev_name h2 hd) ?_ rfl
  exact sb_bytes (c := v.row.getD i 0) (Int.natCast_nonneg _) (idx_pos (by lia) (Int.natCast_nonneg _) (by lia) (row_get (by lia)))
theorem falls_c2 (G : Good C) (AO : AOk A (k + 4)) (o : LOk v) {env : En} {i1 c elt : Expr} {pt : Pos} {t0 : Expr}
    (ht0 : ∀ late : Nat, TgS C A env (RwS v) t0 (.int (late : Int)) (put (RwS v) "late" (.val (.int (late : Int)))))
    (hi1 : ∀ late : Nat, late ≤ 7 → ItS C A env (put (RwS v) "late" (.val (.int (late : Int)))) (.Name "early" pt) i1 (rangeL 0 (late : Int)))
    (hs : Sto env "early")
    (hc : ∀ late early : Nat, late < v.n → early < late → TsS C A env (put (put (RwS v) "late" (.val (.int (late : Int)))) "early" (.val (.int (early : Int)))) c (fallB v.row late early))
    (he : ∀ late early : Nat, EvS C A env (put (put (RwS v) "late" (.val (.int (late : Int)))) "early" (.val (.int (early : Int)))) elt (.int (late : Int))) :
    ∀ l : List Nat, (∀ x ∈ l, x < v.n) → Cmp2 C A env t0 (.Name "early" pt) i1 (some c) elt (RwS v) (l.map fun late : Nat => PV.int (late : Int)) ((l.map (fallO v.row)).flatten)
  | [], _ => .nil
  | late :: l, h => by
    have hn := o.n7
    have hl := h late (.head _)
    rw [List.map_cons, List.map_cons, List.flatten_cons]
    refine .cons (S1 := put (RwS v) "late" (.val (.int (late : Int)))) (es := rangeL 0 (late : Int)) (ht0 late) (hi1 late (by lia)) (by rw [range_nats, List.length_map, List.length_range]; lia) ?_ (falls_c2 G AO o ht0 hi1 hs hc he l fun x hx => h x (.tail _ hx))
    rw [range_nats]
    unfold fallO
    refine CmpB.filt (S₀ := put (RwS v) "late" (.val (.int (late : Int)))) (fun T hT => Sub.trans (.cons rfl .nil) hT) (fun e : Nat => PV.int (e : Int)) (fallB v.row late) (fun _ => .int (late : Int)) (fun e => e < late) (S1 := fun e => put (put (RwS v) "late" (.val (.int (late : Int)))) "early" (.val (.int (e : Int)))) (List.range late) (Sub.refl _) (fun x hx => List.mem_range.mp hx) (fun x _ => ?_) (fun x => .cons rfl (.cons rfl .nil)) (fun x hx => hc late x hl hx) (fun x _ => he late x)
    exact tg_name hs
theorem fall_len (row : List UInt8) : ∀ l : List Nat, ((l.map (fallO row)).flatten).length = (l.map fun late => ((List.range late).filter (fallB row late)).length).sum
  | [] => rfl
  | x :: l => by
    rw [List.map_cons, List.flatten_cons, List.length_append, fall_len row l, List.map_cons, List.sum_cons]
    unfold fallO
    rw [List.length_map]
theorem fall_bound (row : List UInt8) : ∀ l : List Nat, (∀ x ∈ l, x ≤ 7) → (l.map fun late => ((List.range late).filter (fallB row late)).length).sum ≤ 7 * l.length
  | [], _ => Nat.le_refl _
  | x :: l, h => by
    have h1 := fall_bound row l fun y hy => h y (.tail _ hy)
    have h2 := h x (.head _)
    have h3 := List.length_filter_le (fallB row x) (List.range x)
    rw [List.length_range] at h3
    rw [List.map_cons, List.sum_cons, List.length_cons]
    lia
noncomputable def W22 (v : LV) : PS := ap (W13 v) [("past", .val (.int v.past)), ("far", .val (wsObj v.far)), ("every", .val (.list (evPV v))), ("falls", .val (.int (fallN v.row v.n : Nat)))]
theorem l_go22 (G : Good C) (AO : AOk A (k + 4)) (o : LOk v) : ExS C A (en193 C.w Lf) (W19 v) (nth C.w 193 22) (W22 v) .next := by
  have hn := o.n7
  have hb : fallN v.row v.n ≤ 49 := by
    have := fall_bound v.row (List.range v.n) fun x hx => by have := List.mem_range.mp hx; lia
    rw [List.length_range] at this
    unfold fallN; lia
  have hlen : (((List.range v.n).map (fallO v.row)).flatten).length = fallN v.row v.n := fall_len v.row _
  conv => arg 5; whnf
  refine ex_set (d := .int (fallN v.row v.n : Nat)) (by exact Or.inl (by kernel_rfl)) (by kernel_rfl) ?_
  rw [← hlen]
  refine ev_bcall (ds := [.list (((List.range v.n).map (fallO v.row)).flatten)]) G.ok AO (G.gl rfl) (by kernel_rfl) rfl (.cons ?_ (fun _ _ => rfl) .nil) (bc_len_list (by lia))
  refine el_ev (el_compG (S₁ := RwS v) (own := none) (ds := rangeL 0 (v.n : Int)) (ifs := []) (fit_of ?_ ?_ rfl ?_ ?_ ?_) ?_ (fun a => comp2_loop (co := some _) ?_ (by lia) (fun _ => rfl)) (fun _ => rfl))
  · kernel_rfl
  · intro h n acc; exact ⟨rfl, rfl⟩
  · decide
  · exact ⟨⟨_, rfl, rfl, fun a => by kernel_rfl, fun a => .inl (by kernel_rfl), .inl (by kernel_rfl)⟩, trivial⟩
  · intro x hx; cases hx
  · exact it_range1 G.ok AO.hh (G.gl rfl) (by kernel_rfl) rfl (.cons (ev_name rfl rfl) (fun _ _ => rfl) .nil) (by lia)
  · rw [range_nats]
    refine falls_c2 G AO o (fun late => ?_) (fun late hl => ?_) ?_ (fun late early h1 h2 => ?_) (fun late early => ?_) _ fun x hx => List.mem_range.mp hx
    · exact tg_name (by exact Or.inl (by kernel_rfl))
    · exact it_range1 G.ok AO.hh (G.gl rfl) (by kernel_rfl) rfl (.cons (ev_name rfl rfl) (fun _ _ => rfl) .nil) (by lia)
    · exact Or.inl (by kernel_rfl)
    · exact ts_cmp (a := .int (rowAt v.row early)) (b := .int (rowAt v.row late)) AO (row_sub o (by lia) rfl rfl rfl) (row_sub o (by lia) rfl rfl rfl) cm_gt rfl
    · exact ev_name rfl rfl
end
section
open PySem.NumText
variable {C : Cx} {A : Around} {k : Nat} {Lf : Addr} {v : LV} {S : PS}
noncomputable def twosL (v : LV) : List Int := (v.lines.filter fun l => decide (l.1 = 2)).map fun l => l.2.1 - l.2.2
theorem lines_len (o : LOk v) (hl : v.lines = wantOf v) : v.lines.length ≤ 7 := by
  rw [hl]
  have : ∀ (l : List Nat) (a : List (Int × Int × Int)), (l.foldl (wantF v) a).length ≤ a.length + l.length := by
    intro l
    induction l with
    | nil => intro a; exact Nat.le_refl _
    | cons x l ih => intro a; rw [List.foldl_cons, List.length_cons]; have h1 := ih (wantF v a x); have h2 := wantF_len (v := v) a x; lia
  have := this (List.range v.n) []
  rw [List.length_range, List.length_nil] at this
  have := o.n7
  unfold wantOf; lia
noncomputable def lnPV (p : Int × Int × Int) : PV := .tuple [.int p.1, .int p.2.1, .int p.2.2]
theorem wit_map (l : List (Int × Int × Int)) : witPV l = l.map lnPV := rfl
theorem l_go23 (G : Good C) (AO : AOk A (k + 4)) (o : LOk v) (hl : v.lines = wantOf v) (hp : (((fallN v.row v.n : Nat) : Int) - (twosL v).sum / 2) % 2 ≠ 1) : ExS C A (en193 C.w Lf) (W22 v) (nth C.w 193 23) (W22 v) .next := by
  have hn := lines_len o hl
  conv => arg 5; whnf
  refine ex_if (b := false) ?_ ea_nil
  refine ts_cmp (a := .int ((((fallN v.row v.n : Nat) : Int) - (twosL v).sum / 2) % 2)) (b := .int 1) AO ?_ ev_int ?_ rfl
  · refine ev_binop (a := .int (((fallN v.row v.n : Nat) : Int) - (twosL v).sum / 2)) (b := .int 2) ?_ ev_int (bo_mod (by decide))
    refine ev_binop (a := .int ((fallN v.row v.n : Nat) : Int)) (b := .int ((twosL v).sum / 2)) (ev_name rfl rfl) ?_ bo_sub_int
    refine ev_binop (a := .int (twosL v).sum) (b := .int 2) ?_ ev_int (bo_div (by decide) (by decide))
    refine ev_bcall (ds := [.list ((twosL v).map .int)]) G.ok AO (G.gl rfl) (by kernel_rfl) rfl (.cons ?_ (fun _ _ => rfl) .nil) (bc_sum _)
    unfold twosL
    rw [List.map_map]
    refine el_ev (el_comp (S₁ := []) (own := none) (cl := []) (ds := witPV v.lines) (co := some _) (fit_none ?_ ?_ rfl ?_) (it_list AO.hh (ev_name rfl rfl)) (fun a => ?_) ?_ (fun _ => rfl))
    · decide
    · intro h n acc; exact ⟨rfl, rfl⟩
    · decide
    · rw [wit_map]
      apply CmpS.filt (S₀ := []) lnPV (fun l => decide (l.1 = 2)) (fun l => .int (l.2.1 - l.2.2)) (fun _ => True) (S1 := fun l => put [] "line" (.val (lnPV l))) _ Sub.nil (fun _ _ => trivial)
      · intro l _; (with_reducible apply tg_name); exact Or.inl (by kernel_rfl)
      · intro l; exact Sub.nil
      · intro l _
        exact ts_cmp (a := .int l.1) (b := .int 2) AO (ev_sub (a := .tuple [.int l.1, .int l.2.1, .int l.2.2]) (b := .int 0) (ev_name rfl rfl) ev_int (sb_tuple rfl) rfl) ev_int cm_eq_int rfl
      · intro l _
        refine ev_binop (a := .int l.2.1) (b := .int l.2.2) ?_ ?_ bo_sub_int
        · exact ev_sub (a := .tuple [.int l.1, .int l.2.1, .int l.2.2]) (b := .int 1) (ev_name rfl rfl) ev_int (sb_tuple rfl) rfl
        · exact ev_sub (a := .tuple [.int l.1, .int l.2.1, .int l.2.2]) (b := .int 2) (ev_name rfl rfl) ev_int (sb_tuple rfl) rfl
    · exact lenOk_of (by unfold witPV; rw [List.length_map]; lia)
  · exact cm_eq_int.to (decide_eq_false hp)
noncomputable def W24 (v : LV) : PS := ap (W13 v) [("past", .val (.int v.past)), ("far", .val (wsObj v.far)), ("every", .val (.list (evPV v))), ("falls", .val (.int (fallN v.row v.n : Nat))), ("about", .val (.bytes v.about))]
theorem about_eq (o : LOk v) : bytesOf ((List.range v.n).map fun p => rowAt v.row (v.n - 1 - p)) = v.about := by
  unfold bytesOf LV.about
  refine List.ext_getElem (by simp [o.rl]) fun i h1 h2 => ?_
  have hi : i < v.n := by simpa using h1
  rw [List.getElem_map, List.getElem_map, List.getElem_range, List.getElem_reverse]
  unfold rowAt
  have h3 : v.n - 1 - i < v.row.length := by rw [o.rl]; lia
  have e : v.row.getD (v.n - 1 - i) 0 = v.row[v.n - 1 - i] := by simp [h3]
  rw [e]
  have e2 : v.row.length - 1 - i = v.n - 1 - i := by rw [o.rl]
  simp only [e2]
  simp
theorem l_go24 (G : Good C) (AO : AOk A (k + 4)) (o : LOk v) : ExS C A (en193 C.w Lf) (W22 v) (nth C.w 193 24) (W24 v) .next := by
  have hn := o.n7
  have hrl := o.rl
  conv => arg 5; whnf
  refine ex_set (d := .bytes v.about) (by exact Or.inl (by kernel_rfl)) (by kernel_rfl) ?_
  rw [← about_eq o]
  refine ev_tcall (ds := [.list (((List.range v.n).map fun p => rowAt v.row (v.n - 1 - p)).map .int)]) G.ok AO (G.gl rfl) (by kernel_rfl) rfl (.cons ?_ (fun _ _ => rfl) .nil) (bc_bytes (by rw [List.length_map, List.length_range]; lia) fun x hx => ?_)
  · rw [List.map_map]
    refine el_ev (el_comp (S₁ := [("row", .val (.bytes v.row)), ("size", .val (.int (v.n : Int)))]) (own := none) (ds := rangeL 0 (v.n : Int)) (co := none) (fit_of ?_ ?_ rfl ?_ ?_ ?_) (it_range1 G.ok AO.hh (G.gl rfl) (by kernel_rfl) rfl (.cons (ev_name rfl rfl) (fun _ _ => rfl) .nil) (by lia)) (fun a => ?_) ?_ (fun _ => rfl))
    · kernel_rfl
    · intro h n acc; exact ⟨rfl, rfl⟩
    · decide
    · exact ⟨⟨_, rfl, rfl, fun a => by kernel_rfl, fun a => .inl (by kernel_rfl), .inl (by kernel_rfl)⟩, ⟨_, rfl, rfl, fun a => by kernel_rfl, fun a => .inl (by kernel_rfl), .inl (by kernel_rfl)⟩, trivial⟩
    · intro x hx; cases hx
    · rw [range_nats]
      apply CmpS.map (S₀ := [("row", .val (.bytes v.row)), ("size", .val (.int (v.n : Int)))]) (fun p : Nat => .int (p : Int)) (fun p => .int (rowAt v.row (v.n - 1 - p))) (fun p => p < v.n) (S1 := fun p => put [("row", .val (.bytes v.row)), ("size", .val (.int (v.n : Int)))] "place" (.val (.int (p : Int)))) _ (Sub.refl _) (fun x hx => List.mem_range.mp hx)
      · intro p _; (with_reducible apply tg_name); exact Or.inl (by kernel_rfl)
      · intro p; exact .cons rfl (.cons rfl .nil)
      · intro p hp
        have e : (v.n : Int) - 1 - (p : Int) = ((v.n - 1 - p : Nat) : Int) := by lia
        refine ev_sub (a := .bytes v.row) (b := .int ((v.n : Int) - 1 - (p : Int))) (ev_name rfl rfl) ?_ ?_ rfl
        · refine ev_binop (a := .int ((v.n : Int) - 1)) (b := .int (p : Int)) ?_ (ev_name rfl rfl) bo_sub_int
          exact ev_binop (a := .int (v.n : Int)) (b := .int 1) (ev_name rfl rfl) ev_int bo_sub_int
        · rw [e]
          exact sb_bytes (c := v.row.getD (v.n - 1 - p) 0) (Int.natCast_nonneg _) (idx_pos (by lia) (Int.natCast_nonneg _) (by lia) (row_get (by lia)))
    · exact lenOk_of (by unfold rangeL; rw [List.length_map, List.length_range]; lia)
  · obtain ⟨p, _, rfl⟩ := List.mem_map.mp hx
    unfold rowAt
    have := (v.row.getD (v.n - 1 - p) 0).toNat_lt
    lia
end
section
open PySem.NumText
variable {C : Cx} {A : Around} {k : Nat} {Lf : Addr} {v : LV} {S : PS}
structure MOk (r : List (List Int)) : Prop where
  r7 : r.length ≤ 7
  l7 : ∀ h ∈ r, 1 ≤ h.length ∧ h.length ≤ 7
theorem MOk.sz {r : List (List Int)} (o : MOk r) : (szs r).length ≤ 7 ∧ ∀ s ∈ szs r, 1 ≤ s ∧ s ≤ 7 := by
  refine ⟨by unfold szs; rw [List.length_map]; exact o.r7, fun s hs => ?_⟩
  obtain ⟨h, hh, rfl⟩ := List.mem_map.mp hs
  have := o.l7 h hh
  lia
theorem rsz_ev (G : Good C) (X : Lam C) (AO : AOk A (k + 4)) (o : LOk v) {r : List (List Int)} (m : MOk r) {y : Str} {py pos p0 p1 p2 p3 p4 p6 p7 p8 : Pos} {re : Expr} {scope : Scope} {row : List UInt8}
    (hS1 : get S "base" = some (.val (.int v.base))) (hS2 : get S "mark" = some (.val (.str (one v.m)))) (xr : EvS C A (en193 C.w Lf) S re (.bytes row)) (hst : ∀ (en : Env) (r : List Expr), starEach (re :: r) en = (false, eval re en) :: starEach r en)
    (hrow : few row.length) (hr : r = roundsOf row (orderOf row)) (hsc : scope = { kind := .function, names := [(".0", .local), ("heard", .local), ("len", .globalImplicit)], isGenerator := false, isCoroutine := false })
    (hk : Sto (en193 C.w Lf) y) (hw : swapsWith (.ListComp (.Call (.Name "len" p1) [.Name "heard" p2] [] p3) [⟨.Name "heard" p4, .Call (.Name "_law_rounds" p6) [re, .Name "base" p7, .Name "mark" p8] [] p0, [], 0⟩] scope pos) (some (.Name y py)) pos.line (en193 C.w Lf).e = pure true) {ap : Pos} (hap : ap.line = pos.line) :
    ExS C A (en193 C.w Lf) S (.Assign [.Name y py] (.ListComp (.Call (.Name "len" p1) [.Name "heard" p2] [] p3) [⟨.Name "heard" p4, .Call (.Name "_law_rounds" p6) [re, .Name "base" p7, .Name "mark" p8] [] p0, [], 0⟩] scope pos) ap) (put S y (.val (.list (intsPV (szs r))))) .next := by
  subst hsc
  have hb := o.b0
  have h7 := m.r7
  refine ex_comp (S₁ := []) (own := none) (cl := []) (ds := r.map fun l => .list (intsPV l)) (co := none) (out := intsPV (szs r)) (fit_none ?_ ?_ rfl ?_) (it_list AO.hh ?_) (fun a => ?_) ?_ (fun _ => rfl) hk (by rw [hap]; exact hw)
  · decide
  · intro h n acc; exact ⟨rfl, rfl⟩
  · decide
  · rw [hr]
    exact ev_call (ds := [.bytes row, .int v.base, .str (one v.m)]) G.ok AO (G.gl rfl) (by kernel_rfl) rfl (G.kf (by kernel_rfl)) (.cons xr hst (.cons (ev_name hS1 rfl) (fun _ _ => rfl) (.cons (ev_name hS2 rfl) (fun _ _ => rfl) .nil))) (FnOk.le (law_rounds G X o.mrk hb.1 (by lia) hrow) (by lia))
  · rw [szs_eq]
    apply CmpS.map (S₀ := []) (fun l : List Int => .list (intsPV l)) (fun l : List Int => .int ((l.length : Nat) : Int)) (fun l => l.length ≤ 7) (S1 := fun l => put [] "heard" (.val (.list (intsPV l)))) _ Sub.nil (fun l hl => (m.l7 l hl).2)
    · intro s _; (with_reducible apply tg_name); exact Or.inl (by kernel_rfl)
    · intro s; exact Sub.nil
    · intro s hs
      have e : (intsPV s).length = s.length := by unfold intsPV; rw [List.length_map]
      rw [← e]
      exact ev_bcall (ds := [.list (intsPV s)]) G.ok AO (G.gl rfl) (by kernel_rfl) rfl (.cons (ev_name rfl rfl) (fun _ _ => rfl) .nil) (bc_len_list (by lia))
  · exact lenOk_of (by rw [List.length_map]; lia)
noncomputable def mirR (v : LV) : List UInt8 := bytesOf ((bytesI v.about).map fun c => 133 - c)
theorem mirR_len (o : LOk v) : few (mirR v).length := by
  have : (mirR v).length = v.n := by unfold mirR bytesOf bytesI LV.about; simp [o.rl]
  rw [this]; exact o.few
noncomputable def W25 (v : LV) : PS := ap (W24 v) [("mirror", .val (.list (intsPV (szs v.mir))))]
theorem about_ab (o : LOk v) : ∀ c ∈ bytesI v.about, 65 ≤ c ∧ c ≤ 68 := fun c hc => by
  obtain ⟨b, hb, rfl⟩ := List.mem_map.mp hc
  have := o.ab b (List.mem_reverse.mp hb)
  lia
theorem l_go25 (G : Good C) (X : Lam C) (AO : AOk A (k + 4)) (o : LOk v) (m : MOk v.mir) (hr : v.mir = roundsOf (mirR v) (orderOf (mirR v))) : ExS C A (en193 C.w Lf) (W24 v) (nth C.w 193 25) (W25 v) .next := by
  have hn := o.n7
  have hal : v.about.length = v.n := by unfold LV.about; rw [List.length_reverse, o.rl]
  conv => arg 5; whnf
  refine rsz_ev G X AO o m rfl rfl ?_ (fun _ _ => rfl) (mirR_len o) hr rfl (.inl (by kernel_rfl)) (by kernel_rfl) rfl
  unfold mirR
  refine ev_tcall (ds := [.list (((bytesI v.about).map fun c => 133 - c).map .int)]) G.ok AO (G.gl rfl) (by kernel_rfl) rfl (.cons ?_ (fun _ _ => rfl) .nil) (bc_bytes (by unfold bytesI; rw [List.length_map, List.length_map]; lia) fun x hx => ?_)
  · rw [List.map_map]
    have e : (v.about.map fun c => PV.int c.toNat) = (bytesI v.about).map .int := by unfold bytesI; rw [List.map_map]; rfl
    refine el_ev (el_comp (S₁ := []) (own := none) (cl := []) (ds := v.about.map fun c => PV.int c.toNat) (co := none) (fit_none ?_ ?_ rfl ?_) (it_bytes AO.hh (ev_name rfl rfl)) (fun a => ?_) ?_ (fun _ => rfl))
    · decide
    · intro h n acc; exact ⟨rfl, rfl⟩
    · decide
    · rw [e]
      apply CmpS.map (S₀ := []) .int (fun c => .int (133 - c)) (fun _ => True) (S1 := fun c => put [] "letter" (.val (.int c))) _ Sub.nil (fun _ _ => trivial)
      · intro s _; (with_reducible apply tg_name); exact Or.inl (by kernel_rfl)
      · intro s; exact Sub.nil
      · intro s _
        exact ev_binop (a := .int 133) (b := .int s) ev_int (by exact ev_name rfl rfl) bo_sub_int
    · exact lenOk_of (by rw [List.length_map]; lia)
  · obtain ⟨c, hc, rfl⟩ := List.mem_map.mp hx
    have := about_ab o c hc
    lia
end
section
theorem len_flat : ∀ cs : List (List Nat), (∀ c ∈ cs, 1 ≤ c.length) → cs.length ≤ cs.flatten.length
  | [], _ => Nat.le_refl _
  | c :: cs, h => by
    have := h c (.head _)
    have := len_flat cs fun d hd => h d (.tail _ hd)
    rw [List.flatten_cons, List.length_append, List.length_cons]; lia
theorem count_sizes (cs : List (List Nat)) (k : Nat) : (cs.map fun c => ((c.length : Nat) : Int)).count (k : Int) = sizeN cs k := by
  unfold sizeN
  rw [List.count_eq_countP, List.countP_map, List.countP_eq_length_filter]
  congr 1
  refine List.filter_congr fun c _ => ?_
  by_cases h : c.length = k
  · simp [h]
  · have h2 : ¬ ((c.length : Nat) : Int) = (k : Int) := by lia
    simp [h, h2]
theorem sum_flat : ∀ cs : List (List Nat), (cs.map fun c => ((c.length : Nat) : Int)).sum = (cs.flatten.length : Nat)
  | [] => rfl
  | c :: cs => by rw [List.map_cons, List.sum_cons, sum_flat cs, List.flatten_cons, List.length_append]; lia
section
variable {row : List UInt8} (hn : few row.length) (h : Ab row)
include hn h
theorem szs_rounds : szs (roundsOf row (orderOf row)) = (cyc (oo row) row.length).map fun c => ((c.length : Nat) : Int) := by
  unfold szs
  rw [rounds_cyc, List.map_map]
  exact List.map_congr_left fun c _ => by show ((c.map (rowAt row)).length : Int) = _; rw [List.length_map]
theorem cyc_len1 : ∀ c ∈ cyc (oo row) row.length, 1 ≤ c.length ∧ c.length ≤ row.length := fun c hc => by
  obtain ⟨s, t, y⟩ := (cyc_ok (ord_pm hn)).2 c hc
  rw [y.len]; exact ⟨y.t1, y.tn⟩
theorem rounds_facts : MOk (roundsOf row (orderOf row)) ∧ 1 ≤ (roundsOf row (orderOf row)).length ∧ (∀ r ∈ roundsOf row (orderOf row), RoundOk r) ∧ (szs (roundsOf row (orderOf row))).sum = row.length := by
  have h7 : row.length ≤ 7 ∧ 5 ≤ row.length := by rcases hn with q | q | q <;> lia
  obtain ⟨c1, c2⟩ := cyc_ok (ord_pm hn)
  have hl := len_flat _ fun c hc => (cyc_len1 hn h c hc).1
  rw [c1.length_eq, List.length_range] at hl
  have hr : (roundsOf row (orderOf row)).length = (cyc (oo row) row.length).length := by rw [rounds_cyc, List.length_map]; rfl
  have mem : ∀ r ∈ roundsOf row (orderOf row), ∃ c ∈ cyc (oo row) row.length, r = c.map (rowAt row) := fun r hr => by
    rw [rounds_cyc] at hr
    obtain ⟨c, hc, e⟩ := List.mem_map.mp hr
    exact ⟨c, hc, e.symm⟩
  refine ⟨⟨by lia, fun r hr => ?_⟩, ?_, fun r hr => ?_, ?_⟩
  · obtain ⟨c, hc, rfl⟩ := mem r hr
    have := cyc_len1 hn h c hc
    rw [List.length_map]; lia
  · rw [hr]
    cases q : cyc (oo row) row.length with
    | nil => rw [q] at c1; have := c1.length_eq; rw [List.length_range] at this; simp at this; lia
    | cons c cs => simp
  · obtain ⟨c, hc, rfl⟩ := mem r hr
    have := cyc_len1 hn h c hc
    refine ⟨by rw [List.length_map]; lia, by rw [List.length_map]; lia, fun x hx => ?_⟩
    obtain ⟨i, hi, rfl⟩ := List.mem_map.mp hx
    have hlt : i < row.length := List.mem_range.mp (c1.mem_iff.mp (List.mem_flatten.mpr ⟨c, hc, hi⟩))
    have := row_ab hn h hlt
    unfold rowAt; lia
  · rw [szs_rounds hn h, sum_flat, c1.length_eq, List.length_range]
theorem mrow_ab : Ab (mrow row) := ⟨fun c hc => by
  obtain ⟨i, hi, rfl⟩ := List.getElem_of_mem hc
  have hi' : i < row.length := by rw [← mrow_len row]; exact hi
  have e := mrow_at hn h hi'
  have ab := row_ab hn h (mr_lt hi')
  unfold rowAt at e
  have e2 : (mrow row).getD i 0 = (mrow row)[i] := by simp [hi]
  rw [e2] at e
  lia⟩
theorem mir_sizes : (szs (roundsOf (mrow row) (orderOf (mrow row)))).Perm (szs (roundsOf row (orderOf row))) := by
  have hn' : few (mrow row).length := by rw [mrow_len]; exact hn
  have h' := mrow_ab hn h
  rw [szs_rounds hn h, szs_rounds hn' h', mrow_len]
  have P := ord_pm hn
  have Q : Pm row.length (oo (mrow row)) := by have := ord_pm hn'; rw [mrow_len] at this; exact this
  have hq : ∀ i, i < row.length → oo (mrow row) i = mr row.length (oo row (mr row.length i)) := fun i hi => by
    unfold oo
    rw [mrow_ord hn h]
    simp only [List.getD_eq_getElem?_getD, List.getElem?_map, List.getElem?_range hi]
    rfl
  refine List.perm_iff_count.mpr fun a => ?_
  by_cases ha : 0 ≤ a
  · obtain ⟨k, rfl⟩ : ∃ k : Nat, a = k := ⟨a.toNat, by lia⟩
    rw [count_sizes, count_sizes]
    by_cases hk : 1 ≤ k
    · exact conj_sizes P Q hq hk
    · have : k = 0 := by lia
      subst this
      unfold sizeN
      rw [List.filter_eq_nil_iff.mpr fun c hc => ?_, List.filter_eq_nil_iff.mpr fun c hc => ?_]
      · have := (cyc_len1 hn h c hc).1; simp; intro q; rw [q] at this; simp at this
      · have hc' : c ∈ cyc (oo (mrow row)) (mrow row).length := by rw [mrow_len]; exact hc
        have := (cyc_len1 hn' h' c hc').1; simp; intro q; rw [q] at this; simp at this
  · rw [List.count_eq_zero_of_not_mem fun q => ?_, List.count_eq_zero_of_not_mem fun q => ?_]
    · obtain ⟨c, _, e⟩ := List.mem_map.mp q; lia
    · obtain ⟨c, _, e⟩ := List.mem_map.mp q; lia
end
end
section
noncomputable def lk (code i : Nat) : Nat := Nat.mod (Nat.shiftRight code (Nat.mul 4 i)) 16
noncomputable def b2n (b : Bool) : Nat := cond b 1 0
noncomputable def leastB (code i : Nat) : Bool :=
  let a := lk code i
  let b := lk code a
  let c := lk code b
  let d := lk code c
  let e := lk code d
  let f := lk code e
  and (and (and (Nat.ble i a) (Nat.ble i b)) (and (Nat.ble i c) (Nat.ble i d))) (and (Nat.ble i e) (Nat.ble i f))
noncomputable def rowInv (x : Nat) : List Nat → Nat
  | [] => 0
  | y :: l => Nat.add (b2n (Nat.blt y x)) (rowInv x l)
noncomputable def invs : List Nat → Nat
  | [] => 0
  | x :: l => Nat.add (rowInv x l) (invs l)
noncomputable def codeOf : List Nat → Nat
  | [] => 0
  | x :: l => Nat.add x (Nat.mul 16 (codeOf l))
noncomputable def leasts (code : Nat) : Nat → Nat
  | 0 => 0
  | n + 1 => Nat.add (b2n (leastB code n)) (leasts code n)
noncomputable def evnB (n : Nat) (l : List Nat) : Bool := Nat.beq (Nat.mod (Nat.add (Nat.add (invs l) n) (leasts (codeOf l) n)) 2) 0
noncomputable def insAll (x : Nat) : List Nat → List (List Nat)
  | [] => [[x]]
  | y :: l => (x :: y :: l) :: (insAll x l).map (y :: ·)
noncomputable def permsOf : Nat → List (List Nat)
  | 0 => [[]]
  | n + 1 => ((permsOf n).map (insAll n)).flatten
theorem par5 : (permsOf 5).all (evnB 5) = true := by decide +kernel
theorem par6 : (permsOf 6).all (evnB 6) = true := by decide +kernel
theorem par7_0 : (((permsOf 6).drop 0).take 120).all (fun l => (insAll 6 l).all (evnB 7)) = true := by decide +kernel
theorem par7_1 : (((permsOf 6).drop 120).take 120).all (fun l => (insAll 6 l).all (evnB 7)) = true := by decide +kernel
theorem par7_2 : (((permsOf 6).drop 240).take 120).all (fun l => (insAll 6 l).all (evnB 7)) = true := by decide +kernel
theorem par7_3 : (((permsOf 6).drop 360).take 120).all (fun l => (insAll 6 l).all (evnB 7)) = true := by decide +kernel
theorem par7_4 : (((permsOf 6).drop 480).take 120).all (fun l => (insAll 6 l).all (evnB 7)) = true := by decide +kernel
theorem par7_5 : (((permsOf 6).drop 600).take 120).all (fun l => (insAll 6 l).all (evnB 7)) = true := by decide +kernel
theorem all_chunk {α : Type} (l : List α) (p : α → Bool) (a b : Nat) (h1 : ((l.drop a).take b).all p = true) (h2 : (l.drop (a + b)).all p = true) : (l.drop a).all p = true := by
  rw [← List.take_append_drop b (l.drop a), List.all_append, h1, List.drop_drop, h2]; rfl
theorem par7 : (permsOf 7).all (evnB 7) = true := by
  show (((permsOf 6).map (insAll 6)).flatten).all (evnB 7) = true
  rw [List.all_flatten, List.all_map]
  have e : ((permsOf 6).drop 720).all (fun l => (insAll 6 l).all (evnB 7)) = true := by decide +kernel
  exact all_chunk _ _ 0 120 par7_0 (all_chunk _ _ 120 120 par7_1 (all_chunk _ _ 240 120 par7_2 (all_chunk _ _ 360 120 par7_3 (all_chunk _ _ 480 120 par7_4 (all_chunk _ _ 600 120 par7_5 e)))))
end
section
theorem mem_insAll (x : Nat) : ∀ a b : List Nat, a ++ x :: b ∈ insAll x (a ++ b)
  | [], [] => .head _
  | [], y :: b => .head _
  | y :: a, b => by
    show y :: (a ++ x :: b) ∈ insAll x (y :: (a ++ b))
    exact List.mem_cons_of_mem _ (List.mem_map.mpr ⟨_, mem_insAll x a b, rfl⟩)
theorem mem_permsOf : ∀ (n : Nat) (l : List Nat), l.Perm (List.range n) → l ∈ permsOf n
  | 0, l, h => by
    have : l = [] := List.Perm.eq_nil h
    rw [this]; exact .head _
  | n + 1, l, h => by
    have hm : n ∈ l := h.mem_iff.mpr (List.mem_range.mpr (Nat.lt_succ_self n))
    obtain ⟨a, b, rfl⟩ := List.append_of_mem hm
    have h2 : (a ++ b).Perm (List.range n) := by
      rw [List.range_succ] at h
      have h3 : (n :: (a ++ b)).Perm (n :: List.range n) := (List.perm_middle.symm.trans h).trans (List.perm_append_comm.trans (.refl _))
      exact h3.cons_inv
    exact List.mem_flatten.mpr ⟨_, List.mem_map.mpr ⟨_, mem_permsOf n _ h2, rfl⟩, mem_insAll n a b⟩
theorem even_all {n : Nat} (hn : few n) {l : List Nat} (h : l.Perm (List.range n)) : (invs l + n + leasts (codeOf l) n) % 2 = 0 := by
  have hm := mem_permsOf n l h
  have : evnB n l = true := by
    rcases hn with q | q | q <;> subst q
    · exact List.all_eq_true.mp par5 _ hm
    · exact List.all_eq_true.mp par6 _ hm
    · exact List.all_eq_true.mp par7 _ hm
  exact Nat.eq_of_beq_eq_true this
end
section
noncomputable def cntP (n : Nat) (P : Nat → Nat → Bool) : Nat := ((List.range n).map fun i => ((List.range n).filter (P i)).length).sum
theorem cntP_congr {n : Nat} {P Q : Nat → Nat → Bool} (h : ∀ i j, i < n → j < n → P i j = Q i j) : cntP n P = cntP n Q := by
  unfold cntP
  congr 1
  refine List.map_congr_left fun i hi => ?_
  congr 1
  exact List.filter_congr fun j hj => h i j (List.mem_range.mp hi) (List.mem_range.mp hj)
theorem cntP_perm {n : Nat} {p : Nat → Nat} (hp : ((List.range n).map p).Perm (List.range n)) (P : Nat → Nat → Bool) : cntP n P = cntP n fun i j => P (p i) (p j) := by
  unfold cntP
  have inner : ∀ f : Nat → Bool, ((List.range n).filter f).length = ((List.range n).filter fun j => f (p j)).length := fun f => by
    rw [← (hp.filter f).length_eq, List.filter_map, List.length_map]; rfl
  have := (hp.map fun i => ((List.range n).filter (P i)).length).sum_nat
  rw [← this, List.map_map]
  congr 1
  exact List.map_congr_left fun i _ => inner (P (p i))
theorem filt_upto (f : Nat → Bool) (late : Nat) : ∀ n, late ≤ n → ((List.range n).filter fun e => decide (e < late) && f e).length = ((List.range late).filter f).length
  | 0, h => by have : late = 0 := by lia
               subst this; rfl
  | n + 1, h => by
    by_cases hq : late = n + 1
    · subst hq
      congr 1
      exact List.filter_congr fun e he => by rw [decide_eq_true (List.mem_range.mp he)]; rfl
    · rw [List.range_succ, List.filter_append, List.length_append, filt_upto f late n (by lia)]
      have : ¬ n < late := by lia
      simp [this]
theorem fall_cnt (row : List UInt8) (n : Nat) : fallN row n = cntP n fun late early => decide (early < late) && fallB row late early := by
  unfold fallN cntP
  congr 1
  exact List.map_congr_left fun late hl => (filt_upto _ late n (by have := List.mem_range.mp hl; lia)).symm
theorem rowInv_eq (x : Nat) : ∀ l : List Nat, rowInv x l = ((List.range l.length).filter fun j => decide (l.getD j 0 < x)).length
  | [] => rfl
  | y :: l => by
    show b2n (Nat.blt y x) + rowInv x l = _
    rw [rowInv_eq x l, List.length_cons, List.range_succ_eq_map]
    have e : (((List.range l.length).map Nat.succ).filter fun j => decide ((y :: l).getD j 0 < x)).length = ((List.range l.length).filter fun j => decide (l.getD j 0 < x)).length := by
      rw [List.filter_map, List.length_map]; rfl
    by_cases h : y < x
    · have hb : Nat.blt y x = true := by simp [Nat.blt, h]; lia
      rw [hb, List.filter_cons_of_pos (by simpa using h), List.length_cons, e]
      show 1 + _ = _; lia
    · have hb : Nat.blt y x = false := by
        cases q : Nat.blt y x with
        | false => rfl
        | true => exact absurd (Nat.le_of_ble_eq_true q) (by lia)
      rw [hb, List.filter_cons_of_neg (by simpa using h), e]
      show 0 + _ = _; lia
theorem invs_cnt : ∀ l : List Nat, invs l = cntP l.length fun i j => decide (i < j) && decide (l.getD j 0 < l.getD i 0)
  | [] => rfl
  | x :: l => by
    show rowInv x l + invs l = _
    rw [invs_cnt l, rowInv_eq]
    unfold cntP
    rw [List.length_cons, List.range_succ_eq_map, List.map_cons, List.sum_cons, List.map_map]
    congr 1
    · rw [List.filter_cons_of_neg (by simp), List.filter_map, List.length_map]
      congr 1
    · congr 1
      refine List.map_congr_left fun i _ => ?_
      show _ = (List.filter _ (0 :: (List.range l.length).map Nat.succ)).length
      rw [List.filter_cons_of_neg (by simp), List.filter_map, List.length_map]
      congr 1
      refine List.filter_congr fun j _ => ?_
      show _ = (decide (i + 1 < j + 1) && decide (l.getD j 0 < l.getD i 0))
      simp
section
variable {row : List UInt8} (hn : few row.length)
include hn
theorem falls_invs : fallN row row.length = invs (orderOf row) := by
  have hp : ((List.range row.length).map (oo row)).Perm (List.range row.length) := by
    have : (List.range row.length).map (oo row) = orderOf row := by rw [← ord_len hn]; exact getD_range _ 0
    rw [this]; exact ord_perm hn
  rw [fall_cnt, cntP_perm hp, invs_cnt, ord_len hn]
  refine cntP_congr fun i j hi hj => ?_
  show (decide (oo row j < oo row i) && decide (rowAt row (oo row j) > rowAt row (oo row i))) = (decide (i < j) && decide (oo row j < oo row i))
  by_cases h1 : oo row j < oo row i
  · rw [decide_eq_true h1, Bool.true_and, Bool.and_true]
    rcases Nat.lt_trichotomy i j with q | q | q
    · rw [decide_eq_true q]
      rcases ord_lt hn q hj with r | ⟨r, r2⟩
      · exact decide_eq_true r
      · lia
    · subst q; lia
    · rw [decide_eq_false (by lia : ¬ i < j)]
      rcases ord_lt hn q hi with r | ⟨r, r2⟩
      · exact decide_eq_false (by lia)
      · exact decide_eq_false (by lia)
  · rw [decide_eq_false h1, Bool.false_and, Bool.and_false]
end
end
section
theorem lk_code : ∀ (l : List Nat), (∀ x ∈ l, x < 16) → ∀ i, lk (codeOf l) i = l.getD i 0
  | [], _, i => by
    show (0 >>> (4 * i)) % 16 = 0
    rw [Nat.zero_shiftRight]
  | x :: l, h, 0 => by
    have hx := h x (.head _)
    show ((x + 16 * codeOf l) >>> 0) % 16 = x
    rw [Nat.shiftRight_zero]; lia
  | x :: l, h, i + 1 => by
    have ih := lk_code l (fun y hy => h y (.tail _ hy)) i
    have hx := h x (.head _)
    show ((x + 16 * codeOf l) >>> (4 * (i + 1))) % 16 = l.getD i 0
    rw [← ih]
    show _ = ((codeOf l) >>> (4 * i)) % 16
    congr 1
    rw [show 4 * (i + 1) = 4 + 4 * i by lia, Nat.shiftRight_add]
    congr 1
    rw [Nat.shiftRight_eq_div_pow]; lia
end
section
theorem least_ex : ∀ c : List Nat, c ≠ [] → ∃ m ∈ c, ∀ x ∈ c, m ≤ x
  | [], h => absurd rfl h
  | [x], _ => ⟨x, .head _, fun y hy => by rw [List.mem_singleton.mp hy]; exact Nat.le_refl _⟩
  | x :: y :: l, _ => by
    obtain ⟨m, hm, h⟩ := least_ex (y :: l) (by simp)
    by_cases q : x ≤ m
    · exact ⟨x, .head _, fun z hz => by
        rcases List.mem_cons.mp hz with rfl | hz
        · exact Nat.le_refl _
        · exact Nat.le_trans q (h z hz)⟩
    · exact ⟨m, .tail _ hm, fun z hz => by
        rcases List.mem_cons.mp hz with rfl | hz
        · lia
        · exact h z hz⟩
theorem least_one {c : List Nat} (hc : c ≠ []) (nd : c.Nodup) {f : Nat → Bool} (hf : ∀ i ∈ c, f i = true ↔ ∀ x ∈ c, i ≤ x) : (c.filter f).length = 1 := by
  obtain ⟨m, hm, h⟩ := least_ex c hc
  have e : c.filter f = c.filter (fun i => decide (i = m)) := List.filter_congr fun i hi => by
    rw [Bool.eq_iff_iff, decide_eq_true_eq, hf i hi]
    exact ⟨fun q => Nat.le_antisymm (q m hm) (h i hi), fun q => q ▸ h⟩
  rw [e, ← List.countP_eq_length_filter]
  have : c.countP (fun i => decide (i = m)) = c.count m := by
    rw [List.count_eq_countP]; congr 1
  rw [this, List.Nodup.count nd, if_pos hm]
theorem leasts_cnt (code : Nat) : ∀ n, leasts code n = ((List.range n).filter (leastB code)).length
  | 0 => rfl
  | n + 1 => by
    show b2n (leastB code n) + leasts code n = _
    rw [leasts_cnt code n, List.range_succ, List.filter_append, List.length_append]
    cases q : leastB code n
    · rw [List.filter_cons_of_neg (by rw [q]; decide)]; show 0 + _ = _ + 0; lia
    · rw [List.filter_cons_of_pos q]; show 1 + _ = _ + 1; lia
section
variable {n : Nat} {p : Nat → Nat} (P : Pm n p)
include P
theorem cy_mem {c : List Nat} {s t : Nat} (y : Cy n p c s t) {x : Nat} : x ∈ c ↔ ∃ j, j < t ∧ it p j s = x := by
  rw [y.perm.mem_iff]; unfold orb; rw [List.mem_map]
  exact ⟨fun ⟨j, h1, h2⟩ => ⟨j, List.mem_range.mp h1, h2⟩, fun ⟨j, h1, h2⟩ => ⟨j, List.mem_range.mpr h1, h2⟩⟩
theorem cy_next {c : List Nat} {s t : Nat} (y : Cy n p c s t) {x : Nat} (hx : x ∈ c) : p x ∈ c := by
  obtain ⟨j, hj, rfl⟩ := (cy_mem P y).mp hx
  by_cases h : j + 1 < t
  · exact (cy_mem P y).mpr ⟨j + 1, h, rfl⟩
  · have : j + 1 = t := by lia
    refine (cy_mem P y).mpr ⟨0, y.t1, ?_⟩
    show s = it p (j + 1) s
    rw [this, y.back]
theorem cy_it {c : List Nat} {s t : Nat} (y : Cy n p c s t) {x : Nat} (hx : x ∈ c) : ∀ k, it p k x ∈ c
  | 0 => hx
  | k + 1 => cy_next P y (cy_it y hx k)
theorem cy_reach {c : List Nat} {s t : Nat} (y : Cy n p c s t) {i x : Nat} (hi : i ∈ c) (hx : x ∈ c) : ∃ k, k < t ∧ it p k i = x := by
  obtain ⟨a, ha, rfl⟩ := (cy_mem P y).mp hi
  obtain ⟨b, hb, rfl⟩ := (cy_mem P y).mp hx
  by_cases h : a ≤ b
  · refine ⟨b - a, by lia, ?_⟩
    rw [← it_add]; congr 1; lia
  · refine ⟨t + b - a, by lia, ?_⟩
    rw [← it_add, show t + b - a + a = b + t by lia, it_add, y.back]
end
section
variable {row : List UInt8} (hn : few row.length)
include hn
theorem lk_oo {i : Nat} : lk (codeOf (orderOf row)) i = oo row i := by
  refine lk_code _ (fun x hx => ?_) i
  have := List.mem_range.mp ((ord_perm hn).mem_iff.mp hx)
  rcases hn with q | q | q <;> lia
theorem leastB_iff {c : List Nat} {s t : Nat} (y : Cy row.length (oo row) c s t) {i : Nat} (hi : i ∈ c) : leastB (codeOf (orderOf row)) i = true ↔ ∀ x ∈ c, i ≤ x := by
  have P := ord_pm hn
  have e : leastB (codeOf (orderOf row)) i = true ↔ ∀ k, k < 7 → i ≤ it (oo row) k i := by
    unfold leastB
    simp only [lk_oo hn, Bool.and_eq_true, Nat.ble_eq]
    constructor
    · rintro ⟨⟨⟨h1, h2⟩, h3, h4⟩, h5, h6⟩ k hk
      match k, hk with
      | 0, _ => exact Nat.le_refl _
      | 1, _ => exact h1
      | 2, _ => exact h2
      | 3, _ => exact h3
      | 4, _ => exact h4
      | 5, _ => exact h5
      | 6, _ => exact h6
    · intro h
      exact ⟨⟨⟨h 1 (by decide), h 2 (by decide)⟩, h 3 (by decide), h 4 (by decide)⟩, h 5 (by decide), h 6 (by decide)⟩
  rw [e]
  constructor
  · intro h x hx
    obtain ⟨k, hk, rfl⟩ := cy_reach P y hi hx
    have := y.tn
    exact h k (by rcases hn with q | q | q <;> lia)
  · intro h k _
    exact h _ (cy_it P y hi k)
theorem leasts_rounds : leasts (codeOf (orderOf row)) row.length = (cyc (oo row) row.length).length := by
  have P := ord_pm hn
  obtain ⟨h1, h2⟩ := cyc_ok P
  rw [leasts_cnt, (h1.symm.filter _).length_eq]
  suffices h : ∀ cs : List (List Nat), (∀ c ∈ cs, ∃ s t, Cy row.length (oo row) c s t) → (cs.flatten.filter (leastB (codeOf (orderOf row)))).length = cs.length from h _ h2
  intro cs
  induction cs with
  | nil => intro _; rfl
  | cons c cs ih =>
    intro hc
    obtain ⟨s, t, y⟩ := hc c (.head _)
    rw [List.flatten_cons, List.filter_append, List.length_append, ih fun d hd => hc d (.tail _ hd), List.length_cons]
    rw [least_one (by intro q; have := y.len; have := y.t1; rw [q] at *; simp at *; lia) (y.perm.nodup_iff.mpr y.nd) fun i hi => leastB_iff hn y hi]
    lia
noncomputable def evens (l : List Int) : Nat := (l.filter fun s => decide (s % 2 = 0)).length
theorem evens_cy : ∀ cs : List (List Nat), (cs.flatten.length + cs.length + evens (cs.map fun c => ((c.length : Nat) : Int))) % 2 = 0
  | [] => rfl
  | c :: cs => by
    have ih := evens_cy cs
    rw [List.flatten_cons, List.length_append, List.length_cons, List.map_cons]
    unfold evens at ih ⊢
    by_cases h : ((c.length : Nat) : Int) % 2 = 0
    · rw [List.filter_cons_of_pos (by simpa using h), List.length_cons]; lia
    · rw [List.filter_cons_of_neg (by simpa using h)]; lia
theorem falls_even (h : Ab row) : (fallN row row.length + evens (szs (roundsOf row (orderOf row)))) % 2 = 0 := by
  have h1 := even_all hn (ord_perm hn)
  rw [leasts_rounds hn] at h1
  rw [falls_invs hn, szs_rounds hn h]
  have h2 := evens_cy hn (cyc (oo row) row.length)
  have h3 := (cyc_ok (ord_pm hn)).1.length_eq
  rw [List.length_range] at h3
  lia
end
end
section
open PySem.NumText
variable {C : Cx} {A : Around} {k : Nat} {Lf : Addr} {v : LV} {S : PS}
theorem MOk.lead {r : List (List Int)} (m : MOk r) : (szs r).length ≤ 20 ∧ ∀ s ∈ szs r, 0 ≤ s ∧ s ≤ 40 := by
  obtain ⟨h1, h2⟩ := m.sz
  exact ⟨by lia, fun s hs => by have := h2 s hs; lia⟩
theorem l_go26 (G : Good C) (AO : AOk A (k + 4)) (o : LOk v) (m : MOk v.mir) (e1 : equalOf v.typed (leadW (szs v.mir) v.rest) = true) (e2 : equalOf v.typed (leadW (szs v.mir) (v.rest + 1)) = false) : ExS C A (en193 C.w Lf) (W25 v) (nth C.w 193 26) (W25 v) .next := by
  obtain ⟨q1, q2⟩ := m.lead
  have hr := o.r0
  conv => arg 5; whnf
  refine ex_if (b := false) ?_ ea_nil
  refine ts_or_f ?_ (ts_or_f ?_ ts_or_nil)
  · refine ts_cmp (a := .bool true) (b := .bool true) AO ?_ ev_bool cm_isnot rfl
    rw [← e1]
    refine equal_ev G AO (w := v.typed) (u := leadW (szs v.mir) v.rest) rfl rfl rfl (.cons ?_ (fun _ _ => rfl) .nil)
    exact lead_ev G AO (.cons (ev_name rfl rfl) (fun _ _ => rfl) (.cons (ev_name rfl rfl) (fun _ _ => rfl) .nil)) q1 q2 (by lia)
  · refine ts_cmp (a := .bool false) (b := .bool false) AO ?_ ev_bool cm_isnot rfl
    rw [← e2]
    refine equal_ev G AO (w := v.typed) (u := leadW (szs v.mir) (v.rest + 1)) rfl rfl rfl (.cons ?_ (fun _ _ => rfl) .nil)
    refine lead_ev G AO (.cons (ev_name rfl rfl) (fun _ _ => rfl) (.cons ?_ (fun _ _ => rfl) .nil)) q1 q2 (by lia)
    exact ev_binop (a := .int v.rest) (b := .int 1) (ev_name rfl rfl) ev_int bo_add_int
noncomputable def LV.wider (v : LV) : WS := leadW v.low (v.rest + v.many + 1)
noncomputable def W27 (v : LV) : PS := ap (W25 v) [("wider", .val (wsObj v.wider))]
theorem wider_ok (o : LOk v) : v.wider.Ok := by
  obtain ⟨l1, l2⟩ := low_ok o
  obtain ⟨s1, s2, s3, s4⟩ := sizes_ok o
  have hr := o.r0
  exact leadW_ok l1 l2 (by lia)
theorem l_go27 (G : Good C) (AO : AOk A (k + 4)) (o : LOk v) : ExS C A (en193 C.w Lf) (W25 v) (nth C.w 193 27) (W27 v) .next := by
  have hr := o.r0
  obtain ⟨l1, l2⟩ := low_ok o
  obtain ⟨s1, s2, s3, s4⟩ := sizes_ok o
  conv => arg 5; whnf
  refine ex_set (d := wsObj v.wider) (by exact Or.inl (by kernel_rfl)) (by kernel_rfl) ?_
  refine lead_ev G AO (.cons (low_ev AO o rfl rfl) (fun _ _ => rfl) (.cons ?_ (fun _ _ => rfl) .nil)) l1 l2 (by lia)
  refine ev_binop (a := .int (v.rest + v.many)) (b := .int 1) ?_ ev_int bo_add_int
  exact ev_binop (a := .int v.rest) (b := .int (v.many : Int)) (ev_name rfl rfl) (ev_name rfl rfl) bo_add_int
noncomputable def diffs (v : LV) : List Int := v.lines.map fun l => l.2.1 - l.2.2
theorem l_go28 (G : Good C) (AO : AOk A (k + 4)) (o : LOk v) (hl : v.lines = wantOf v) (hne : v.lines ≠ []) (h : lessOf v.typed v.wider = decide (maxI (diffs v) ≤ v.many)) : ExS C A (en193 C.w Lf) (W27 v) (nth C.w 193 28) (W27 v) .next := by
  have hn := lines_len o hl
  conv => arg 5; whnf
  refine ex_if (b := false) ?_ ea_nil
  refine ts_cmp (a := .bool (lessOf v.typed v.wider)) (b := .bool (decide (maxI (diffs v) ≤ v.many))) AO ?_ ?_ (cm_isnot.to (by rw [h]; simp)) rfl
  · exact less_ev G AO (w := v.typed) (u := v.wider) rfl rfl rfl (.cons (ev_name rfl rfl) (fun _ _ => rfl) .nil) (typed_ok o) (wider_ok o)
  · refine ev_cmp (a := .int (maxI (diffs v))) (b := .int (v.many : Int)) AO ?_ (ev_name rfl rfl) cm_le rfl
    refine ev_bcall (ds := [.list ((diffs v).map .int)]) G.ok AO (G.gl rfl) (by kernel_rfl) rfl (.cons ?_ (fun _ _ => rfl) .nil) (bc_max (by unfold diffs; intro q; exact hne (List.map_eq_nil_iff.mp q)))
    unfold diffs
    rw [List.map_map]
    refine el_ev (el_comp (S₁ := []) (own := none) (cl := []) (ds := witPV v.lines) (co := none) (fit_none ?_ ?_ rfl ?_) (it_list AO.hh (ev_name rfl rfl)) (fun a => ?_) ?_ (fun _ => rfl))
    · decide
    · intro h n acc; exact ⟨rfl, rfl⟩
    · decide
    · rw [wit_map]
      apply CmpS.map (S₀ := []) lnPV (fun l => .int (l.2.1 - l.2.2)) (fun _ => True) (S1 := fun l => put [] "line" (.val (lnPV l))) _ Sub.nil (fun _ _ => trivial)
      · intro l _; (with_reducible apply tg_name); exact Or.inl (by kernel_rfl)
      · intro l; exact Sub.nil
      · intro l _
        refine ev_binop (a := .int l.2.1) (b := .int l.2.2) ?_ ?_ bo_sub_int
        · exact ev_sub (a := .tuple [.int l.1, .int l.2.1, .int l.2.2]) (b := .int 1) (ev_name rfl rfl) ev_int (sb_tuple rfl) rfl
        · exact ev_sub (a := .tuple [.int l.1, .int l.2.1, .int l.2.2]) (b := .int 2) (ev_name rfl rfl) ev_int (sb_tuple rfl) rfl
    · exact lenOk_of (by unfold witPV; rw [List.length_map]; lia)
noncomputable def zeros (k : Nat) : List Int := List.replicate k 0
theorem zeros_pv (k : Nat) : (List.replicate k [PV.int 0]).flatten = (zeros k).map .int := by
  unfold zeros
  induction k with
  | zero => rfl
  | succ k ih => rw [List.replicate_succ, List.flatten_cons, ih, List.replicate_succ]; rfl
theorem zeros_ok {k : Nat} (h : k ≤ 20) : (zeros k).length ≤ 20 ∧ ∀ s ∈ zeros k, 0 ≤ s ∧ s ≤ 40 := by
  unfold zeros
  refine ⟨by rw [List.length_replicate]; exact h, fun s hs => ?_⟩
  rw [List.eq_of_mem_replicate hs]; lia
theorem zeros_ev {env : En} {e : Expr} {p1 p2 p3 : Pos} {kk : Nat} {z : Int} {n : Nat} (x : EvS C A env S e (.int z)) (hz : z = n) (hn : n ≤ 20) : EvS C A env S (.BinOp (.List [.Constant (.int 0) kk p1] p2) .Mult e p3) (.list ((zeros n).map .int)) := by
  subst hz
  rw [← zeros_pv]
  have := bo_mul_list (ds := [PV.int 0]) (n := (n : Int)) (by lia) (by lia) (by simp)
  rw [Int.toNat_natCast] at this
  exact ev_binop (a := .list [.int 0]) (b := .int (n : Int)) (ev_list (.cons ev_int (fun _ _ => rfl) .nil) rfl) x this
noncomputable def LV.bare (v : LV) : WS := leadW (zeros v.many) v.rest
noncomputable def W29 (v : LV) : PS := ap (W25 v) [("wider", .val (wsObj v.wider)), ("bare", .val (wsObj v.bare))]
theorem bare_ok (o : LOk v) {k : Nat} {r : Int} (hk : k ≤ 20) (hr : 0 ≤ r ∧ r ≤ 60) : (leadW (zeros k) r).Ok := leadW_ok (zeros_ok hk).1 (zeros_ok hk).2 hr
theorem l_go29 (G : Good C) (AO : AOk A (k + 4)) (o : LOk v) (h1 : lessOf v.bare v.typed = false) (h2 : lessOf v.bare (leadW (zeros (v.many - 1)) (v.rest + 2)) = false) (h3 : lessOf v.bare (leadW (zeros v.many) (v.rest + 1)) = true) :
    ExA C A (en193 C.w Lf) (W27 v) [nth C.w 193 29, nth C.w 193 30, nth C.w 193 31] (W29 v) .next := by
  have hr := o.r0
  obtain ⟨s1, s2, s3, s4⟩ := sizes_ok o
  refine ea_cons (S' := W29 v) ?_ ?_
  · conv => arg 5; whnf
    refine ex_set (d := wsObj v.bare) (by exact Or.inl (by kernel_rfl)) (by kernel_rfl) ?_
    exact lead_ev G AO (.cons (zeros_ev (ev_name rfl rfl) rfl (by lia)) (fun _ _ => rfl) (.cons (ev_name rfl rfl) (fun _ _ => rfl) .nil)) (zeros_ok (by lia)).1 (zeros_ok (by lia)).2 (by lia)
  refine ea_cons (S' := W29 v) ?_ ?_
  · conv => arg 5; whnf
    refine ex_if (b := false) ?_ ea_nil
    refine ts_or_f ?_ (ts_or_f ?_ ts_or_nil)
    · refine ts_cmp (a := .bool false) (b := .bool false) AO ?_ ev_bool cm_isnot rfl
      rw [← h1]
      exact less_ev G AO (w := v.bare) (u := v.typed) rfl rfl rfl (.cons (ev_name rfl rfl) (fun _ _ => rfl) .nil) (bare_ok o (by lia) (by lia)) (typed_ok o)
    · refine ts_cmp (a := .bool false) (b := .bool false) AO ?_ ev_bool cm_isnot rfl
      rw [← h2]
      refine less_ev G AO (w := v.bare) (u := leadW (zeros (v.many - 1)) (v.rest + 2)) rfl rfl rfl (.cons ?_ (fun _ _ => rfl) .nil) (bare_ok o (by lia) (by lia)) (bare_ok o (by lia) (by lia))
      refine lead_ev G AO (.cons (zeros_ev ?_ (show (v.many : Int) - 1 = ((v.many - 1 : Nat) : Int) by lia) (by lia)) (fun _ _ => rfl) (.cons ?_ (fun _ _ => rfl) .nil)) (zeros_ok (by lia)).1 (zeros_ok (by lia)).2 (by lia)
      · exact ev_binop (a := .int (v.many : Int)) (b := .int 1) (ev_name rfl rfl) ev_int bo_sub_int
      · exact ev_binop (a := .int v.rest) (b := .int 2) (ev_name rfl rfl) ev_int bo_add_int
  refine ea_cons (S' := W29 v) ?_ ea_nil
  conv => arg 5; whnf
  refine ex_if (b := false) ?_ ea_nil
  refine ts_cmp (a := .bool true) (b := .bool true) AO ?_ ev_bool cm_isnot rfl
  rw [← h3]
  refine less_ev G AO (w := v.bare) (u := leadW (zeros v.many) (v.rest + 1)) rfl rfl rfl (.cons ?_ (fun _ _ => rfl) .nil) (bare_ok o (by lia) (by lia)) (bare_ok o (by lia) (by lia))
  refine lead_ev G AO (.cons (zeros_ev (ev_name rfl rfl) rfl (by lia)) (fun _ _ => rfl) (.cons ?_ (fun _ _ => rfl) .nil)) (zeros_ok (by lia)).1 (zeros_ok (by lia)).2 (by lia)
  exact ev_binop (a := .int v.rest) (b := .int 1) (ev_name rfl rfl) ev_int bo_add_int
end
section
open PySem.NumText
variable {C : Cx} {A : Around} {k : Nat} {Lf : Addr} {v : LV} {S : PS}
theorem l_go32 (G : Good C) (AO : AOk A (k + 4)) (o : LOk v) (h : ∀ more : Nat, more ≤ 1 → lessOf v.typed (leadW (zeros (v.n + v.many + more)) v.rest) = decide ((more : Int) = 1)) : ExS C A (en193 C.w Lf) (W29 v) (nth C.w 193 32) (W29 v) .next := by
  have hr := o.r0
  have hn := o.n7
  obtain ⟨s1, s2, s3, s4⟩ := sizes_ok o
  conv => arg 5; whnf
  refine ex_for (ds := ([0, 1] : List Nat).map fun m : Nat => PV.int (m : Int)) (it_list AO.hh (ev_list (.cons ev_int (fun _ _ => rfl) (.cons ev_int (fun _ _ => rfl) .nil)) rfl)) ?_ (fun _ => rfl)
  refine ForS.foldI (fun _ : Unit => W29 v) (fun m : Nat => PV.int (m : Int)) (fun a _ => a) (fun _ _ => True) ([0, 1] : List Nat)
    (S1 := fun _ m => put (W29 v) "more" (.val (.int (m : Int)))) (S2 := fun _ m => put (W29 v) "more" (.val (.int (m : Int))))
    (fun _ _ _ _ _ => trivial) (fun a x => ?_) (fun i a x hx _ => ?_) (fun a x => ?_) _ 0 () (List.drop_zero ..) trivial
  · conv => arg 5; whnf
    exact tg_name (by exact Or.inl (by kernel_rfl))
  · have hx1 : x ≤ 1 := by
      have := List.mem_of_getElem? hx
      simp at this; lia
    have e := h x hx1
    refine ea_one ?_
    refine ex_if (b := false) ?_ ea_nil
    refine ts_cmp (a := .bool (lessOf v.typed (leadW (zeros (v.n + v.many + x)) v.rest))) (b := .bool (decide ((x : Int) = 1))) AO ?_ ?_ (cm_isnot.to (by rw [e]; simp)) rfl
    · refine less_ev G AO (w := v.typed) (u := leadW (zeros (v.n + v.many + x)) v.rest) rfl rfl rfl (.cons ?_ (fun _ _ => rfl) .nil) (typed_ok o) (bare_ok o (by lia) (by lia))
      refine lead_ev G AO (.cons (zeros_ev (z := (v.n : Int) + (v.many : Int) + (x : Int)) ?_ (by lia) (by lia)) (fun _ _ => rfl) (.cons (ev_name rfl rfl) (fun _ _ => rfl) .nil)) (zeros_ok (by lia)).1 (zeros_ok (by lia)).2 (by lia)
      refine ev_binop (a := .int ((v.n : Int) + (v.many : Int))) (b := .int (x : Int)) ?_ (ev_name rfl rfl) bo_add_int
      exact ev_binop (a := .int (v.n : Int)) (b := .int (v.many : Int)) (ev_name rfl rfl) (ev_name rfl rfl) bo_add_int
    · exact ev_cmp (a := .int (x : Int)) (b := .int 1) AO (ev_name rfl rfl) ev_int cm_eq_int rfl
  · exact .cons rfl (.cons rfl (.cons rfl (.cons rfl (.cons rfl (.cons rfl (.cons rfl (.cons rfl (.cons rfl (.cons rfl (.cons rfl (.cons rfl (.cons rfl (.cons rfl (.cons rfl (.cons rfl (.cons rfl (.cons rfl (.cons rfl (.cons rfl (.cons rfl .nil))))))))))))))))))))
noncomputable def W33 (v : LV) : PS := put (W29 v) "around" (.val (.list (intsPV (szs v.aro))))
theorem l_go33 (G : Good C) (X : Lam C) (AO : AOk A (k + 4)) (o : LOk v) (m : MOk v.aro) (hr : v.aro = roundsOf v.about (orderOf v.about)) : ExS C A (en193 C.w Lf) (W29 v) (nth C.w 193 33) (W33 v) .next := by
  conv => arg 5; whnf
  exact rsz_ev G X AO o m rfl rfl (ev_name rfl rfl) (fun _ _ => rfl) (by unfold LV.about; rw [List.length_reverse, o.rl]; exact o.few) hr rfl (.inl (by kernel_rfl)) (by kernel_rfl) rfl
theorem l_go34 (G : Good C) (AO : AOk A (k + 4)) (o : LOk v) (m : MOk v.aro) (h : equalOf v.typed (leadW (szs v.aro) v.rest) = decide (sortI (szs v.aro) = sortI v.sizes)) : ExS C A (en193 C.w Lf) (W33 v) (nth C.w 193 34) (W33 v) (.ret (.bool true)) := by
  obtain ⟨q1, q2⟩ := m.lead
  obtain ⟨s1, s2, s3, s4⟩ := sizes_ok o
  have hr := o.r0
  conv => arg 5; whnf
  refine ex_ret ?_
  refine ev_cmp (a := .bool (equalOf v.typed (leadW (szs v.aro) v.rest))) (b := .bool (decide (sortI (szs v.aro) = sortI v.sizes))) AO ?_ ?_ (cm_is.to (by rw [h]; simp)) rfl
  · refine equal_ev G AO (w := v.typed) (u := leadW (szs v.aro) v.rest) rfl rfl rfl (.cons ?_ (fun _ _ => rfl) .nil)
    exact lead_ev G AO (.cons (ev_name rfl rfl) (fun _ _ => rfl) (.cons (ev_name rfl rfl) (fun _ _ => rfl) .nil)) q1 q2 (by lia)
  · refine ev_cmp (a := .list ((sortI (szs v.aro)).map .int)) (b := .list ((sortI v.sizes).map .int)) AO ?_ ?_ ?_ rfl
    · exact ev_bcall (ds := [.list ((szs v.aro).map .int)]) G.ok AO (G.gl rfl) (by kernel_rfl) rfl (.cons (ev_name rfl rfl) (fun _ _ => rfl) .nil) (bc_sorted (by lia))
    · exact ev_bcall (ds := [.list (v.sizes.map .int)]) G.ok AO (G.gl rfl) (by kernel_rfl) rfl (.cons (ev_name rfl rfl) (fun _ _ => rfl) .nil) (bc_sorted (by lia))
    · refine cm_eq (eqPV_nice (n := 1) (m := 1) (.list _ _ nice_ints) (.list _ _ nice_ints) (by decide) (by decide) _ ?_)
      constructor
      · intro q
        injection q with q
        exact (List.map_inj_right (fun a b e => by injection e)).mp q
      · intro q; rw [q]
structure LAll (v : LV) : Prop where
  o : LOk v
  lines : v.lines = wantOf v
  ne : v.lines ≠ []
  f1 : witOf v.typed v.far = up1 v
  f2 : witOf v.far v.typed = up2 v
  par : (((fallN v.row v.n : Nat) : Int) - (twosL v).sum / 2) % 2 ≠ 1
  mm : MOk v.mir
  mr : v.mir = roundsOf (mirR v) (orderOf (mirR v))
  m1 : equalOf v.typed (leadW (szs v.mir) v.rest) = true
  m2 : equalOf v.typed (leadW (szs v.mir) (v.rest + 1)) = false
  wd : lessOf v.typed v.wider = decide (maxI (diffs v) ≤ v.many)
  b1 : lessOf v.bare v.typed = false
  b2 : lessOf v.bare (leadW (zeros (v.many - 1)) (v.rest + 2)) = false
  b3 : lessOf v.bare (leadW (zeros v.many) (v.rest + 1)) = true
  g : ∀ more : Nat, more ≤ 1 → lessOf v.typed (leadW (zeros (v.n + v.many + more)) v.rest) = decide ((more : Int) = 1)
  am : MOk v.aro
  ar : v.aro = roundsOf v.about (orderOf v.about)
  a1 : equalOf v.typed (leadW (szs v.aro) v.rest) = decide (sortI (szs v.aro) = sortI v.sizes)
theorem execs_app (env : Env) (b : List Stmt) : ∀ a : List Stmt, execs (a ++ b) env = (execs a env >>= fun f => match f with | .next => execs b env | f => pure f)
  | [] => by
    show execs b env = (pure Flow.next >>= _)
    rw [pure_bind]
  | st :: a => by
    rw [List.cons_append, execs_cons, execs_cons, bind_assoc]
    congr 1
    funext f
    cases f with
    | next => exact execs_app env b a
    | _ => rw [pure_bind]
theorem ea_app {env : En} {S S' S'' : PS} {fl : PFl} {a b : List Stmt} (x : ExA C A env S a S' .next) (y : ExA C A env S' b S'' fl) : ExA C A env S (a ++ b) S'' fl := .mk fun s F M R Q E aft => by
  rw [execs_app]
  refine wpAny_bind (x.run s F M R _ _ fun fv h' tk F' M' sp R' i => ?_)
  cases fv with
  | next => exact y.run { s with heap := h', toks := tk } F' M' R' Q E fun fv h2 tk2 F2 M2 sp2 R2 i2 => aft fv h2 tk2 F2 M2 (sp.trans sp2) R2 i2
  | _ => exact i.elim
theorem eaC_app {env : En} {S S' S'' : PS} {fl : PFl} {a b : List Stmt} (x : ExA C A env S a S' .next) (y : ExAC C A env S' b S'' fl) : ExAC C A env S (a ++ b) S'' fl := .mk fun s F M R Q E aft => by
  rw [execs_app]
  refine wpC_bind (wpC_of (x.run s F M R _ _ fun fv h' tk F' M' sp R' i => ?_))
  cases fv with
  | next => exact y.run { s with heap := h', toks := tk } F' M' R' Q E fun fv h2 tk2 F2 M2 sp2 R2 i2 => aft fv h2 tk2 F2 M2 (sp.trans sp2) R2 i2
  | _ => exact i.elim
theorem law_ok (G : Good C) (X : Lam C) (l : LAll v) : FnOkXC C 193 5 [.list (v.script.map .int)] (.bool true) := by
  have o := l.o
  apply fn_okXC G.ok (fnIn_193 G) rfl
  intro A L AO ch hA
  refine ⟨W33 v, ?_⟩
  rw [body193]
  refine eaC_next (S' := W1 v) (l_go0 G AO o) ?_
  refine eaC_app (a := [nth C.w 193 1, nth C.w 193 2, nth C.w 193 3, nth C.w 193 4]) (l_go1 G AO o) ?_
  refine eaC_cons (l_go5 G AO ch o) (eaC_of ?_)
  refine ea_cons (l_go6 G AO o) (ea_cons (l_go7 G AO o) (ea_cons (l_go8 G X AO o) (ea_cons (l_go9 G AO o) (ea_cons (l_go10 G AO o) ?_))))
  refine ea_app (a := [nth C.w 193 11, nth C.w 193 12]) (l_go11 G AO o) (ea_cons (l_go13 G AO o) ?_)
  refine ea_app (a := [nth C.w 193 14, nth C.w 193 15, nth C.w 193 16]) (l_go15 G AO o l.lines) ?_
  refine ea_app (a := [nth C.w 193 17, nth C.w 193 18]) (l_go17 G AO o) ?_
  refine ea_cons (l_go19 G AO o) (ea_cons (l_go20 G AO o l.f1) (ea_cons (l_go21 G AO o l.f2) (ea_cons (l_go22 G AO o) (ea_cons (l_go23 G AO o l.lines l.par) (ea_cons (l_go24 G AO o) (ea_cons (l_go25 G X AO o l.mm l.mr) (ea_cons (l_go26 G AO o l.mm l.m1 l.m2) (ea_cons (l_go27 G AO o) (ea_cons (l_go28 G AO o l.lines l.ne l.wd) ?_)))))))))
  refine ea_app (a := [nth C.w 193 29, nth C.w 193 30, nth C.w 193 31]) (l_go29 G AO o l.b1 l.b2 l.b3) ?_
  exact ea_cons (l_go32 G AO o l.g) (ea_cons (l_go33 G X AO o l.am l.ar) (ea_one (l_go34 G AO o l.am l.a1)))
end
section
section
variable {v : LV} (o : LOk v)
include o
theorem sz0 : ∀ s ∈ v.sizes, 0 ≤ s := fun s hs => by have := (sizes_ok o).2.2.2 s hs; lia
theorem low0 : ∀ s ∈ v.low, 0 ≤ s := fun s hs => ((low_ok o).2 s hs).1
theorem il_typed {t : Int} (ht : 1 ≤ t) : ilOf v.typed t = colOf v t 0 := by
  unfold LV.typed colOf
  rw [il_lead (sz0 o) o.r0.1 ht]
  simp only [Int.sub_zero]
theorem il_low {t r : Int} (hr : 0 ≤ r) (ht : 1 ≤ t) : ilOf (leadW v.low r) t = colOf v t 1 + (r - v.rest) := by
  unfold colOf
  rw [il_lead (low0 o) hr ht]
  unfold LV.low
  rw [List.map_map]
  show r + t * (v.sizes.map fun s => (s - 1) / t + 1).sum = _
  lia
theorem il_full {t r : Int} (hr : 0 ≤ r) (ht : 1 ≤ t) : ilOf (leadW v.sizes r) t = ecol v t + (r - v.rest) := by
  unfold ecol
  rw [il_lead (sz0 o) hr ht]; lia
theorem il_ecol {t : Int} (ht : 1 ≤ t) : ilOf v.typed t = ecol v t := by
  unfold LV.typed
  rw [il_full o o.r0.1 ht]; lia
theorem col_hits {t : Int} (ht : 1 ≤ t) : colOf v t 0 = colOf v t 1 + t * hits v.sizes t := by
  have := sum_less ht v.sizes
  unfold colOf
  rw [List.map_map] at this
  simp only [Int.sub_zero]
  have e : (v.sizes.map ((fun s => s / t + 1) ∘ fun s => s - 1)).sum = (v.sizes.map fun one => (one - 1) / t + 1).sum := rfl
  rw [e] at this
  rw [this, Int.mul_add]; lia
theorem hits_pos {t : Int} : 0 ≤ hits v.sizes t := by unfold hits; lia
theorem hits_nil {t : Int} : hits v.sizes t = 0 ↔ hasL v t = [] := by
  unfold hits hasL
  constructor
  · intro h
    exact List.eq_nil_of_length_eq_zero (by lia)
  · intro h; rw [h]; rfl
theorem hit_le {t : Int} (h : ¬ hasL v t = []) : ∃ s ∈ v.sizes, t ≤ s := by
  obtain ⟨s, hs⟩ := List.exists_mem_of_ne_nil _ h
  unfold hasL at hs
  obtain ⟨h1, h2⟩ := List.mem_filter.mp hs
  have h2 := of_decide_eq_true h2
  have := (sizes_ok o).2.2.2 s h1
  exact ⟨s, h1, Int.le_of_dvd (by lia) (Int.dvd_of_emod_eq_zero h2)⟩
theorem il_same {t : Int} (ht : 1 ≤ t) : ilOf v.typed t = ilOf (leadW v.low v.rest) t ↔ hasL v t = [] := by
  rw [il_typed o ht, il_low o o.r0.1 ht, col_hits o ht, ← hits_nil o]
  constructor
  · intro h
    have h : t * hits v.sizes t = 0 := by lia
    rcases Int.mul_eq_zero.mp h with q | q
    · lia
    · exact q
  · intro h; rw [h]; lia
end
section
variable {v : LV} (o : LOk v) (hs : v.sizes.sum = (v.n : Int))
include o hs
theorem size_n : ∀ s ∈ v.sizes, s ≤ (v.n : Int) := fun s h => by
  have := (sum_ge (sz0 o)).2 s h
  lia
theorem lines_want : v.lines = wantOf v := by
  have e1 : wantOf v = ((List.range v.n).filter fun i : Nat => !decide (hasL v (1 + (i : Int)) = [])).map fun i : Nat => (1 + (i : Int), colOf v (1 + (i : Int)) 0, colOf v (1 + (i : Int)) 1) := by
    have := fold_pick (fun i : Nat => hasL v (1 + (i : Int)) = []) (fun i : Nat => (1 + (i : Int), colOf v (1 + (i : Int)) 0, colOf v (1 + (i : Int)) 1)) (List.range v.n) []
    rw [List.nil_append] at this
    exact this
  rw [e1]
  unfold LV.lines
  rw [wit_pick]
  have e2 : ((List.range (max (runOf v.typed) (runOf (leadW v.low v.rest)) + 1).toNat).filter fun i : Nat => !decide (ilOf v.typed (1 + (i : Int)) = ilOf (leadW v.low v.rest) (1 + (i : Int)))) = (List.range v.n).filter fun i : Nat => !decide (hasL v (1 + (i : Int)) = []) := by
    refine range_same fun i => ?_
    have q := il_same o (t := 1 + (i : Int)) (by lia)
    simp only [q, Bool.not_eq_true', decide_eq_false_iff_not]
    constructor
    · rintro ⟨_, h⟩
      obtain ⟨s, h1, h2⟩ := hit_le o h
      have := size_n o hs s h1
      exact ⟨by lia, h⟩
    · rintro ⟨_, h⟩
      obtain ⟨s, h1, h2⟩ := hit_le o h
      have h3 := (run_ge (sz0 o) o.r0.1).1 s h1
      have h4 := Int.le_max_left (runOf v.typed) (runOf (leadW v.low v.rest))
      unfold LV.typed at h4 ⊢
      exact ⟨by lia, h⟩
  rw [e2]
  refine List.map_congr_left fun i _ => ?_
  rw [il_typed o (by lia), il_low o o.r0.1 (by lia)]
  congr 2; lia
theorem mem_lines {l : Int × Int × Int} : l ∈ v.lines ↔ ∃ t : Int, 1 ≤ t ∧ t ≤ v.n ∧ ¬ hasL v t = [] ∧ l = (t, colOf v t 0, colOf v t 1) := by
  rw [lines_want o hs]
  have e1 : wantOf v = ((List.range v.n).filter fun i : Nat => !decide (hasL v (1 + (i : Int)) = [])).map fun i : Nat => (1 + (i : Int), colOf v (1 + (i : Int)) 0, colOf v (1 + (i : Int)) 1) := by
    have := fold_pick (fun i : Nat => hasL v (1 + (i : Int)) = []) (fun i : Nat => (1 + (i : Int), colOf v (1 + (i : Int)) 0, colOf v (1 + (i : Int)) 1)) (List.range v.n) []
    rw [List.nil_append] at this
    exact this
  rw [e1, List.mem_map]
  constructor
  · rintro ⟨i, hi, rfl⟩
    obtain ⟨h1, h2⟩ := List.mem_filter.mp hi
    have := List.mem_range.mp h1
    exact ⟨1 + (i : Int), by lia, by lia, by simpa using h2, rfl⟩
  · rintro ⟨t, h1, h2, h3, rfl⟩
    have e : 1 + ((t.toNat - 1 : Nat) : Int) = t := by lia
    refine ⟨t.toNat - 1, List.mem_filter.mpr ⟨List.mem_range.mpr (by lia), ?_⟩, ?_⟩
    · rw [e]; simpa using h3
    · rw [e]
theorem one_hits : ¬ hasL v 1 = [] := by
  have h := (sizes_ok o).2.2.1
  have h1 := (sizes_ok o).1
  unfold hasL
  rw [List.filter_eq_self.mpr fun a _ => by rw [Int.emod_one]; rfl]
  intro q; rw [q] at h1; simp at h1; lia
theorem lines_ne : v.lines ≠ [] := by
  have hn := o.n7
  have : ((1 : Int), colOf v 1 0, colOf v 1 1) ∈ v.lines := (mem_lines o hs).mpr ⟨1, by lia, by lia, one_hits o hs, rfl⟩
  intro q; rw [q] at this; cases this
theorem past_eq : (∀ s ∈ v.sizes, s < v.past) ∧ v.rest < v.past := by
  have h : ∀ x ∈ v.sizes ++ [v.rest], x ≤ maxI (v.sizes ++ [v.rest]) := fun x hx => by
    cases q : v.sizes ++ [v.rest] with
    | nil => rw [q] at hx; cases hx
    | cons a r =>
      obtain ⟨g1, g2, g3⟩ := foldl_max_ge r a
      rw [q] at hx
      rcases List.mem_cons.mp hx with rfl | hx
      · exact g1
      · exact g2 x hx
  unfold LV.past
  exact ⟨fun s hs => by have := h s (List.mem_append_left _ hs); lia, by have := h v.rest (List.mem_append_right _ (.head _)); lia⟩
theorem run_past : runOf v.far = v.past ∧ runOf v.typed ≤ v.past := by
  obtain ⟨p1, p2⟩ := past_eq o hs
  have hr := o.r0
  unfold LV.far LV.typed
  have h1 := (run_ge (sz0 o) (by lia : 0 ≤ v.past)).2
  have h2 := run_le (sz0 o) (by lia : 0 ≤ v.past) (by lia : 0 ≤ v.past) (fun s hs => by have := p1 s hs; lia) (by lia)
  have h3 := run_le (sz0 o) o.r0.1 (by lia : 0 ≤ v.past) (fun s hs => by have := p1 s hs; lia) (by lia)
  exact ⟨by lia, h3⟩
theorem far_il {t : Int} (ht : 1 ≤ t) : ilOf v.far t = ecol v t + v.past - v.rest ∧ ¬ ilOf v.typed t = ilOf v.far t := by
  obtain ⟨p1, p2⟩ := past_eq o hs
  have hr := o.r0
  have h1 : ilOf v.far t = ecol v t + v.past - v.rest := by
    unfold LV.far
    rw [il_full o (by lia) ht]; lia
  refine ⟨h1, ?_⟩
  rw [h1, il_ecol o ht]; lia
theorem wit_far1 : witOf v.typed v.far = up1 v := by
  rw [wit_pick]
  obtain ⟨r1, r2⟩ := run_past o hs
  rw [r1, Int.max_eq_right r2, List.filter_eq_self.mpr fun i _ => by simpa using (far_il o hs (t := 1 + (i : Int)) (by lia)).2]
  unfold up1 evL
  rw [List.map_map]
  refine List.map_congr_left fun i _ => ?_
  rw [il_ecol o (by lia), (far_il o hs (by lia)).1]
  rfl
theorem wit_far2 : witOf v.far v.typed = up2 v := by
  rw [wit_pick]
  obtain ⟨r1, r2⟩ := run_past o hs
  rw [r1, Int.max_eq_left r2, List.filter_eq_self.mpr fun i _ => by simpa using fun q => (far_il o hs (t := 1 + (i : Int)) (by lia)).2 (Eq.symm q)]
  unfold up2 evL
  rw [List.map_map]
  refine List.map_congr_left fun i _ => ?_
  rw [il_ecol o (by lia), (far_il o hs (by lia)).1]
  rfl
theorem twos_sum : (twosL v).sum = 2 * hits v.sizes 2 := by
  unfold twosL
  rw [lines_want o hs]
  have e1 : wantOf v = ((List.range v.n).filter fun i : Nat => !decide (hasL v (1 + (i : Int)) = [])).map fun i : Nat => (1 + (i : Int), colOf v (1 + (i : Int)) 0, colOf v (1 + (i : Int)) 1) := by
    have := fold_pick (fun i : Nat => hasL v (1 + (i : Int)) = []) (fun i : Nat => (1 + (i : Int), colOf v (1 + (i : Int)) 0, colOf v (1 + (i : Int)) 1)) (List.range v.n) []
    rw [List.nil_append] at this
    exact this
  rw [e1, List.filter_map, List.filter_filter, List.map_map]
  have e2 : ((List.range v.n).filter fun i : Nat => (((fun l : Int × Int × Int => decide (l.1 = 2)) ∘ fun i : Nat => (1 + (i : Int), colOf v (1 + (i : Int)) 0, colOf v (1 + (i : Int)) 1)) i && !decide (hasL v (1 + (i : Int)) = []))) = (List.range v.n).filter fun i => decide (i = 1) && !decide (hasL v 2 = []) := by
    refine List.filter_congr fun i _ => ?_
    show (decide (1 + (i : Int) = 2) && _) = _
    by_cases h : i = 1
    · subst h; rfl
    · rw [decide_eq_false h, decide_eq_false (by lia)]; rfl
  rw [e2]
  have e3 : ∀ b : Bool, (List.range v.n).filter (fun i => decide (i = 1) && b) = if b then [1] else [] := fun b => by
    rcases o.few with q | q | q <;> rw [q] <;> cases b <;> rfl
  rw [e3]
  have hc := col_hits o (v := v) (t := 2) (by lia)
  by_cases h : hasL v 2 = []
  · rw [(hits_nil o).mpr h]; simp [h]
  · simp only [h, decide_false, Bool.not_false, if_true, List.map_cons, List.map_nil, List.sum_cons, List.sum_nil]
    show colOf v 2 0 - colOf v 2 1 + 0 = _
    lia
theorem less_wider : lessOf v.typed v.wider = decide (maxI (diffs v) ≤ v.many) := by
  have hr := o.r0
  obtain ⟨s1, s2, s3, s4⟩ := sizes_ok o
  have hm : 0 ≤ v.rest + v.many + 1 := by lia
  have hll : v.low.length = v.many := by unfold LV.low; rw [List.length_map, s1]
  have hsl : v.low.sum = v.sizes.sum - v.many := by
    unfold LV.low
    rw [← s1]
    clear hs hll
    generalize v.sizes = l
    induction l with
    | nil => rfl
    | cons a l ih => rw [List.map_cons, List.sum_cons, List.sum_cons, ih, List.length_cons]; lia
  have n1 := (lead_n (sz0 o) hr.1).1
  have n2 := (lead_n (low0 o) hm).1
  have hsim : ¬ (v.typed.count.length : Int) ≤ 1 := fun q => by
    have := (lead_simple (sz0 o) hr.1).mp q
    cases e : v.sizes with
    | nil => rw [e] at s1; simp at s1; lia
    | cons a l =>
      have h1 := this a (by rw [e]; exact .head _)
      have h2 := s4 a (by rw [e]; exact .head _)
      lia
  unfold lessOf
  rw [if_neg (by unfold LV.typed LV.wider; lia), if_neg (fun q => hsim q.1)]
  rw [Bool.eq_iff_iff, decide_eq_true_eq, lessGo_iff]
  have hmax : maxI (diffs v) ≤ v.many ↔ ∀ x ∈ diffs v, x ≤ v.many := by
    have hd : diffs v ≠ [] := by unfold diffs; intro q; exact lines_ne o hs (List.map_eq_nil_iff.mp q)
    cases e : diffs v with
    | nil => exact absurd e hd
    | cons a r =>
      obtain ⟨g1, g2, g3⟩ := foldl_max_ge r a
      constructor
      · intro q x hx
        have q : r.foldl max a ≤ v.many := q
        rcases List.mem_cons.mp hx with rfl | hx
        · lia
        · have := g2 x hx; lia
      · intro q
        exact maxI_all (P := fun x => x ≤ v.many) (by simp) q
  rw [hmax]
  have key : ∀ t : Int, 1 ≤ t → (ilOf v.typed t < ilOf v.wider t ↔ t * hits v.sizes t ≤ v.many) := fun t ht => by
    unfold LV.wider
    rw [il_typed o ht, il_low o hm ht, col_hits o ht]; lia
  have d1 : ∀ x, x ∈ diffs v ↔ ∃ t : Int, 1 ≤ t ∧ t ≤ v.n ∧ ¬ hasL v t = [] ∧ x = t * hits v.sizes t := fun x => by
    unfold diffs
    rw [List.mem_map]
    constructor
    · rintro ⟨l, hl, rfl⟩
      obtain ⟨t, h1, h2, h3, rfl⟩ := (mem_lines o hs).mp hl
      exact ⟨t, h1, h2, h3, by have := col_hits o h1; show colOf v t 0 - colOf v t 1 = _; lia⟩
    · rintro ⟨t, h1, h2, h3, rfl⟩
      exact ⟨_, (mem_lines o hs).mpr ⟨t, h1, h2, h3, rfl⟩, by have := col_hits o h1; show colOf v t 0 - colOf v t 1 = _; lia⟩
  constructor
  · intro q x hx
    obtain ⟨t, h1, h2, h3, rfl⟩ := (d1 x).mp hx
    by_cases ht : t = 1
    · subst ht
      have : hits v.sizes 1 ≤ v.many := by
        unfold hits
        have := List.length_filter_le (fun s : Int => decide (s % 1 = 0)) v.sizes
        lia
      lia
    · have e : 2 + ((t.toNat - 2 : Nat) : Int) = t := by lia
      have h4 := q (t.toNat - 2) (List.mem_range.mpr (by
        obtain ⟨s, h5, h6⟩ := hit_le o h3
        have h7 := (run_ge (sz0 o) hr.1).1 s h5
        have h8 := Int.le_max_left (runOf v.typed) (runOf v.wider)
        unfold LV.typed at h8 ⊢
        lia))
      rw [e] at h4
      exact (key t h1).mp h4
  · intro q i _
    refine (key _ (by lia)).mpr ?_
    by_cases h : hasL v (2 + (i : Int)) = []
    · rw [(hits_nil o).mpr h]; lia
    · obtain ⟨s, h5, h6⟩ := hit_le o h
      have := size_n o hs s h5
      exact q _ ((d1 _).mpr ⟨2 + (i : Int), by lia, by lia, h, rfl⟩)
theorem zeros_nn {k : Nat} : ∀ s ∈ zeros k, 0 ≤ s := fun s h => by rw [List.eq_of_mem_replicate h]; lia
theorem zeros_sum (k : Nat) : (zeros k).sum = 0 ∧ (zeros k).length = k := by
  unfold zeros
  refine ⟨?_, List.length_replicate⟩
  induction k with
  | zero => rfl
  | succ k ih => rw [List.replicate_succ, List.sum_cons, ih]; rfl
theorem zeros_simple {k : Nat} {r : Int} (hr : 0 ≤ r) : ((leadW (zeros k) r).count.length : Int) ≤ 1 := (lead_simple (zeros_nn o hs) hr).mpr fun s h => List.eq_of_mem_replicate h
theorem zeros_il {k : Nat} {r t : Int} (hr : 0 ≤ r) (ht : 1 ≤ t) : ilOf (leadW (zeros k) r) t = r + t * k := by
  rw [il_lead (zeros_nn o hs) hr ht]
  congr 2
  unfold zeros
  induction k with
  | zero => rfl
  | succ k ih => rw [List.replicate_succ, List.map_cons, List.sum_cons, ih]; simp; lia
theorem not_simple : ¬ (v.typed.count.length : Int) ≤ 1 := fun q => by
  obtain ⟨s1, s2, s3, s4⟩ := sizes_ok o
  have := (lead_simple (sz0 o) o.r0.1).mp q
  cases e : v.sizes with
  | nil => rw [e] at s1; simp at s1; lia
  | cons a l =>
    have h1 := this a (by rw [e]; exact .head _)
    have h2 := s4 a (by rw [e]; exact .head _)
    lia
theorem bare1 : lessOf v.bare v.typed = false := by
  have hr := o.r0
  have hn := o.n7
  obtain ⟨s1, s2, s3, s4⟩ := sizes_ok o
  unfold lessOf
  split
  · rfl
  · rw [if_neg fun q => not_simple o hs q.2]
    cases h : lessGo v.bare v.typed (List.range (max (runOf v.bare) (runOf v.typed) + 1 + 1 - 2).toNat) with
    | false => rfl
    | true =>
      have hx : ∃ s ∈ v.sizes, 1 ≤ s := by
        cases e : v.sizes with
        | nil => rw [e] at s1; simp at s1; lia
        | cons a l => exact ⟨a, .head _, (s4 a (by rw [e]; exact .head _)).1⟩
      obtain ⟨s, h1, h2⟩ := hx
      have h3 := (run_ge (sz0 o) hr.1).1
      have h4 := Int.le_max_right (runOf v.bare) (runOf v.typed)
      have h3s := h3 s h1
      have h5 := (lessGo_iff _ _ _).mp h ((max (runOf v.bare) (runOf v.typed) - 1).toNat) (List.mem_range.mpr (by unfold LV.typed at h4 ⊢; lia))
      have ht : 2 + ((max (runOf v.bare) (runOf v.typed) - 1).toNat : Int) = max (runOf v.bare) (runOf v.typed) + 1 := by unfold LV.typed at h4 ⊢; lia
      have hb := Int.le_max_right (runOf v.bare) (runOf (leadW v.sizes v.rest))
      have hb1 : 1 ≤ max (runOf v.bare) (runOf v.typed) + 1 := by unfold LV.typed; lia
      rw [ht] at h5
      have e1 : ilOf v.bare (max (runOf v.bare) (runOf v.typed) + 1) = v.rest + (max (runOf v.bare) (runOf v.typed) + 1) * (v.many : Int) := zeros_il o hs hr.1 hb1
      rw [e1] at h5
      have e2 : ilOf v.typed (max (runOf v.bare) (runOf v.typed) + 1) = v.rest + (max (runOf v.bare) (runOf v.typed) + 1) * (v.sizes.map fun s => s / (max (runOf v.bare) (runOf v.typed) + 1) + 1).sum := il_lead (sz0 o) hr.1 hb1
      rw [e2] at h5
      have e3 : (v.sizes.map fun s => s / (max (runOf v.bare) (runOf v.typed) + 1) + 1).sum = (v.many : Int) := by
        rw [← s1]
        have hall : ∀ x ∈ v.sizes, x / (max (runOf v.bare) (runOf v.typed) + 1) = 0 := fun x hx => by
          have := s4 x hx
          have := h3 x hx
          exact Int.ediv_eq_zero_of_lt (by lia) (by unfold LV.typed; lia)
        clear h h5 e2 e1 ht h1 h3s
        generalize max (runOf v.bare) (runOf v.typed) + 1 = t at hall
        revert hall
        generalize v.sizes = l
        intro hall
        induction l with
        | nil => rfl
        | cons a l ih => rw [List.map_cons, List.sum_cons, ih fun x hx => hall x (.tail _ hx), hall a (.head _), List.length_cons]; lia
      rw [e3] at h5
      lia
theorem bare2 : lessOf v.bare (leadW (zeros (v.many - 1)) (v.rest + 2)) = false := by
  have hr := o.r0
  obtain ⟨s1, s2, s3, s4⟩ := sizes_ok o
  obtain ⟨a1, a2, a3⟩ := lead_n (zeros_nn o hs (k := v.many)) hr.1
  obtain ⟨b1, b2, b3⟩ := lead_n (zeros_nn o hs (k := v.many - 1)) (by lia : 0 ≤ v.rest + 2)
  obtain ⟨z1, z2⟩ := zeros_sum o hs v.many
  obtain ⟨y1, y2⟩ := zeros_sum o hs (v.many - 1)
  unfold lessOf LV.bare
  split
  · rfl
  · rw [if_pos ⟨zeros_simple o hs hr.1, zeros_simple o hs (by lia)⟩, a2, b2, z2, y2]
    exact decide_eq_false (by lia)
theorem bare3 : lessOf v.bare (leadW (zeros v.many) (v.rest + 1)) = true := by
  have hr := o.r0
  obtain ⟨a1, a2, a3⟩ := lead_n (zeros_nn o hs (k := v.many)) hr.1
  obtain ⟨b1, b2, b3⟩ := lead_n (zeros_nn o hs (k := v.many)) (by lia : 0 ≤ v.rest + 1)
  unfold lessOf LV.bare
  rw [if_neg (by lia), if_pos ⟨zeros_simple o hs hr.1, zeros_simple o hs (by lia)⟩, a2, b2]
  exact decide_eq_true (Int.le_refl _)
theorem many_tabs (more : Nat) (hmo : more ≤ 1) : lessOf v.typed (leadW (zeros (v.n + v.many + more)) v.rest) = decide ((more : Int) = 1) := by
  have hr := o.r0
  obtain ⟨s1, s2, s3, s4⟩ := sizes_ok o
  obtain ⟨a1, a2, a3⟩ := lead_n (sz0 o) hr.1
  obtain ⟨b1, b2, b3⟩ := lead_n (zeros_nn o hs (k := v.n + v.many + more)) hr.1
  obtain ⟨z1, z2⟩ := zeros_sum o hs (v.n + v.many + more)
  unfold lessOf
  by_cases h : more = 1
  · subst h
    rw [if_neg (by unfold LV.typed; lia), if_neg fun q => not_simple o hs q.1]
    refine (lessGo_iff _ _ _).mpr fun i _ => ?_
    rw [zeros_il o hs hr.1 (by lia)]
    have e2 : ilOf v.typed (2 + (i : Int)) = v.rest + (2 + (i : Int)) * (v.sizes.map fun s => s / (2 + (i : Int)) + 1).sum := il_lead (sz0 o) hr.1 (by lia)
    rw [e2]
    have hle : (v.sizes.map fun s => s / (2 + (i : Int)) + 1).sum ≤ v.sizes.sum + v.sizes.length := by
      have h0 := sz0 o
      clear e2 a1 a2 a3 s1 s4 hs
      revert h0
      generalize v.sizes = l
      intro h0
      induction l with
      | nil => exact Int.le_refl _
      | cons a l ih =>
        have := ih fun x hx => h0 x (.tail _ hx)
        have ha := h0 a (.head _)
        have := Int.ediv_le_self (2 + (i : Int)) ha
        rw [List.map_cons, List.sum_cons, List.sum_cons, List.length_cons]; lia
    have : (2 + (i : Int)) * (v.sizes.map fun s => s / (2 + (i : Int)) + 1).sum < (2 + (i : Int)) * ((v.n + v.many + 1 : Nat) : Int) := Int.mul_lt_mul_of_pos_left (by lia) (by lia)
    lia
  · have : more = 0 := by lia
    subst this
    rw [if_pos (by unfold LV.typed; lia)]; rfl
end
end
section
noncomputable def C0 (w : World) (h : Heap) : Cx where
  prog := PySem.Challenge.rw_xb0023_01.prog
  w := w
  hb := hideAll h [173]
  ex := fun a => a = 173
  exo := fun a o => a = 173 ∧ (o = tabObj #[] ∨ ∃ c' : Addr, o = tabObj #[rawInt 137, rawInt 40, .ref c'])
  K := heapK w.params
  glob := globs
noncomputable def chkG (K : Frag) (p : Str × Value) : Bool := (nsIn K mainGlobals p.1 == some (some p.2)) || (nsIn K mainGlobals p.1 == some none && bootBuiltins p.1 == some p.2 && p.1 != ("__name__" : Str))
theorem globs_chk (w : World) : names.all (chkG (heapK w.params)) = true := by kernel_rfl
theorem mem_lookup {α β : Type} [BEq α] [LawfulBEq α] : ∀ {l : List (α × β)} {x : α} {v : β}, l.lookup x = some v → (x, v) ∈ l
  | [], x, v, e => by cases e
  | (y, u) :: l, x, v, e => by
    rw [List.lookup_cons] at e
    split at e
    · rename_i q; cases e; rw [eq_of_beq q]; exact .head _
    · exact .tail _ (mem_lookup e)
section
variable {w : World} {h : Heap} {mg mb : Str → Option Value}
theorem hb_get {a : Addr} {o : Obj} (e : h.get? a = some o) (ha : a ≠ 173) : (hideAll h [173]).get? a = some o := hideAll_get _ e (by simpa using ha)
theorem hb_ns (KT : h.get? 173 = some (tabObj #[])) {N : Addr} {m : Str → Option Value} (hn : h.Ns N m) : (hideAll h [173]).Ns N m := by
  obtain ⟨o, es, ep, e1, e2, e3⟩ := hn
  refine ⟨o, es, ep, hb_get e1 fun q => ?_, e2, e3⟩
  subst q; rw [KT] at e1; cases e1; cases e2
theorem kin0 (KX : (heapK w.params).In h) : (heapK w.params).In (hideAll h [173]) := fun a o e => hb_get (KX a o e) fun q => by
  subst q
  have : (heapK w.params).lookup 173 = none := by kernel_rfl
  rw [this] at e; cases e
theorem good0 (KX : (heapK w.params).In h) (KT : h.get? 173 = some (tabObj #[])) (Tg : h.Ns mainGlobals mg) (Tb : h.Ns builtinsNs mb) (Tbi : ∀ x : Str, x ≠ "__name__" → mb x = bootBuiltins x) (Tn : h.NoLimit) : Good (C0 w h) where
  ok := {
    kin := kin0 KX
    names := ⟨mg, mb, hb_ns KT Tg, hb_ns KT Tb, fun x v e => by
      have hc := List.all_eq_true.mp (globs_chk w) _ (mem_lookup e)
      unfold chkG at hc
      simp only [Bool.or_eq_true, Bool.and_eq_true, beq_iff_eq, bne_iff_ne] at hc
      rcases hc with q | ⟨⟨q1, q2⟩, q3⟩
      · exact .inl (mg_of KX Tg q)
      · exact .inr ⟨mg_none_of KX Tg q1, (Tbi x q3).trans q2⟩⟩
    nolimit := by
      obtain ⟨mc, hn, e⟩ := Tn
      exact ⟨mc, hb_ns KT hn, e⟩ }
  K := rfl
  glob := rfl
theorem lam0 (KX : (heapK w.params).In h) (KT : h.get? 173 = some (tabObj #[])) (Tg : h.Ns mainGlobals mg) (Tbm : ∃ bm ob, mg "__builtins__" = some (.ref bm) ∧ bm ≠ builtinsNs ∧ h.get? bm = some ob ∧ ob.cls = .type "module" ∧ ob.dict = some builtinsNs ∧ ob.data = .plain) : Lam (C0 w h) where
  bt := by
    obtain ⟨bm, ob, b1, b2, b3, b4, b5, b6⟩ := Tbm
    have nG : bm ≠ mainGlobals := fun q => by
      obtain ⟨o, es, ep, e1, e2, _⟩ := Tg
      rw [← q, b3] at e1; cases e1; rw [b6] at e2; cases e2
    have n173 : bm ≠ 173 := fun q => by rw [q, KT] at b3; cases b3; cases b6
    exact ⟨mg, hb_ns KT Tg, bm, ob, b1, b2, nG, n173, hb_get b3 n173, b4, b5, b6⟩
  gP := by decide
  hd := codeHd_of_K (kin0 KX) (by kernel_rfl)
  ex := rfl
  exo := fun o => ⟨fun x => x.2, fun x => ⟨rfl, x⟩⟩
noncomputable def F0 (h : Heap) : Fz := fun a => (hideAll h [173]).get? a
theorem wd0 (KT : h.get? 173 = some (tabObj #[])) : Wd (C0 w h) (F0 h) (exM (C0 w h)) h where
  sub := fun a o e => of_hideAll _ e
  dis := fun a o e => by
    unfold exM
    refine if_neg fun q => ?_
    have q : a = 173 := q
    subst q
    have : (hideAll h [173]).get? 173 = none := hideAll_none _ (by simp)
    rw [show F0 h 173 = _ from this] at e; cases e
  mex := fun a l e => by
    unfold exM at e
    split at e
    · rename_i q
      have q : a = 173 := q
      subst q; exact ⟨_, KT⟩
    · cases e
  base := fun a o e => e
  tab := fun a q => by
    have q : a = 173 := q
    subst q
    refine ⟨_, KT, ⟨rfl, .inl rfl⟩, fun l k c e => ?_⟩
    injection e with e
    have := congrArg Array.size e
    cases this
  mtab := fun a q => by unfold exM; rw [if_pos q]
theorem aok0 : AOk callerA 5 := ⟨rfl, by decide +kernel, by decide +kernel⟩
theorem well_ints {P : Params} {F : Fz} : ∀ {l : List Int} {vs : List Value}, WellAll P h vs (ofPys (l.map PyData.int)) → IsAll F vs (l.map PV.int)
  | [], vs, x => by cases x; exact .nil
  | i :: l, vs, x => by
    have x : WellAll P h vs (ofPy (.int i) :: ofPys (l.map PyData.int)) := x
    cases x with
    | cons a b =>
      have a : Well P h _ (.int i) := a
      cases a
      exact .cons (.int _ _) (well_ints b)
theorem run_C {s₁ : Shared} (KX : (heapK w.params).In s₁.heap) (KT : s₁.heap.get? 173 = some (tabObj #[])) (Tg : s₁.heap.Ns mainGlobals mg) (Tb : s₁.heap.Ns builtinsNs mb) (Tbi : ∀ x : Str, x ≠ "__name__" → mb x = bootBuiltins x) (Tn : s₁.heap.NoLimit)
    (Tbm : ∃ bm ob, mg "__builtins__" = some (.ref bm) ∧ bm ≠ builtinsNs ∧ s₁.heap.get? bm = some ob ∧ ob.cls = .type "module" ∧ ob.dict = some builtinsNs ∧ ob.data = .plain) {fa : Addr} (hfa : mg "law" = some (.ref fa)) {x : Value} {l : List Int} (hx : Well w.params s₁.heap x (ofPy (.list (l.map .int))))
    (LA : ∃ v : LV, v.script = l ∧ LAll v) {Q E : Value → Shared → Prop} (kk : ∀ h' tk, (∀ b o, b ≠ 173 → s₁.heap.get? b = some o → h'.get? b = some o) → (∃ ps, h'.get? 173 = some (tabObj ps)) → Q (.bool true) { s₁ with heap := h', toks := tk }) :
    wpC (model PySem.Challenge.rw_xb0023_01.prog w) callerA (call (.ref fa) [x]) Q E s₁ := by
  obtain ⟨v, rfl, L⟩ := LA
  have hf : mg "law" = some (.ref 193) := mg_of KX Tg (by kernel_rfl)
  rw [hf] at hfa; cases hfa
  have G := good0 (w := w) KX KT Tg Tb Tbi Tn
  have X := lam0 (w := w) KX KT Tg Tbm
  have hx : Well w.params s₁.heap x (.list (ofPys (v.script.map PyData.int))) := hx
  cases hx with
  | list e xs =>
    rename_i a vs
    have na : a ≠ 173 := fun q => by subst q; rw [KT] at e; cases e
    have iv : Is (F0 s₁.heap) (.ref a) (.list (v.script.map .int)) := .list (hb_get e na) ⟨rfl, ⟨0, rfl⟩, rfl, rfl⟩ (well_ints xs)
    refine law_ok G X L callerA s₁ (F0 s₁.heap) _ _ (wd0 KT) aok0 ⟨[], rfl, fun e he => by cases he⟩ (.one iv) Q E fun v' h' tk F' g i => ?_
    cases i
    refine kk h' tk (fun b o hb eb => g.ext b o (fun q => hb q) eb) ?_
    obtain ⟨o, ho, ⟨_, q⟩, _⟩ := g.tab 173 rfl
    rcases q with q | ⟨c', q⟩
    · exact ⟨_, q ▸ ho⟩
    · exact ⟨_, q ▸ ho⟩
end
end
section
theorem old0 {h h' : Heap} {w : World} (KX : (heapK w.params).In h) (KT : h.get? 173 = some (tabObj #[])) (hk : ∀ b o, b ≠ 173 → h.get? b = some o → h'.get? b = some o) (ht : ∃ ps, h'.get? 173 = some (tabObj ps)) : OldK h h' := by
  obtain ⟨ps, ht⟩ := ht
  have hc : CodeHd h 177 173 := codeHd_of_K KX (by kernel_rfl)
  refine ⟨fun b o e => ?_, fun b o e => ?_⟩
  · by_cases hb : b = 173
    · subst hb
      rw [KT] at e; cases e
      exact .inr (.inl ⟨(hc.tab KT).isCodeTable, rfl, #[], ps, rfl, by rw [Array.empty_append]; exact ht⟩)
    · exact .inl (hk b o hb e)
  · by_cases hb : b = 173
    · subst hb; exact ⟨_, ht⟩
    · exact ⟨_, hk b o hb e⟩
theorem in_of_sub {K K' : Frag} {h : Heap} (X : K'.In h) (e : K.map (fun x => K'.lookup x.1) = K.map fun x => some x.2) : K.In h := fun a o q => by
  have m := mem_lookup q
  have e2 := List.map_inj_left.mp e _ m
  exact X a o e2
end
section
theorem draws_len (l : List Int) : (drawsOf l).length = 8 := by
  unfold drawsOf
  suffices h : ∀ (z : List (Int × Nat)) (ds : List Int), ds.length = 8 → (z.foldl drawF ds).length = 8 from h _ _ rfl
  intro z
  induction z with
  | nil => intro ds h; exact h
  | cons p z ih => intro ds h; exact ih _ (by rw [drawF_len]; exact h)
theorem draws_ix {l : List Int} {k : Nat} (hk : k < 8) : idx (intsPV (drawsOf l)) (k : Int) = some (.int ((drawsOf l).getD k 0)) := by
  have h := draws_len l
  refine idx_pos (by unfold intsPV; rw [List.length_map]; lia) (by lia) (by lia) ?_
  unfold intsPV
  rw [List.getElem?_map, Int.toNat_natCast, List.getD_eq_getElem?_getD, List.getElem?_eq_getElem (by lia)]
  rfl
noncomputable def markC (k : Int) : Nat := [124, 33, 45, 47, 126, 120, 59, 43].getD k.toNat 0
theorem mark_ix {b : Int} : idx ("|!-/~x;+" : Str).cps.toList (b % 8) = some (markC (b % 8)) ∧ Mk (markC (b % 8)) := by
  have e : ("|!-/~x;+" : Str).cps.toList = [124, 33, 45, 47, 126, 120, 59, 43] := by decide +kernel
  rw [e]
  have h1 := Int.emod_nonneg b (by decide : (8 : Int) ≠ 0)
  have h2 := Int.emod_lt_of_pos b (by decide : (0 : Int) < 8)
  generalize b % 8 = k at h1 h2
  have hk : k = 0 ∨ k = 1 ∨ k = 2 ∨ k = 3 ∨ k = 4 ∨ k = 5 ∨ k = 6 ∨ k = 7 := by lia
  rcases hk with rfl | rfl | rfl | rfl | rfl | rfl | rfl | rfl <;> exact ⟨by decide +kernel, by constructor <;> decide⟩
noncomputable def rowF (l : List Int) : List UInt8 := bytesOf (((drawsOf l).take (5 + (drawsOf l).getD 7 0 % 3).toNat).map fun d => 65 + d % 4)
noncomputable def theV (l : List Int) : LV where
  script := l
  draws := drawsOf l
  d4 := (drawsOf l).getD 4 0
  d5 := (drawsOf l).getD 5 0
  d6 := (drawsOf l).getD 6 0
  d7 := (drawsOf l).getD 7 0
  n := (5 + (drawsOf l).getD 7 0 % 3).toNat
  base := (drawsOf l).getD 7 0 / 3 % 60000
  m := markC ((drawsOf l).getD 7 0 / 3 % 60000 % 8)
  rest := (drawsOf l).getD 6 0 / 4 % 4
  row := rowF l
  rounds := roundsOf (rowF l) (orderOf (rowF l))
  mir := roundsOf (mrow (rowF l)) (orderOf (mrow (rowF l)))
  aro := roundsOf (rowF l).reverse (orderOf (rowF l).reverse)
theorem rowF_ok (l : List Int) : (rowF l).length = (5 + (drawsOf l).getD 7 0 % 3).toNat ∧ few (rowF l).length ∧ Ab (rowF l) := by
  have e : (rowF l).length = (5 + (drawsOf l).getD 7 0 % 3).toNat := by
    unfold rowF bytesOf
    rw [List.length_map, List.length_map, List.length_take, draws_len]; lia
  refine ⟨e, by rw [e]; unfold few; lia, ⟨fun c hc => ?_⟩⟩
  unfold rowF bytesOf at hc
  rw [List.map_map] at hc
  obtain ⟨d, _, rfl⟩ := List.mem_map.mp hc
  show 65 ≤ ((65 + d % 4).toNat.toUInt8).toNat ∧ ((65 + d % 4).toNat.toUInt8).toNat ≤ 68
  rw [show ((65 + d % 4).toNat.toUInt8).toNat = (65 + d % 4).toNat % 256 from UInt8.toNat_ofNat ..]
  lia
theorem the_lok (l : List Int) (hl : l.length ≤ 63) : LOk (theV l) ∧ (theV l).sizes.sum = ((theV l).n : Int) := by
  obtain ⟨h1, h2, h3⟩ := rowF_ok l
  obtain ⟨m1, m2⟩ := mark_ix (b := (drawsOf l).getD 7 0 / 3 % 60000)
  obtain ⟨r1, r2, r3, r4⟩ := rounds_facts h2 h3
  obtain ⟨b1, b2⟩ := back_row h2 h3
  refine ⟨{ dr := rfl, sl := hl, dl := draws_len l, ix4 := draws_ix (by decide), ix5 := draws_ix (by decide), ix6 := draws_ix (by decide), ix7 := draws_ix (by decide), hn := ?_, few := ?_, hb := rfl, hm := m1, mrk := m2, hr := rfl, rl := h1, hrow := rfl, word := ?_, ab := h3.ab, rd := rfl, back := b1, rok := r3, r1 := r2, r7 := r1.r7, tl := ?_ }, ?_⟩
  · show _ = (((5 + (drawsOf l).getD 7 0 % 3).toNat : Nat) : Int)
    show 5 + (drawsOf l).getD 7 0 % 3 = _
    lia
  · show Mine.few (5 + (drawsOf l).getD 7 0 % 3).toNat
    rw [← h1]; exact h2
  · have := word_row h3 (by rcases h2 with q | q | q <;> lia) (s := 1 - 2 * ((drawsOf l).getD 5 0 / 4 % 2)) (by lia)
    rw [h1] at this
    exact this
  · show Mine.few (turnedOf (roundsOf (rowF l) (orderOf (rowF l)))).length
    rw [b2]; exact h2
  · show (szs (roundsOf (rowF l) (orderOf (rowF l)))).sum = (((5 + (drawsOf l).getD 7 0 % 3).toNat : Nat) : Int)
    rw [r4, h1]
theorem plain (l : List Int) (hl : l.length ≤ 63) : ∃ v : LV, v.script = l ∧ LAll v := by
  obtain ⟨o, hs⟩ := the_lok l hl
  obtain ⟨h1, h2, h3⟩ := rowF_ok l
  have h2m : few (mrow (rowF l)).length := by rw [mrow_len]; exact h2
  have h2a : few (rowF l).reverse.length := by rw [List.length_reverse]; exact h2
  have h3a : Ab (rowF l).reverse := ⟨fun c hc => h3.ab c (List.mem_reverse.mp hc)⟩
  have mm := (rounds_facts h2m (mrow_ab h2 h3)).1
  have am := (rounds_facts h2a h3a).1
  have mp := mir_sizes h2 h3
  have hm0 : ∀ x ∈ szs (theV l).mir, 0 ≤ x := fun x hx => by have := mm.sz.2 x hx; lia
  have ha0 : ∀ x ∈ szs (theV l).aro, 0 ≤ x := fun x hx => by have := am.sz.2 x hx; lia
  have hr := o.r0
  refine ⟨theV l, rfl, { o := o, lines := lines_want o hs, ne := lines_ne o hs, f1 := wit_far1 o hs, f2 := wit_far2 o hs, par := ?_, mm := mm, mr := rfl, m1 := ?_, m2 := ?_, wd := less_wider o hs, b1 := bare1 o hs, b2 := bare2 o hs, b3 := bare3 o hs, g := fun more hmo => many_tabs o hs more hmo, am := am, ar := rfl, a1 := ?_ }⟩
  · rw [twos_sum o hs]
    have := falls_even h2 h3
    have e1 : hits (theV l).sizes 2 = ((evens (szs (roundsOf (rowF l) (orderOf (rowF l)))) : Nat) : Int) := rfl
    have e2 : fallN (theV l).row (theV l).n = fallN (rowF l) (rowF l).length := by rw [h1]; rfl
    rw [e1, e2]; lia
  · exact (equal_lead (sz0 o) hm0 hr.1 hr.1).mpr ⟨mp.symm, rfl⟩
  · cases q : equalOf (theV l).typed (leadW (szs (theV l).mir) ((theV l).rest + 1)) with
    | false => rfl
    | true => have := ((equal_lead (sz0 o) hm0 hr.1 (by lia)).mp q).2; lia
  · rw [Bool.eq_iff_iff, decide_eq_true_eq, sortI_iff]
    refine (equal_lead (sz0 o) ha0 hr.1 hr.1).trans ⟨fun q => q.1.symm, fun q => ⟨q.symm, rfl⟩⟩
end
section
noncomputable def hd.tw10727248033764811480 := ()
noncomputable def hd.tw12009662285891007807 := ()
noncomputable def hd.tw1085924692700956838 := ()
noncomputable def hd.tw26425463804135960 := ()
noncomputable def hd.tw8902478645137244967 := ()
noncomputable def hd.tw15186342906877850337 := ()
noncomputable def hd.tw17502677235029458409 := ()
noncomputable def hd.tw14705683404202351889 := ()
noncomputable def hd.tw11054480109507316185 := ()
noncomputable def hd.tw9251471199085437103 := ()
noncomputable def hd.tw10737712728331077403 := ()
noncomputable def hd.tw13518370688599389936 := ()
noncomputable def hd.tw18343703819029505601 := ()
noncomputable def hd.tw5961118342813265553 := ()
noncomputable def hd.tw18293732401869909652 := ()
noncomputable def hd.tw15411387601460861337 := ()
noncomputable def hd.tw14352634086879598012 := ()
noncomputable def hd.tw12901994302517312135 := ()
noncomputable def hd.tw7943647380988272828 := ()
noncomputable def hd.tw10246146449241189800 := ()
noncomputable def hd.tw22551697357593593 := ()
noncomputable def hd.tw7752767780024739350 := ()
noncomputable def hd.tw15615537253650120727 := ()
noncomputable def hd.tw18219297243305740317 := ()
noncomputable def hd.tw9641152695372364146 := ()
noncomputable def hd.tw1869635642477389258 := ()
noncomputable def hd.tw12070051907170230399 := ()
noncomputable def hd.tw7540655947842036084 := ()
noncomputable def hd.tw17574625026820762457 := ()
noncomputable def hd.tw1129884963351977449 := ()
noncomputable def hd.tw17681399029576232318 := ()
noncomputable def hd.tw17447410573909459338 := ()
noncomputable def hd.tw8457440626546761165 := ()
noncomputable def hd.tw6820862383352777685 := ()
noncomputable def hd.tw14560493823538711346 := ()
noncomputable def hd.tw4402725079659364252 := ()
noncomputable def hd.tw1800889605409440832 := ()
noncomputable def hd.tw1222794163293265305 := ()
noncomputable def hd.tw18103342009636024947 := ()
noncomputable def hd.tw12487502673411948298 := ()
noncomputable def hd.tw11465210709893060100 := ()
noncomputable def hd.tw3530705653197291679 := ()
noncomputable def hd.tw16828841361933241965 := ()
noncomputable def hd.tw5781342201191254626 := ()
noncomputable def hd.tw3451239065008710300 := ()
noncomputable def hd.tw17714235663813219645 := ()
noncomputable def hd.tw15089522573102190283 := ()
noncomputable def hd.tw10111801491309104144 := ()
noncomputable def hd.tw1011335219593555734 := ()
noncomputable def hd.tw10170382586518783626 := ()
noncomputable def hd.tw10403243965636340961 := ()
noncomputable def hd.tw10458740792067480800 := ()
noncomputable def hd.tw10603584201595350602 := ()
noncomputable def hd.tw10784824025267889561 := ()
noncomputable def hd.tw10949625832625181284 := ()
noncomputable def hd.tw11032806212648032379 := ()
noncomputable def hd.tw11117797201346649052 := ()
noncomputable def hd.tw11136197038861592535 := ()
noncomputable def hd.tw11210553801493137410 := ()
noncomputable def hd.tw11232374478483605306 := ()
noncomputable def hd.tw11319097763535126812 := ()
noncomputable def hd.tw11631947586910100387 := ()
noncomputable def hd.tw11652457597714270106 := ()
noncomputable def hd.tw11660266114150955751 := ()
noncomputable def hd.tw11917015161858427179 := ()
noncomputable def hd.tw11953376511379268794 := ()
noncomputable def hd.tw12023040214023829324 := ()
noncomputable def hd.tw12173100003817136821 := ()
noncomputable def hd.tw12271959270614036898 := ()
noncomputable def hd.tw12588582704262371052 := ()
noncomputable def hd.tw12936449754285732098 := ()
noncomputable def hd.tw13225837485096350037 := ()
noncomputable def hd.tw13267510147771200024 := ()
noncomputable def hd.tw13330244855972007585 := ()
noncomputable def hd.tw13368278939475635651 := ()
noncomputable def hd.tw13483081372092288885 := ()
noncomputable def hd.tw13770079208771991547 := ()
noncomputable def hd.tw13790719812936386609 := ()
noncomputable def hd.tw13828106393651249627 := ()
noncomputable def hd.tw14103535550066685397 := ()
noncomputable def hd.tw14620637471214046174 := ()
noncomputable def hd.tw1506431575118746342 := ()
noncomputable def hd.tw15103106377680225435 := ()
noncomputable def hd.tw15529170255622000948 := ()
noncomputable def hd.tw15595854959937240912 := ()
noncomputable def hd.tw15759970867653108152 := ()
noncomputable def hd.tw15790720579355451973 := ()
noncomputable def hd.tw1580110805410547442 := ()
noncomputable def hd.tw15837987909243819085 := ()
noncomputable def hd.tw1600037746751723098 := ()
noncomputable def hd.tw16007149819294483003 := ()
noncomputable def hd.tw16037735763661986305 := ()
noncomputable def hd.tw16056359734778111409 := ()
noncomputable def hd.tw16091413853298234908 := ()
noncomputable def hd.tw16240987189780228909 := ()
noncomputable def hd.tw16259696140248634718 := ()
noncomputable def hd.tw16345102440705955213 := ()
noncomputable def hd.tw16412773359747925120 := ()
noncomputable def hd.tw16432713993328977331 := ()
noncomputable def hd.tw16477043939570097188 := ()
noncomputable def hd.tw16634568088961857937 := ()
noncomputable def hd.tw16868993833207775613 := ()
noncomputable def hd.tw16945582573551092051 := ()
noncomputable def hd.tw17062030032774818151 := ()
noncomputable def hd.tw17087091549796120035 := ()
noncomputable def hd.tw17311223219408574766 := ()
noncomputable def hd.tw17542962492245011380 := ()
noncomputable def hd.tw1760603350576429475 := ()
noncomputable def hd.tw17650839729002327288 := ()
noncomputable def hd.tw17672654358674132775 := ()
noncomputable def hd.tw17893044597097874663 := ()
noncomputable def hd.tw17950676927832955104 := ()
noncomputable def hd.tw18322514126500204803 := ()
noncomputable def hd.tw189712035060473897 := ()
noncomputable def hd.tw1997569388931296116 := ()
noncomputable def hd.tw2068664650715991707 := ()
noncomputable def hd.tw2114630138375439770 := ()
noncomputable def hd.tw2167537188350426706 := ()
noncomputable def hd.tw2195365466389143174 := ()
noncomputable def hd.tw2274498078352570744 := ()
noncomputable def hd.tw2386827423013361158 := ()
noncomputable def hd.tw2708950531961675432 := ()
noncomputable def hd.tw2887051446865420828 := ()
noncomputable def hd.tw2930668341846507884 := ()
noncomputable def hd.tw3219085151875037572 := ()
noncomputable def hd.tw3229955645248102723 := ()
noncomputable def hd.tw3259873300814134281 := ()
noncomputable def hd.tw3350844169311001129 := ()
noncomputable def hd.tw3493717111155160527 := ()
noncomputable def hd.tw3571134770919094901 := ()
noncomputable def hd.tw3759623122121258479 := ()
noncomputable def hd.tw3789350110615891812 := ()
noncomputable def hd.tw4014540891139286612 := ()
noncomputable def hd.tw4086058157674990017 := ()
noncomputable def hd.tw4172343393113369950 := ()
noncomputable def hd.tw4272726840584523970 := ()
noncomputable def hd.tw4343815846532229135 := ()
noncomputable def hd.tw4360684699965382250 := ()
noncomputable def hd.tw4478166936697009375 := ()
noncomputable def hd.tw4494801613693538912 := ()
noncomputable def hd.tw464777395874653626 := ()
noncomputable def hd.tw4702841417184801058 := ()
noncomputable def hd.tw4851647983119433812 := ()
noncomputable def hd.tw5130813555471234732 := ()
noncomputable def hd.tw5148922909946612681 := ()
noncomputable def hd.tw5190246844813560578 := ()
noncomputable def hd.tw5278057926702712004 := ()
noncomputable def hd.tw5373601922739893978 := ()
noncomputable def hd.tw5511420028821071320 := ()
noncomputable def hd.tw5657824000916062451 := ()
noncomputable def hd.tw5978321128707920903 := ()
noncomputable def hd.tw5987830557187376847 := ()
noncomputable def hd.tw6060742912462422084 := ()
noncomputable def hd.tw6082411064634330575 := ()
noncomputable def hd.tw6164396464334811476 := ()
noncomputable def hd.tw6276725880618359904 := ()
noncomputable def hd.tw6291416237084387574 := ()
noncomputable def hd.tw6293948785866598258 := ()
noncomputable def hd.tw6305734824756694309 := ()
noncomputable def hd.tw6394381022753523788 := ()
noncomputable def hd.tw6407587892757256292 := ()
noncomputable def hd.tw6411954120941647267 := ()
noncomputable def hd.tw6442067068224118133 := ()
noncomputable def hd.tw6767318904944593275 := ()
noncomputable def hd.tw6785817131721698500 := ()
noncomputable def hd.tw728884934406724761 := ()
noncomputable def hd.tw7289634563603522867 := ()
noncomputable def hd.tw7754304195085646258 := ()
noncomputable def hd.tw7914949630228597729 := ()
noncomputable def hd.tw8151033076949233792 := ()
noncomputable def hd.tw8343274005884668182 := ()
noncomputable def hd.tw8458067239894703972 := ()
noncomputable def hd.tw8716120427605611371 := ()
noncomputable def hd.tw8735263284916673568 := ()
noncomputable def hd.tw8959176491354863721 := ()
noncomputable def hd.tw9170477692918782315 := ()
noncomputable def hd.tw9277588360372424766 := ()
noncomputable def hd.tw9386895884608548742 := ()
noncomputable def hd.tw9421340871869096474 := ()
noncomputable def hd.tw9566141503761928105 := ()
noncomputable def hd.tw9673543361469618366 := ()
noncomputable def hd.tw9719896912496429819 := ()
noncomputable def hd.tw978945382295711627 := ()
noncomputable def hd.tw991583007596301734 := ()
noncomputable def hd.tw9960721518486171458 := ()
set_option Elab.async true
theorem hd : PySem.Challenge.rw_xb0023_01.Holds := by
  w_on; o_law; k_head; (case hw => w_witness2)
  refine fun w s₀ s₁ mg mb G Y fa o pm cd doc dV kV ho hd' hcd hD hmg hg args vals as hpre hlay hrd hwl hlo => ?_
  have KX : (heapK w.params).In s₁.heap := in_of_sub (km_in_of Y) (by kernel_rfl)
  have KT := km_tabs_of Y 173 (.head _)
  have T := G.T
  clear hd' hD hcd Y ho
  wrow_args hpre hlay hrd hwl hlo
  all_goals
    rename_i hlen
    refine run_C KX KT T.g T.b T.builtins T.nolimit T.bmain hmg (by assumption) (plain _ (by lia)) fun h' tk hk ht => ?_
    refine ⟨.inl ⟨.bool true, .bool true, [], rfl, fun cls => rfl, .bool true, ?_, fun _ => ⟨List.nodup_nil, fun a ha => by cases ha⟩⟩, old0 KX KT hk ht, rfl, ?_⟩
    · wrow_post
    · rw [hg]; intro g hg'; simp at hg'
end
end Mine
theorem PySem.Challenge.cw_xb0023_01_holds : PySem.Challenge.rw_xb0023_01.Holds := by
  exact Mine.hd
